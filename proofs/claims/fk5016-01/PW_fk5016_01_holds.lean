import PyProof.Rows.All
import Wide.All
import OpenK.AllK
import Wide.FinOn
import OpenK.XGo
import PySem.Challenge.RW_fk5016_01
open PySem PySem.W PyProof.Rows PySem.Calls
set_option Elab.async false
set_option maxRecDepth 100000
namespace Mine
set_option maxHeartbeats 8000000 in
open_top hd for PySem.Challenge.rw_fk5016_01
-- F1

abbrev NsL := List (Addr × List (Str × Value))
abbrev ObL := List (Addr × Obj)

/-- a str-keyed dict of at most so many entries as l has, that answers as l -/
def NsB (h : Heap) (a : Addr) (l : List (Str × Value)) : Prop :=
  ∃ o es ep, h.get? a = some o ∧ o.data = .dict es ep ∧ StrKeys es ∧ (∀ name, nsFind es name = l.lookup name) ∧ es.size ≤ l.length
theorem NsB.ns {h : Heap} {a : Addr} {l : List (Str × Value)} (x : NsB h a l) : h.Ns a (fun y => l.lookup y) := let ⟨o, es, ep, a, b, c, d, _⟩ := x; ⟨o, es, ep, a, b, c, d⟩
theorem NsB.keeps {h h' : Heap} {a : Addr} {l : List (Str × Value)} (x : NsB h a l) (k : ∀ b o, h.get? b = some o → h'.get? b = some o) : NsB h' a l :=
  let ⟨o, es, ep, a, r⟩ := x; ⟨o, es, ep, k _ _ a, r⟩
theorem NsB.sameBut {h h' : Heap} {a b : Addr} {l : List (Str × Value)} (x : NsB h a l) (hs : Heap.SameBut b h h') (ne : a ≠ b) : NsB h' a l :=
  let ⟨o, es, ep, a, r⟩ := x; ⟨o, es, ep, (hs.2 _ ne).trans a, r⟩

/-- the ledger: B is what is frozen, F the frames' names, S the objects' dicts, L the objects that may turn -/
structure Own (B : Heap) (F S : NsL) (L : ObL) (h : Heap) : Prop where
  keep : ∀ b o, B.get? b = some o → h.get? b = some o
  fr : ∀ p ∈ F, h.Ns p.1 (fun x => p.2.lookup x) ∧ B.get? p.1 = none
  ns : ∀ p ∈ S, NsB h p.1 p.2 ∧ B.get? p.1 = none
  ob : ∀ p ∈ L, h.get? p.1 = some p.2 ∧ B.get? p.1 = none
  nd : (F.map (·.1) ++ (S.map (·.1) ++ L.map (·.1))).Nodup
  lo : ∀ x ∈ F.map (·.1) ++ (S.map (·.1) ++ L.map (·.1)), 3 < x
  sz : ∃ b o, 3 < b ∧ B.get? b = some o

/-- B grows -/
def Le (B B' : Heap) : Prop := ∀ b o, B.get? b = some o → B'.get? b = some o
theorem Le.refl (B : Heap) : Le B B := fun _ _ e => e
theorem Le.trans {B B' B'' : Heap} (x : Le B B') (y : Le B' B'') : Le B B'' := fun b o e => y b o (x b o e)

theorem nodup_app {α : Type} {l m : List α} : (l ++ m).Nodup ↔ l.Nodup ∧ m.Nodup ∧ ∀ x ∈ l, x ∉ m := by
  rw [List.nodup_append]
  constructor
  · rintro ⟨a, b, c⟩; exact ⟨a, b, fun x hx hm => c x hx x hm rfl⟩
  · rintro ⟨a, b, c⟩; exact ⟨a, b, fun x hx y hy e => c x hx (e ▸ hy)⟩

section
variable {B : Heap} {F F' S S' : NsL} {L L' : ObL} {h h' : Heap} {a : Addr} {o o' : Obj} {l l' : List (Str × Value)}
def keysOf (F S : NsL) (L : ObL) : List Addr := F.map (·.1) ++ (S.map (·.1) ++ L.map (·.1))
theorem mem_keys {x : Addr} : x ∈ keysOf F S L ↔ (∃ p ∈ F, p.1 = x) ∨ (∃ p ∈ S, p.1 = x) ∨ ∃ p ∈ L, p.1 = x := by
  simp only [keysOf, List.mem_append, List.mem_map]
theorem Own.lt (O : Own B F S L h) : ∀ x ∈ keysOf F S L, x < h.objs.size := by
  intro x hx
  rcases mem_keys.mp hx with ⟨p, hp, rfl⟩ | ⟨p, hp, rfl⟩ | ⟨p, hp, rfl⟩
  · exact (O.fr p hp).1.lt
  · exact (O.ns p hp).1.ns.lt
  · exact Heap.lt_size (O.ob p hp).1
theorem Own.none_in (O : Own B F S L h) : ∀ x ∈ keysOf F S L, B.get? x = none := by
  intro x hx
  rcases mem_keys.mp hx with ⟨p, hp, rfl⟩ | ⟨p, hp, rfl⟩ | ⟨p, hp, rfl⟩
  · exact (O.fr p hp).2
  · exact (O.ns p hp).2
  · exact (O.ob p hp).2
theorem Own.none_size (O : Own B F S L h) : B.get? h.objs.size = none := by
  cases q : B.get? h.objs.size with
  | none => rfl
  | some o => exact absurd (Heap.lt_size (O.keep _ _ q)) (Nat.lt_irrefl _)
theorem Own.keepF (O : Own B F S L h) (k : ∀ b o, h.get? b = some o → h'.get? b = some o) : Own B F S L h' :=
  ⟨fun b o e => k _ _ (O.keep b o e), fun p hp => ⟨(O.fr p hp).1.keeps k, (O.fr p hp).2⟩, fun p hp => ⟨(O.ns p hp).1.keeps k, (O.ns p hp).2⟩, fun p hp => ⟨k _ _ (O.ob p hp).1, (O.ob p hp).2⟩, O.nd, O.lo, O.sz⟩
theorem Own.size_lt (O : Own B F S L h) : 3 < h.objs.size := let ⟨_, _, a, e⟩ := O.sz; Nat.lt_trans a (Heap.lt_size (O.keep _ _ e))
theorem Own.push0 (O : Own B F S L h) (o : Obj) : Own B F S L (h.push o) := O.keepF fun _ _ e => Heap.get?_push_of_some _ e
theorem nodup_mid {α : Type} {x : α} {l m : List α} (h : (l ++ m).Nodup) (hx : x ∉ l ++ m) : (l ++ x :: m).Nodup :=
  (List.perm_middle.nodup_iff).mpr (List.nodup_cons.mpr ⟨hx, h⟩)
theorem Own.push (O : Own B F S L h) (o : Obj) (hf : o.isFreed = false := by rfl) : Own B F S ((h.objs.size, o) :: L) (h.push o) := by
  have O' := O.push0 o
  refine ⟨O'.keep, O'.fr, O'.ns, fun p hp => ?_, ?_, fun x hx => ?_, O.sz⟩
  · rcases List.mem_cons.mp hp with rfl | hp
    · exact ⟨Heap.get?_push_size _ hf, O.none_size⟩
    · exact O'.ob p hp
  · have nd : (keysOf F S L).Nodup := O.nd
    have hx : h.objs.size ∉ keysOf F S L := fun q => Nat.lt_irrefl _ (O.lt _ q)
    unfold keysOf at nd hx
    rw [← List.append_assoc] at nd hx
    rw [List.map_cons, ← List.append_assoc]
    exact nodup_mid nd hx
  · rcases mem_keys.mp hx with ⟨p, hp, rfl⟩ | ⟨p, hp, rfl⟩ | ⟨p, hp, rfl⟩
    · exact O.lo _ (mem_keys.mpr (.inl ⟨p, hp, rfl⟩))
    · exact O.lo _ (mem_keys.mpr (.inr (.inl ⟨p, hp, rfl⟩)))
    · rcases List.mem_cons.mp hp with rfl | hp
      · exact O.size_lt
      · exact O.lo _ (mem_keys.mpr (.inr (.inr ⟨p, hp, rfl⟩)))
/-- an object of the ledger turned -/
theorem Own.put (O : Own B F S ((a, o) :: L) h) (hs : Heap.SameBut a h h') (ho : h'.get? a = some o') : Own B F S ((a, o') :: L) h' := by
  have nd := O.nd
  rw [List.map_cons, nodup_app, nodup_app, List.nodup_cons] at nd
  obtain ⟨_, ⟨_, ⟨n1, _⟩, n2⟩, n3⟩ := nd
  have e0 := (O.ob _ (.head _)).2
  refine ⟨fun b x e => ?_, fun p hp => ⟨(O.fr p hp).1.sameBut hs ?_, (O.fr p hp).2⟩, fun p hp => ⟨(O.ns p hp).1.sameBut hs ?_, (O.ns p hp).2⟩, fun p hp => ?_, O.nd, O.lo, O.sz⟩
  · rw [hs.2 b (fun q => by rw [q] at e; rw [e0] at e; cases e)]; exact O.keep b x e
  · exact fun q => n3 p.1 (List.mem_map.mpr ⟨p, hp, rfl⟩) (List.mem_append_right _ (q ▸ .head _))
  · exact fun q => n2 p.1 (List.mem_map.mpr ⟨p, hp, rfl⟩) (q ▸ .head _)
  · rcases List.mem_cons.mp hp with rfl | hp
    · exact ⟨ho, e0⟩
    · have ne : p.1 ≠ a := fun q => n1 (List.mem_map.mpr ⟨p, hp, q⟩)
      exact ⟨(hs.2 _ ne).trans (O.ob p (.tail _ hp)).1, (O.ob p (.tail _ hp)).2⟩
theorem Own.update (O : Own B F S ((a, o) :: L) h) {f : Obj → Obj} (hf : (f o).isFreed = false) : Own B F S ((a, f o) :: L) (h.update a f) :=
  O.put (Heap.SameBut.update ..) (by have := (O.ob _ (.head _)).1; first | exact Heap.get?_update_self f this hf | exact Heap.get?_update_self _ this hf)
/-- an object's dict of names turned -/
theorem Own.putS (O : Own B F ((a, l) :: S) L h) (hs : Heap.SameBut a h h') (hn : NsB h' a l') : Own B F ((a, l') :: S) L h' := by
  have nd := O.nd
  rw [List.map_cons, nodup_app, List.cons_append, List.nodup_cons] at nd
  obtain ⟨_, ⟨n1, _⟩, n3⟩ := nd
  have e0 := (O.ns _ (.head _)).2
  refine ⟨fun b x e => ?_, fun p hp => ⟨(O.fr p hp).1.sameBut hs ?_, (O.fr p hp).2⟩, fun p hp => ?_, fun p hp => ?_, O.nd, O.lo, O.sz⟩
  · rw [hs.2 b (fun q => by rw [q] at e; rw [e0] at e; cases e)]; exact O.keep b x e
  · exact fun q => n3 p.1 (List.mem_map.mpr ⟨p, hp, rfl⟩) (q ▸ .head _)
  · rcases List.mem_cons.mp hp with rfl | hp
    · exact ⟨hn, e0⟩
    · exact ⟨(O.ns p (.tail _ hp)).1.sameBut hs fun q => n1 (List.mem_append_left _ (List.mem_map.mpr ⟨p, hp, q⟩)), (O.ns p (.tail _ hp)).2⟩
  · exact ⟨(hs.2 _ fun q => n1 (List.mem_append_right _ (List.mem_map.mpr ⟨p, hp, q⟩))).trans (O.ob p hp).1, (O.ob p hp).2⟩
/-- a frame's names turned -/
theorem Own.putF (O : Own B ((a, l) :: F) S L h) (hs : Heap.SameBut a h h') (hn : h'.Ns a (fun x => l'.lookup x)) : Own B ((a, l') :: F) S L h' := by
  have nd := O.nd
  rw [List.map_cons, List.cons_append, List.nodup_cons] at nd
  obtain ⟨n1, _⟩ := nd
  have e0 := (O.fr _ (.head _)).2
  refine ⟨fun b x e => ?_, fun p hp => ?_, fun p hp => ⟨(O.ns p hp).1.sameBut hs ?_, (O.ns p hp).2⟩, fun p hp => ?_, O.nd, O.lo, O.sz⟩
  · rw [hs.2 b (fun q => by rw [q] at e; rw [e0] at e; cases e)]; exact O.keep b x e
  · rcases List.mem_cons.mp hp with rfl | hp
    · exact ⟨hn, e0⟩
    · exact ⟨(O.fr p (.tail _ hp)).1.sameBut hs fun q => n1 (List.mem_append_left _ (List.mem_map.mpr ⟨p, hp, q⟩)), (O.fr p (.tail _ hp)).2⟩
  · exact fun q => n1 (List.mem_append_right _ (List.mem_append_left _ (List.mem_map.mpr ⟨p, hp, q⟩)))
  · exact ⟨(hs.2 _ fun q => n1 (List.mem_append_right _ (List.mem_append_right _ (List.mem_map.mpr ⟨p, hp, q⟩)))).trans (O.ob p hp).1, (O.ob p hp).2⟩
theorem Own.permF (O : Own B F S L h) (p : F.Perm F') : Own B F' S L h :=
  ⟨O.keep, fun x hx => O.fr x (p.mem_iff.mpr hx), O.ns, O.ob, ((p.map (·.1)).append_right _).nodup_iff.mp O.nd, fun x hx => O.lo x (((p.map (·.1)).append_right _).mem_iff.mpr hx), O.sz⟩
theorem Own.permS (O : Own B F S L h) (p : S.Perm S') : Own B F S' L h :=
  ⟨O.keep, O.fr, fun x hx => O.ns x (p.mem_iff.mpr hx), O.ob, (((p.map (·.1)).append_right _).append_left _).nodup_iff.mp O.nd, fun x hx => O.lo x ((((p.map (·.1)).append_right _).append_left _).mem_iff.mpr hx), O.sz⟩
theorem Own.permL (O : Own B F S L h) (p : L.Perm L') : Own B F S L' h :=
  ⟨O.keep, O.fr, O.ns, fun x hx => O.ob x (p.mem_iff.mpr hx), (((p.map (·.1)).append_left _).append_left _).nodup_iff.mp O.nd, fun x hx => O.lo x ((((p.map (·.1)).append_left _).append_left _).mem_iff.mpr hx), O.sz⟩
theorem Own.dropF (O : Own B ((a, l) :: F) S L h) : Own B F S L h :=
  ⟨O.keep, fun p hp => O.fr p (.tail _ hp), O.ns, O.ob, (List.nodup_cons.mp O.nd).2, fun x hx => O.lo x (.tail _ hx), O.sz⟩
theorem Own.dropS (O : Own B F ((a, l) :: S) L h) : Own B F S L h := by
  refine ⟨O.keep, O.fr, fun p hp => O.ns p (.tail _ hp), O.ob, ?_, fun x hx => O.lo x ?_, O.sz⟩
  have nd := O.nd
  rw [List.map_cons, List.cons_append] at nd
  exact (List.nodup_cons.mp (List.perm_middle.nodup_iff.mp nd)).2
  rcases List.mem_append.mp hx with hx | hx
  · exact List.mem_append_left _ hx
  · exact List.mem_append_right _ (.tail _ hx)
theorem Own.dropL (O : Own B F S ((a, o) :: L) h) : Own B F S L h := by
  refine ⟨O.keep, O.fr, O.ns, fun p hp => O.ob p (.tail _ hp), ?_, fun x hx => O.lo x ?_, O.sz⟩
  have nd := O.nd
  rw [List.map_cons, ← List.append_assoc] at nd
  rw [← List.append_assoc]
  exact (List.nodup_cons.mp (List.perm_middle.nodup_iff.mp nd)).2
  rcases mem_keys.mp hx with h | h | ⟨p, hp, e⟩
  · exact mem_keys.mpr (.inl h)
  · exact mem_keys.mpr (.inr (.inl h))
  · exact mem_keys.mpr (.inr (.inr ⟨p, .tail _ hp, e⟩))
theorem Own.dropLs {G : ObL} (O : Own B F S (G ++ L) h) : Own B F S L h := by
  induction G with
  | nil => exact O
  | cons p G ih => exact ih (O.dropL (a := p.1) (o := p.2))
/-- a new dict as an object's names -/
theorem Own.toS (O : Own B F S ((a, emptyDict) :: L) h) : Own B F ((a, []) :: S) L h := by
  have O' := O.dropL
  have e := O.ob _ (.head _)
  refine ⟨O'.keep, O'.fr, fun p hp => ?_, O'.ob, ?_, fun x hx => O.lo x ?_, O.sz⟩
  · rcases List.mem_cons.mp hp with rfl | hp
    · exact ⟨⟨_, #[], 0, e.1, rfl, fun _ he => by simp at he, fun _ => rfl, Nat.le_refl _⟩, e.2⟩
    · exact O'.ns p hp
  · have nd := O.nd
    rw [List.map_cons] at nd
    rw [List.map_cons, List.cons_append]
    exact (List.Perm.append_left _ List.perm_middle).nodup_iff.mp nd
  · rw [List.map_cons, List.cons_append] at hx
    rw [List.map_cons]
    exact (List.Perm.append_left _ List.perm_middle).mem_iff.mpr hx

/-- what is not in the ledger is frozen -/
theorem Own.frozen (O : Own B F S L h) : Le B (hideAll h (keysOf F S L)) ∧ Own (hideAll h (keysOf F S L)) F S L h ∧ ∀ b o, h.get? b = some o → b ∉ keysOf F S L → (hideAll h (keysOf F S L)).get? b = some o := by
  have hide (b : Addr) (x : Obj) (e : h.get? b = some x) (hn : b ∉ keysOf F S L) := hideAll_get (keysOf F S L) e hn
  refine ⟨fun b x e => hide b x (O.keep b x e) fun q => ?_, ⟨fun b x e => of_hideAll _ e, fun p hp => ⟨(O.fr p hp).1, hideAll_none _ (mem_keys.mpr (.inl ⟨p, hp, rfl⟩))⟩,
    fun p hp => ⟨(O.ns p hp).1, hideAll_none _ (mem_keys.mpr (.inr (.inl ⟨p, hp, rfl⟩)))⟩, fun p hp => ⟨(O.ob p hp).1, hideAll_none _ (mem_keys.mpr (.inr (.inr ⟨p, hp, rfl⟩)))⟩, O.nd, O.lo, let ⟨b, o, a, e⟩ := O.sz; ⟨b, o, a, hide _ _ (O.keep _ _ e) fun q => by rw [O.none_in _ q] at e; cases e⟩⟩, hide⟩
  rw [O.none_in _ q] at e; cases e
theorem Own.freeze {G : ObL} (O : Own B F S (G ++ L) h) : ∃ B', Le B B' ∧ (∀ p ∈ G, B'.get? p.1 = some p.2) ∧ Own B' F S L h := by
  obtain ⟨a1, a2, a3⟩ := O.dropLs.frozen
  refine ⟨_, a1, fun p hp => a3 _ _ (O.ob p (List.mem_append_left _ hp)).1 fun q => ?_, a2⟩
  have nd := O.nd
  rw [List.map_append, nodup_app, nodup_app, nodup_app] at nd
  obtain ⟨_, ⟨_, ⟨_, _, n1⟩, n2⟩, n3⟩ := nd
  have hm : p.1 ∈ G.map (·.1) := List.mem_map.mpr ⟨p, hp, rfl⟩
  rcases mem_keys.mp q with ⟨x, hx, e⟩ | ⟨x, hx, e⟩ | ⟨x, hx, e⟩
  · exact n3 x.1 (List.mem_map.mpr ⟨x, hx, rfl⟩) (List.mem_append_right _ (List.mem_append_left _ (e ▸ hm)))
  · exact n2 x.1 (List.mem_map.mpr ⟨x, hx, rfl⟩) (List.mem_append_left _ (e ▸ hm))
  · exact n1 p.1 hm (List.mem_map.mpr ⟨x, hx, e⟩)
theorem Own.freeze1 (O : Own B F S ((a, o) :: L) h) : ∃ B', Le B B' ∧ B'.get? a = some o ∧ Own B' F S L h := by
  obtain ⟨B', a1, a2, a3⟩ := Own.freeze (G := [(a, o)]) O
  exact ⟨B', a1, a2 _ (.head _), a3⟩
theorem Own.freezeS (O : Own B F ((a, l) :: S) L h) : ∃ B', Le B B' ∧ NsB B' a l ∧ Own B' F S L h := by
  obtain ⟨a1, a2, a3⟩ := O.dropS.frozen
  obtain ⟨o, es, ep, h1, h2⟩ := (O.ns _ (.head _)).1
  refine ⟨_, a1, ⟨o, es, ep, a3 _ _ h1 fun q => ?_, h2⟩, a2⟩
  have nd := O.nd
  rw [List.map_cons, List.cons_append] at nd
  have nd := (List.nodup_cons.mp (List.perm_middle.nodup_iff.mp nd)).1
  exact nd q
end

/-- the name x stands in l for v -/
inductive Loc : List (Str × Value) → Str → Value → Prop
  | head {x v r} : Loc ((x, v) :: r) x v
  | tail {x v y w r} : (x == y) = false → Loc r x v → Loc ((y, w) :: r) x v
theorem Loc.eq {l : List (Str × Value)} {x : Str} {v : Value} (q : Loc l x v) : l.lookup x = some v := by
  induction q with
  | head => simp [List.lookup_cons]
  | tail h _ ih => rw [List.lookup_cons, h]; exact ih
inductive NoLoc : List (Str × Value) → Str → Prop
  | nil {x} : NoLoc [] x
  | cons {x y w r} : (x == y) = false → NoLoc r x → NoLoc ((y, w) :: r) x
theorem NoLoc.eq {l : List (Str × Value)} {x : Str} (q : NoLoc l x) : l.lookup x = none := by
  induction q with
  | nil => rfl
  | cons h _ ih => rw [List.lookup_cons, h]; exact ih
/-- l with x for v -/
inductive Put : List (Str × Value) → Str → Value → List (Str × Value) → Prop
  | nil {x v} : Put [] x v [(x, v)]
  | head {x v w r} : Put ((x, w) :: r) x v ((x, v) :: r)
  | tail {x v y w r r'} : (x == y) = false → Put r x v r' → Put ((y, w) :: r) x v ((y, w) :: r')
theorem Put.eq {l l' : List (Str × Value)} {x : Str} {v : Value} (q : Put l x v l') (y : Str) : l'.lookup y = if y = x then some v else l.lookup y := by
  have ne {y x : Str} (e : ¬ y = x) : (y == x) = false := by simpa using e
  induction q with
  | @nil x v =>
    by_cases e : y = x
    · rw [if_pos e, e]; simp [List.lookup_cons]
    · rw [if_neg e, List.lookup_cons, ne e]
  | @head x v w r =>
    by_cases e : y = x
    · rw [if_pos e, e]; simp [List.lookup_cons]
    · rw [if_neg e, List.lookup_cons, List.lookup_cons, ne e]
  | @tail x v z w r r' h _ ih =>
    rw [List.lookup_cons, List.lookup_cons, ih]
    by_cases e : y = x
    · subst e; rw [h, if_pos rfl]
    · rw [if_neg e, if_neg e]
/-- x picked out of L -/
inductive Pick {α : Type} : α → List α → List α → Prop
  | head {x r} : Pick x (x :: r) r
  | tail {x y r r'} : Pick x r r' → Pick x (y :: r) (y :: r')
theorem Pick.perm {α : Type} {x : α} {l r : List α} (p : Pick x l r) : l.Perm (x :: r) := by
  induction p with
  | head => exact .refl _
  | tail _ ih => exact (ih.cons _).trans (.swap ..)
theorem Pick.mem {α : Type} {x : α} {l r : List α} (p : Pick x l r) : x ∈ l := p.perm.mem_iff.mpr (.head _)
section
variable {B : Heap} {F F' S S' : NsL} {L L' : ObL} {h h' : Heap} {a : Addr} {o : Obj} {l : List (Str × Value)}
theorem Own.pickF (O : Own B F S L h) (p : Pick (a, l) F F') : Own B ((a, l) :: F') S L h := O.permF p.perm
theorem Own.pickS (O : Own B F S L h) (p : Pick (a, l) S S') : Own B F ((a, l) :: S') L h := O.permS p.perm
theorem Own.pickL (O : Own B F S L h) (p : Pick (a, o) L L') : Own B F S ((a, o) :: L') h := O.permL p.perm
end
theorem Put.len {l l' : List (Str × Value)} {x : Str} {v : Value} (q : Put l x v l') : l.length ≤ l'.length ∧ (l.lookup x = none → l'.length = l.length + 1) := by
  induction q with
  | nil => exact ⟨Nat.zero_le _, fun _ => rfl⟩
  | head => exact ⟨Nat.le_refl _, fun h => by simp [List.lookup_cons] at h⟩
  | tail h _ ih => exact ⟨Nat.succ_le_succ ih.1, fun e => by rw [List.lookup_cons, h] at e; rw [List.length_cons, ih.2 e, List.length_cons]⟩
/-- a name stored into such a dict -/
theorem wpAny_nsSetB {M : Model} {A : Around} {E : Value → Shared → Prop} {s : Shared} {a : Addr} {l l' : List (Str × Value)} {name : Str} {v : Value} {Q : Unit → Shared → Prop} (hn : NsB s.heap a l) (hp : Put l name v l')
    (h : ∀ h', NsB h' a l' → Heap.SameBut a s.heap h' → Q () { s with heap := h', toks := s.toks + 1 }) : wpAny M A (nsSet a name v) Q E s := fun Γ p _ => by
  obtain ⟨o, es, ep, ho, hd, hk, hm, hz⟩ := hn
  show Sem.wp M Γ (nsSet a name v) _ _ p s
  simp only [nsSet, strHash, Sem.wp_bind', Sem.wp_cmd_ask, Sem.wp_pure', Sem.wp_cmd_mkText]
  rw [Sem.wp_loadPart_of M Γ _ p { s with toks := s.toks + 1 } (o := o) _ ho]
  have hany : es.any (·.refKey) = false := by
    rw [Array.any_eq_false']; intro e he; obtain ⟨n, t, h⟩ := hk e he; simp [DictEntry.refKey, h]
  simp only [hd, aRefKeyMayBeTheName_eq, aRefKeyMayBeTheNameByArray, hany, Bool.and_false, Bool.false_eq_true, if_false, Sem.wp_cmd_updatePart]
  refine ⟨by rw [ho]; rfl, h _ ?_ (Heap.SameBut.update ..)⟩
  obtain ⟨c, d, dt, sl⟩ := o
  subst hd
  cases hi : es.findIdx? (·.key.isStr name) with
  | some i =>
    refine ⟨_, _, ep, Heap.get?_update_self _ ho (by simp only [Obj.putName_eq, Obj.putNameByArray, hi]; rfl), by simp only [Obj.putName_eq, Obj.putNameByArray, hi]; rfl, hk.modify _ _, fun x => ?_, ?_⟩
    · rw [hp.eq x, ← hm]; exact findBy_modify (fun n v => v.isStr n) Value.isStr_inj es name x v i hi
    · rw [Array.size_modify]; exact Nat.le_trans hz hp.len.1
  | none =>
    have hnone : l.lookup name = none := by
      rw [← hm name]; unfold nsFind findBy
      rw [Array.find?_eq_none.mpr (fun e he => by simpa using (Array.findIdx?_eq_none_iff.mp hi) e he)]; rfl
    refine ⟨_, _, ep + 1, Heap.get?_update_self _ ho (by simp only [Obj.putName_eq, Obj.putNameByArray, hi]; rfl), by simp only [Obj.putName_eq, Obj.putNameByArray, hi]; rfl, hk.push _ _ _ _, fun x => ?_, ?_⟩
    · rw [hp.eq x, ← hm]
      exact findBy_push (fun n v => v.isStr n) es name x _ _ v (fun y => by
        show (name == y) = decide (y = name)
        by_cases h : y = name
        · subst h; simp
        · have : ¬ name = y := fun e => h e.symm
          simp [h, this]) hi
    · rw [Array.size_push, hp.len.2 hnone]; exact Nat.succ_le_succ hz

-- F2
abbrev prog : Program := PySem.Challenge.pw_fk5016_01
def loose : List Str := [Str.ofString "CachingMiddleware", Str.ofString "LRUCache", Str.ofString "Table"]

structure TopR (mg mb : Str → Option Value) (h : Heap) : Prop where
  g : h.Ns mainGlobals mg
  b : h.Ns builtinsNs mb
  nolimit : h.NoLimit
  builtins : ∀ x : Str, x ≠ "__name__" → mb x = bootBuiltins x
  bm : ∃ bm ob, mg "__builtins__" = some (.ref bm) ∧ bm ≠ builtinsNs ∧ bm ≠ mainGlobals ∧ h.get? bm = some ob ∧ ob.cls = .type "module" ∧ ob.dict = some builtinsNs ∧ ob.data = .plain
theorem TopR.keeps {mg mb : Str → Option Value} {h h' : Heap} (T : TopR mg mb h) (k : ∀ b o, h.get? b = some o → h'.get? b = some o) : TopR mg mb h' :=
  ⟨T.g.keeps k, T.b.keeps k, T.nolimit.keeps k, T.builtins, let ⟨bm, ob, a, b, c, d, r⟩ := T.bm; ⟨bm, ob, a, b, c, k _ _ d, r⟩⟩
/-- the text's own objects and the built-in names stand in B -/
structure Wd (w : World) (B : Heap) : Prop where
  X : (hd.heap_39 w.params).In B
  T : ∃ mg mb, TopR mg mb B
  seer : B.NoSeer
theorem Wd.le {w : World} {B B' : Heap} (W : Wd w B) (k : Le B B') : Wd w B' := ⟨W.X.keeps k, let ⟨mg, mb, T⟩ := W.T; ⟨mg, mb, T.keeps k⟩, W.seer.keeps k⟩

/-- room for n more frames -/
def Room (A : Around) (n : Nat) : Prop := A.depth + n < 1000 ∧ A.units + 20 * n < 9900
theorem Room.depth {A : Around} {n : Nat} (r : Room A n) : A.depth < recursionLimit := by have := r.1; show A.depth < 1000; omega
theorem Room.units {A : Around} {n : Nat} (r : Room A n) : A.units < cLine := by have := r.2; show A.units < 9900; omega
theorem Room.le {A : Around} {n m : Nat} (r : Room A n) (h : m ≤ n) : Room A m := ⟨by have := r.1; omega, by have := r.2; omega⟩
theorem Room.deeper {A : Around} {n : Nat} {env : Env} (r : Room A (n + 1)) : Room (A.deeper env) n :=
  ⟨by have := r.1; show A.depth + 1 + n < 1000; omega, by have := r.2; show A.units + 3 + 20 * n < 9900; omega⟩
theorem Room.in1 {A : Around} {n : Nat} (r : Room A (n + 1)) : Room A.in1 n :=
  ⟨by have := r.1; show A.depth + n < 1000; omega, by have := r.2; show A.units + 1 + 20 * n < 9900; omega⟩
theorem Room.mark {A : Around} {n : Nat} {h : Option Value} (r : Room A n) : Room (A.mark h) n := r

section
variable {w : World} {A : Around} {E : Value → Shared → Prop} {s : Shared} {B : Heap} {F F' S S' : NsL} {L L' : ObL} {h : Heap}
theorem Own.X (O : Own B F S L h) (W : Wd w B) : (hd.heap_39 w.params).In h := W.X.keeps O.keep

-- names
theorem nm_loc {env : Env} {x : Str} {pos : Pos} {v : Value} {Lf : Addr} {l : List (Str × Value)} {Q : Value → Shared → Prop} (O : Own B F S L s.heap) (hm : (Lf, l) ∈ F) (hv : Loc l x v) (h : Q v s)
    (he : env.locals = Lf := by rfl) (hk : env.scope.kind = .function := by rfl) (hx : env.kindOf x = some .local := by rfl) (hd : (x == ("__debug__" : Str)) = false := by decide) :
    wpAny (model prog w) A (eval (.Name x pos) env) Q E s := wpAny_Name (wpAny_loadName_local hk hx (he ▸ (O.fr _ hm).1) hv.eq h) hd
theorem nm_K {env : Env} {x : Str} {pos : Pos} {v : Value} {Q : Value → Shared → Prop} (O : Own B F S L s.heap) (W : Wd w B) (e : nsIn (hd.heap_39 w.params) mainGlobals x = some (some v)) (h : Q v s)
    (he : env.globals = mainGlobals := by rfl) (hk : env.scope.kind = .function := by rfl) (hx : env.kindOf x = some .globalImplicit := by rfl) (hd : (x == ("__debug__" : Str)) = false := by decide) :
    wpAny (model prog w) A (eval (.Name x pos) env) Q E s := by
  obtain ⟨mg, mb, T⟩ := W.T
  exact Name_function_global hk hx (loadGlobal_global (he ▸ T.g.keeps O.keep) (mg_of W.X T.g e) h) hd
theorem nm_B {env : Env} {x : Str} {pos : Pos} {v : Value} {Q : Value → Shared → Prop} (O : Own B F S L s.heap) (W : Wd w B) (e : nsIn (hd.heap_39 w.params) mainGlobals x = some none) (hv : bootBuiltins x = some v) (hn : x ≠ "__name__") (h : Q v s)
    (he : env.globals = mainGlobals := by rfl) (hb : env.builtins = builtinsNs := by rfl) (hk : env.scope.kind = .function := by rfl) (hx : env.kindOf x = some .globalImplicit := by rfl) (hd : (x == ("__debug__" : Str)) = false := by decide) :
    wpAny (model prog w) A (eval (.Name x pos) env) Q E s := by
  obtain ⟨mg, mb, T⟩ := W.T
  exact Name_function_global hk hx (loadGlobal_builtin (he ▸ T.g.keeps O.keep) (mg_none_of W.X T.g e) (hb ▸ T.b.keeps O.keep) ((T.builtins x hn).trans hv) h) hd

theorem Own.enter {h h₁ : Heap} {l : List (Str × Value)} (O : Own B F S L h) (hk₁ : ∀ b o, h.get? b = some o → h₁.get? b = some o) (hns : h₁.Ns h.objs.size (fun x => l.lookup x)) : Own B ((h.objs.size, l) :: F) S L h₁ := by
  have O₁ := O.keepF hk₁
  refine ⟨O₁.keep, fun p hp => ?_, O₁.ns, O₁.ob, ?_, fun x hx => ?_, O.sz⟩
  · rcases List.mem_cons.mp hp with rfl | hp
    · exact ⟨hns, O.none_size⟩
    · exact O₁.fr p hp
  · rw [List.map_cons, List.cons_append, List.nodup_cons]
    exact ⟨fun q => Nat.lt_irrefl _ (O.lt _ q), O.nd⟩
  · rw [List.map_cons, List.cons_append] at hx
    rcases List.mem_cons.mp hx with rfl | hx
    · exact O.size_lt
    · exact O.lo x hx
-- a call of a def of the text
theorem call_fn {R : Result → Shared → Prop} {name qual : Str} {params : Arguments} {body : List Stmt} {scope : Scope} {dV kV doc pm cdv ct oc : Value} {an od : Option Addr} {osl : Array (Option Value)} {f : Addr} {args : Args} {fl : List (Str × Value)}
    (O : Own B F S L s.heap) (W : Wd w B)
    (ho : List.lookup f (hd.heap_39 w.params) = some ⟨oc, od, .func (fnX name qual params body scope [] dV kV doc pm an cdv ct), osl⟩) (hcd : codeIn (hd.heap_39 w.params) cdv qual = true)
    (hroom : A.depth < recursionLimit) (hbind : BindsTo s (fnX name qual params body scope [] dV kV doc pm an cdv ct) args fl.reverse)
    (h : ∀ Lf h₁, Own B ((Lf, fl) :: F) S L h₁ →
      wpAny (model prog w) (A.deeper (envX qual scope Lf f cdv [])) (execs body (envX qual scope Lf f cdv []))
        (fun fl s' => R (.ok (.ret (match fl with | .ret v => v | _ => .none))) s') (fun _ _ => False) { s with heap := h₁, toks := s.toks + fl.length })
    (hloc : ∀ y ∈ fl.reverse, scope.names.lookup y.1 = some .local := by exact locs rfl)
    (hcell : ∀ x ∈ scope.names, x.2 ≠ .cell := by decide) (hco : scope.isCoroutine = false := by rfl) (hgen : scope.isGenerator = false := by rfl) (hk : scope.kind = .function := by rfl) :
    codeAny (model prog w) A (.call (.ref f) args) R s := by
  obtain ⟨mg, mb, T⟩ := W.T
  have X := O.X W
  refine codeAny_call_def (fd := fnX name qual params body scope [] dV kV doc pm an cdv ct) (body := body) (binds := fl.reverse) hroom (X _ _ ho) rfl (T.nolimit.keeps O.keep) (codeRec_of X hcd) rfl hbind hcell hloc (fun h₁ hns hk₁ => ?_) hco hgen hk
  rw [List.reverse_reverse] at hns
  rw [List.length_reverse]
  exact wpAny_mono (h s.heap.objs.size h₁ (O.enter hk₁ hns)) (fun _ _ z => z) fun _ _ z => z.elim

-- attributes
theorem Own.nsAt {dx : Addr} {l : List (Str × Value)} (O : Own B F S L h) (hm : (dx, l) ∈ S) : NsB h dx l := (O.ns _ hm).1
theorem Own.nsOf {dx : Addr} {l : List (Str × Value)} (O : Own B F S L h) (hm : NsB B dx l) : NsB h dx l := hm.keeps O.keep
theorem inst_at {x C dx : Addr} {l : List (Str × Value)} (O : Own B F S L h) (hi : B.get? x = some (instObj C dx)) (hm : NsB h dx l) :
    ∃ od, InstAt h x (instObj C dx) C (some od) ∧ (∀ name v, Loc l name v → lookIn name od = some (some v)) ∧ (∀ name, NoLoc l name → lookIn name od = some none) := by
  obtain ⟨o, es, ep, h1, h2, h3, h4, _⟩ := hm
  have nr : es.toList.any (·.refKey) = false := by
    rw [List.any_eq_false]; intro e he; obtain ⟨n, t, q⟩ := h3 e (by simpa using he); simp [DictEntry.refKey, q]
  refine ⟨o, ⟨O.keep _ _ hi, rfl, rfl, h1⟩, fun name v hv => ?_, fun name hv => ?_⟩
  · have q := (h4 name).trans hv.eq
    unfold lookIn; rw [h2]; dsimp only
    unfold nsFind findBy at q
    rw [← Array.find?_toList] at q
    cases hf : es.toList.find? (fun x => x.key.isStr name) with
    | none => rw [hf] at q; cases q
    | some e => rw [hf] at q; cases q; rfl
  · have q := (h4 name).trans hv.eq
    unfold lookIn; rw [h2]; dsimp only
    unfold nsFind findBy at q
    rw [← Array.find?_toList] at q
    cases hf : es.toList.find? (fun x => x.key.isStr name) with
    | none => dsimp only; rw [if_neg (by rw [nr]; exact Bool.false_ne_true)]
    | some e => rw [hf] at q; cases q
theorem get_at {x C dx : Addr} {l : List (Str × Value)} {name : Str} {expr : Bool} {v : Value} {attr : Option Value} {Q : Value → Shared → Prop} (O : Own B F S L s.heap) (W : Wd w B) (hi : B.get? x = some (instObj C dx)) (hm : NsB s.heap dx l) (hv : Loc l name v)
    (hg : plainGet (hd.heap_39 w.params) C name = true) (hh : hasDictIn (hd.heap_39 w.params) C = true) (ha : findIn (hd.heap_39 w.params) (.ref C) name = some attr) (hn : noGet (hd.heap_39 w.params) attr = true) (hh2 : handedIn v = true) (h : Q v { s with toks := s.toks + 1 }) :
    wpAny (model prog w) A (getAttr (.ref x) name expr) Q E s := by
  obtain ⟨od, I, hl, _⟩ := inst_at O hi hm
  exact get_value (O.X W) I (plainGet_of hg).1 (findObj_own hh ha hn (hl name v hv)) hh2 h
theorem cls_at {x C dx : Addr} {l : List (Str × Value)} {name : Str} {expr : Bool} {v : Value} {Q : Value → Shared → Prop} (O : Own B F S L s.heap) (W : Wd w B) (hi : B.get? x = some (instObj C dx)) (hm : NsB s.heap dx l) (hv : NoLoc l name)
    (hg : plainGet (hd.heap_39 w.params) C name = true) (hh : hasDictIn (hd.heap_39 w.params) C = true) (ha : findIn (hd.heap_39 w.params) (.ref C) name = some (some v)) (hn : specialIn (hd.heap_39 w.params) v "__get__" = some none) (hh2 : handedIn v = true) (hc : copiedNames.contains name = false) (h : Q v { s with toks := s.toks + 1 }) :
    wpAny (model prog w) A (getAttr (.ref x) name expr) Q E s := by
  obtain ⟨od, I, _, hl⟩ := inst_at O hi hm
  exact get_value (O.X W) I (plainGet_of hg).1 (findObj_cls hh ha hn hh2 hc (hl name hv)) hh2 h
theorem prop_at {x C dx : Addr} {l : List (Str × Value)} {name : Str} {expr : Bool} {p fget : Addr} {rest : List Value} {Q : Value → Shared → Prop} (O : Own B F S L s.heap) (W : Wd w B) (hi : B.get? x = some (instObj C dx)) (hm : NsB s.heap dx l)
    (hg : plainGet (hd.heap_39 w.params) C name = true) (hh : hasDictIn (hd.heap_39 w.params) C = true) (ha : findIn (hd.heap_39 w.params) (.ref C) name = some (some (.ref p))) (hn : specialIn (hd.heap_39 w.params) (.ref p) "__get__" = some (some (.builtin "property.__get__"))) (ht : takesIn (hd.heap_39 w.params) (.ref p) = some true) (hp : recIn (hd.heap_39 w.params) p "property" = some (.ref fget :: rest))
    (h : codeAny (model prog w) A.in1 (.call (.ref fget) ⟨[.ref x], []⟩) (fun r s' => match r with | .ok (.ret v) => handedIn v = true ∧ Q v s' | _ => False) { s with toks := s.toks + 1 }) :
    wpAny (model prog w) A (getAttr (.ref x) name expr) Q E s := by
  obtain ⟨od, I, _, hl⟩ := inst_at O hi hm
  refine get_bind (O.X W) I (plainGet_of hg).1 (findObj_data (by obtain ⟨cd, hc, _⟩ := any_some hh; rw [hc]; rfl) ha hn ht) (plainGet_of hg).2 (wpAny_call (prop_get (s := { s with toks := s.toks + 1 }) (O.X W) hp (codeAny_mono h fun r s' z => ?_)))
  rcases r with e | (_ | _ | _ | v) <;> first | exact z.elim | skip
  obtain ⟨z1, z2⟩ := z
  show wpAny _ _ (handedOut v) _ _ _
  rw [handedOut_of z1]; exact wpAny_pure z2
theorem meth_at {x C dx : Addr} {l : List (Str × Value)} {name : Str} {pl : Sem Bool} {f : Addr} {Q : Value × List Value → Shared → Prop} (O : Own B F S L s.heap) (W : Wd w B) (hi : B.get? x = some (instObj C dx)) (hm : NsB s.heap dx l) (hv : NoLoc l name)
    (hg : plainGet (hd.heap_39 w.params) C name = true) (hf : findIn (hd.heap_39 w.params) (.ref C) name = some (some (.ref f))) (ht : isFn (hd.heap_39 w.params) (.ref f) = true) (h : Q (.ref f, [.ref x]) s) :
    wpAny (model prog w) A (getMethod (.ref x) name pl) Q E s := by
  obtain ⟨od, I, _, hl⟩ := inst_at O hi hm
  exact method_fn (O.X W) I (plainGet_of hg).1 (plainGet_of hg).2 hf (beq_iff_eq.mp ht) (by show (lookIn name od).map _ = _; rw [hl name hv]; rfl) h
theorem set_at {x C dx : Addr} {l l' : List (Str × Value)} {name : Str} {v : Value} {Q : Unit → Shared → Prop} (O : Own B F S L s.heap) (W : Wd w B) (hi : B.get? x = some (instObj C dx)) (hm : Pick (dx, l) S S') (hp : Put l name v l')
    (hs : findIn (hd.heap_39 w.params) (.ref C) "__setattr__" = some (some (.builtin "object.__setattr__"))) (ho : plainOver (hd.heap_39 w.params) C = true) (ht : takerIn (hd.heap_39 w.params) C name = some none) (hh : hasDictIn (hd.heap_39 w.params) C = true)
    (h : ∀ h', Own B F ((dx, l') :: S') L h' → Q () { s with heap := h', toks := s.toks + 2 }) (hz : l'.length ≤ 1000) :
    wpAny (model prog w) A (setAttr (.ref x) name v) Q E s := by
  have O₁ := O.pickS hm
  obtain ⟨od, I, _⟩ := inst_at O hi (O.ns _ hm.mem).1
  have X := O.X W
  obtain ⟨hh0, g, d, t, os⟩ := s
  dsimp only at X I O₁
  refine set_plain X I hs (osa_open (s := ⟨hh0, g, d, t + 1, os⟩) X I ho ht fun b => ?_)
  obtain ⟨cd, hc, hd'⟩ := any_some hh
  have hx := I.at_
  refine wpAny_bind (wpAny_pure (wpAny_bind (wpAny_bind (wpAny_loadPart hx (wpAny_bind ((looks_clsIn X hc).here ?_))))))
  rw [hd']
  refine wpAny_pure (a := some dx) (wpAny_bind (wpAny_pure (wpAny_bind ?_)))
  refine wpAny_nsSetB (O₁.ns _ (.head _)).1 hp fun h' hn hsb => ?_
  obtain ⟨o, es, ep, a1, a2, a3, a4, a5⟩ := id hn
  refine wpAny_bind (wpAny_lookBehind a1 (by rw [a2]; exact pastItsLine_dict (by rw [sizeLine_eq]; omega)) ?_)
  exact wpAny_pure (h h' (O₁.putS hsb hn))
end
-- F3
section
variable {w : World} {A : Around} {E : Value → Shared → Prop} {s : Shared} {B : Heap} {F F' S S' : NsL} {L L' : ObL} {h : Heap} {K : Type} [DecidableEq K] {knd : KeyKind prog w K}
theorem Own.notSysL {d : Addr} {o : Obj} (O : Own B F S L h) (hm : (d, o) ∈ L) : (d == sysModules) = false := by
  have : 3 < d := O.lo d (mem_keys.mpr (.inr (.inr ⟨_, hm, rfl⟩)))
  exact beq_eq_false_iff_ne.mpr (fun e => by rw [e] at this; exact absurd this (by decide))
theorem Own.dictL {d : Addr} {o : Obj} {kvs : List (K × Value)} (O : Own B F S L h) (hm : (d, o) ∈ L) (hd : o.IsDictOf knd kvs) : h.DictOf knd d kvs := Heap.dictOf_iff.mpr ⟨o, (O.ob _ hm).1, hd⟩
theorem Own.dictB {d : Addr} {kvs : List (K × Value)} (O : Own B F S L h) (hd : B.DictOf knd d kvs) : h.DictOf knd d kvs := by
  obtain ⟨o, es, ep, e, r⟩ := hd; exact ⟨o, es, ep, O.keep _ _ e, r⟩
theorem Le.dict {B B' : Heap} {d : Addr} {kvs : List (K × Value)} (k : Le B B') (hd : B.DictOf knd d kvs) : B'.DictOf knd d kvs := by
  obtain ⟨o, es, ep, e, r⟩ := hd; exact ⟨o, es, ep, k _ _ e, r⟩
theorem Own.putDict {d : Addr} {o : Obj} {kvs : List (K × Value)} {h' : Heap} (O : Own B F S ((d, o) :: L) h) (hs : Heap.SameBut d h h') (hd : h'.DictOf knd d kvs) : ∃ o', o'.IsDictOf knd kvs ∧ Own B F S ((d, o') :: L) h' := by
  obtain ⟨o', ho', hd'⟩ := Heap.dictOf_iff.mp hd
  exact ⟨o', hd', O.put hs ho'⟩

/-- d.clear() -/
theorem m_clear {d : Addr} {o : Obj} {kvs : List (K × Value)} {pos : Pos} {env : Env} {pl : Sem Bool} {Q : Value → Shared → Prop} (O : Own B F S L s.heap) (hp : Pick (d, o) L L') (hd : o.IsDictOf knd kvs) (hsz : kvs.length ≤ sizeLine)
    (k : ∀ h' o', o'.IsDictOf knd [] → Own B F S ((d, o') :: L') h' → Q .none { s with heap := h' }) :
    wpAny (model prog w) A (getMethod (.ref d) "clear" pl) (fun fx s₂ => wpAny (model prog w) A (callWith pos fx.1 fx.2 (backTo pos (starEach [] env)) []) Q E s₂) E s := by
  have hm := O.dictL hp.mem hd
  refine getMethod_builtin hm.typeIs PySem.F.plainAttrs_dict PySem.F.slot_dict_clear PySem.F.type_dict_clear hm.mapOf.noDict ?_
  show wpAny _ _ (callWith pos (.builtin "dict.clear") [.ref d] [] []) Q E s
  refine method_meetsIn PySem.F.slot_dict_clear PySem.F.entry_dict_clear rfl (PySem.evalArgs_none ⟨rfl, hm.typeIs, PySem.F.args_dict_clear_1 _, _, meets_dict_clear knd d, ⟨kvs, hm, hsz, fun h' hd' hs => ?_⟩⟩)
  obtain ⟨o', hd'', O'⟩ := (O.pickL hp).putDict hs hd'
  exact k h' o' hd'' O'
end
theorem fill_now (P : Params) : PySem.Challenge.rw_fk5016_01 = PySem.Challenge.rw_fk5016_01 ∧ hd.heap_39 P = hd.heap_39 P := by k_fill; exact ⟨rfl, rfl⟩
local macro_rules | `(tactic| walk_at "loc") => `(tactic| first | with_reducible exact Loc.head | (refine' Loc.tail ?a ?b; (case a => decide +kernel); (case b => walk_at "loc")))
local macro_rules | `(tactic| walk_at "noloc") => `(tactic| first | with_reducible exact NoLoc.nil | (refine NoLoc.cons (by decide +kernel) ?_; walk_at "noloc"))
local macro_rules | `(tactic| walk_at "put") => `(tactic| first | with_reducible exact Put.head | with_reducible exact Put.nil | (refine' Put.tail ?a ?b; (case a => decide +kernel); (case b => walk_at "put")))
local macro_rules | `(tactic| walk_at "pick") => `(tactic| first | with_reducible exact Pick.head | (refine' Pick.tail ?b; (case b => walk_at "pick")))
local macro_rules | `(tactic| walk_at "mem") => `(tactic| first | assumption | exact List.Mem.head _ | (refine List.Mem.tail _ ?_; walk_at "mem"))
local macro_rules | `(tactic| walk_at "nsb") => `(tactic| first | (refine' Own.nsAt ?O ?m; (case O => assumption); (case m => walk_at "mem")) | (refine' Own.nsOf ?O ?m; (case O => assumption); (case m => assumption)))
-- a name: local, of the text, built in
local macro_rules | `(tactic| walk_at "nm") => `(tactic| (k_dflt (first
  | (refine' nm_loc ?O ?m ?v ?_ ?a ?b ?c ?d; (case a => exact rfl); (case b => exact rfl); (case c => exact rfl); (case d => decide); (case O => assumption); (case m => walk_at "mem"); (case v => walk_at "loc"); k_whole)
  | (refine' nm_K ?O ?W ?e ?_ ?a ?b ?c ?d; (case a => exact rfl); (case b => exact rfl); (case c => exact rfl); (case d => decide); (case O => assumption); (case W => assumption); (case e => k_is); k_whole)
  | (refine' nm_B ?O ?W ?e ?v ?n ?_ ?a ?a2 ?b ?c ?d; (case a => exact rfl); (case a2 => exact rfl); (case b => exact rfl); (case c => exact rfl); (case d => decide); (case O => assumption); (case W => assumption); (case e => k_is); (case v => boot_by_name); (case n => decide); k_whole))))
local macro_rules | `(tactic| walk_at "set") => `(tactic| (k_dflt (refine' set_at ?O ?W ?i ?p ?q ?a ?b ?c ?d ?_ ?z; (case O => assumption); (case W => assumption); (case i => assumption); (case p => walk_at "pick"); (case q => walk_at "put"); (case a => k_is); (case b => k_is); (case c => k_is); (case d => k_is); (case z => exact Nat.le_of_ble_eq_true rfl); k_whole)))
local macro_rules | `(tactic| walk_at "get") => `(tactic| (k_dflt (refine' get_at ?O ?W ?i ?m ?v ?a ?b ?c ?d ?e ?_; (case O => assumption); (case W => assumption); (case i => assumption); (case m => walk_at "nsb"); (case v => walk_at "loc"); (case a => k_is); (case b => k_is); (case c => k_is); (case d => k_is); (case e => exact rfl); k_whole)))
local macro_rules | `(tactic| walk_at "meth") => `(tactic| (k_dflt (refine' meth_at ?O ?W ?i ?m ?v ?a ?b ?c ?_; (case O => assumption); (case W => assumption); (case i => assumption); (case m => walk_at "nsb"); (case v => walk_at "noloc"); (case a => k_is); (case b => k_is); (case c => k_is); k_whole)))
local macro_rules | `(tactic| walk_at "cw0") => `(tactic| (k_dflt (refine' callWith_K0 ?X ?k ?_; (case X => exact Own.X (by assumption) (by assumption)); (case k => k_is); k_whole)))
local macro_rules | `(tactic| walk_at "cw") => `(tactic| (k_dflt (refine' callWith_K (K := hd.heap_39 _) (Own.X (by assumption) (by assumption)) ?k ?_ ?e ?f; (case e => exact rfl); (case f => exact rfl); (case k => k_is); k_whole)))
local macro_rules | `(tactic| walk_at "args0") => `(tactic| (refine wpAny_items_nil ⟨Own.X (by assumption) (by assumption), ?_⟩; (try dsimp only [List.nil_append, List.cons_append])))
local macro_rules | `(tactic| walk_at "arg") => `(tactic| (refine wpAny_items_cons ?_))
local macro_rules | `(tactic| walk_at "clsv") => `(tactic| (k_dflt (refine' cls_at ?O ?W ?i ?m ?v ?a ?b ?c ?d ?e ?f ?_; (case O => assumption); (case W => assumption); (case i => assumption); (case m => walk_at "nsb"); (case v => walk_at "noloc"); (case a => k_is); (case b => k_is); (case c => k_is); (case d => k_is); (case e => exact rfl); (case f => decide +kernel); k_whole)))
-- F4
section
variable {w : World} {A : Around} {E : Value → Shared → Prop} {s : Shared} {B : Heap} {F F' S S' : NsL} {L L' : ObL} {h h' : Heap}

/-- the frames that stand are the ledger's, and nothing is being handled -/
structure Fro (A : Around) (ks : List Addr) : Prop where
  fr : ∃ outer, A.frames = some outer ∧ ∀ env ∈ outer, env.scope.kind ≠ .module ∧ ∃ Lf, env.frame = some Lf ∧ Lf ∈ ks
  hd : A.handled = none
theorem Fro.deeper {env : Env} {Lf : Addr} {ks : List Addr} (x : Fro A ks) (hk : env.scope.kind ≠ .module) (hf : env.frame = some Lf) : Fro (A.deeper env) (Lf :: ks) := by
  obtain ⟨outer, e, q⟩ := x.fr
  refine ⟨⟨env :: outer, Around.frames_deeper e, fun y hy => ?_⟩, x.hd⟩
  rcases List.mem_cons.mp hy with rfl | hy
  · exact ⟨hk, Lf, hf, .head _⟩
  · obtain ⟨a, L, b, c⟩ := q y hy; exact ⟨a, L, b, .tail _ c⟩
theorem Fro.in1 {ks : List Addr} (x : Fro A ks) : Fro A.in1 ks := ⟨x.fr, x.hd⟩
theorem Fro.sub {ks ks' : List Addr} (x : Fro A ks) (q : ∀ a ∈ ks, a ∈ ks') : Fro A ks' := ⟨let ⟨o, e, y⟩ := x.fr; ⟨o, e, fun z hz => let ⟨a, L, b, c⟩ := y z hz; ⟨a, L, b, q _ c⟩⟩, x.hd⟩

abbrev baseOf (F : NsL) (h : Heap) : Heap := hideAll h (F.map (·.1))
theorem Own.frames {outer : List Env} (O : Own B F S L h) (q : ∀ env ∈ outer, env.scope.kind ≠ .module ∧ ∃ Lf, env.frame = some Lf ∧ Lf ∈ F.map (·.1)) : h.FunFrames (baseOf F h) outer := by
  induction outer with
  | nil => trivial
  | cons env r ih =>
    obtain ⟨a, Lf, b, c⟩ := q env (.head _)
    refine ⟨a, ?_, ih fun y hy => q y (.tail _ hy)⟩
    obtain ⟨p, hp, rfl⟩ := List.mem_map.mp c
    obtain ⟨o, es, ep, e, d, _⟩ := (O.fr p hp).1
    exact ⟨_, o, b, hideAll_none _ c, e, fun vs q => by rw [d] at q; cases q⟩
theorem Own.notF (O : Own B F S L h) {b : Addr} (hb : b ∈ S.map (·.1) ++ L.map (·.1)) : b ∉ F.map (·.1) := fun q => (nodup_app.mp O.nd).2.2 b q hb
theorem Own.ofBase (O : Own B F S L h) (st : (baseOf F h).StaysIn h') (up : ∀ p ∈ F, h'.Ns p.1 (fun x => p.2.lookup x)) : Own B F S L h' := by
  have st' : ∀ b o, h.get? b = some o → b ∉ F.map (·.1) → h'.get? b = some o := fun b o e n => st b o (hideAll_get _ e n)
  refine ⟨fun b o e => st' b o (O.keep b o e) fun q => ?_, fun p hp => ⟨up p hp, (O.fr p hp).2⟩, fun p hp => ⟨?_, (O.ns p hp).2⟩, fun p hp => ⟨st' _ _ (O.ob p hp).1 (O.notF (List.mem_append_right _ (List.mem_map.mpr ⟨p, hp, rfl⟩))), (O.ob p hp).2⟩, O.nd, O.lo, O.sz⟩
  · obtain ⟨p, hp, rfl⟩ := List.mem_map.mp q
    rw [(O.fr p hp).2] at e; cases e
  · obtain ⟨o, es, ep, e, r⟩ := (O.ns p hp).1
    exact ⟨o, es, ep, st' _ _ e (O.notF (List.mem_append_left _ (List.mem_map.mpr ⟨p, hp, rfl⟩))), r⟩

/-- a KeyError that was raised here is caught here -/
theorem caught {env : Env} {Lf e : Addr} {b₀ : Stmt} {suite : List Stmt} {p pos : Pos} {rest : List ExceptHandler} {Q : Flow → Shared → Prop} (O : Own B F S L s.heap) (W : Wd w B) (Fo : Fro A (F.map (·.1)))
    (hfr : ∃ outer, A.frames = some (env :: outer)) (hf : env.frame = some Lf) (hx : Heap.NewExc s.heap h' e "KeyError") {tk : Nat}
    (k : ∀ h'' tk, Own B F S L h'' → wpAny (model prog w) (A.mark (some (.ref e))) (execs (b₀ :: suite) env) Q (fun _ _ => False) { s with heap := h'', toks := tk })
    (hg : env.globals = mainGlobals := by rfl) (hb : env.builtins = builtinsNs := by rfl) (hk : env.scope.kind = .function := by rfl) (hx' : env.kindOf "KeyError" = some .globalImplicit := by rfl)
    (hK : nsIn (hd.heap_39 w.params) mainGlobals "KeyError" = some none := by k_is) :
    wpAny (model prog w) A (noteFrame (.ref e) env) (fun _ s₂ => wpAny (model prog w) A (setFlight (.ref e) none) (fun _ s₃ => wpAny (model prog w) A (handleBy (.ref e) env (.ExceptHandler (some (.Name "KeyError" p)) none (b₀ :: suite) pos :: rest)) Q E s₃) E s₂) E { s with heap := h', toks := tk } := by
  obtain ⟨outer, hfr⟩ := hfr
  have Fo' := Fo.fr
  rw [hfr] at Fo'
  obtain ⟨o2, q1, q2⟩ := Fo'
  cases q1
  have ff := O.frames q2
  obtain ⟨ob, vs₀, he, hcls, hdt, h10, hsz0⟩ : ∃ ob vs, h'.get? e = some ob ∧ ob.cls = .type "KeyError" ∧ ob.data = .fields vs ∧ vs[1]? = some .none ∧ 1 < vs.size := by
    obtain ⟨ob, tp, a, b, c⟩ := hx.there; exact ⟨ob, _, a, b, c, rfl, Nat.le_of_ble_eq_true rfl⟩
  have hkb : (baseOf F s.heap).StaysIn s.heap := fun b o q => of_hideAll _ q
  have hen : (baseOf F s.heap).get? e = none := by
    cases hq : (baseOf F s.heap).get? e with
    | none => rfl
    | some o' => have := hkb e o' hq; rw [hx.new] at this; cases this
  unfold noteFrame
  simp only [hf]
  refine wpAny_bind (wpAny_field he hdt h10 ?_)
  rw [if_neg (show ¬ ((Value.none != Value.none) = true) from by decide)]
  refine wpAny_newEntry (base := baseOf F s.heap) hfr (ff.of_keeps fun b o hb _ => ⟨o, hx.keeps b o hb, rfl⟩) hf he (fun b o hb => hx.keeps b o (hkb b o hb)) hen hdt hsz0 fun h₂ hL => ?_
  obtain ⟨k1, k2, k3, k4⟩ := hL
  have up : ∀ p ∈ F, h₂.Ns p.1 (fun x => p.2.lookup x) := fun p hp => Heap.UpToSlots.ns (h := h') k4 ((O.fr p hp).1.keeps hx.keeps)
  have O₂ : Own B F S L h₂ := O.ofBase k1 up
  obtain ⟨oe, vs, T, oT, ts, he₂, hc₂, hd₂, h1, hnT, hTe, hT, hdT, h3⟩ := k3
  refine wpAny_handleBy_builtin (T := "KeyError") (X := "KeyError") (b := true) kr_isExc_KeyError kr_notTuple_KeyError (by rw [isSubtype_type]; kernel_rfl) ?_
  refine nm_B (s := { s with heap := h₂, toks := tk }) O₂ W hK Boot.«KeyError» (by decide) ?_ hg hb hk hx' (by decide)
  refine ⟨rfl, ⟨oe, he₂, hc₂.trans hcls⟩, ?_⟩
  rw [if_pos rfl]
  refine wpAny_setFlight_none he₂ hd₂ h1 hT hdT (Array.getElem?_eq_some_iff.mp h3).1 ?_
  refine wpAny_mono (k _ _ (O.ofBase ?_ ?_)) (fun _ _ z => z) (fun _ _ z => z.elim)
  · intro b o q
    rw [Heap.get?_update_ne _ _ _ _ (fun (z : b = T) => by rw [z, hnT] at q; cases q)]
    exact k1 b o q
  · intro p hp
    obtain ⟨o, es, ep, a1, a2, a3⟩ := up p hp
    refine ⟨o, es, ep, ?_, a2, a3⟩
    rw [Heap.get?_update_ne _ _ _ _ (fun (z : p.1 = T) => by rw [z, hT] at a1; cases a1; rw [hdT] at a2; cases a2)]
    exact a1

/-- a local name is given a value -/
theorem st_loc {env : Env} {Lf : Addr} {l l' : List (Str × Value)} {x : Str} {v : Value} {Q : Unit → Shared → Prop} (O : Own B ((Lf, l) :: F) S L s.heap) (hp : Put l x v l')
    (h : ∀ h', Own B ((Lf, l') :: F) S L h' → Q () { s with heap := h', toks := s.toks + 1 })
    (he : env.locals = Lf := by rfl) (hx : env.kindOf x = some .local := by rfl) (hk : (env.scope.kind == .class || (env.scope.kind == .module && env.locals != env.globals)) = false := by rfl) :
    wpAny (model prog w) A (storeName env x v) Q E s := by
  subst he
  refine wpAny_storeName_local hx (O.fr _ (.head _)).1 (fun h' hn hs => h h' (O.putF hs ?_)) hk
  rw [show (fun y => l'.lookup y) = fun y => if y = x then some v else l.lookup y from funext fun y => hp.eq y]
  exact hn
theorem newD {pos : Pos} {env : Env} {Q : Value → Shared → Prop} (O : Own B F S L s.heap)
    (h : ∀ h' d, (∀ b o, s.heap.get? b = some o → h'.get? b = some o) → Own B F S ((d, emptyDict) :: L) h' → Q (.ref d) { s with heap := h' }) : wpAny (model prog w) A (eval (.Dict [] [] pos) env) Q E s :=
  wpAny_Dict_empty (h _ _ (fun _ _ e => Heap.get?_push_of_some _ e) (O.push _))
theorem empty_of {K : Type} [DecidableEq K] (knd : KeyKind prog w K) : emptyDict.IsDictOf knd [] := by
  obtain ⟨o, ho, hd⟩ := Heap.dictOf_iff.mp (Heap.DictOf.new (knd := knd) (Inhabited.default : Heap))
  have : ((Inhabited.default : Heap).push emptyDict).get? (Inhabited.default : Heap).objs.size = some emptyDict := Heap.get?_push_size _ rfl
  rw [show ((Inhabited.default : Heap).push { cls := .type "dict", data := .dict #[] }) = (Inhabited.default : Heap).push emptyDict from rfl, this] at ho
  cases ho; exact hd
theorem cw_B {env : Env} {pos : Pos} {id : String} {e : Expr} {rest : List Expr} {first : List Value} {Q : Value → Shared → Prop}
    (h : wpAny (model prog w) A (spliced (backTo pos (starEach (e :: rest) env))) (fun vs s₁ => wpAny (model prog w) A (call (.builtin id) (first ++ vs)) Q E s₁) E s)
    (he : starEach (e :: rest) env = (false, eval e env) :: starEach rest env := by rfl)
    (hplain : (backTo pos (starEach rest env)).any (·.1) = false := by rfl) :
    wpAny (model prog w) A (callWith pos (.builtin id) first (backTo pos (starEach (e :: rest) env)) []) Q E s := by
  rw [he] at h ⊢
  exact PySem.Calls.callWith_builtin (by show (false || (backTo pos (starEach rest env)).any (·.1)) = false; rw [hplain]; rfl) (PySem.Calls.evalArgs_plain h)
end
local macro_rules | `(tactic| walk_at "st") => `(tactic| (k_dflt (refine' st_loc ?O ?p ?_ ?a ?b ?c; (case a => exact rfl); (case b => exact rfl); (case c => exact rfl); (case O => assumption); (case p => walk_at "put"); k_whole)))
local macro_rules | `(tactic| walk_at "cwT") => `(tactic| (refine Pv.callWith_type1 ?_))
local macro_rules | `(tactic| walk_at "cwB") => `(tactic| (refine cw_B ?_))
local macro_rules | `(tactic| walk_at "args1") => `(tactic| (refine wpAny_items_nil ?_; (try dsimp only [List.nil_append, List.cons_append])))
-- F5
section
variable {w : World} {A : Around} {E : Value → Shared → Prop} {s : Shared} {B : Heap} {F F' S S' : NsL} {L L' : ObL} {h h' : Heap} {K : Type} [DecidableEq K] {knd : KeyKind prog w K}
/-- an object of the ledger turned, new ones came -/
theorem Own.turn {a : Addr} {o o' : Obj} (O : Own B F S ((a, o) :: L) h) (k : ∀ b x, b ≠ a → h.get? b = some x → h'.get? b = some x) (ho : h'.get? a = some o') : Own B F S ((a, o') :: L) h' := by
  have nd := O.nd
  rw [List.map_cons, nodup_app, nodup_app, List.nodup_cons] at nd
  obtain ⟨_, ⟨_, ⟨n1, _⟩, n2⟩, n3⟩ := nd
  have e0 := (O.ob _ (.head _)).2
  refine ⟨fun b x e => ?_, fun p hp => ⟨?_, (O.fr p hp).2⟩, fun p hp => ⟨?_, (O.ns p hp).2⟩, fun p hp => ?_, O.nd, O.lo, O.sz⟩
  · exact k b x (fun q => by rw [q] at e; rw [e0] at e; cases e) (O.keep b x e)
  · obtain ⟨x, es, ep, a1, r⟩ := (O.fr p hp).1
    exact ⟨x, es, ep, k _ _ (fun q => n3 p.1 (List.mem_map.mpr ⟨p, hp, rfl⟩) (List.mem_append_right _ (q ▸ .head _))) a1, r⟩
  · obtain ⟨x, es, ep, a1, r⟩ := (O.ns p hp).1
    exact ⟨x, es, ep, k _ _ (fun q => n2 p.1 (List.mem_map.mpr ⟨p, hp, rfl⟩) (q ▸ .head _)) a1, r⟩
  · rcases List.mem_cons.mp hp with rfl | hp
    · exact ⟨ho, e0⟩
    · exact ⟨k _ _ (fun q => n1 (List.mem_map.mpr ⟨p, hp, q⟩)) (O.ob p (.tail _ hp)).1, (O.ob p (.tail _ hp)).2⟩
theorem nodup_move {α : Type} {x : α} {l m n : List α} (h : (l ++ (m ++ n)).Nodup) (hx : x ∉ l ++ (m ++ n)) : (l ++ (m ++ x :: n)).Nodup := by
  rw [← List.append_assoc] at h hx ⊢
  exact nodup_mid h hx
/-- a new object into the ledger -/
theorem Own.add {a : Addr} {o : Obj} (O : Own B F S L h) (ha : h.objs.size ≤ a) (k : ∀ b x, h.get? b = some x → h'.get? b = some x) (ho : h'.get? a = some o) : Own B F S ((a, o) :: L) h' := by
  have O' := O.keepF k
  have hn : a ∉ keysOf F S L := fun q => Nat.lt_irrefl _ (Nat.lt_of_lt_of_le (O.lt _ q) ha)
  have hb : B.get? a = none := by
    cases q : B.get? a with
    | none => rfl
    | some x => exact absurd (Heap.lt_size (O.keep _ _ q)) (Nat.not_lt.mpr ha)
  refine ⟨O'.keep, O'.fr, O'.ns, fun p hp => ?_, nodup_move O.nd hn, fun x hx => ?_, O.sz⟩
  · rcases List.mem_cons.mp hp with rfl | hp
    · exact ⟨ho, hb⟩
    · exact O'.ob p hp
  · rcases mem_keys.mp hx with ⟨p, hp, rfl⟩ | ⟨p, hp, rfl⟩ | ⟨p, hp, rfl⟩
    · exact O.lo _ (mem_keys.mpr (.inl ⟨p, hp, rfl⟩))
    · exact O.lo _ (mem_keys.mpr (.inr (.inl ⟨p, hp, rfl⟩)))
    · rcases List.mem_cons.mp hp with rfl | hp
      · exact Nat.lt_of_lt_of_le O.size_lt ha
      · exact O.lo _ (mem_keys.mpr (.inr (.inr ⟨p, hp, rfl⟩)))
/-- a new object's dict of names into the ledger -/
theorem Own.addS {a : Addr} {l : List (Str × Value)} (O : Own B F S L h) (ha : h.objs.size ≤ a) (k : ∀ b x, h.get? b = some x → h'.get? b = some x) (ho : NsB h' a l) : Own B F ((a, l) :: S) L h' := by
  have O' := O.keepF k
  have hn : a ∉ keysOf F S L := fun q => Nat.lt_irrefl _ (Nat.lt_of_lt_of_le (O.lt _ q) ha)
  have hb : B.get? a = none := by
    cases q : B.get? a with
    | none => rfl
    | some x => exact absurd (Heap.lt_size (O.keep _ _ q)) (Nat.not_lt.mpr ha)
  refine ⟨O'.keep, O'.fr, fun p hp => ?_, O'.ob, ?_, fun x hx => ?_, O.sz⟩
  · rcases List.mem_cons.mp hp with rfl | hp
    · exact ⟨ho, hb⟩
    · exact O'.ns p hp
  · rw [List.map_cons, List.cons_append]; exact nodup_mid O.nd hn
  · rcases mem_keys.mp hx with ⟨p, hp, rfl⟩ | ⟨p, hp, rfl⟩ | ⟨p, hp, rfl⟩
    · exact O.lo _ (mem_keys.mpr (.inl ⟨p, hp, rfl⟩))
    · rcases List.mem_cons.mp hp with rfl | hp
      · exact Nat.lt_of_lt_of_le O.size_lt ha
      · exact O.lo _ (mem_keys.mpr (.inr (.inl ⟨p, hp, rfl⟩)))
    · exact O.lo _ (mem_keys.mpr (.inr (.inr ⟨p, hp, rfl⟩)))

-- a dict's items, one by one
abbrev itO (d : Addr) (i n ep : Nat) (ok ov : Value) : Obj := { cls := .type "dict_itemiterator", dict := none, data := .fields #[.none, .bool false, .ref d, .int i 0, .int n 0, .int ep 0, ok, ov], slots := #[] }
abbrev itOutO (d : Addr) (i n ep : Nat) (ok ov : Value) (a : Addr) : Obj := { cls := .type "dict_itemiterator", dict := none, data := .fields #[rawInt a, .bool false, .ref d, .int i 0, .int n 0, .int ep 0, ok, ov], slots := #[] }
abbrev tupO (l : List Value) : Obj := { cls := .type "tuple", data := .seq l.toArray }
theorem next_items {it d : Addr} {i ep : Nat} {kvs : List (K × Value)} {k : K} {v ok ov : Value} {Q : Option Value → Shared → Prop} (O : Own B F S ((it, itO d i kvs.length ep ok ov) :: L) s.heap) (hm : s.heap.DictAt knd d kvs ep) (hx : kvs[i]? = some (k, v))
    (hQ : ∀ key h' a, knd.is k key = true → Own B F S ((a, tupO [key, v]) :: (it, itOutO d (i + 1) kvs.length ep key v a) :: L) h' → Q (some (.ref a)) { s with heap := h' }) :
    wpAny (model prog w) A (pyNext (.ref it)) Q E s := by
  have hi := (O.ob _ (.head _)).1
  refine wpAny_pyNext_items_item hi hm hx fun key h' hk ho ht hz kp => hQ key h' _ hk ?_
  have O₁ : Own B F S ((it, itOutO d (i + 1) kvs.length ep key v s.heap.objs.size) :: L) h' := O.turn kp ho
  refine ⟨O₁.keep, O₁.fr, O₁.ns, fun p hp => ?_, nodup_move O.nd fun q => Nat.lt_irrefl _ (O.lt _ q), fun x hx => ?_, O.sz⟩
  · rcases List.mem_cons.mp hp with rfl | hp
    · exact ⟨ht, O.none_size⟩
    · exact O₁.ob p hp
  · rcases mem_keys.mp hx with ⟨p, hp, rfl⟩ | ⟨p, hp, rfl⟩ | ⟨p, hp, rfl⟩
    · exact O.lo _ (mem_keys.mpr (.inl ⟨p, hp, rfl⟩))
    · exact O.lo _ (mem_keys.mpr (.inr (.inl ⟨p, hp, rfl⟩)))
    · rcases List.mem_cons.mp hp with rfl | hp
      · exact O.size_lt
      · exact O₁.lo _ (mem_keys.mpr (.inr (.inr ⟨p, hp, rfl⟩)))
theorem last_items {it d : Addr} {i ep : Nat} {kvs : List (K × Value)} {ok ov : Value} {Q : Option Value → Shared → Prop} (hh : A.handled = none) (O : Own B F S ((it, itO d i kvs.length ep ok ov) :: L) s.heap) (hm : s.heap.DictAt knd d kvs ep) (hx : kvs[i]? = none)
    (hQ : ∀ h', Own B F S L h' → Q none { s with heap := h' }) :
    wpAny (model prog w) A (pyNext (.ref it)) Q E s := by
  refine wpAny_pyNext_items_end hh (O.ob _ (.head _)).1 hm hx fun h' he => hQ h' ?_
  have nd := O.nd
  rw [List.map_cons, nodup_app, nodup_app, List.nodup_cons] at nd
  obtain ⟨_, ⟨_, ⟨n1, _⟩, n2⟩, n3⟩ := nd
  have e0 := (O.ob _ (.head _)).2
  have O' := O.dropL
  refine ⟨fun b x e => ?_, fun p hp => ⟨?_, (O.fr p hp).2⟩, fun p hp => ⟨?_, (O.ns p hp).2⟩, fun p hp => ?_, O'.nd, O'.lo, O.sz⟩
  · exact he b x (fun q => by rw [q] at e; rw [e0] at e; cases e) (O.keep b x e)
  · obtain ⟨x, es, ep, a1, r⟩ := (O.fr p hp).1
    exact ⟨x, es, ep, he _ _ (fun q => n3 p.1 (List.mem_map.mpr ⟨p, hp, rfl⟩) (List.mem_append_right _ (q ▸ .head _))) a1, r⟩
  · obtain ⟨x, es, ep, a1, r⟩ := (O.ns p hp).1
    exact ⟨x, es, ep, he _ _ (fun q => n2 p.1 (List.mem_map.mpr ⟨p, hp, rfl⟩) (q ▸ .head _)) a1, r⟩
  · exact ⟨he _ _ (fun q => n1 (List.mem_map.mpr ⟨p, hp, q⟩)) (O.ob p (.tail _ hp)).1, (O.ob p (.tail _ hp)).2⟩
theorem letgo_items {elts : List Expr} {x1} {pos : Pos} {it d a : Addr} {i n ep : Nat} {ok ov : Value} {o : Obj} {Q : Unit → Shared → Prop} (O : Own B F S ((a, o) :: (it, itOutO d i n ep ok ov a) :: L) s.heap)
    (hQ : ∀ h', Own B F S ((a, o) :: (it, itO d i n ep ok ov) :: L) h' → Q () { s with heap := h' }) : wpAny (model prog w) A (letOwnedTupleGo (.Tuple elts x1 pos) (.ref it) (.ref a)) Q E s := by
  have O₁ := O.permL (.swap ..)
  exact wpAny_letOwnedTupleGo_items (O₁.ob _ (.head _)).1 fun h' hi hs => hQ h' ((O₁.put hs hi).permL (.swap ..))
theorem unpack2 {env : Env} {x1} {xk xv : Str} {pk pv pos : Pos} {a Lf : Addr} {u v : Value} {l l₁ l₂ : List (Str × Value)} {Q : Unit → Shared → Prop} (hh : A.handled = none) (O : Own B ((Lf, l) :: F) S L s.heap) (ht : s.heap.IsTuple a #[u, v])
    (h1 : Put l xk u l₁) (h2 : Put l₁ xv v l₂) (hQ : ∀ h' tk, Own B ((Lf, l₂) :: F) S L h' → Q () { s with heap := h', toks := tk })
    (he : env.locals = Lf := by rfl) (hk : env.kindOf xk = some .local := by rfl) (hv : env.kindOf xv = some .local := by rfl) (hp : (env.scope.kind == .class || (env.scope.kind == .module && env.locals != env.globals)) = false := by rfl) :
    wpAny (model prog w) A (assign (.Tuple [.Name xk pk, .Name xv pv] x1 pos) env (.ref a)) Q E s := by
  refine wpAny_assign_Tuple hh ht rfl rfl fun h₃ hx₃ => ?_
  have O₃ : Own B ((Lf, l) :: F) S L h₃ := by
    refine ⟨fun b x e => ?_, fun p hp => ⟨?_, (O.fr p hp).2⟩, fun p hp => ⟨?_, (O.ns p hp).2⟩, fun p hp => ?_, O.nd, O.lo, O.sz⟩
    · exact hx₃ b x (Nat.ne_of_lt (Heap.lt_size (O.keep b x e))) (O.keep b x e)
    · exact (O.fr p hp).1.at' fun o x => hx₃ _ o (Nat.ne_of_lt (O.fr p hp).1.lt) x
    · obtain ⟨x, es, ep, a1, r⟩ := (O.ns p hp).1
      exact ⟨x, es, ep, hx₃ _ _ (Nat.ne_of_lt (Heap.lt_size a1)) a1, r⟩
    · exact ⟨hx₃ _ _ (Nat.ne_of_lt (Heap.lt_size (O.ob p hp).1)) (O.ob p hp).1, (O.ob p hp).2⟩
  show wpAny _ _ (do holding [v] (assign (.Name xk pk) env u); do holding [] (assign (.Name xv pv) env v); pure ()) _ _ _
  refine wpAny_bind (wpAny_holding (wpAny_assign_Name (st_loc (s := { s with heap := h₃ }) O₃ h1 (fun h₄ O₄ => ?_) he hk hp)))
  exact wpAny_bind (wpAny_holding (wpAny_assign_Name (st_loc (s := ⟨h₄, s.gens, s.drawn, s.toks + 1, s.os⟩) O₄ h2 (fun h₅ O₅ => wpAny_pure (hQ h₅ _ O₅)) he hv hp)))
end
-- SG
namespace SF
theorem slot_wget : Slot "wrapper_descriptor" "__get__" "wrapper_descriptor.__get__" := .of (owner := "wrapper_descriptor") (n := "__get__") (by rw [typeLookup_type, builtinLookup_eq_fast]; kernel_rfl) (by decide +kernel) (by decide +kernel) (by decide +kernel)
  (by first | exact .inl (by decide +kernel) | exact .inr (by decide +kernel)) (by rw [isSubtype_type]; kernel_rfl)
theorem type_dict_init : typeOf (.builtin "dict.__init__") = pure (.type "wrapper_descriptor") := by kernel_rfl
theorem type_object_init : typeOf (.builtin "object.__init__") = pure (.type "wrapper_descriptor") := by kernel_rfl
end SF
section
variable {w : World} {A : Around} {E : Value → Shared → Prop} {h : Heap} {g : Array GenState} {d : Drawn} {t : Nat} {os : OsState}
abbrev mwO (id : String) (x : Addr) : Obj := { cls := .type "method-wrapper", data := .fields #[.builtin id, .ref x] }
theorem super_ga {so D x C : Addr} {id : String} {l₀ l : List Value} {K : Frag} {name : Str} {tk : Tok} {Q : Fin → Shared → Prop}
    (hso : h.get? so = some { cls := .type "super", dict := none, data := .fields #[.ref D, .ref x, .ref C], slots := #[] }) (hno : Looks (model prog w) h (opaqueClassAbove (.ref C)) none)
    (hC : Looks (model prog w) h (mroOf (.ref C)) l₀) (hl : (l₀.dropWhile (· != .ref D)).drop 1 = l) (X : K.In h)
    (hf : alongIn K name l = some (some (.builtin id))) (hty : typeOf (.builtin id) = pure (.type "wrapper_descriptor")) (hxC : x ≠ C) (hn : (name == ("__class__" : Str)) = false)
    (hcall : ∀ (Q' : Value → Shared → Prop), (∀ h' t' a, (∀ b o, h.get? b = some o → h'.get? b = some o) → h.get? a = none → h'.get? a = some (mwO id x) → Q' (.ref a) ⟨h', g, d, t', os⟩) → wpAny (model prog w) A (call (.builtin "wrapper_descriptor.__get__") [.builtin id, .ref x, .ref C]) Q' E ⟨h, g, d, t, os⟩)
    (hq : ∀ h' t' a, (∀ b o, h.get? b = some o → h'.get? b = some o) → h.get? a = none → h'.get? a = some (mwO id x) → Q (.done (.ret (.ref a))) ⟨h', g, d, t', os⟩) :
    wpAny (model prog w) A (Builtin.«super.__getattribute__» ⟨[.ref so, .str name tk], []⟩) Q E ⟨h, g, d, t, os⟩ := by
  have hlk := SF.slot_wget.lookup
  have hne : (Value.ref x == Value.ref C) = false := by simp [hxC]
  have hdt : ({ cls := .type "super", dict := none, data := .fields #[.ref D, .ref x, .ref C], slots := #[] } : Obj).data = .fields #[.ref D, .ref x, .ref C] := rfl
  have f0 : (#[.ref D, .ref x, .ref C] : Array Value)[0]? = some (.ref D) := rfl
  have f1 : (#[.ref D, .ref x, .ref C] : Array Value)[1]? = some (.ref x) := rfl
  have f2 : (#[.ref D, .ref x, .ref C] : Array Value)[2]? = some (.ref C) := rfl
  unfold Builtin.«super.__getattribute__»
  repeat (first
    | (with_reducible refine wpAny_field hso hdt f0 ?_) | (with_reducible refine wpAny_field hso hdt f1 ?_) | (with_reducible refine wpAny_field hso hdt f2 ?_)
    | (with_reducible refine ks_wpAny_notOpaque hno ?_)
    | (with_reducible refine Looks.at hC ?_; rw [hl])
    | (refine ks_forIn_along X (fun _ _ => rfl) rfl ?_ hf)
    | (with_reducible refine wpAny_of_eq hty ?_)
    | (with_reducible refine wpAny_of_eq hlk ?_)
    | (with_reducible refine hcall _ ?_)
    | (simp only [hn, hne, Bool.or_false, Bool.false_eq_true, if_false])
    | wp_step
    | dsimp only)
  all_goals (intro h' t' a k n o; repeat (first | exact hq h' t' a k n o | wp_step | dsimp only))
theorem super_get {so D x C : Addr} {id : String} {l₀ l : List Value} {K : Frag} {name : Str} {pl : Sem Bool} {Q : Value × List Value → Shared → Prop}
    (hso : h.get? so = some { cls := .type "super", dict := none, data := .fields #[.ref D, .ref x, .ref C], slots := #[] }) (hno : Looks (model prog w) h (opaqueClassAbove (.ref C)) none)
    (hC : Looks (model prog w) h (mroOf (.ref C)) l₀) (hl : (l₀.dropWhile (· != .ref D)).drop 1 = l) (X : K.In h)
    (hf : alongIn K name l = some (some (.builtin id))) (hty : typeOf (.builtin id) = pure (.type "wrapper_descriptor")) (hxC : x ≠ C) (hn : (name == ("__class__" : Str)) = false)
    (hcall : ∀ (A' : Around) (E : Value → Shared → Prop) (t : Nat) (Q' : Value → Shared → Prop), A'.handled = none → A'.depth ≤ A.depth → A'.units ≤ A.units + 5 → (∀ h' t' a, (∀ b o, h.get? b = some o → h'.get? b = some o) → h.get? a = none → h'.get? a = some (mwO id x) → Q' (.ref a) ⟨h', g, d, t', os⟩) → wpAny (model prog w) A' (call (.builtin "wrapper_descriptor.__get__") [.builtin id, .ref x, .ref C]) Q' E ⟨h, g, d, t, os⟩)
    (hh : A.handled = none)
    (hq : ∀ h' t' a, (∀ b o, h.get? b = some o → h'.get? b = some o) → h.get? a = none → h'.get? a = some (mwO id x) → Q (.ref a, []) ⟨h', g, d, t', os⟩) :
    wpAny (model prog w) A (getMethod (.ref so) name pl) Q E ⟨h, g, d, t, os⟩ := by
  have hlk := F.ks_slot_super_ga.lookup
  have hcan := F.ks_canon_super_ga
  have hT : ∀ t', (⟨h, g, d, t', os⟩ : Shared).TypeIs (.ref so) "super" := fun _ => ⟨_, hso, rfl⟩
  unfold getMethod
  refine wpAny_bind (wpAny_specialOf (hT _) hlk ?_)
  show wpAny _ _ (if (Manifest.canonical "super.__getattribute__" != "object.__getattribute__") = true then _ else _) _ _ _
  rw [if_pos hcan]
  unfold getAttr getAttrBy
  refine wpAny_bind (wpAny_bind (wpAny_mkText (wpAny_holding (wpAny_bind (wpAny_typeOf (hT _) (wpAny_bind (wpAny_of_eq hlk ?_)))))))
  show wpAny _ _ (getAttrByItsOwn (.ref so) (.str name t) (.type "super") (.builtin "super.__getattribute__") true false) _ _ _
  unfold getAttrByItsOwn hookBefore callGetattribute boundAndCalled
  refine wpAny_bind (wpAny_of_eq (show (if onTheHeap (.type "super") then typeLookup (.type "super") "__getattr__" else pure none) = pure none from rfl) ?_)
  refine wpAny_bind (wpAny_attempt (wpAny_holding ?_))
  show wpAny _ _ (bindSpecial (.builtin "super.__getattribute__") (.ref so) >>= _) _ _ _
  refine wpAny_bind (wpAny_of_eq (F.ks_slot_super_ga.bind _) ?_)
  refine wpAny_mono (Q := fun v s' => ∃ h' t' a, v = .ref a ∧ s' = ⟨h', g, d, t', os⟩ ∧ (∀ b o, h.get? b = some o → h'.get? b = some o) ∧ h.get? a = none ∧ h'.get? a = some (mwO id x)) (E := fun _ _ => False)
    (wpAny_call_entry F.ks_slot_super_ga (hT _) F.ks_entry_super_ga (super_ga hso hno hC hl X hf hty hxC hn (hcall _ _ _ · hh (Nat.le_refl _) (by show A.units + 1 ≤ A.units + 5; omega)) fun h' t' a k n o => ⟨_, rfl, h', t', a, rfl, rfl, k, n, o⟩) (F.ks_gaArgs_super _ _)) (fun v s' hv => ?_) fun _ _ z => z.elim
  obtain ⟨h', t', a, rfl, rfl, k, n, o⟩ := hv
  exact wpAny_pure (wpAny_pure (hq _ _ _ k n o))
end
-- N1
abbrev A1 : Around := { handled := none, depth := 990, frames := none, guards := none, units := 9800 }
theorem weaken {α : Type} {M : Model} {A A0 : Around} {t : Sem α} {Q : α → Shared → Prop} {E : Value → Shared → Prop} {s : Shared} (hh : A.handled = A0.handled) (hd : A.depth ≤ A0.depth) (hf : A0.frames = none) (hg : A0.guards = none) (hu : A.units ≤ A0.units)
    (x : wpAny M A0 t Q E s) : wpAny M A t Q E s := fun Γ p hΓ =>
  x Γ p ⟨hΓ.1.trans hh, Nat.le_trans hΓ.2.1 hd, (by intro l e; rw [hf] at e; cases e), (by intro l e; rw [hg] at e; cases e), Nat.le_trans hΓ.2.2.2.2 hu⟩
theorem toA1 {α : Type} {M : Model} {A : Around} {t : Sem α} {Q : α → Shared → Prop} {E : Value → Shared → Prop} {s : Shared} (hh : A.handled = none) (r : Room A 10) (x : wpAny M A1 t Q (fun _ _ => False) s) : wpAny M A t Q E s :=
  weaken hh (by have := r.1; show A.depth ≤ 990; omega) rfl rfl (by have := r.2; show A.units ≤ 9800; omega) (wpAny_mono x (fun _ _ z => z) fun _ _ z => z.elim)
section
variable {w : World} {A : Around} {E : Value → Shared → Prop} {s : Shared} {B : Heap} {F F' S S' : NsL} {L L' : ObL} {R : Result → Shared → Prop} {h : Heap}
theorem Wd.low (W : Wd w B) {a : Addr} (e : B.get? a = none) : 3 < a := by
  obtain ⟨mg, mb, T⟩ := W.T
  obtain ⟨_, ⟨o2, _, _, e2, _⟩, _⟩ := T.nolimit
  obtain ⟨o3, _, _, e3, _⟩ := T.g
  rcases Nat.lt_or_ge 3 a with q | q
  · exact q
  · have : @Eq Nat a 0 ∨ @Eq Nat a 1 ∨ @Eq Nat a 2 ∨ @Eq Nat a 3 := by omega
    rcases this with rfl | rfl | rfl | rfl
    · obtain ⟨o0, _, _, e0, _⟩ := T.b; rw [show (0 : Addr) = builtinsNs from rfl, e0] at e; cases e
    · obtain ⟨_, ⟨o1, _, _, e1, _⟩, _⟩ := W.seer.mods; rw [show (1 : Addr) = sysModules from rfl, e1] at e; cases e
    · rw [show (2 : Addr) = cStatics from rfl, e2] at e; cases e
    · rw [show (3 : Addr) = mainGlobals from rfl, e3] at e; cases e
theorem Own.addMany : ∀ {cells : ObL}, Own B F S L h → (∀ p ∈ cells, h.get? p.1 = some p.2 ∧ B.get? p.1 = none ∧ 3 < p.1 ∧ p.1 ∉ keysOf F S L) → (cells.map (·.1)).Nodup → Own B F S (cells ++ L) h
  | [], O, _, _ => O
  | p :: r, O, hc, nd => by
    have O' := Own.addMany O (fun q hq => hc q (.tail _ hq)) (List.nodup_cons.mp nd).2
    obtain ⟨a, b, c, d⟩ := hc p (.head _)
    have hn : p.1 ∉ F.map (·.1) ++ (S.map (·.1) ++ (r ++ L).map (·.1)) := by
      intro q
      rcases mem_keys.mp q with ⟨x, hx, e⟩ | ⟨x, hx, e⟩ | ⟨x, hx, e⟩
      · exact d (mem_keys.mpr (.inl ⟨x, hx, e⟩))
      · exact d (mem_keys.mpr (.inr (.inl ⟨x, hx, e⟩)))
      · rcases List.mem_append.mp hx with hx | hx
        · exact (List.nodup_cons.mp nd).1 (List.mem_map.mpr ⟨x, hx, e⟩)
        · exact d (mem_keys.mpr (.inr (.inr ⟨x, hx, e⟩)))
    refine ⟨O'.keep, O'.fr, O'.ns, fun q hq => ?_, nodup_move O'.nd hn, fun x hx => ?_, O.sz⟩
    · rcases List.mem_cons.mp hq with rfl | hq
      · exact ⟨a, b⟩
      · exact O'.ob q hq
    · rcases mem_keys.mp hx with ⟨y, hy, rfl⟩ | ⟨y, hy, rfl⟩ | ⟨y, hy, rfl⟩
      · exact O'.lo _ (mem_keys.mpr (.inl ⟨y, hy, rfl⟩))
      · exact O'.lo _ (mem_keys.mpr (.inr (.inl ⟨y, hy, rfl⟩)))
      · rcases List.mem_cons.mp hy with rfl | hy
        · exact c
        · exact O'.lo _ (mem_keys.mpr (.inr (.inr ⟨y, hy, rfl⟩)))
/-- a new object into the ledger, at an address that stood empty -/
theorem Own.addN {a : Addr} {o : Obj} {h h' : Heap} (O : Own B F S L h) (W : Wd w B) (ha : h.get? a = none) (k : ∀ b x, h.get? b = some x → h'.get? b = some x) (ho : h'.get? a = some o) : Own B F S ((a, o) :: L) h' := by
  have hB : B.get? a = none := by
    cases q : B.get? a with
    | none => rfl
    | some x => have := O.keep _ _ q; rw [ha] at this; cases this
  have := (O.keepF k).addMany (cells := [(a, o)]) (fun p hp => by
    rw [List.mem_singleton] at hp; subst hp
    refine ⟨ho, hB, W.low hB, fun q => ?_⟩
    rcases mem_keys.mp q with ⟨y, hy, e⟩ | ⟨y, hy, e⟩ | ⟨y, hy, e⟩
    · obtain ⟨x, _, _, z, _⟩ := (O.fr y hy).1; rw [e, ha] at z; cases z
    · obtain ⟨x, _, _, z, _⟩ := (O.ns y hy).1; rw [e, ha] at z; cases z
    · have z := (O.ob y hy).1; rw [e, ha] at z; cases z) (by simp)
  exact this
end
-- XM
section
open PySem.W.X
theorem mem_new {h₀ h : Heap} {a : Addr} {o : Obj} {r : List (Addr × Obj)} (D : Mem h₀ h [] ((a, o) :: r)) : (∀ b x, h₀.get? b = some x → h.get? b = some x) ∧ h₀.get? a = none ∧ h.get? a = some o :=
  ⟨fun b x e => D.keep b x e (by simp [away]), (D.nw _ (.head _)).2, (D.nw _ (.head _)).1⟩
end
-- K1
section
variable {w : World} {A : Around} {E : Value → Shared → Prop} {s : Shared} {B : Heap} {F F' S S' : NsL} {L L' : ObL} {R : Result → Shared → Prop} {h : Heap}
theorem nsb_empty {h : Heap} {a : Addr} (e : h.get? a = some emptyDict) : NsB h a [] :=
  ⟨emptyDict, #[], _, e, rfl, (fun x hx => by simp at hx), (fun _ => rfl), Nat.le_refl _⟩
/-- inside of a making -/
abbrev mk1 (A : Around) : Around := { A with depth := A.depth + 1, units := A.units + 1 }
theorem under_create {A : Around} {C : Addr} {rest : List Value} {kw : List (Str × Value)} : A.under (.builtin "type.__call__" ⟨.ref C :: rest, kw⟩) = mk1 A := by
  obtain ⟨hd, d, fr, gs, u⟩ := A
  have e1 : (Code.builtin "type.__call__" ⟨.ref C :: rest, kw⟩).weight = 1 := by kernel_rfl
  have e2 : (Code.builtin "type.__call__" ⟨.ref C :: rest, kw⟩).cUnits = 1 := by kernel_rfl
  have e3 : (Code.builtin "type.__call__" ⟨.ref C :: rest, kw⟩).envs = [] := by kernel_rfl
  have e4 : (Code.builtin "type.__call__" ⟨.ref C :: rest, kw⟩).guards = [] := by kernel_rfl
  simp only [Around.under, e1, e2, e3, e4, pushEnvs, pushGuards]
theorem Room.mk1 {A : Around} {n : Nat} (r : Room A (n + 1)) : Room (mk1 A) n :=
  ⟨by have := r.1; show A.depth + 1 + n < 1000; omega, by have := r.2; show A.units + 1 + 20 * n < 9900; omega⟩
theorem Fro.mk1 {A : Around} {ks : List Addr} (x : Fro A ks) : Fro (mk1 A) ks := ⟨x.fr, x.hd⟩
/-- an object of a class is made, with its dict in the ledger -/
theorem own_make {C f : Addr} {rest : List Value} {kw : List (Str × Value)} (O : Own B F S L s.heap) (W : Wd w B) (hm : makesIn (hd.heap_39 w.params) C = true)
    (hi : findIn (hd.heap_39 w.params) (.ref C) "__init__" = some (some (.ref f))) (hf : typeIn (hd.heap_39 w.params) (.ref f) = some (.type "function"))
    (k : ∀ B' x dx h', Le B B' → B'.get? x = some (instObj C dx) → Own B' F ((dx, []) :: S) L h' →
      codeAny (model prog w) (mk1 A) (.call (.ref f) ⟨.ref x :: rest, kw⟩) (InitBack x R) { s with heap := h' }) :
    codeAny (model prog w) A (.call (.ref C) ⟨rest, kw⟩) R s := by
  have X := O.X W
  have O₁ : Own B F ((s.heap.objs.size, []) :: S) L (s.heap.push emptyDict) := O.addS (Nat.le_refl _) (fun b x e => Heap.get?_push_of_some _ e) (nsb_empty (by heap_get))
  have O₂ := O₁.push (instObj C s.heap.objs.size)
  rw [Heap.size_push] at O₂
  obtain ⟨B', a, b, O₃⟩ := O₂.freeze1
  obtain ⟨hp, g, d, t, os⟩ := s
  refine make_core (makes_of X hm) (looks_findIn X hi) (fun self => bind_fn X self hf) (.inl rfl) ?_
  rw [under_create]
  exact k B' _ _ _ a b O₃
end
-- K5
section
variable {w : World} {A : Around} {E : Value → Shared → Prop} {s : Shared} {B : Heap} {F F' S S' : NsL} {L L' : ObL} {R : Result → Shared → Prop} {h : Heap}
theorem call_fnC {name qual : Str} {params : Arguments} {body : List Stmt} {scope : Scope} {dV kV doc pm cdv ct oc : Value} {an od : Option Addr} {osl : Array (Option Value)} {f cc : Addr} {args : Args} {fl : List (Str × Value)}
    (O : Own B F S L s.heap) (W : Wd w B)
    (ho : List.lookup f (hd.heap_39 w.params) = some ⟨oc, od, .func (ksFn name qual params body scope dV kV doc pm an cdv ct cc), osl⟩) (hcd : codeIn (hd.heap_39 w.params) cdv qual = true)
    (hroom : A.depth < recursionLimit) (hbind : BindsTo s (ksFn name qual params body scope dV kV doc pm an cdv ct cc) args fl.reverse)
    (h : ∀ Lf h₁, Own B ((Lf, fl) :: F) S L h₁ →
      _root_.PySem.wpAt (model prog w) (A.deeper (ksEnv qual scope Lf f cdv cc)) (.func body (ksEnv qual scope Lf f cdv cc)) (execs body (ksEnv qual scope Lf f cdv cc))
        (fun fl s' => R (.ok (.ret (match fl with | .ret v => v | _ => .none))) s') (fun _ _ => False) { s with heap := h₁, toks := s.toks + fl.length })
    (hloc : ∀ y ∈ fl.reverse, scope.names.lookup y.1 = some .local := by exact locs rfl)
    (hcell : ∀ x ∈ scope.names, x.2 ≠ .cell := by decide) (hco : scope.isCoroutine = false := by rfl) (hgen : scope.isGenerator = false := by rfl) (hk : scope.kind = .function := by rfl) :
    codeAny (model prog w) A (.call (.ref f) args) R s := by
  obtain ⟨mg, mb, T⟩ := W.T
  have X := O.X W
  refine ks_codeAny_call_defAt (fd := ksFn name qual params body scope dV kV doc pm an cdv ct cc) (body := body) (binds := fl.reverse) hroom (X _ _ ho) rfl (T.nolimit.keeps O.keep) (codeRec_of X hcd) rfl hbind hcell hloc (fun h₁ hns hk₁ => ?_) hco hgen hk
  rw [List.reverse_reverse] at hns
  rw [List.length_reverse]
  exact ks_wpAt_mono (h s.heap.objs.size h₁ (O.enter hk₁ hns)) (fun _ _ z => z) fun _ _ z => z.elim
/-- super() in a method -/
theorem super_node {body : List Stmt} {q : Str} {scope : Scope} {p0 p1 : Pos} {attr : Str} {whole : Sem Value} {fd : FuncData} {ar : Arg} {vs : Array Value} {file : Str} {tf : Tok} {oc ccl cl : Value} {od cdd cld : Option Addr} {osl ccs csl : Array (Option Value)} {cdD : ClassData} {Q : Value → Shared → Prop}
    {f cda cc D x C Lf : Addr} {fl : List (Str × Value)} {ox : Obj}
    (O : Own B ((Lf, fl) :: F) S L s.heap) (W : Wd w B)
    (hf : (hd.heap_39 w.params).lookup f = some ⟨oc, od, .func fd, osl⟩) (hp : (fd.params.posonlyargs ++ fd.params.args).head? = some ar) (hv : Loc fl ar.arg (.ref x)) (hx : s.heap.get? x = some ox) (hxc : ox.cls = .ref C) (hxn : ∀ c, ox.data ≠ .cls c)
    (hcode : (hd.heap_39 w.params).lookup cda = some ⟨ccl, cdd, .fields vs, ccs⟩) (hvs : vs[2]? = some (.str file tf)) (hfile : ((prog.main.file : Str) == file) = true)
    (hcell : (hd.heap_39 w.params).lookup cc = some ⟨cl, cld, .cell (some (.ref D)), csl⟩) (hD : clsIn (hd.heap_39 w.params) D = some cdD) (hsub : mroIn (hd.heap_39 w.params) C (.ref D) = some true) (hsuper : nsIn (hd.heap_39 w.params) mainGlobals "super" = some none)
    (hat : (attr == ("__class__" : Str)) = false) (hks : scope.names.lookup ("super" : Str) = some .globalImplicit) (hkc : scope.names.lookup ("__class__" : Str) = some .free) (hka : scope.names.lookup ar.arg = some .local) (hk : scope.kind = .function)
    (htop : (prog.main.scope.names.lookup ("super" : Str)).isSome = false) (hboot : bootBuiltins "super" = some (.type "super"))
    (h : ∀ so h', (∀ b o, s.heap.get? b = some o → h'.get? b = some o) → Own B ((Lf, fl) :: F) S ((so, ks_superObj D x C) :: L) h' → Q (.ref so) { s with heap := h' }) :
    _root_.PySem.wpAt (model prog w) A (.func body (ksEnv q scope Lf f (.ref cda) cc)) (attributeBase (.Call (.Name "super" p0) [] [] p1) attr (ksEnv q scope Lf f (.ref cda) cc) whole) Q E s := by
  obtain ⟨mg, mb, T⟩ := W.T
  have X := O.X W
  obtain ⟨hh, g, d, t, os⟩ := s
  obtain ⟨oD, hD1, hD2⟩ : ∃ oD, hh.get? D = some oD ∧ oD.data = .cls cdD := by
    unfold clsIn at hD
    split at hD
    · rename_i c d cd' sl ho
      cases hD
      exact ⟨_, X _ _ ho, rfl⟩
    · cases hD
  refine ks_wpAt_super_base (env := ksEnv q scope Lf f (.ref cda) cc) hks hkc hat rfl (X _ _ hf) rfl hp rfl (X _ _ hcode) rfl hvs hfile htop ?_
  refine ks_loadName_global hk hks (loadGlobal_builtin (env := ksEnv q scope Lf f (.ref cda) cc) (T.g.keeps O.keep) (mg_none_of W.X T.g hsuper) (T.b.keeps O.keep) ((T.builtins _ (by decide +kernel)).trans hboot) ⟨rfl, ?_⟩)
  refine wpAny_loadName_free hk hkc rfl ⟨_, X _ _ hcell, rfl⟩ ?_
  refine wpAny_loadName_local hk hka (O.fr _ (.head _)).1 hv.eq ?_
  refine ks_wpAny_isType_cls hD1 hD2 ⟨rfl, ?_⟩
  refine ks_wpAny_call_super hD1 hD2 hx hxc hxn (looks_mroIn X hsub) (fun h' e k => ?_)
  exact h _ _ k (O.addN W (by
    cases z : hh.get? hh.objs.size with
    | none => rfl
    | some o => exact absurd (Heap.lt_size z) (Nat.lt_irrefl _)) k e)
end
-- N3
section
variable {w : World} {A : Around} {E : Value → Shared → Prop} {s : Shared} {B : Heap} {F F' S S' : NsL} {L L' : ObL} {R : Result → Shared → Prop} {h : Heap}
theorem keeps_mw {M : Model} {a x : Addr} {id : String} (h : Heap) (X : h.get? a = some (mwO id x)) : ∃ k, (k = Keeper.frame ∨ k = Keeper.machine ∨ k = Keeper.boundFrame) ∧ Looks M h (keeperOf (.ref a)) k :=
  ⟨.machine, .inr (.inl rfl), (Looks.ld (part := none) X).andThen .now⟩
/-- the method that super() gives -/
theorem super_meth {so D x C Lf : Addr} {id : String} {ox : Obj} {name : Str} {pl : Sem Bool} {cd : ClassData} {fl : List (Str × Value)} {Q : Value × List Value → Shared → Prop}
    (O : Own B ((Lf, fl) :: F) S ((so, ks_superObj D x C) :: L) s.heap) (W : Wd w B) (r : Room A 20) (hh : A.handled = none) (hc : clsIn (hd.heap_39 w.params) C = some cd)
    (hx : s.heap.get? x = some ox) (hxc : ∀ c, ox.data ≠ .cls c)
    (hf : ks_superIn (hd.heap_39 w.params) C D name = some (some (.builtin id))) (hty : typeOf (.builtin id) = pure (.type "wrapper_descriptor")) (hn : (name == ("__class__" : Str)) = false)
    (hcall : ∀ t, wpAny (model prog w) A1 (call (.builtin "wrapper_descriptor.__get__") [.builtin id, .ref x, .ref C]) (fun v s' => ∃ a h' t', v = .ref a ∧ s' = ⟨h', s.gens, s.drawn, t', s.os⟩ ∧ (∀ b o, s.heap.get? b = some o → h'.get? b = some o) ∧ s.heap.get? a = none ∧ h'.get? a = some (mwO id x)) (fun _ _ => False) ⟨s.heap, s.gens, s.drawn, t, s.os⟩)
    (ho : nsIn (hd.heap_39 w.params) cStatics "thirdparty.any" = some none)
    (h : ∀ h' tk a, (∀ b o, s.heap.get? b = some o → h'.get? b = some o) → Own B ((Lf, fl) :: F) S ((a, mwO id x) :: (so, ks_superObj D x C) :: L) h' → Q (.ref a, []) { s with heap := h', toks := tk }) :
    wpAny (model prog w) A (getMethod (.ref so) name pl) Q E s := by
  have X := O.X W
  have hxC : x ≠ C := by
    rintro rfl
    unfold clsIn at hc
    split at hc
    · rename_i c d cd' sl ho
      have e := X _ _ ho
      rw [hx] at e; cases e
      exact hxc _ rfl
    · cases hc
  unfold ks_superIn at hf
  rw [hc] at hf
  obtain ⟨hp, g, d, t, os⟩ := s
  refine super_get (O.ob _ (.head _)).1 (looks_opaque X ho) (l₀ := cd.mro) (fun A Q E s k q => wpAny_bind ((looks_clsIn X hc) A _ E s k (wpAny_pure q))) rfl X hf hty hxC hn (fun A' E' t Q' e1 e2 e3 k => ?_) hh (fun h' t' a k n o => h h' t' a k (O.addN W n k o))
  refine weaken e1 (by have := r.1; show A'.depth ≤ 990; omega) rfl rfl (by have := r.2; show A'.units ≤ 9800; omega) (wpAny_mono (hcall t) (fun v s' z => ?_) fun _ _ z => z.elim)
  obtain ⟨a, h', t', rfl, rfl, z1, z2, z3⟩ := z
  exact k h' t' a z1 z2 z3
end
-- G1
section
variable {w : World} {A : Around} {E : Value → Shared → Prop} {s : Shared} {B : Heap} {F F' S S' : NsL} {L L' : ObL} {R : Result → Shared → Prop}

-- MemoryStorage.write
theorem c_mem_write {st sd : Addr} {vm v : Value} (O : Own B F ((sd, [("memory", vm)]) :: S) L s.heap) (W : Wd w B) (r : Room A 1) (hi : B.get? st = some (instObj 138 sd))
    (k : ∀ h' tk, Own B F ((sd, [("memory", v)]) :: S) L h' → R (.ok (.ret .none)) { s with heap := h', toks := tk }) :
    codeAny (model prog w) A (.call (.ref 135) ⟨[.ref st, v], []⟩) R s := by
  refine call_fn (fl := [("data", v), ("self", .ref st)]) O W (by k_is) (by k_is) r.depth (BindsTo.of_eq rfl) fun Lf h₁ O₁ => ?_
  refine wpAny_execs_cons (plainObj_wpAny_Assign_Attribute ?_)
  walk_at "nm"
  walk_at "nm"
  walk_at "set"
  intro h' O₂
  exact wpAny_execs_nil (k _ _ O₂.dropF)
-- MemoryStorage.read
theorem c_mem_read {st sd : Addr} {vm : Value} (O : Own B F ((sd, [("memory", vm)]) :: S) L s.heap) (W : Wd w B) (r : Room A 1) (hi : B.get? st = some (instObj 138 sd)) (hv : handedIn vm = true)
    (k : ∀ h' tk, Own B F ((sd, [("memory", vm)]) :: S) L h' → R (.ok (.ret vm)) { s with heap := h', toks := tk }) :
    codeAny (model prog w) A (.call (.ref 128) ⟨[.ref st], []⟩) R s := by
  refine call_fn (fl := [("self", .ref st)]) O W (by k_is) (by k_is) r.depth (BindsTo.of_eq rfl) fun Lf h₁ O₁ => ?_
  refine wpAny_execs_cons (wpAny_Return_some (Attribute_any_ ?_))
  walk_at "nm"
  refine get_at O₁ W hi (by walk_at "nsb") (by walk_at "loc") (by k_is) (by k_is) (by k_is) (by k_is) hv ?_
  exact k _ _ O₁.dropF
-- CachingMiddleware.flush
theorem c_flush {c cd st sd : Addr} {vm vc : Value} {n : Int} {tn : Tok} (O : Own B F ((cd, [("storage", .ref st), ("cache", vc), ("_cache_modified_count", .int n tn)]) :: (sd, [("memory", vm)]) :: S) L s.heap) (W : Wd w B) (r : Room A 3)
    (hc : B.get? c = some (instObj 66 cd)) (hi : B.get? st = some (instObj 138 sd)) (hv : handedIn vc = true)
    (k : ∀ h' tk tk', Own B F ((cd, [("storage", .ref st), ("cache", vc), ("_cache_modified_count", .int (if 0 < n then 0 else n) tk')]) :: (sd, [("memory", if 0 < n then vc else vm)]) :: S) L h' → R (.ok (.ret .none)) { s with heap := h', toks := tk }) :
    codeAny (model prog w) A (.call (.ref 56) ⟨[.ref c], []⟩) R s := by
  refine call_fn (fl := [("self", .ref c)]) O W (by k_is) (by k_is) r.depth (BindsTo.of_eq rfl) fun Lf h₁ O₁ => ?_
  refine wpAny_execs_cons (wpAny_If (wpAny_isTrue_Compare1 (Attribute_any_ ?_)))
  walk_at "nm"
  walk_at "get"
  refine wpAny_Constant_int (gt_int (wpAny_truthy_bool ?_))
  by_cases hn : 0 < n
  · simp only [hn, decide_true, if_true] at k ⊢
    refine wpAny_execs_cons (wpAny_Expr (MethodCall_ (Attribute_any_ ?_)))
    walk_at "nm"
    walk_at "get"
    walk_at "meth"
    walk_at "cw"
    walk_at "arg"
    refine Attribute_any_ ?_
    walk_at "nm"
    refine get_at O₁ W hc (by walk_at "nsb") (by walk_at "loc") (by k_is) (by k_is) (by k_is) (by k_is) hv ?_
    walk_at "args0"
    refine wpAny_call (c_mem_write (O₁.permS (.swap ..)) W (r.deeper.le (by decide)) hi fun h₂ tk O₂ => ?_)
    dsimp only
    refine wpAny_execs_cons (plainObj_wpAny_Assign_Attribute (wpAny_Constant_int ?_))
    walk_at "nm"
    walk_at "set"
    intro h' O₃
    exact wpAny_execs_nil (wpAny_execs_nil (k _ _ _ O₃.dropF))
  · simp only [hn, decide_false, if_false, Bool.false_eq_true] at k ⊢
    exact wpAny_execs_nil (wpAny_execs_nil (k _ _ _ O₁.dropF))
end
-- G2
section
variable {w : World} {A : Around} {E : Value → Shared → Prop} {s : Shared} {B : Heap} {F F' S S' : NsL} {L L' : ObL} {R : Result → Shared → Prop}
abbrev cachedNs (st : Addr) (v : Value) (n : Int) (tn : Tok) : List (Str × Value) := [("storage", .ref st), ("cache", v), ("_cache_modified_count", .int n tn)]
abbrev memNs (v : Value) : List (Str × Value) := [("memory", v)]
abbrev tableNs (st : Addr) (nm : Str) (tm : Tok) (q : Addr) (nx : Value) : List (Str × Value) := [("_storage", .ref st), ("_name", .str nm tm), ("_query_cache", .ref q), ("_next_id", nx)]
abbrev lruNs (d : Addr) (tc : Tok) : List (Str × Value) := [("capacity", .int 10 tc), ("cache", .ref d)]

-- CachingMiddleware.write
theorem c_write {c cd st : Addr} {vc v : Value} {n : Int} {tn : Tok} (O : Own B F ((cd, cachedNs st vc n tn) :: S) L s.heap) (W : Wd w B) (r : Room A 3)
    (hc : B.get? c = some (instObj 66 cd)) (hn : n < 900)
    (k : ∀ h' tk tk', Own B F ((cd, cachedNs st v (n + 1) tk') :: S) L h' → R (.ok (.ret .none)) { s with heap := h', toks := tk }) :
    codeAny (model prog w) A (.call (.ref 49) ⟨[.ref c, v], []⟩) R s := by
  refine call_fn (fl := [("data", v), ("self", .ref c)]) O W (by k_is) (by k_is) r.depth (BindsTo.of_eq rfl) fun Lf h₁ O₁ => ?_
  refine wpAny_execs_cons (plainObj_wpAny_Assign_Attribute ?_)
  walk_at "nm"
  walk_at "nm"
  walk_at "set"
  intro h₂ O₂
  refine wpAny_execs_cons (wpAny_AugAssign_AttributeAny ?_)
  walk_at "nm"
  walk_at "get"
  refine wpAny_Constant_int (iadd_int ?_)
  walk_at "set"
  intro h₃ O₃
  refine wpAny_execs_cons (wpAny_If (wpAny_isTrue_Compare1 (Attribute_any_ ?_)))
  walk_at "nm"
  walk_at "get"
  refine Attribute_any_ ?_
  walk_at "nm"
  walk_at "clsv"
  refine PyProof.Rows.ge_int (wpAny_truthy_bool ?_)
  rw [show decide ((1000 : Int) ≤ n + 1) = false from decide_eq_false (by omega)]
  exact wpAny_execs_nil (wpAny_execs_nil (k _ _ _ O₃.dropF))
-- CachingMiddleware.read, something there
theorem c_read_some {c cd st : Addr} {a : Addr} {n : Int} {tn : Tok} (O : Own B F ((cd, cachedNs st (.ref a) n tn) :: S) L s.heap) (W : Wd w B) (r : Room A 3)
    (hc : B.get? c = some (instObj 66 cd))
    (k : ∀ h' tk, Own B F ((cd, cachedNs st (.ref a) n tn) :: S) L h' → R (.ok (.ret (.ref a))) { s with heap := h', toks := tk }) :
    codeAny (model prog w) A (.call (.ref 42) ⟨[.ref c], []⟩) R s := by
  refine call_fn (fl := [("self", .ref c)]) O W (by k_is) (by k_is) r.depth (BindsTo.of_eq rfl) fun Lf h₁ O₁ => ?_
  refine wpAny_execs_cons (wpAny_If (wpAny_isTrue_Compare1 (Attribute_any_ ?_)))
  walk_at "nm"
  walk_at "get"
  refine wpAny_Constant_none (is_none_ne (by intro e; cases e) (wpAny_truthy_bool ?_))
  refine wpAny_execs_nil ?_
  refine wpAny_execs_cons (wpAny_Return_some (Attribute_any_ ?_))
  walk_at "nm"
  walk_at "get"
  exact k _ _ O₁.dropF
-- CachingMiddleware.read, nothing there
theorem c_read_none {c cd st sd : Addr} {n : Int} {tn : Tok} (O : Own B F ((cd, cachedNs st .none n tn) :: (sd, memNs .none) :: S) L s.heap) (W : Wd w B) (r : Room A 3)
    (hc : B.get? c = some (instObj 66 cd)) (hi : B.get? st = some (instObj 138 sd))
    (k : ∀ h' tk, Own B F ((cd, cachedNs st .none n tn) :: (sd, memNs .none) :: S) L h' → R (.ok (.ret .none)) { s with heap := h', toks := tk }) :
    codeAny (model prog w) A (.call (.ref 42) ⟨[.ref c], []⟩) R s := by
  refine call_fn (fl := [("self", .ref c)]) O W (by k_is) (by k_is) r.depth (BindsTo.of_eq rfl) fun Lf h₁ O₁ => ?_
  refine wpAny_execs_cons (wpAny_If (wpAny_isTrue_Compare1 (Attribute_any_ ?_)))
  walk_at "nm"
  walk_at "get"
  refine wpAny_Constant_none (is_none_none (wpAny_truthy_bool ?_))
  refine wpAny_execs_cons (plainObj_wpAny_Assign_Attribute (MethodCall_ (Attribute_any_ ?_)))
  walk_at "nm"
  walk_at "get"
  walk_at "meth"
  walk_at "cw0"
  refine wpAny_call (c_mem_read (O₁.permS (.swap ..)) W (r.deeper.le (by decide)) hi rfl fun h₂ tk O₂ => ?_)
  dsimp only
  walk_at "nm"
  walk_at "set"
  intro h₃ O₃
  refine wpAny_execs_nil ?_
  refine wpAny_execs_cons (wpAny_Return_some (Attribute_any_ ?_))
  walk_at "nm"
  walk_at "get"
  exact k _ _ O₃.dropF
-- CachingMiddleware.close
theorem c_close {c cd st sd : Addr} {vm vc : Value} {n : Int} {tn : Tok} (O : Own B F ((cd, cachedNs st vc n tn) :: (sd, memNs vm) :: S) L s.heap) (W : Wd w B) (r : Room A 4)
    (hc : B.get? c = some (instObj 66 cd)) (hi : B.get? st = some (instObj 138 sd)) (hv : handedIn vc = true)
    (k : ∀ h' tk tk', Own B F ((cd, cachedNs st vc (if 0 < n then 0 else n) tk') :: (sd, memNs (if 0 < n then vc else vm)) :: S) L h' → R (.ok (.ret .none)) { s with heap := h', toks := tk }) :
    codeAny (model prog w) A (.call (.ref 63) ⟨[.ref c], []⟩) R s := by
  refine call_fn (fl := [("self", .ref c)]) O W (by k_is) (by k_is) r.depth (BindsTo.of_eq rfl) fun Lf h₁ O₁ => ?_
  refine wpAny_execs_cons (wpAny_Expr (MethodCall_ ?_))
  walk_at "nm"
  walk_at "meth"
  walk_at "cw0"
  refine wpAny_call (c_flush O₁ W (r.deeper.le (by decide)) hc hi hv fun h₂ tk tk' O₂ => ?_)
  dsimp only
  refine wpAny_execs_cons (wpAny_Expr (MethodCall_ (Attribute_any_ ?_)))
  walk_at "nm"
  walk_at "get"
  walk_at "meth"
  walk_at "cw0"
  refine wpAny_call (call_fn (fl := [("self", .ref st)]) O₂ W (by k_is) (by k_is) (r.deeper.le (m := 2) (by decide)).depth (BindsTo.of_eq rfl) fun Lf' h₃ O₃ => ?_)
  refine wpAny_execs_cons (wpAny_Pass ?_)
  refine wpAny_execs_nil ?_
  exact wpAny_execs_nil (k _ _ _ O₃.dropF.dropF)
-- LRUCache.clear
theorem c_lru_clear {q qd d : Addr} {o : Obj} {tc : Tok} (O : Own B F S ((d, o) :: L) s.heap) (W : Wd w B) (r : Room A 3)
    (hq : B.get? q = some (instObj 238 qd)) (hqd : NsB B qd (lruNs d tc)) (hd : o.IsDictOf (intKind prog w) [])
    (k : ∀ h' tk o', o'.IsDictOf (intKind prog w) [] → Own B F S ((d, o') :: L) h' → R (.ok (.ret .none)) { s with heap := h', toks := tk }) :
    codeAny (model prog w) A (.call (.ref 178) ⟨[.ref q], []⟩) R s := by
  refine call_fn (fl := [("self", .ref q)]) O W (by k_is) (by k_is) r.depth (BindsTo.of_eq rfl) fun Lf h₁ O₁ => ?_
  refine wpAny_execs_cons (wpAny_Expr (MethodCall_ (Attribute_any_ ?_)))
  walk_at "nm"
  walk_at "get"
  refine m_clear O₁ .head hd (by decide) fun h₂ o' hd' O₂ => ?_
  exact wpAny_execs_nil (k _ _ _ hd' O₂.dropF)
-- Table.clear_cache
theorem c_clear_cache {t td st q qd d : Addr} {nm : Str} {tm tc : Tok} {nx : Value} {o : Obj} (O : Own B F ((td, tableNs st nm tm q nx) :: S) ((d, o) :: L) s.heap) (W : Wd w B) (r : Room A 4)
    (ht : B.get? t = some (instObj 426 td)) (hq : B.get? q = some (instObj 238 qd)) (hqd : NsB B qd (lruNs d tc)) (hd : o.IsDictOf (intKind prog w) [])
    (k : ∀ h' tk o', o'.IsDictOf (intKind prog w) [] → Own B F ((td, tableNs st nm tm q nx) :: S) ((d, o') :: L) h' → R (.ok (.ret .none)) { s with heap := h', toks := tk }) :
    codeAny (model prog w) A (.call (.ref 390) ⟨[.ref t], []⟩) R s := by
  refine call_fn (fl := [("self", .ref t)]) O W (by k_is) (by k_is) r.depth (BindsTo.of_eq rfl) fun Lf h₁ O₁ => ?_
  refine wpAny_execs_cons (wpAny_Expr (MethodCall_ (Attribute_any_ ?_)))
  walk_at "nm"
  walk_at "get"
  walk_at "meth"
  walk_at "cw0"
  refine wpAny_call (c_lru_clear O₁ W (r.deeper.le (by decide)) hq hqd hd fun h₂ tk o' hd' O₂ => ?_)
  exact wpAny_execs_nil (k _ _ _ hd' O₂.dropF)
end
-- G3
section
variable {w : World} {A : Around} {E : Value → Shared → Prop} {s : Shared} {B : Heap} {F F' S S' : NsL} {L L' : ObL} {R : Result → Shared → Prop} {h : Heap}

/-- what the storage's read() tells -/
def StRead (w : World) (B : Heap) (S : NsL) (st : Addr) (v : Value) : Prop :=
  ∀ {A : Around} {E : Value → Shared → Prop} {s : Shared} {B' : Heap} {F : NsL} {L : ObL} {Q : Value → Shared → Prop} {pl : Sem Bool} {pos : Pos} {env : Env}, Le B B' → Own B' F S L s.heap → Wd w B' → Room A 4 →
    (∀ h' tk, Own B' F S L h' → Q v { s with heap := h', toks := tk }) →
    wpAny (model prog w) A (getMethod (.ref st) "read" pl) (fun fx s₂ => wpAny (model prog w) A (callWith pos fx.1 fx.2 (backTo pos (starEach [] env)) []) Q E s₂) E s

/-- an object that stands, in B or in L -/
def Kn (B : Heap) (L : ObL) (a : Addr) (o : Obj) : Prop := B.get? a = some o ∨ (a, o) ∈ L
theorem Kn.le {B B' : Heap} {a : Addr} {o : Obj} (x : Kn B L a o) (k : Le B B') : Kn B' L a o := x.imp (k _ _) id
theorem Kn.cons {a : Addr} {o : Obj} {p : Addr × Obj} (x : Kn B L a o) : Kn B (p :: L) a o := x.imp id (.tail _)
theorem Own.kn {a : Addr} {o : Obj} (O : Own B F S L h) (x : Kn B L a o) : h.get? a = some o := x.elim (O.keep _ _) fun m => (O.ob _ m).1
theorem Own.knDict {K : Type} [DecidableEq K] {knd : KeyKind prog w K} {a : Addr} {o : Obj} {kvs : List (K × Value)} (O : Own B F S L h) (x : Kn B L a o) (hd : o.IsDictOf knd kvs) : h.DictOf knd a kvs := Heap.dictOf_iff.mpr ⟨o, O.kn x, hd⟩

/-- the table of that name in what read() told -/
inductive TabIs (w : World) (B : Heap) (L : ObL) (nm : Str) : Value → List (Str × Value) → Prop
  | none : TabIs w B L nm .none []
  | found {T : Addr} {o : Obj} {kvs : List (Str × Value)} {a : Addr} {inner : List (Str × Value)} : Kn B L T o → o.IsDictOf (strKind prog w) kvs → valueAt kvs nm = some (.ref a) → (a == sysModules) = false → B.DictOf (strKind prog w) a inner → TabIs w B L nm (.ref T) inner
  | missing {T : Addr} {o : Obj} {kvs : List (Str × Value)} : (T == sysModules) = false → Kn B L T o → o.IsDictOf (strKind prog w) kvs → valueAt kvs nm = none → TabIs w B L nm (.ref T) []

-- Table.name
theorem c_name {t td st q : Addr} {nm : Str} {tm : Tok} {nx : Value} (O : Own B F S L s.heap) (W : Wd w B) (r : Room A 1) (ht : B.get? t = some (instObj 426 td)) (hm : (td, tableNs st nm tm q nx) ∈ S)
    (k : ∀ h' tk, Own B F S L h' → R (.ok (.ret (.str nm tm))) { s with heap := h', toks := tk }) :
    codeAny (model prog w) A (.call (.ref 287) ⟨[.ref t], []⟩) R s := by
  refine call_fn (fl := [("self", .ref t)]) O W (by k_is) (by k_is) r.depth (BindsTo.of_eq rfl) fun Lf h₁ O₁ => ?_
  refine wpAny_execs_cons (wpAny_Return_some (Attribute_any_ ?_))
  walk_at "nm"
  walk_at "get"
  exact k _ _ O₁.dropF
-- Table._read_table
theorem c_read_table {t td st q : Addr} {nm : Str} {tm : Tok} {nx v : Value} {inner : List (Str × Value)} (O : Own B F S L s.heap) (W : Wd w B) (r : Room A 6) (Fo : Fro A (F.map (·.1))) (ht : B.get? t = some (instObj 426 td)) (hm : (td, tableNs st nm tm q nx) ∈ S)
    (rd : StRead w B S st v) (tb : TabIs w B L nm v inner)
    (k : ∀ B' h' tk a, Le B B' → (a == sysModules) = false → B'.DictOf (strKind prog w) a inner → Own B' F S L h' → R (.ok (.ret (.ref a))) { s with heap := h', toks := tk }) :
    codeAny (model prog w) A (.call (.ref 418) ⟨[.ref t], []⟩) R s := by
  refine call_fn (fl := [("self", .ref t)]) O W (by k_is) (by k_is) r.depth (BindsTo.of_eq rfl) fun Lf h₁ O₁ => ?_
  refine wpAny_execs_cons (wpAny_Assign_Name (MethodCall_ (Attribute_any_ ?_)))
  walk_at "nm"
  walk_at "get"
  refine rd (.refl B) O₁ W (r.deeper.le (by decide)) fun h₂ tk O₂ => ?_
  walk_at "st"
  intro h₃ O₃
  dsimp only
  refine wpAny_execs_cons (wpAny_If (wpAny_isTrue_Compare1 ?_))
  walk_at "nm"
  cases tb with
  | none =>
    refine wpAny_Constant_none (is_none_none (wpAny_truthy_bool ?_))
    refine wpAny_execs_cons (wpAny_Return_some (newD O₃ fun h₄ d _ O₄ => ?_))
    obtain ⟨B', kB, hb, O₅⟩ := O₄.freeze1
    exact k B' _ _ d kB (O₄.notSysL (.head _)) (Heap.dictOf_iff.mpr ⟨_, hb, empty_of _⟩) O₅.dropF
  | @found T oT kvs a inner hT hd hv haS hi =>
    refine wpAny_Constant_none (is_none_ne (by intro e; cases e) (wpAny_truthy_bool ?_))
    refine wpAny_execs_nil ?_
    refine wpAny_execs_cons (wpAny_Try_except ?_)
    refine wpAny_execs_cons (wpAny_Assign_Name (Subscript_ ?_))
    walk_at "nm"
    refine Attribute_any_ ?_
    walk_at "nm"
    refine prop_at O₃ W ht (Own.nsAt O₃ hm) (by k_is) (by k_is) (by k_is) (by k_is) (by k_is) (by k_is) (c_name (R := fun r s' => match r with | .ok (.ret v) => handedIn v = true ∧ _ | _ => False) O₃ W (r.deeper.in1.le (by decide)) ht hm fun h₄ tk₄ O₄ => ⟨rfl, ?_⟩)
    have hm4 := O₄.knDict hT hd
    refine subscriptTail_builtin hm4.mapOf.typeIs PySem.F.slot_dict_getitem.lookup ?_
    refine wpAny_getItem_of (knd := strKind prog w) (k := nm) (strKind_is ..) hm4.mapOf hv ?_
    walk_at "st"
    intro h₅ O₅
    refine wpAny_execs_nil (wpAny_execs_nil ?_)
    refine wpAny_execs_cons (wpAny_Return_some ?_)
    walk_at "nm"
    exact k B _ _ a (.refl B) haS hi O₅.dropF
  | @missing T oT kvs hT0 hT hd hv =>
    refine wpAny_Constant_none (is_none_ne (by intro e; cases e) (wpAny_truthy_bool ?_))
    refine wpAny_execs_nil ?_
    refine wpAny_execs_cons (wpAny_Try_except ?_)
    refine wpAny_execs_cons (wpAny_Assign_Name (Subscript_ ?_))
    walk_at "nm"
    refine Attribute_any_ ?_
    walk_at "nm"
    refine prop_at O₃ W ht (Own.nsAt O₃ hm) (by k_is) (by k_is) (by k_is) (by k_is) (by k_is) (by k_is) (c_name (R := fun r s' => match r with | .ok (.ret v) => handedIn v = true ∧ _ | _ => False) O₃ W (r.deeper.in1.le (by decide)) ht hm fun h₄ tk₄ O₄ => ⟨rfl, ?_⟩)
    have hm4 := O₄.knDict hT hd
    refine subscriptTail_builtin hm4.mapOf.typeIs PySem.F.slot_dict_getitem.lookup ?_
    refine wpAny_getItem_missing_of (knd := strKind prog w) (k := nm) (strKind_is ..) hT0 Fo.hd hm4.mapOf hv ?_
    intro h₅ e hx
    refine caught (F := (Lf, _) :: F) (s := ⟨h₄, s.gens, s.drawn, tk₄, s.os⟩) O₄ W (Fo.deeper (by intro q; cases q) rfl) (let ⟨o, a, _⟩ := Fo.fr; ⟨o, Around.frames_deeper a⟩) rfl hx fun h₆ tk₆ O₆ => ?_
    refine wpAny_execs_cons (wpAny_Return_some (newD O₆ fun h₇ d _ O₇ => ?_))
    obtain ⟨B', kB, hb, O₈⟩ := O₇.freeze1
    exact k B' _ _ d kB (O₇.notSysL (.head _)) (Heap.dictOf_iff.mpr ⟨_, hb, empty_of _⟩) O₈.dropF
end
-- K2
section
variable {w : World} {A : Around} {E : Value → Shared → Prop} {s : Shared} {B : Heap} {F F' S S' : NsL} {L L' : ObL} {R : Result → Shared → Prop} {h : Heap}
-- CachingMiddleware(storage)
theorem c_cached_new {st : Addr} (O : Own B F S L s.heap) (W : Wd w B) (r : Room A 12)
    (k : ∀ B' h' tk c cd tn, Le B B' → B'.get? c = some (instObj 66 cd) → Own B' F ((cd, cachedNs st .none 0 tn) :: S) L h' → R (.ok (.ret (.ref c))) { s with heap := h', toks := tk }) :
    codeAny (model prog w) A (.call (.ref 66) ⟨[.ref st], []⟩) R s := by
  refine own_make O W (by k_is) (by k_is) (by k_is) fun B₁ x dx h₁ kB hx O₁ => ?_
  have W₁ := W.le kB
  refine call_fn (s := { s with heap := h₁ }) (fl := [("storage", .ref st), ("self", .ref x)]) O₁ W₁ (by k_is) (by k_is) (Room.mk1 (n := 11) r).depth (BindsTo.of_eq rfl) fun Lf h₂ O₂ => ?_
  refine wpAny_execs_cons (plainObj_wpAny_Assign_Attribute ?_)
  walk_at "nm"
  walk_at "nm"
  walk_at "set"
  intro h₃ O₃
  dsimp only
  refine wpAny_execs_cons (plainObj_wpAny_Assign_Attribute (wpAny_Constant_none ?_))
  walk_at "nm"
  walk_at "set"
  intro h₄ O₄
  dsimp only
  refine wpAny_execs_cons (plainObj_wpAny_Assign_Attribute (wpAny_Constant_int ?_))
  walk_at "nm"
  walk_at "set"
  intro h₅ O₅
  dsimp only
  exact wpAny_execs_nil ⟨rfl, k B₁ h₅ _ x dx _ kB hx O₅.dropF⟩
end
-- K3
section
variable {w : World} {A : Around} {E : Value → Shared → Prop} {s : Shared} {B : Heap} {F F' S S' : NsL} {L L' : ObL} {R : Result → Shared → Prop} {h : Heap}
-- LRUCache(capacity=10)
theorem c_lru_new {tc : Tok} (O : Own B F S L s.heap) (W : Wd w B) (r : Room A 12)
    (k : ∀ B' h' tk q qd dq, Le B B' → B'.get? q = some (instObj 238 qd) → NsB B' qd (lruNs dq tc) → Own B' F S ((dq, emptyDict) :: L) h' → R (.ok (.ret (.ref q))) { s with heap := h', toks := tk }) :
    codeAny (model prog w) A (.call (.ref 238) ⟨[], [("capacity", .int 10 tc)]⟩) R s := by
  refine own_make O W (by k_is) (by k_is) (by k_is) fun B₁ x dx h₁ kB hx O₁ => ?_
  have W₁ := W.le kB
  refine call_fn (s := { s with heap := h₁ }) (fl := [("capacity", .int 10 tc), ("self", .ref x)]) O₁ W₁ (by k_is) (by k_is) (Room.mk1 (n := 11) r).depth (kp_binds (O₁.X W₁) (fun _ => by kernel_rfl)) fun Lf h₂ O₂ => ?_
  refine wpAny_execs_cons (plainObj_wpAny_Assign_Attribute ?_)
  walk_at "nm"
  walk_at "nm"
  walk_at "set"
  intro h₃ O₃
  dsimp only
  refine wpAny_execs_cons (plainObj_wpAny_Assign_Attribute (newD (s := ⟨h₃, s.gens, s.drawn, _, s.os⟩) O₃ fun h₄ dq _ O₄ => ?_))
  walk_at "nm"
  walk_at "set"
  intro h₅ O₅
  dsimp only
  obtain ⟨B₂, k2, n2, O₆⟩ := O₅.dropF.freezeS
  exact wpAny_execs_nil ⟨rfl, k B₂ h₅ _ x dx dq (kB.trans k2) (k2 _ _ hx) n2 O₆⟩
end
-- K4
section
variable {w : World} {A : Around} {E : Value → Shared → Prop} {s : Shared} {B : Heap} {F F' S S' : NsL} {L L' : ObL} {R : Result → Shared → Prop} {h : Heap}
theorem Call_KW {M : Model} {env : Env} {func : Expr} {args : List Expr} {kws : List Keyword} {pos : Pos} {Q : Value → Shared → Prop}
    (h : wpAny M A (eval func env) (fun f s₁ => wpAny M A (callWith pos f [] (backTo pos (starEach args env)) (backToKw pos (keywordEach kws env))) Q E s₁) E s)
    (he : eval (.Call func args kws pos) env = (do callWith pos (← eval func env) [] (backTo pos (starEach args env)) (backToKw pos (keywordEach kws env))) := by rfl) :
    wpAny M A (eval (.Call func args kws pos) env) Q E s := by
  rw [he]; exact wpAny_bind h
-- Table(storage, name)
theorem c_table_new {c : Addr} {nm : Str} {tm : Tok} (O : Own B F S L s.heap) (W : Wd w B) (r : Room A 20)
    (k : ∀ B' h' tk t td q qd dq tc, Le B B' → B'.get? t = some (instObj 426 td) → B'.get? q = some (instObj 238 qd) → NsB B' qd (lruNs dq tc) → Own B' F ((td, tableNs c nm tm q .none) :: S) ((dq, emptyDict) :: L) h' → R (.ok (.ret (.ref t))) { s with heap := h', toks := tk }) :
    codeAny (model prog w) A (.call (.ref 426) ⟨[.ref c, .str nm tm], []⟩) R s := by
  refine own_make O W (by k_is) (by k_is) (by k_is) fun B₁ x dx h₁ kB hx O₁ => ?_
  have W₁ := W.le kB
  have r₁ : Room (mk1 A) 19 := r.mk1
  refine call_fn (s := { s with heap := h₁ }) (fl := [("persist_empty", .bool false), ("cache_size", .int 10 511), ("name", .str nm tm), ("storage", .ref c), ("self", .ref x)]) O₁ W₁ (by k_is) (by k_is) r₁.depth (kp_binds (O₁.X W₁) (fun _ => by kernel_rfl)) fun Lf h₂ O₂ => ?_
  refine wpAny_execs_cons (plainObj_wpAny_Assign_Attribute ?_)
  walk_at "nm"
  walk_at "nm"
  walk_at "set"
  intro h₃ O₃
  dsimp only
  refine wpAny_execs_cons (plainObj_wpAny_Assign_Attribute ?_)
  walk_at "nm"
  walk_at "nm"
  walk_at "set"
  intro h₄ O₄
  dsimp only
  refine wpAny_execs_cons (plainObj_wpAny_Assign_Attribute (Call_KW ?_))
  walk_at "nm"
  refine callWith_KW0 (O₄.X W₁) (by k_is) rfl (kwAll_cons ?_)
  walk_at "nm"
  refine kwAll_nil ⟨O₄.X W₁, wpAny_call (c_lru_new (s := ⟨h₄, s.gens, s.drawn, _, s.os⟩) O₄ W₁ ((r₁.deeper (n := 18)).le (by decide)) fun B₂ h₅ tk₂ q qd dq k2 hq nq O₅ => ?_)⟩
  have W₂ := W₁.le k2
  have hx := k2 _ _ hx
  walk_at "nm"
  walk_at "set"
  intro h₆ O₆
  dsimp only
  refine wpAny_execs_cons (plainObj_wpAny_Assign_Attribute (wpAny_Constant_none ?_))
  walk_at "nm"
  walk_at "set"
  intro h₇ O₇
  dsimp only
  refine wpAny_execs_cons (wpAny_If (wpAny_isTrue_value ?_))
  walk_at "nm"
  refine wpAny_truthy_bool ?_
  exact wpAny_execs_nil (wpAny_execs_nil ⟨rfl, k B₂ h₇ _ x dx q qd dq _ (kB.trans k2) hx hq nq O₇.dropF⟩)
end
-- D6
section
open PySem.W.X
local macro_rules | `(tactic| x_close) => `(tactic| (first | apply_assumption | exact ⟨_, _, _, _, rfl, rfl, (mem_new (by assumption)).1, (mem_new (by assumption)).2.1, (mem_new (by assumption)).2.2, rfl, _, rfl⟩))
set_option maxHeartbeats 0 in
theorem x_oinit (w : World) (h : Heap) (g : Array GenState) (d : Drawn) (t : Nat) (os : OsState) (X : (hd.heap_39 w.params).In h) (a x dx : Addr) (ha : h.get? a = some { cls := .type "method-wrapper", dict := none, data := .fields #[.builtin "object.__init__", .ref x], slots := #[] })
   (hx : h.get? x = some { cls := .ref 138, dict := some dx, data := .plain, slots := #[] }) (Q : Value → Shared → Prop) (hQ : ∀ t', Q .none ⟨h, g, d, t', os⟩) :
    wpAny (model PySem.Challenge.pw_fk5016_01 w) A1 (call (.ref a) []) Q (fun _ _ => False) ⟨h, g, d, t, os⟩ := by
  x_run
local macro_rules | `(tactic| x_close) => `(tactic| (first | apply_assumption | exact ⟨_, _, _, rfl, rfl, (mem_new (by assumption)).1, (mem_new (by assumption)).2.1, (mem_new (by assumption)).2.2⟩))
set_option maxHeartbeats 0 in
theorem x_oget (w : World) (h : Heap) (g : Array GenState) (d : Drawn) (t : Nat) (os : OsState) (X : (hd.heap_39 w.params).In h) (x dx : Addr)
   (hx : h.get? x = some { cls := .ref 138, dict := some dx, data := .plain, slots := #[] }) :
    wpAny (model PySem.Challenge.pw_fk5016_01 w) A1 (call (.builtin "wrapper_descriptor.__get__") [.builtin "object.__init__", .ref x, .ref 138])
      (fun v s' => ∃ a h' t', v = .ref a ∧ s' = ⟨h', g, d, t', os⟩ ∧ (∀ b o, h.get? b = some o → h'.get? b = some o) ∧ h.get? a = none ∧ h'.get? a = some (mwO "object.__init__" x)) (fun _ _ => False) ⟨h, g, d, t, os⟩ := by
  x_run
end
-- K6
section
variable {w : World} {A : Around} {E : Value → Shared → Prop} {s : Shared} {B : Heap} {F F' S S' : NsL} {L L' : ObL} {R : Result → Shared → Prop} {h : Heap}
-- MemoryStorage()
theorem c_mem_new (O : Own B F S L s.heap) (W : Wd w B) (r : Room A 40) (hh : A.handled = none)
    (k : ∀ B' h' tk st sd, Le B B' → B'.get? st = some (instObj 138 sd) → Own B' F ((sd, memNs .none) :: S) L h' → R (.ok (.ret (.ref st))) { s with heap := h', toks := tk }) :
    codeAny (model prog w) A (.call (.ref 138) ⟨[], []⟩) R s := by
  refine own_make O W (by k_is) (by k_is) (by k_is) fun B₁ x dx h₁ kB hx O₁ => ?_
  have W₁ := W.le kB
  have r₁ : Room (mk1 A) 39 := r.mk1
  refine call_fnC (s := { s with heap := h₁ }) (fl := [("self", .ref x)]) O₁ W₁ (by k_is) (by k_is) r₁.depth (BindsTo.of_eq rfl) fun Lf h₂ O₂ => ?_
  refine ks_wpAt_execs_cons (ks_wpAt_Expr_any (ks_wpAt_MethodCall ?_))
  refine super_node (s := ⟨h₂, s.gens, s.drawn, _, s.os⟩) O₂ W₁ (by k_is) rfl (.head) (O₂.keep _ _ hx) rfl (by intro c q; cases q) (by k_is) rfl rfl (by k_is) (by k_is) (by k_is) (by k_is) (by decide +kernel) (by decide +kernel) (by decide +kernel) (by decide +kernel) rfl (by decide +kernel) (by decide +kernel) fun so h₃ k₃ O₃ => ?_
  refine super_meth (s := ⟨h₃, s.gens, s.drawn, _, s.os⟩) O₃ W₁ ((r₁.deeper (n := 38)).le (by decide)) hh (by k_is) (O₃.keep _ _ hx) (by intro c q; cases q) (by kernel_rfl) SF.type_object_init (by decide +kernel) (fun t => x_oget w _ _ _ _ _ (O₃.X W₁) x dx (O₃.keep _ _ hx)) (by k_is) fun h₄ t₄ a k₄ O₄ => ?_
  refine callWith_of rfl (keeps_mw (M := model prog w) (a := a) (x := x) (id := "object.__init__")) (evalArgs_nil3 ⟨(O₄.ob _ (.head _)).1, ?_⟩)
  refine toA1 hh ((r₁.deeper (n := 38)).le (by decide)) (x_oinit w h₄ _ _ _ _ (O₄.X W₁) a x dx (O₄.ob _ (.head _)).1 (O₄.keep _ _ hx) _ fun t' => ?_)
  refine wpAt_of_wpAny ?_
  have O₅ := O₄.dropL.dropL
  refine wpAny_execs_cons (plainObj_wpAny_Assign_Attribute (wpAny_Constant_none ?_))
  walk_at "nm"
  walk_at "set"
  intro h₆ O₆
  dsimp only
  exact wpAny_execs_nil ⟨rfl, k B₁ h₆ _ x dx kB hx O₆.dropF⟩
end
-- D7
section
open PySem.W.X
local macro_rules | `(tactic| x_close) => `(tactic| (first | apply_assumption | exact ⟨_, _, _, _, rfl, rfl, (mem_new (by assumption)).1, (mem_new (by assumption)).2.1, (mem_new (by assumption)).2.2, rfl, _, rfl⟩))
abbrev docO (xd : Addr) : Obj := { cls := .ref 261, dict := some xd, data := .dict #[] 0, slots := #[] }
local macro_rules | `(tactic| x_close) => `(tactic| (first | apply_assumption | exact ⟨_, _, _, rfl, rfl, (mem_new (by assumption)).1, (mem_new (by assumption)).2.1, (mem_new (by assumption)).2.2⟩))
set_option maxHeartbeats 0 in
theorem x_dget (w : World) (h : Heap) (g : Array GenState) (d : Drawn) (t : Nat) (os : OsState) (X : (hd.heap_39 w.params).In h) (x dx : Addr)
   (hx : h.get? x = some { cls := .ref 261, dict := some dx, data := .dict #[] 0, slots := #[] }) :
    wpAny (model PySem.Challenge.pw_fk5016_01 w) A1 (call (.builtin "wrapper_descriptor.__get__") [.builtin "dict.__init__", .ref x, .ref 261])
      (fun v s' => ∃ a h' t', v = .ref a ∧ s' = ⟨h', g, d, t', os⟩ ∧ (∀ b o, h.get? b = some o → h'.get? b = some o) ∧ h.get? a = none ∧ h'.get? a = some (mwO "dict.__init__" x)) (fun _ _ => False) ⟨h, g, d, t, os⟩ := by
  x_run
theorem mem_new2 {h₀ h : Heap} {a b : Addr} {o p : Obj} (D : Mem h₀ h [] [(a, o), (b, p)]) : (∀ b x, h₀.get? b = some x → h.get? b = some x) ∧ h₀.get? a = none ∧ h.get? a = some o ∧ h₀.get? b = none ∧ h.get? b = some p ∧ b < a :=
  ⟨fun b x e => D.keep b x e (by simp [away]), (D.nw _ (.head _)).2, (D.nw _ (.head _)).1, (D.nw _ (.tail _ (.head _))).2, (D.nw _ (.tail _ (.head _))).1, by
    have := D.ord
    simp only [List.map_cons, List.map_nil, List.pairwise_cons] at this
    exact this.1 _ (.head _)⟩
local macro_rules | `(tactic| x_close) => `(tactic| (first | apply_assumption | exact ⟨_, _, _, _, rfl, rfl, mem_new2 (by assumption)⟩))
set_option maxHeartbeats 0 in
theorem x_dnew (w : World) (h : Heap) (g : Array GenState) (d : Drawn) (t : Nat) (os : OsState) (X : (hd.heap_39 w.params).In h) (dd : Addr) (ti : Tok) (i : Int) :
    wpAny (model PySem.Challenge.pw_fk5016_01 w) A1 (call (.builtin "dict.__new__") [.ref 261, .ref dd, .int i ti])
      (fun v s' => ∃ x xd h' t', v = .ref x ∧ s' = ⟨h', g, d, t', os⟩ ∧ (∀ b o, h.get? b = some o → h'.get? b = some o) ∧ h.get? x = none ∧ h'.get? x = some (docO xd) ∧ h.get? xd = none ∧ h'.get? xd = some emptyDict ∧ xd < x) (fun _ _ => False) ⟨h, g, d, t, os⟩ := by
  x_run
end
-- K7
namespace SF
theorem bound_dict_init (x d : Addr) : checkBoundCall "dict.__init__" ⟨[.ref x, .ref d], []⟩ = pure () := by kernel_rfl
theorem quiet_dict_init (a : Args) : (Code.builtin "dict.__init__" a).quiet = true := Code.quiet_builtin _ (by decide +kernel)
theorem not_ordered_names : ["clear", "keys", "values", "items", "popitem", "__reversed__", "__iter__", "__repr__", "pop", "setdefault", "update", "__init__", "__setitem__", "__delitem__", "__ior__"].contains "__init__" = true := by decide +kernel
end SF
section
variable {w : World} {A : Around} {E : Value → Shared → Prop} {s : Shared} {B : Heap} {F F' S S' : NsL} {L L' : ObL} {R : Result → Shared → Prop} {h : Heap}
theorem merge_one {nm : String} {d o : Addr} {od oo : Obj} {ep epo : Nat} {Q : Unit → Shared → Prop} {k : Str} {tk : Tok} {v : Value} (hdo : d ≠ o) (hoS : (o == sysModules) = false)
    (hd : s.heap.get? d = some od) (hdd : od.data = .dict #[] ep) (ho : s.heap.get? o = some oo) (hod : oo.data = .dict #[⟨hashStr w k, .str k tk, v⟩] epo)
    (hQ : Q () { s with heap := s.heap.update d (Obj.mapDictKeys (·.push ⟨hashStr w k, .str k tk, v⟩)) }) :
    wpAny (model prog w) A (Builtin.Dict.mergeDict nm d o) Q E s := by
  unfold Builtin.Dict.mergeDict
  rw [if_neg (by simpa using hdo)]
  unfold Builtin.Dict.showsAll
  rw [if_neg (by rw [hoS]; exact Bool.false_ne_true)]
  refine wpAny_bind (wpAny_pure ?_)
  refine wpAny_bind (wpAny_dictEntries ho hod ?_)
  have hkey : (PySem.strKind prog w).is k (.str k tk) = true := strKind_is prog w k tk
  dsimp only
  rw [if_neg (show ¬ ((!(decide ((#[⟨hashStr w k, .str k tk, v⟩] : Array DictEntry).size ≤ 8) && (#[⟨hashStr w k, .str k tk, v⟩] : Array DictEntry).all fun e => (keyPart e.key).isSome)) = true) from by simp [keyPart])]
  refine wpAny_bind (wpAny_dictEpoch ho hod ?_)
  refine wpAny_bind (wpAny_dictEntries ho hod ?_)
  rw [Std.Legacy.Range.forIn_eq_forIn_range']
  refine wpAny_bind ?_
  rw [show List.range' [:(#[⟨hashStr w k, .str k tk, v⟩] : Array DictEntry).size].start [:(#[⟨hashStr w k, .str k tk, v⟩] : Array DictEntry).size].size [:(#[⟨hashStr w k, .str k tk, v⟩] : Array DictEntry).size].step = [0] from (by simp [Std.Legacy.Range.size]), List.forIn_cons]
  refine wpAny_bind (wpAny_bind (wpAny_dictEntries ho hod ?_))
  show wpAny _ _ (holding [.str k tk, v] (dictSetHashed d (.str k tk) ((PySem.strKind prog w).hash k) v) >>= _) _ _ _
  refine wpAny_bind (wpAny_holding ?_)
  unfold dictSetHashed
  refine wpAny_holding ?_
  refine wpAny_bind (wpAny_dictFind_of hkey hd hdd (by intro x hx; simp at hx) ?_)
  rw [show ((#[] : Array DictEntry).findIdx? fun e => (PySem.strKind prog w).is k e.key) = none from by simp]
  refine wpAny_bind (wpAny_rule (wpAny_updateDictKeys (f := (·.push ⟨hashStr w k, .str k tk, v⟩)) hd hdd ?_))
  have ho' : (s.heap.update d (Obj.mapDictKeys (·.push ⟨hashStr w k, .str k tk, v⟩))).get? o = some oo := (Heap.get?_update_ne _ _ _ _ (Ne.symm hdo)).trans ho
  refine wpAny_bind (wpAny_dictEpoch ho' hod ?_)
  rw [if_neg (by simp)]
  refine wpAny_pure ?_
  dsimp only
  rw [List.forIn_nil]
  refine wpAny_pure (wpAny_pure ?_)
  exact hQ
end
-- K8
def makesBy (K : Frag) (C : Addr) (id : String) : Bool := match K.lookup C with
  | some ⟨_, _, .cls cd, sl⟩ => (sl.toList[4]?).join == some (.builtin id) && !cd.mro.isEmpty && cd.mro.contains (.ref C) &&
      specialIn K (.ref C) "__call__" == some (some (.builtin "type.__call__")) && instIn K (.ref C) (.type "type") == some true
  | _ => false
structure MakesBy (M : Model) (h : Heap) (C : Addr) (id : String) : Prop where
  obj : ∃ oc od cd sl, h.get? C = some ⟨oc, od, .cls cd, sl⟩ ∧ cd.mro.isEmpty = false
  made : Looks M h (Bind.madeBy (.ref C)) (some id)
  self : Looks M h (isSubtype (.ref C) (.ref C)) true
  call : Looks M h (specialOf (.ref C) "__call__") (some (.builtin "type.__call__"))
  typ : Looks M h (isInstance (.ref C) (.type "type")) true
theorem makesBy_of {K : Frag} {M : Model} {h : Heap} (X : K.In h) {C : Addr} {id : String} (e : makesBy K C id = true) : MakesBy M h C id := by
  unfold makesBy at e
  split at e
  · rename_i oc od cd sl ho
    simp only [Bool.and_eq_true, Bool.not_eq_true', beq_iff_eq] at e
    obtain ⟨⟨⟨⟨e3, e4⟩, e5⟩, e7⟩, e8⟩ := e
    have hc : clsIn K C = some cd := by unfold clsIn; rw [ho]
    have hm : Looks M h (mroOf (.ref C)) cd.mro := (looks_clsIn X hc).andThen .now
    obtain ⟨c, l, hl⟩ : ∃ c l, cd.mro = c :: l := by cases q : cd.mro with | nil => rw [q] at e4; cases e4 | cons c l => exact ⟨c, l, rfl⟩
    have made : Looks M h (Bind.madeBy (.ref C)) (some id) := by
      intro A Q E s k q
      unfold Bind.madeBy
      refine wpAny_bind (hm A _ E s k ?_)
      rw [hl, List.forIn_cons]
      refine wpAny_bind (wpAny_bind (wpAny_bind (wpAny_bind (wpAny_loadPart (k _ _ (X _ _ ho)) (wpAny_pure ?_)))))
      dsimp only
      rw [← Array.getElem?_toList, e3]
      exact wpAny_pure (wpAny_pure (wpAny_pure q))
    refine ⟨⟨oc, od, cd, sl, X _ _ ho, e4⟩, made, looks_mroIn X ?_, looks_specialIn X e7, looks_instIn X e8⟩
    unfold mroIn; rw [hc, Option.bind_some, if_neg (by rw [e4]; decide), e5]
  · cases e
section
variable {w : World} {A : Around} {C : Addr} {R : Result → Shared → Prop} {h : Heap} {g : Array GenState} {d : Drawn} {t : Nat} {os : OsState}
theorem make_by {rest : List Value} {kw : List (Str × Value)} {init : Value} {id : String} (Y : MakesBy (model prog w) h C id) (hi : Looks (model prog w) h (typeLookup (.ref C) "__init__") (some init))
    (hb : ∀ self, Looks (model prog w) h (bindSpecial init self) (init, [self]))
    (hnew : wpAny (model prog w) (mk1 A) (call (.builtin id) (.ref C :: rest) kw) (fun v s' => ∃ x h' t' ox, v = .ref x ∧ s' = ⟨h', g, d, t', os⟩ ∧ (∀ b o, h.get? b = some o → h'.get? b = some o) ∧ h'.get? x = some ox ∧ ox.cls = .ref C ∧
      codeAny (model prog w) (mk1 A) (.call init ⟨.ref x :: rest, kw⟩) (InitBack x R) s') (fun e s' => R (.error e) s') ⟨h, g, d, t, os⟩) :
    codeAny (model prog w) A (.call (.ref C) ⟨rest, kw⟩) R ⟨h, g, d, t, os⟩ := by
  obtain ⟨⟨oc, od, cd, sl, hC, e4⟩, made, self, call, typ⟩ := Y
  refine codeAny_of_tree ?_
  show wpAny _ _ (callAny (.ref C) _) _ _ _
  refine nd_load hC ?_
  show wpAny _ _ (callAny.viaDunder (.ref C) _) _ _ _
  unfold callAny.viaDunder
  refine wpAny_bind (call.at ?_)
  dsimp only
  rw [tc_bind]
  refine wpAny_bind (wpAny_pure (wpAny_bind (wpAny_pure ?_)))
  refine wpAny_pure (a := Fin.again (.call (.builtin "type.__call__") ⟨.ref C :: rest, kw⟩)) (And.intro rfl ?_)
  refine codeAny_call_builtin_at (Code.quiet_builtin _ (by decide +kernel)) entry_typeCall (check_slot tc_kind tc_split typ (tc_args _ _ _) ?_)
  rw [under_create]
  unfold Builtin.«type.__call__»
  have hm : Looks (model prog w) h (mroOf (.ref C)) cd.mro := ((Looks.ld (part := none) hC).andThen .now).andThen .now
  repeat (first | simp only [e4, Bool.false_eq_true, if_false] | with_reducible refine wpAny_mono hnew (fun v s' z => ?_) (fun _ _ z => z) | lk)
  obtain ⟨x, h', t', ox, rfl, rfl, k, hx, hxc, hq⟩ := z
  have t1 : Looks (model prog w) h' (typeOf (.ref x)) (.ref C) := hxc ▸ ((Looks.ld hx).andThen .now)
  have s1 := self.keeps k
  have i1 := hi.keeps k
  have b1 := (hb (.ref x)).keeps k
  change wpAny _ _ (typeOf (.ref x)) _ _ _
  unfold callSpecial? specialOf
  repeat (first | with_reducible refine wpAny_call ?_ | lk)
  refine codeAny_mono hq fun r s' z => ?_
  rcases r with e | (v | _ | _ | _) <;> first | exact z | exact z.elim | skip
  obtain ⟨rfl, z⟩ := z
  exact wpAny_pure (wpAny_pure z)
end
-- K9
section
variable {w : World} {A : Around} {E : Value → Shared → Prop} {s : Shared} {B : Heap} {F F' S S' : NsL} {L L' : ObL} {R : Result → Shared → Prop} {h : Heap}
theorem doc_notOrdered {x xd d : Addr} {es : Array DictEntry} {ep : Nat} {Q : Unit → Shared → Prop} (X : (hd.heap_39 w.params).In s.heap) (hx : s.heap.get? x = some { cls := .ref 261, dict := some xd, data := .dict es ep, slots := #[] }) (h : Q () s) :
    wpAny (model prog w) A (Builtin.Dict.notOrdered "__init__" ⟨[.ref x, .ref d], []⟩) Q E s := by
  have L0 : Looks (model prog w) s.heap (typeOf (.ref x)) (.ref 261) := (Looks.ld hx).andThen .now
  have L1 : Looks (model prog w) s.heap (isInstance (.ref x) (.type "collections.OrderedDict")) false := L0.andThen (looks_subIn X (by k_is))
  unfold Builtin.Dict.notOrdered
  rw [if_pos SF.not_ordered_names]
  refine wpAny_bind (L0.here ?_)
  rw [if_pos (by decide)]
  refine wpAny_bind (L1.here ?_)
  exact wpAny_pure h
theorem call_mw_init {a x xd d : Addr} {ta tn : Tok} {n : Int} {ep : Nat} {Q : Value → Shared → Prop} (X : (hd.heap_39 w.params).In s.heap) (ha : s.heap.get? a = some (mwO "dict.__init__" x)) (hx : s.heap.get? x = some { cls := .ref 261, dict := some xd, data := .dict #[] 0, slots := #[] })
    (hd : s.heap.get? d = some { cls := .type "dict", dict := none, data := .dict #[⟨hashStr w "a", .str "a" ta, .int n tn⟩] ep, slots := #[] }) (hdS : (d == sysModules) = false)
    (hq : Q .none { s with heap := s.heap.update x (Obj.mapDictKeys (·.push ⟨hashStr w "a", .str "a" ta, .int n tn⟩)) }) :
    wpAny (model prog w) A (call (.ref a) [.ref d]) Q E s := by
  have hdx : x ≠ d := by
    rintro rfl
    rw [hx] at hd; cases hd
  refine wpAny_call (codeAny_of_tree ?_)
  show wpAny _ A.in1 (callAny (.ref a) ⟨[.ref d], []⟩) _ _ s
  simp only [callAny]
  refine wpAny_bind (wpAny_load ha ?_)
  simp only [show (Value.type "method-wrapper" == Value.type "method" || Value.type "method-wrapper" == Value.type "builtin_function_or_method" || Value.type "method-wrapper" == Value.type "method-wrapper") = true by decide, if_true]
  refine KFB.if_so (by decide) ?_
  refine wpAny_bind (wpAny_of_eq (a := ()) (SF.bound_dict_init x d) ?_)
  refine wpAny_bind (wpAny_pure (wpAny_pure ?_))
  refine ⟨SF.quiet_dict_init _, codeAny_builtin F.entry_dict_init ?_⟩
  have L0 : Looks (model prog w) s.heap (typeOf (.ref d)) (.type "dict") := (Looks.ld hd).andThen .now
  have hT : s.TypeIs (.ref d) "dict" := ⟨_, hd, rfl⟩
  unfold Builtin.«dict.__init__»
  refine wpAny_bind ?_
  unfold Builtin.Dict.selfAndRest
  refine wpAny_bind (doc_notOrdered X hx ?_)
  show wpAny _ _ (pure (x, [Value.ref d])) _ _ _
  refine wpAny_pure ?_
  show wpAny _ _ (Builtin.Dict.updateFrom "dict.__init__" x (.ref d) [] .none) _ _ _
  unfold Builtin.Dict.updateFrom
  refine wpAny_bind (wpAny_typeOf hT ?_)
  rw [if_neg (by decide)]
  refine wpAny_bind ?_
  unfold Builtin.Dict.merge
  refine wpAny_bind ?_
  unfold Builtin.Dict.readDirectly
  refine wpAny_bind (wpAny_isInstance hT isSubtype_dict_dict ?_)
  simp only [Bool.not_true, Bool.false_eq_true, if_false]
  refine wpAny_bind (wpAny_specialOf hT F.slot_dict_iter.lookup (wpAny_pure ?_))
  simp only [beq_self_eq_true, if_true]
  refine wpAny_bind (wpAny_pure ?_)
  refine merge_one hdx hdS hx rfl hd rfl ?_
  show wpAny _ _ (Builtin.Dict.addKeywords x [] >>= _) _ _ _
  exact wpAny_bind (wpAny_pure (wpAny_pure hq))
end
-- KA
section
variable {w : World} {A : Around} {E : Value → Shared → Prop} {s : Shared} {B : Heap} {F F' S S' : NsL} {L L' : ObL} {R : Result → Shared → Prop} {h : Heap}
theorem one_entry {d : Addr} {n : Int} {tn : Tok} (hd : B.DictOf (PySem.strKind prog w) d [("a", .int n tn)]) : ∃ ta ep, B.get? d = some { cls := .type "dict", dict := none, data := .dict #[⟨hashStr w "a", .str "a" ta, .int n tn⟩] ep, slots := #[] } := by
  obtain ⟨o, es, ep, ho, ⟨a, b, c⟩, e, hk, hp, _⟩ := hd
  obtain ⟨x1, x2, x3, x4⟩ := o
  dsimp only at a b c e
  subst a b c e
  obtain ⟨l⟩ := es
  cases hp with
  | cons h1 h2 h3 =>
    cases h3
    rename_i e
    obtain ⟨eh, ek, ev⟩ := e
    obtain ⟨k', hk1, hk2⟩ := hk ⟨eh, ek, ev⟩ (by simp)
    have := (PySem.strKind prog w).inj _ _ _ hk1 h1
    subst this
    dsimp only at h2 hk2 h1
    subst h2
    cases ek <;> first | (exact Bool.noConfusion h1) | skip
    rename_i sx tk
    have := (PySem.strKind prog w).inj _ _ _ (strKind_is prog w sx tk) h1
    subst this
    exact ⟨tk, ep, by rw [ho, hk2]; rfl⟩
end
-- KB
namespace SF
theorem refuse_dict (self : Value) : refuseLoop self "__setattr__" [.type "dict", .type "object"] = pure () := by kernel_rfl
end SF
section
variable {w : World} {A : Around} {E : Value → Shared → Prop} {s : Shared} {B : Heap} {F F' S S' : NsL} {L L' : ObL} {R : Result → Shared → Prop} {h : Heap}
/-- an attribute of a Document is stored -/
theorem set_doc {x xd : Addr} {ox : Obj} {l l' : List (Str × Value)} {name : Str} {v : Value} {cd : ClassData} {Q : Unit → Shared → Prop} (O : Own B F ((xd, l) :: S) L s.heap) (W : Wd w B) (hx : s.heap.get? x = some ox) (hcl : ox.cls = .ref 261) (hno : notCls ox = true) (hdx : ox.dict = some xd) (hp : Put l name v l')
    (hs : findIn (hd.heap_39 w.params) (.ref 261) "__setattr__" = some (some (.builtin "object.__setattr__"))) (hc : clsIn (hd.heap_39 w.params) 261 = some cd) (hmro : cd.mro = [.ref 261, .type "dict", .type "object"]) (ho : subIn (hd.heap_39 w.params) (.ref 261) (.type "object") = some true) (ht : findIn (hd.heap_39 w.params) (.ref 261) name = some none) (hd' : cd.hasDict = true)
    (h : ∀ h', Own B F ((xd, l') :: S) L h' → Q () { s with heap := h', toks := s.toks + 2 }) (hz : l'.length ≤ 1000) :
    wpAny (model prog w) A (setAttr (.ref x) name v) Q E s := by
  have SF := PySem.F.store_object
  have X := O.X W
  obtain ⟨od, es, ep, q1, q2⟩ := (O.ns _ (.head _)).1
  have I : InstAt s.heap x ox 261 (some od) := ⟨hx, hcl, hno, by rw [hdx]; exact q1⟩
  obtain ⟨hh0, g, d, t, os⟩ := s
  dsimp only at X I O hx
  have sub : Looks (model prog w) hh0 (isInstance (.ref x) (.type "object")) true := I.type.andThen (looks_subIn X ho)
  have hm : Looks (model prog w) hh0 (mroOf (.ref 261)) cd.mro := (looks_clsIn X hc).andThen .now
  have L3 : Looks (model prog w) hh0 (Builtin.ObjectAttr.storeTaker? none) none := .now
  refine set_plain X I hs ?_
  refine codeAny_call_builtin SF.slot.plain SF.entry (@check_slot (model prog w) _ _ ⟨hh0, g, d, t + 1, os⟩ "object.__setattr__" "object" "__setattr__" (.ref x) [.str name t, v] [] _ SF.kind SF.split sub (SF.args (.ref x) (.str name t) v) ?_)
  rw [osa_eq, refuse_eq]
  refine wpAny_bind (wpAny_bind (I.type.here (wpAny_bind (hm.here ?_))))
  rw [hmro, refuseLoop_ref, Mine.SF.refuse_dict]
  refine wpAny_pure (wpAny_bind (I.type.here (wpAny_bind ((looks_findIn X ht).here (wpAny_bind (L3.here ?_))))))
  dsimp only
  obtain ⟨oc, odi, oda, osl⟩ := ox
  dsimp only at hcl hdx
  subst hcl hdx
  refine wpAny_bind (wpAny_pure (wpAny_bind (wpAny_bind (wpAny_loadPart hx (wpAny_bind ((looks_clsIn X hc).here ?_))))))
  rw [hd']
  refine wpAny_pure (a := some xd) (wpAny_bind (wpAny_pure (wpAny_bind ?_)))
  refine wpAny_nsSetB (O.ns _ (.head _)).1 hp fun h' hn hsb => ?_
  obtain ⟨o, es, ep, a1, a2, a3, a4, a5⟩ := id hn
  refine wpAny_bind (wpAny_lookBehind a1 (by rw [a2]; exact pastItsLine_dict (by rw [sizeLine_eq]; omega)) ?_)
  exact wpAny_pure (h h' (O.putS hsb hn))
end
-- N2
section
variable {w : World} {A : Around} {E : Value → Shared → Prop} {s : Shared} {B : Heap} {F F' S S' : NsL} {L L' : ObL} {R : Result → Shared → Prop} {h : Heap}
abbrev keyOf (i : Int) : Str := Str.ofString (toString i)
/-- a document {'a': n} -/
def Doc (w : World) (B : Heap) (v : Value) (n : Int) : Prop := ∃ d tn, v = .ref d ∧ (d == sysModules) = false ∧ B.DictOf (strKind prog w) d [("a", .int n tn)]
theorem Doc.le {B B' : Heap} {v : Value} {n : Int} (x : Doc w B v n) (k : Le B B') : Doc w B' v n := let ⟨d, t, a, c, b⟩ := x; ⟨d, t, a, c, k.dict b⟩
/-- a table's entries, as they are kept -/
inductive RowsOf (w : World) (B : Heap) : List (Str × Value) → List (Int × Int) → Prop
  | nil : RowsOf w B [] []
  | cons {v i n kvs rows} : Doc w B v n → 0 ≤ i → i < 1000 → RowsOf w B kvs rows → RowsOf w B ((keyOf i, v) :: kvs) ((i, n) :: rows)
theorem RowsOf.le {B B' : Heap} {kvs rows} (x : RowsOf w B kvs rows) (k : Le B B') : RowsOf w B' kvs rows := by
  induction x with
  | nil => exact .nil
  | cons d a b _ ih => exact .cons (d.le k) a b ih
theorem RowsOf.length {B : Heap} {kvs rows} (x : RowsOf w B kvs rows) : kvs.length = rows.length := by
  induction x with
  | nil => rfl
  | cons _ _ _ _ ih => simp [ih]
theorem RowsOf.at {B : Heap} {kvs rows} (x : RowsOf w B kvs rows) {j : Nat} {i n : Int} (h : rows[j]? = some (i, n)) : ∃ v, kvs[j]? = some (keyOf i, v) ∧ Doc w B v n ∧ 0 ≤ i ∧ i < 1000 := by
  induction x generalizing j with
  | nil => simp at h
  | cons d a b _ ih =>
    cases j with
    | zero => simp at h; obtain ⟨rfl, rfl⟩ := h; exact ⟨_, rfl, d, a, b⟩
    | succ j => exact ih (by simpa using h)
/-- a Document made of one -/
def Docm (w : World) (B : Heap) (x : Addr) (i n : Int) : Prop :=
  ∃ xd ta tn ti ep, B.get? x = some { cls := .ref 261, dict := some xd, data := .dict #[⟨hashStr w "a", .str "a" ta, .int n tn⟩] ep } ∧ NsB B xd [("doc_id", .int i ti)]
theorem Docm.le {B B' : Heap} {x : Addr} {i n : Int} (d : Docm w B x i n) (k : Le B B') : Docm w B' x i n :=
  let ⟨xd, ta, tn, ti, ep, a, o, es, e, b, r⟩ := d; ⟨xd, ta, tn, ti, ep, k _ _ a, o, es, e, k _ _ b, r⟩
inductive DocsOf (w : World) (B : Heap) : List Value → List (Int × Int) → Prop
  | nil : DocsOf w B [] []
  | cons {x i n vs rows} : Docm w B x i n → DocsOf w B vs rows → DocsOf w B (.ref x :: vs) ((i, n) :: rows)
theorem DocsOf.le {B B' : Heap} {kvs rows} (x : DocsOf w B kvs rows) (k : Le B B') : DocsOf w B' kvs rows := by
  induction x with
  | nil => exact .nil
  | cons d _ ih => exact .cons (d.le k) ih
theorem DocsOf.length {B : Heap} {kvs rows} (x : DocsOf w B kvs rows) : kvs.length = rows.length := by
  induction x with
  | nil => rfl
  | cons _ _ ih => simp [ih]
theorem DocsOf.snoc {B : Heap} {vs rows} (x : DocsOf w B vs rows) {y : Addr} {i n : Int} (d : Docm w B y i n) : DocsOf w B (vs ++ [.ref y]) (rows ++ [(i, n)]) := by
  induction x with
  | nil => exact .cons d .nil
  | cons d' _ ih => exact .cons d' ih
end
-- KC
section
variable {w : World} {A : Around} {E : Value → Shared → Prop} {s : Shared} {B : Heap} {F F' S S' : NsL} {L L' : ObL} {R : Result → Shared → Prop} {h : Heap}
abbrev docE (w : World) (xd : Addr) (ta tn : Tok) (n : Int) : Obj := { cls := .ref 261, dict := some xd, data := .dict #[⟨hashStr w "a", .str "a" ta, .int n tn⟩] 1, slots := #[] }
theorem callWith_mw {M : Model} {env : Env} {pos : Pos} {a x : Addr} {id : String} {first : List Value} {e : Expr} {rest : List Expr} {Q : Value → Shared → Prop}
    (h : wpAny M A (spliced (backTo pos (starEach (e :: rest) env))) (fun vs s₁ => s₁.heap.get? a = some (mwO id x) ∧ wpAny M A (call (.ref a) (first ++ vs)) Q E s₁) E s)
    (he : starEach (e :: rest) env = (false, eval e env) :: starEach rest env := by rfl) (hplain : (backTo pos (starEach rest env)).any (·.1) = false := by rfl) :
    wpAny M A (callWith pos (.ref a) first (backTo pos (starEach (e :: rest) env)) []) Q E s := by
  rw [he] at h ⊢
  exact callWith_of (by show ((false || (backTo pos (starEach rest env)).any (·.1)) || false) = false; rw [hplain]; rfl) (keeps_mw (M := M) (a := a) (x := x) (id := id)) (evalArgs_plain h)
theorem c_document {d : Addr} {i n : Int} {ti tn : Tok} {Q : Value → Shared → Prop} (O : Own B F S L s.heap) (W : Wd w B) (r : Room A 40) (hh : A.handled = none) (hd : B.DictOf (PySem.strKind prog w) d [("a", .int n tn)]) (hdS : (d == sysModules) = false)
    (k : ∀ B' h' tk x, Le B B' → Docm w B' x i n → Own B' F S L h' → Q (.ref x) { s with heap := h', toks := tk }) : wpAny (model prog w) A (call (.ref 261) [.ref d, .int i ti]) Q E s := by
  obtain ⟨ta, ep, hd⟩ := one_entry hd
  refine wpAny_call ?_
  have X := O.X W
  obtain ⟨hp, g, dr, t, os⟩ := s
  have Y : makesBy (Mine.hd.heap_39 w.params) 261 "dict.__new__" = true := by kernel_rfl
  refine make_by (makesBy_of X Y) (looks_findIn X (show findIn (Mine.hd.heap_39 w.params) (.ref 261) "__init__" = some (some (.ref 258)) from by k_is)) (fun self => bind_fn X self (by k_is)) ?_
  have r₁ : Room (mk1 A) 39 := r.mk1
  refine weaken (A0 := A1) hh (by have := r₁.1; show (mk1 A).depth ≤ 990; omega) rfl rfl (by have := r₁.2; show (mk1 A).units ≤ 9800; omega) (wpAny_mono (x_dnew w hp g dr t os X d ti i) (fun v s' z => ?_) fun _ _ z => z.elim)
  obtain ⟨x, xd, h', t', rfl, rfl, k1, n1, e1, n2, e2, lt⟩ := z
  refine ⟨x, h', t', docO xd, rfl, rfl, k1, e1, rfl, ?_⟩
  have notKey : ∀ a, hp.get? a = none → a ∉ keysOf F S L := fun a ha q => by
    rcases mem_keys.mp q with ⟨y, hy, e⟩ | ⟨y, hy, e⟩ | ⟨y, hy, e⟩
    · obtain ⟨_, _, _, z, _⟩ := (O.fr y hy).1; rw [e, ha] at z; cases z
    · obtain ⟨_, _, _, z, _⟩ := (O.ns y hy).1; rw [e, ha] at z; cases z
    · have z := (O.ob y hy).1; rw [e, ha] at z; cases z
  have notB : ∀ a, hp.get? a = none → B.get? a = none := fun a ha => by
    cases q : B.get? a with
    | none => rfl
    | some z => have := O.keep _ _ q; rw [ha] at this; cases this
  have O₁ : Own B F S ((xd, emptyDict) :: (x, docO xd) :: L) h' := (O.keepF k1).addMany (cells := [(xd, emptyDict), (x, docO xd)]) (fun p hp' => by
    rcases List.mem_cons.mp hp' with rfl | hp'
    · exact ⟨e2, notB _ n2, W.low (notB _ n2), notKey _ n2⟩
    · rw [List.mem_singleton] at hp'; subst hp'
      exact ⟨e1, notB _ n1, W.low (notB _ n1), notKey _ n1⟩) (List.nodup_cons.mpr ⟨fun q => absurd (List.mem_singleton.mp q) (Nat.ne_of_lt lt), List.nodup_cons.mpr ⟨List.not_mem_nil, List.nodup_nil⟩⟩)
  have O₂ := O₁.toS
  refine call_fnC (s := ⟨h', g, dr, t', os⟩) (fl := [("doc_id", .int i ti), ("value", .ref d), ("self", .ref x)]) O₂ W (by k_is) (by k_is) r₁.depth (BindsTo.of_eq rfl) fun Lf h₂ O₃ => ?_
  refine ks_wpAt_execs_cons (ks_wpAt_Expr_any (ks_wpAt_MethodCall ?_))
  refine super_node (s := ⟨h₂, g, dr, _, os⟩) O₃ W (by k_is) rfl (by walk_at "loc") (O₃.ob _ (.head _)).1 rfl (by intro c q; cases q) (by k_is) rfl rfl (by k_is) (by k_is) (by k_is) (by k_is) (by decide +kernel) (by decide +kernel) (by decide +kernel) (by decide +kernel) rfl (by decide +kernel) (by decide +kernel) fun so h₃ k₃ O₄ => ?_
  refine super_meth (s := ⟨h₃, g, dr, _, os⟩) O₄ W ((r₁.deeper (n := 38)).le (by decide)) hh (by k_is) (O₄.ob _ (.tail _ (.head _))).1 (by intro c q; cases q) (by kernel_rfl) SF.type_dict_init (by decide +kernel) (fun t => x_dget w _ _ _ _ _ (O₄.X W) x xd (O₄.ob _ (.tail _ (.head _))).1) (by k_is) fun h₄ t₄ a k₄ O₅ => ?_
  refine callWith_mw (x := x) (id := "dict.__init__") ?_
  walk_at "arg"
  refine nm_loc (s := ⟨h₄, g, dr, _, os⟩) O₅ (.head _) (by walk_at "loc") ?_
  refine wpAny_items_nil ⟨(O₅.ob _ (.head _)).1, ?_⟩
  dsimp only [List.nil_append, List.cons_append]
  refine call_mw_init (s := ⟨h₄, g, dr, _, os⟩) (O₅.X W) (O₅.ob _ (.head _)).1 (O₅.ob _ (.tail _ (.tail _ (.head _)))).1 (O₅.keep _ _ hd) hdS ?_
  have O₆ : Own B ((Lf, [("doc_id", .int i ti), ("value", .ref d), ("self", .ref x)]) :: F) ((xd, []) :: S) ((x, docE w xd ta tn n) :: L) (h₄.update x (Obj.mapDictKeys (·.push ⟨hashStr w "a", .str "a" ta, .int n tn⟩))) := by
    refine O₅.dropL.dropL.turn (fun b y hb e => ?_) ?_
    · rw [Heap.get?_update_ne _ _ _ _ hb]; exact e
    · exact Heap.get?_update_self _ (O₅.ob _ (.tail _ (.tail _ (.head _)))).1 rfl
  refine wpAt_of_wpAny ?_
  refine wpAny_execs_cons (plainObj_wpAny_Assign_Attribute ?_)
  walk_at "nm"
  walk_at "nm"
  refine set_doc O₆ W (O₆.ob _ (.head _)).1 rfl rfl rfl (by walk_at "put") (by k_is) (by k_is) rfl (by k_is) (by k_is) rfl (fun h₇ O₇ => ?_) (by simp)
  dsimp only
  have O₈ := O₇.dropF
  obtain ⟨B₁, kB, nB, O₉⟩ := O₈.freezeS
  obtain ⟨B₂, kB2, xB, O₁₀⟩ := O₉.freeze1
  refine wpAny_execs_nil ⟨rfl, k B₂ h₇ _ x (kB.trans kB2) ⟨xd, ta, tn, ti, 1, xB, nB.keeps kB2⟩ O₁₀⟩
end
-- G4
section
variable {w : World} {A : Around}
theorem over_func {body : List Stmt} {env : Env} : A.over (.func body env) [] = A.deeper env := by
  cases A; rfl
theorem over_for {t it : _} {b orelse body : List Stmt} {env : Env} {k g l p vs} : A.over (.forLoop t it b orelse env) [.ret k none g l (.func body env) p vs] = A.deeper env := by
  cases A; rfl
section
variable {R : GenEnd} {Y : Protocol} {n : Nat} {s₀ : Shared} {c : Code} {fs : List Frame} {s : Shared} {env : Env}
  {K : Flow → Sem Fin} {H : Value → Sem Fin} {gd : Bool → Bool} {lv : List Value → List Value}
theorem seg_mono {α : Type} {m : Sem α} {K : α → Sem Fin} {H : Value → Sem Fin} {gd lv} (h : wpAny (model prog w) (A.over c fs) m (fun a s' => Seg (model prog w) A R Y n s₀ c (K a) fs s') (fun _ _ => False) s) :
    Seg (model prog w) A R Y n s₀ c (m.wrap K H gd lv) fs s := seg_wrap (wpAny_mono h (fun _ _ z => z) fun _ _ z => z.elim)
theorem seg_For {target iter : Expr} {body orelse : List Stmt} {pos : Pos}
    (h : wpAny (model prog w) (A.over c fs) (eval iter env) (fun x s₁ => wpAny (model prog w) (A.over c fs) (pyIter x) (fun it s₂ => ∀ p,
      Seg (model prog w) A R Y n s₀ (.forLoop target it body orelse env) ((model prog w).den (.forLoop target it body orelse env))
      (.ret (fun r => ((match r with | .ok f => (.pure f : Sem Flow) | .error e => .raise e).onRaise fun (x : Value) => do
        if (← field x 1) == Value.none then unsupported "frame.own-activation:exception-without-traceback"
        setFlight x env.frame).wrap K H gd lv) none (gd false) (lv []) c p [] :: fs) s₂) (fun _ _ => False) s₁) (fun _ _ => False) s)
    (hs : ∀ x, foldedSetIterable iter env x = pure x := by intro _; rfl) :
    Seg (model prog w) A R Y n s₀ c ((exec (.For target iter body orelse pos) env).wrap K H gd lv) fs s := by
  rw [exec_For]
  refine seg_at ?_
  show Seg _ A R Y n s₀ c ((eval iter env >>= _).wrap K H gd lv) fs s
  rw [Sem.bind_eq_wrap', Sem.wrap_wrap]
  refine seg_mono (wpAny_mono h (fun x s₁ h₁ => ?_) fun _ _ z => z)
  rw [hs x]
  refine seg_at ?_
  show Seg _ A R Y n s₀ c ((holding [x] (pyIter x) >>= _).wrap K H gd lv) fs s₁
  rw [Sem.bind_eq_wrap', Sem.wrap_wrap]
  refine seg_mono (wpAny_holding (wpAny_mono h₁ (fun it s₂ h₂ => ?_) fun _ _ z => z))
  exact seg_call h₂
theorem seg_forLoop {target it : _} {body orelse : List Stmt}
    (h : wpAny (model prog w) (A.over (.forLoop target it body orelse env) fs) (pyNext it) (fun r s₁ => match r with
      | none => Seg (model prog w) A R Y n s₀ (.forLoop target it body orelse env) (.pure (.again (.block orelse env))) fs s₁
      | some v => wpAny (model prog w) (A.over (.forLoop target it body orelse env) fs) (letOwnedTupleGo target it v) (fun _ s₂ => wpAny (model prog w) (A.over (.forLoop target it body orelse env) fs) (assign target env v) (fun _ s₃ =>
          Seg (model prog w) A R Y n s₀ (.forLoop target it body orelse env) ((execs body env).wrap (fun f => match f with
            | .next | .cont => .pure (.again (.forLoop target it body orelse env))
            | .brk => .pure (.done .next)
            | .ret v => .pure (.done (.ret v))) (fun e => (do noteFrame e env; theTreesLotGoes e : Sem Unit).wrap (fun _ => .raise e) .raise id id) id id) fs s₃) (fun _ _ => False) s₂) (fun _ _ => False) s₁) (fun _ _ => False) s) :
    Seg (model prog w) A R Y n s₀ (.forLoop target it body orelse env) ((model prog w).den (.forLoop target it body orelse env)) fs s := by
  show Seg _ A R Y n s₀ _ ((forTurn target it body orelse env).onRaise (fun x => do noteFrame x env; theTreesLotGoes x)) fs s
  unfold forTurn
  rw [Sem.onRaise_eq_wrap]
  refine seg_at ?_
  show Seg _ A R Y n s₀ _ (((pyNext it).onRaise (fun _ => standAt { target.pos with line := 0 }) >>= _).wrap _ _ _ _) fs s
  rw [Sem.bind_eq_wrap', Sem.wrap_wrap]
  refine seg_mono (wpAny_onRaise (wpAny_mono h (fun r s₁ h₁ => ?_) fun _ _ z => z.elim))
  cases r with
  | none => exact h₁
  | some v =>
    show Seg _ A R Y n s₀ _ ((letOwnedTupleGo target it v >>= _).wrap _ _ _ _) fs s₁
    rw [Sem.bind_eq_wrap', Sem.wrap_wrap]
    refine seg_mono (wpAny_mono h₁ (fun _ s₂ h₂ => ?_) fun _ _ z => z)
    show Seg _ A R Y n s₀ _ ((assign target env v >>= _).wrap _ _ _ _) fs s₂
    rw [Sem.bind_eq_wrap', Sem.wrap_wrap]
    refine seg_mono (wpAny_mono h₂ (fun _ s₃ h₃ => ?_) fun _ _ z => z)
    show Seg _ A R Y n s₀ _ ((execs body env >>= _).wrap _ _ _ _) fs s₃
    rw [Sem.bind_eq_wrap', Sem.wrap_wrap]
    rw [Sem.wrap_congr (execs body env) _ _ (K' := fun f => match f with
            | .next | .cont => .pure (.again (.forLoop target it body orelse env))
            | .brk => .pure (.done .next)
            | .ret v => .pure (.done (.ret v))) (H' := (fun e => (do noteFrame e env; theTreesLotGoes e : Sem Unit).wrap (fun _ => .raise e) .raise id id))
        (fun f => by cases f <;> rfl)
        (fun e => by first | exact Sem.bind_eq_wrap _ _ | (show (do noteFrame e env; theTreesLotGoes e : Sem Unit).bind (fun _ => .raise e) = _; rw [Sem.bind_eq_wrap]))]
    exact h₃
end
end
-- G5
abbrev lsO (acc : Array Value) (c : Nat) : Obj := { cls := .type "list", dict := none, data := .seq acc c, slots := #[] }
section
variable {w : World} {A : Around} {E : Value → Shared → Prop} {s : Shared} {R : Result → Shared → Prop} {I Sl : Addr} {g n : Nat} {J : Nat → Shared → Prop}
theorem ext_loop {res : Value} (hn : n ≤ sizeLine)
    (item : ∀ i (s : Shared) (Q : Option Value → Shared → Prop) (E : Value → Shared → Prop), i < n → J i s → (∀ v s' acc c, s'.heap.get? Sl = some (lsO acc c) → acc.size = i → (∀ h' c', Heap.SameBut Sl s'.heap h' → h'.get? Sl = some (lsO (acc.push v) c') → J (i + 1) { s' with heap := h' }) → Q (some v) s') → wpAny (model prog w) A.in1 (pyNext (.ref I)) Q E s)
    (last : ∀ (s : Shared) (Q : Option Value → Shared → Prop) (E : Value → Shared → Prop), J n s → (∀ s', R (.ok (.ret res)) s' → Q none s') → wpAny (model prog w) A.in1 (pyNext (.ref I)) Q E s) :
    ∀ (k i : Nat) (s : Shared), n - i = k → i ≤ n → J i s → codeAny (model prog w) A (.builtin "list.extend.loop" ⟨[.ref Sl, .ref I, res], []⟩) R s := by
  intro k
  induction k with
  | zero =>
    intro i s hk hi hJ
    have hin : i = n := by omega
    subst hin
    refine codeAny_builtin F.entry_extend_loop ?_
    rw [Around.under_plainId F.plain_extend_loop _]
    show wpAny _ A.in1 (pyNext (.ref I) >>= _) _ _ s
    exact wpAny_bind (last s _ _ hJ fun s' hR => wpAny_pure hR)
  | succ k ih =>
    intro i s hk hi hJ
    refine codeAny_builtin F.entry_extend_loop ?_
    rw [Around.under_plainId F.plain_extend_loop _]
    show wpAny _ A.in1 (pyNext (.ref I) >>= _) _ _ s
    refine wpAny_bind (item i s _ _ (by omega) hJ fun v s' acc c hS ha hst => ?_)
    show wpAny _ A.in1 (updateSeq Sl (·.push v) >>= _) _ _ _
    refine wpAny_bind ?_
    refine wpAny_updateSeq hS rfl (wpAny_pure ⟨plainId_quiet F.plain_extend_loop _, ih (i + 1) _ (by omega) (by omega) (hst _ _ (Heap.SameBut.update ..) (Heap.get?_update_self _ hS rfl))⟩)
      (by rw [ha]; omega) (by show (acc.push v).size ≤ sizeLine + 1; rw [Array.size_push, ha]; omega)
theorem call_list_own {Q : Value → Shared → Prop} (hg : s.heap.IsGen I g) (hn : n ≤ sizeLine) (hS : Sl = s.heap.objs.size)
    (J0 : ∀ h' c, (∀ b o, s.heap.get? b = some o → h'.get? b = some o) → h'.get? Sl = some (lsO #[] c) → J 0 { s with heap := h' })
    (item : ∀ i (s : Shared) (Q : Option Value → Shared → Prop) (E : Value → Shared → Prop), i < n → J i s → (∀ v s' acc c, s'.heap.get? Sl = some (lsO acc c) → acc.size = i → (∀ h' c', Heap.SameBut Sl s'.heap h' → h'.get? Sl = some (lsO (acc.push v) c') → J (i + 1) { s' with heap := h' }) → Q (some v) s') → wpAny (model prog w) A.in1.in1 (pyNext (.ref I)) Q E s)
    (last : ∀ (s : Shared) (Q' : Option Value → Shared → Prop) (E : Value → Shared → Prop), J n s → (∀ s', Q (.ref Sl) s' → Q' none s') → wpAny (model prog w) A.in1.in1 (pyNext (.ref I)) Q' E s) :
    wpAny (model prog w) A (call (.type "list") [.ref I]) Q E s := by
  have hne : Sl ≠ I := fun e => by
    obtain ⟨o, _, _, ho, _⟩ := hg
    have := Heap.lt_size ho
    rw [← e, hS] at this; exact Nat.lt_irrefl _ this
  refine callType_codes (Q₁ := fun obj s₁ => obj = .ref s.heap.objs.size ∧ s₁ = { s with heap := s.heap.push { cls := .type "list", data := .seq #[] } }) F.called_list (F.typeCall_list_1 _) F.entry_list_init
    (code_list_new _ ⟨rfl, rfl⟩) fun obj s₁ h₁ => ?_
  obtain ⟨rfl, rfl⟩ := h₁
  rw [← hS]
  have hS0 : (s.heap.push { cls := .type "list", data := .seq #[] }).get? Sl = some (lsO #[] 0) := by rw [hS]; exact Heap.get?_push_size _ rfl
  have k0 : ∀ b o, s.heap.get? b = some o → (s.heap.push { cls := .type "list", data := .seq #[] }).get? b = some o := fun b o e => Heap.get?_push_of_some _ e
  refine ⟨⟨_, hS0, rfl⟩, F.args_list_init_2 _ _, ?_⟩
  show wpAny _ A.in1.in1 (do let old ← Builtin.List.listItems (.ref Sl); Builtin.List.listUpdate (.ref Sl) (fun _ => #[]); letGo old.toList.reverse; Builtin.List.listExtendWith (.ref Sl) (.ref I) .none) _ _ _
  refine wpAny_bind ?_
  unfold Builtin.List.listItems
  refine wpAny_bind (wpAny_seqItems hS0 rfl (wpAny_pure ?_))
  show wpAny _ _ (updateSeq Sl (fun _ => #[]) >>= fun _ => letGo (#[] : Array Value).toList.reverse >>= fun _ => Builtin.List.listExtendWith (.ref Sl) (.ref I) .none) _ _ _
  refine wpAny_bind (wpAny_updateSeq hS0 rfl ?_)
  have hS1 := Heap.get?_update_self (Obj.mapSeq (fun _ => (#[] : Array Value))) hS0 rfl
  refine wpAny_bind (wpAny_letGo ?_)
  have ne : ∀ b o, s.heap.get? b = some o → Sl ≠ b := fun b o e q => Nat.lt_irrefl _ (by have := Heap.lt_size e; rw [← q, hS] at this; exact this)
  have g1 : ((s.heap.push { cls := .type "list", data := .seq #[] }).update Sl (Obj.mapSeq (fun _ => (#[] : Array Value)))).IsGen I g := hg.keeps fun b o e => (Heap.get?_update_other _ _ (ne b o e)).trans (k0 b o e)
  unfold Builtin.List.listExtendWith
  refine wpAny_bind (wpAny_typeOf (g1.typeIs (s := ⟨_, s.gens, s.drawn, s.toks, s.os⟩)) ?_)
  have h1 : Builtin.List.listSameRef (.ref Sl) (.ref I) = false := by simp [Builtin.List.listSameRef, hne]
  have h2 : (Value.type "generator" == Value.type "list") = false := by decide
  have h3 : (Value.type "generator" == Value.type "tuple") = false := by decide
  simp only [h1, h2, h3, Bool.or_false, Bool.false_eq_true, if_false]
  refine wpAny_bind (wpAny_pyIter_gen g1 ?_)
  refine wpAny_bind (wpAny_holding ?_)
  unfold Builtin.List.listLengthHint
  refine wpAny_bind (wpAny_specialOf (g1.typeIs (s := ⟨_, s.gens, s.drawn, s.toks, s.os⟩)) F.gen_no_len ?_)
  show wpAny _ _ (specialOf (Value.ref I) (Str.ofString "__length_hint__") >>= _) _ _ _
  refine wpAny_bind (wpAny_specialOf (g1.typeIs (s := ⟨_, s.gens, s.drawn, s.toks, s.os⟩)) F.gen_no_hint ?_)
  refine wpAny_pure ?_
  show wpAny _ _ (rule "list.extend.makes-room" >>= fun _ => Builtin.List.listTouch (.ref Sl) >>= fun _ =>
    again (.builtin "list.extend.loop" ⟨[.ref Sl, .ref I, .none], []⟩)) _ _ _
  refine wpAny_bind (wpAny_rule ?_)
  refine wpAny_bind ?_
  show wpAny _ _ (updateSeq Sl (·.push .none) >>= fun _ => updateSeq Sl (·.pop)) _ _ _
  refine wpAny_bind (wpAny_updateSeq hS1 rfl ?_)
  have hS₂ := Heap.get?_update_self (Obj.mapSeq (·.push Value.none)) hS1 rfl
  refine wpAny_updateSeq (hz := by seq_fits) hS₂ rfl ?_
  have hS₃ := Heap.get?_update_self (Obj.mapSeq (·.pop)) hS₂ rfl
  refine wpAny_pure ⟨plainId_quiet F.plain_extend_loop _, ext_loop (res := .none) hn item (fun s₁ Q' E' hJ hq => last s₁ Q' E' hJ fun s' h' => hq s' ⟨rfl, h'⟩) n 0 _ rfl (Nat.zero_le _) (J0 _ _ (fun b o e => ?_) hS₃)⟩
  exact (Heap.get?_update_other _ _ (ne b o e)).trans ((Heap.get?_update_other _ _ (ne b o e)).trans ((Heap.get?_update_other _ _ (ne b o e)).trans (k0 b o e)))
end
-- G6
section
variable {w : World} {A : Around} {E : Value → Shared → Prop} {s : Shared} {B : Heap} {F F' S S' : NsL} {L L' : ObL} {R : Result → Shared → Prop} {h : Heap}
abbrev genO (g : Nat) (nm qn : Value) : Obj := { cls := .type "generator", data := .fields #[.int g 0, nm, qn] }
theorem call_gen {name qual : Str} {params : Arguments} {body : List Stmt} {scope : Scope} {dV kV doc pm cdv ct oc : Value} {an od : Option Addr} {osl : Array (Option Value)} {f : Addr} {args : Args} {fl : List (Str × Value)}
    (O : Own B F S L s.heap) (W : Wd w B)
    (ho : List.lookup f (hd.heap_39 w.params) = some ⟨oc, od, .func (fnX name qual params body scope [] dV kV doc pm an cdv ct), osl⟩) (hcd : codeIn (hd.heap_39 w.params) cdv qual = true)
    (hroom : A.depth < recursionLimit) (hbind : BindsTo s (fnX name qual params body scope [] dV kV doc pm an cdv ct) args fl.reverse)
    (h : ∀ Lf a h₁ tk nm qn, Own B ((Lf, fl) :: F) S ((a, genO s.gens.size nm qn) :: L) h₁ →
      R (.ok (.ret (.ref a))) { s with heap := h₁, toks := tk, gens := s.gens.push (.fresh (.func body (envX qual scope Lf f cdv []))) })
    (hloc : ∀ y ∈ fl.reverse, scope.names.lookup y.1 = some .local := by exact locs rfl)
    (hcell : ∀ x ∈ scope.names, x.2 ≠ .cell := by decide) (hco : scope.isCoroutine = false := by rfl) (hgen : scope.isGenerator = true := by rfl) (hk : scope.kind = .function := by rfl) :
    codeAny (model prog w) A (.call (.ref f) args) R s := by
  obtain ⟨mg, mb, T⟩ := W.T
  have X := O.X W
  refine codeAny_call_generator (fd := fnX name qual params body scope [] dV kV doc pm an cdv ct) (body := body) hroom (X _ _ ho) rfl hco hgen rfl (codeRec_of X hcd) (hbind _ _ _ _ ?_)
  refine wpAny_newFunctionEnv hcell hloc (fun h₀ hns₀ hsb₀ => ⟨(T.nolimit.keeps O.keep).fresh _ hsb₀, ?_⟩) hk
  have hk₁ : ∀ b o, s.heap.get? b = some o → h₀.get? b = some o := fun b o e => hsb₀.extBut b o (Nat.ne_of_lt (Heap.lt_size e)) (Heap.get?_push_of_some _ e)
  rw [List.reverse_reverse] at hns₀
  exact h s.heap.objs.size _ _ _ _ _ ((O.enter hk₁ hns₀).push _)

theorem Put.any {x : Str} {v : Value} : ∀ l : List (Str × Value), ∃ l', Put l x v l'
  | [] => ⟨_, .nil⟩
  | (y, u) :: r => by
    by_cases e : x = y
    · subst e; exact ⟨_, .head⟩
    · obtain ⟨r', h⟩ := Put.any r
      exact ⟨_, .tail (by simpa using e) h⟩
theorem Put.loc {l l' : List (Str × Value)} {x : Str} {v : Value} (p : Put l x v l') : Loc l' x v := by
  induction p with
  | nil => exact .head
  | head => exact .head
  | tail e _ ih => exact .tail e ih
theorem Loc.put {l l' : List (Str × Value)} {x y : Str} {v u : Value} (p : Put l y u l') (q : Loc l x v) (e : (x == y) = false) : Loc l' x v := by
  induction p with
  | nil => cases q
  | head =>
    cases q with
    | head => simp at e
    | tail a b => exact .tail a b
  | tail _ _ ih =>
    cases q with
    | head => exact .head
    | tail a b => exact .tail a (ih b e)
end
-- G7
structure GC where
  w : World
  B : Heap
  F : NsL
  S : NsL
  L : ObL
  rows : List (Int × Int)
  kvs : List (Str × Value)
  C : Addr
  Sl : Addr
  a : Addr
  nm : Value
  qn : Value
  G0 : Array GenState
  d0 : Drawn
  os0 : OsState
namespace GC
def og (c : GC) (s : Shared) : Prop := s.gens.size = c.G0.size + 1 ∧ (∀ k, k < c.G0.size → s.gens[k]? = c.G0[k]?) ∧ s.drawn = c.d0 ∧ s.os = c.os0
def I (c : GC) (it d : Addr) (ep j : Nat) (s : Shared) : Prop := ∃ B' acc n ok ov fl, Le c.B B' ∧ DocsOf c.w B' acc.toList (c.rows.take j) ∧ RowsOf c.w B' c.kvs c.rows ∧ B'.DictAt (strKind prog c.w) d c.kvs ep ∧ c.og s ∧
  Own B' ((c.C, fl) :: c.F) c.S ((it, itO d j c.kvs.length ep ok ov) :: (c.Sl, lsO acc n) :: (c.a, genO c.G0.size c.nm c.qn) :: c.L) s.heap
def E (c : GC) (s : Shared) : Prop := ∃ B' acc n fl, Le c.B B' ∧ DocsOf c.w B' acc.toList c.rows ∧ c.og s ∧
  Own B' ((c.C, fl) :: c.F) c.S ((c.Sl, lsO acc n) :: (c.a, genO c.G0.size c.nm c.qn) :: c.L) s.heap
def Y1 (c : GC) (it d : Addr) (ep j : Nat) (v : Value) (s : Shared) : Prop := ∃ B' acc n ok ov fl x id m, v = .ref x ∧ c.rows[j]? = some (id, m) ∧ Docm c.w B' x id m ∧ Le c.B B' ∧ DocsOf c.w B' acc.toList (c.rows.take j) ∧ RowsOf c.w B' c.kvs c.rows ∧ B'.DictAt (strKind prog c.w) d c.kvs ep ∧ c.og s ∧
  Own B' ((c.C, fl) :: c.F) c.S ((it, itO d (j + 1) c.kvs.length ep ok ov) :: (c.Sl, lsO acc n) :: (c.a, genO c.G0.size c.nm c.qn) :: c.L) s.heap
def Rg (c : GC) : GenEnd := fun n _ r s₁ => r = .ok (.ret .none) ∧ (n = 0 ∧ c.E s₁)
def Y (c : GC) : Protocol := fun n _ v s₁ κ => ∃ it d ep, c.Y1 it d ep (c.rows.length - n - 1) v s₁ ∧ ∀ s'', c.I it d ep (c.rows.length - n) s'' → κ (.send .none) s''
end GC
def nilSt : Stmt := .Pass ⟨0, 0, 0, 0⟩
def nilEx : Expr := .Constant .none 0 ⟨0, 0, 0, 0⟩
def tableDef (n : Nat) : Stmt := match prog.main.body.getD 10 nilSt with | .ClassDef (body := b) .. => b.getD n nilSt | _ => nilSt
def defBody (s : Stmt) : List Stmt := match s with | .FunctionDef _ _ b _ _ _ _ _ _ _ => b | .If _ b _ _ => b | _ => []
def defAt (s : Stmt) (n : Nat) : Stmt := (defBody s).getD n nilSt
def defArgs (s : Stmt) : Arguments := match s with | .FunctionDef _ a _ _ _ _ _ _ _ _ => a | _ => default
def defScope (s : Stmt) : Scope := match s with | .FunctionDef _ _ _ _ _ _ sc _ _ _ => sc | _ => default
def defPos (s : Stmt) : Pos := match s with | .FunctionDef _ _ _ _ _ _ _ _ _ p => p | .Expr _ p => p | _ => ⟨0, 0, 0, 0⟩
def exprOf (s : Stmt) : Expr := match s with | .Assign _ e _ => e | .Expr e _ => e | _ => nilEx
abbrev scIter : Scope := by
  refine (fun (l : Scope) (_ : l = defScope (tableDef 18)) => l) ?x ?h
  case h => conv => rhs; whnf
abbrev envIter (C : Addr) : Env := envX "Table.__iter__" scIter C 404 (.ref 403) []
section
variable {c : GC} {A : Around} {it d : Addr} {ep : Nat}
theorem gen_loop {body : List Stmt} {p1 p2 p3 p4 p5 p6 p7 p8 p9 p10 p11 p : Pos} {x1} {K : Result → Sem Fin} {l : List Value} (W : Wd c.w c.B) (r : Room A 60) (Fo : Fro A (c.F.map (·.1)))
    (hK : ∀ s s₀, c.E s → Seg (model prog c.w) A c.Rg c.Y 0 s₀ (.func body (envIter c.C)) (K (.ok .next)) [] s) : ∀ m j s s₀, j + m = c.rows.length → c.I it d ep j s →
    Seg (model prog c.w) A c.Rg c.Y m s₀ (.forLoop (.Tuple [.Name "doc_id" p1, .Name "doc" p2] x1 p3) (.ref it) [.Expr (.Yield (some (.Call (.Name "Document" p4) [.Name "doc" p5, .Call (.Name "int" p6) [.Name "doc_id" p7] [] p8] [] p9)) p10) p11] [] (envIter c.C))
      ((model prog c.w).den (.forLoop (.Tuple [.Name "doc_id" p1, .Name "doc" p2] x1 p3) (.ref it) [.Expr (.Yield (some (.Call (.Name "Document" p4) [.Name "doc" p5, .Call (.Name "int" p6) [.Name "doc_id" p7] [] p8] [] p9)) p10) p11] [] (envIter c.C)))
      [.ret K none false l (.func body (envIter c.C)) p []] s := by
  intro m
  induction m with
  | zero =>
    intro j s s₀ hj hI
    obtain ⟨B', acc, n, ok, ov, fl, kB, hd, hr, hdt, ho, O⟩ := hI
    have hx : c.kvs[j]? = none := by rw [List.getElem?_eq_none_iff]; rw [hr.length]; omega
    refine seg_forLoop ?_
    rw [over_for]
    refine last_items Fo.hd O (hdt.at fun o e => O.keep _ _ e) hx fun h' O' => ?_
    refine seg_again rfl ?_
    show Seg _ _ _ _ _ _ _ (leafOf (.ok .next)) _ _
    refine seg_leaf (.ok .next) (hK _ _ ⟨B', acc, n, fl, kB, ?_, ho, O'⟩)
    have : c.rows.take j = c.rows := List.take_of_length_le (by omega)
    rw [this] at hd; exact hd
  | succ m ih =>
    intro j s s₀ hj hI
    obtain ⟨B', acc, n, ok, ov, fl, kB, hd, hr, hdt, ho, O⟩ := hI
    have hlt : j < c.rows.length := by omega
    obtain ⟨⟨i, q⟩, hx⟩ : ∃ y, c.rows[j]? = some y := ⟨_, List.getElem?_eq_getElem hlt⟩
    obtain ⟨v, hv, ⟨dd, tn, rfl, hdS, hdoc⟩, h0, h1⟩ := hr.at hx
    refine seg_forLoop ?_
    rw [over_for]
    refine next_items O (hdt.at fun o e => O.keep _ _ e) hv fun key h' a hkey O₁ => ?_
    obtain ⟨tk, rfl⟩ := Value.isStrOf_shape hkey
    refine letgo_items O₁ fun h₂ O₂ => ?_
    obtain ⟨l₁, hl1⟩ := Put.any (x := ("doc_id" : Str)) (v := .str (keyOf i) tk) fl
    obtain ⟨l₂, hl2⟩ := Put.any (x := ("doc" : Str)) (v := .ref dd) l₁
    refine unpack2 (s := { s with heap := h₂ }) Fo.hd O₂ ⟨_, (O₂.ob _ (.head _)).1, rfl, _, rfl⟩ hl1 hl2 (fun h₃ tk₃ O₃ => ?_)
    replace O₃ := O₃.dropL
    refine seg_execs_cons (seg_Expr_Yield rfl rfl rfl ?_)
    rw [over_for]
    refine wpAny_mono (E := fun _ _ => False) ?_ (fun _ _ z => z) (fun _ _ z => z.elim)
    have W' := W.le kB
    refine Call_ ?_
    walk_at "nm"
    walk_at "cw"
    walk_at "arg"
    refine nm_loc O₃ (.head _) hl2.loc ?_
    walk_at "arg"
    refine Call_ ?_
    walk_at "nm"
    walk_at "cwT"
    walk_at "arg"
    refine nm_loc O₃ (.head _) (Loc.put hl2 hl1.loc (by decide +kernel)) ?_
    walk_at "args1"
    refine KIN.call_num h0 (by omega) ?_
    walk_at "args0"
    refine c_document O₃ W' (r.deeper.le (by decide)) Fo.hd hdoc hdS fun B₂ h₄ tk₄ x kB₂ hD O₄ => ?_
    intro kap hkap
    have hjm : c.rows.length - m - 1 = j := by omega
    refine ⟨it, d, ep, ⟨B₂, acc, n, _, _, l₂, x, i, q, rfl, by rw [hjm]; exact hx, hD, kB.trans kB₂, by rw [hjm]; exact hd.le kB₂, hr.le kB₂, ?_, ho, by rw [hjm]; exact O₄⟩, fun s'' hI'' => hkap .none s'' ?_⟩
    · obtain ⟨o, es, e, y⟩ := hdt; exact ⟨o, es, kB₂ _ _ e, y⟩
    · have hjm' : c.rows.length - m = j + 1 := by omega
      rw [hjm'] at hI''
      refine seg_execs_nil ?_
      exact seg_again rfl (ih (j + 1) s'' s'' (by omega) hI'')
end
-- G8
section
variable {w : World} {A : Around} {E : Value → Shared → Prop} {s : Shared} {B : Heap} {F F' S S' : NsL} {L L' : ObL} {R : Result → Shared → Prop} {h : Heap} {K : Type} [DecidableEq K] {knd : KeyKind prog w K}
theorem TabIs.mono {B B' : Heap} {nm : Str} {v : Value} {inner : List (Str × Value)} (x : TabIs w B L nm v inner) (k : Le B B') (kl : ∀ p ∈ L, p ∈ L') : TabIs w B' L' nm v inner := by
  have kn : ∀ {a o}, Kn B L a o → Kn B' L' a o := fun y => y.imp (k _ _) (kl _)
  cases x with
  | none => exact .none
  | found a b c e d => exact .found (kn a) b c e (k.dict d)
  | missing a b c d => exact .missing a (kn b) c d
/-- d.items() -/
theorem m_items {d : Addr} {kvs : List (K × Value)} {pos : Pos} {env : Env} {pl : Sem Bool} {Q : Value → Shared → Prop} (O : Own B F S L s.heap) (hd : s.heap.DictOf knd d kvs) (hdS : (d == sysModules) = false)
    (k : ∀ h' v, (∀ b o, s.heap.get? b = some o → h'.get? b = some o) → h'.IsItemsView v d → Own B F S L h' → Q (.ref v) { s with heap := h' }) :
    wpAny (model prog w) A (getMethod (.ref d) "items" pl) (fun fx s₂ => wpAny (model prog w) A (callWith pos fx.1 fx.2 (backTo pos (starEach [] env)) []) Q E s₂) E s := by
  refine getMethod_builtin hd.typeIs PySem.F.plainAttrs_dict PySem.F.slot_dict_items PySem.F.type_dict_items hd.mapOf.noDict ?_
  show wpAny _ _ (callWith pos (.builtin "dict.items") [.ref d] [] []) Q E s
  refine method_meetsIn PySem.F.slot_dict_items PySem.F.entry_dict_items rfl (PySem.evalArgs_none ⟨rfl, hd.typeIs, PySem.F.args_dict_items_1 _, _, meets_dict_items knd d hdS, ⟨kvs, hd⟩, ?_⟩)
  exact k _ _ (fun b o e => Heap.get?_push_of_some _ e) ⟨_, Heap.get?_push_size _ rfl, rfl, rfl⟩ (O.push0 _)
theorem iter_items {v d : Addr} {kvs : List (K × Value)} {ep : Nat} {Q : Value → Shared → Prop} (O : Own B F S L s.heap) (hv : s.heap.IsItemsView v d) (hm : s.heap.DictAt knd d kvs ep)
    (hQ : ∀ h' it, Own B F S ((it, itO d 0 kvs.length ep .none .none) :: L) h' → Q (.ref it) { s with heap := h' }) : wpAny (model prog w) A (pyIter (.ref v)) Q E s :=
  wpAny_pyIter_items hv hm (hQ _ _ (O.push _))
end
theorem DictOf.at_ {w : World} {K : Type} [DecidableEq K] {knd : KeyKind prog w K} {h : Heap} {d : Addr} {kvs : List (K × Value)} (x : h.DictOf knd d kvs) : ∃ ep, h.DictAt knd d kvs ep := let ⟨o, es, ep, r⟩ := x; ⟨ep, o, es, r⟩

abbrev bodyIter : List Stmt := by
  refine (fun (l : List Stmt) (_ : l = defBody (tableDef 18)) => l) ?x ?h
  case h => conv => rhs; whnf
section
variable {c : GC} {A : Around}
theorem gen_start {t td st q : Addr} {nm : Str} {tm : Tok} {nx v : Value} {acc0 : Nat} {s s₀ : Shared} (W : Wd c.w c.B) (r : Room A 70) (Fo : Fro A (c.F.map (·.1)))
    (ht : c.B.get? t = some (instObj 426 td)) (hm : (td, tableNs st nm tm q nx) ∈ c.S) (rd : StRead c.w c.B c.S st v) (tb : TabIs c.w c.B c.L nm v c.kvs) (hr : RowsOf c.w c.B c.kvs c.rows)
    (og : c.og s) {B' : Heap} (kB : Le c.B B') (O : Own B' ((c.C, [("self", .ref t)]) :: c.F) c.S ((c.Sl, lsO #[] acc0) :: (c.a, genO c.G0.size c.nm c.qn) :: c.L) s.heap) :
    Seg (model prog c.w) A c.Rg c.Y c.rows.length s₀ (.func bodyIter (envIter c.C)) ((model prog c.w).den (.func bodyIter (envIter c.C))) [] s := by
  refine seg_func ?_
  refine seg_execs_cons (seg_For ?_)
  rw [over_func]
  have W' := W.le kB
  refine MethodCall_ (MethodCall_ ?_)
  walk_at "nm"
  refine meth_at O W' (kB _ _ ht) (Own.nsAt O hm) (by walk_at "noloc") (by k_is) (by k_is) (by k_is) ?_
  walk_at "cw0"
  refine wpAny_call (c_read_table O W' (r.deeper.le (by decide)) (Fo.deeper (by intro q; cases q) rfl) (kB _ _ ht) hm (fun h1 => rd (kB.trans h1)) (tb.mono kB fun p hp => .tail _ (.tail _ hp)) fun B₁ h₁ tk₁ d kB₁ hdS hd O₁ => ?_)
  dsimp only
  refine m_items O₁ (O₁.dictB hd) hdS fun h₂ v₂ k₂ hv O₂ => ?_
  obtain ⟨ep, hda⟩ := DictOf.at_ hd
  refine iter_items (s := ⟨h₂, s.gens, s.drawn, tk₁, s.os⟩) O₂ hv (hda.at fun o e => O₂.keep _ _ e) fun h₃ it O₃ => ?_
  intro p
  refine gen_loop W (r.le (by decide)) Fo (fun s s₀ hE => ?_) c.rows.length 0 _ s₀ (Nat.zero_add _) ⟨B₁, #[], acc0, _, _, _, kB.trans kB₁, ?_, (hr.le kB).le kB₁, hda, og, O₃⟩
  · refine seg_execs_nil (env := envIter c.C) (K := fun f => Sem.pure (Fin.done (Flow.ret (match f with | Flow.ret v => v | _ => Value.none)))) (H := fun e => Sem.wrap (fun _ => Sem.raise e) Sem.raise id id (leaving (envIter c.C) e)) (gd := id) (lv := id) ?_
    exact seg_end (.ok (.ret .none)) ⟨rfl, rfl, hE⟩
  · show DocsOf _ _ [] (List.take 0 c.rows)
    rw [List.take_zero]; exact .nil
end
-- G9
theorem GC.og.set {c : GC} {s : Shared} (x : c.og s) (y : GenState) : c.og (s.setGen c.G0.size y) := by
  obtain ⟨a, b, d, e⟩ := x
  refine ⟨by simpa [Shared.setGen] using a, fun k hk => ?_, d, e⟩
  have : c.G0.size ≠ k := Nat.ne_of_gt hk
  rw [← b k hk]; simp [Shared.setGen, this]
theorem GC.og.heap {c : GC} {s : Shared} (x : c.og s) (h' : Heap) : c.og { s with heap := h' } := x
theorem GC.I.set {c : GC} {it d : Addr} {ep j : Nat} {s : Shared} (x : c.I it d ep j s) (y : GenState) : c.I it d ep j (s.setGen c.G0.size y) := by
  obtain ⟨B', acc, n, ok, ov, fl, a1, a2, a3, a4, a5, a6⟩ := x
  exact ⟨B', acc, n, ok, ov, fl, a1, a2, a3, a4, a5.set y, a6⟩
theorem GC.Y1.next {c : GC} {it d : Addr} {ep j : Nat} {v : Value} {s : Shared} (x : c.Y1 it d ep j v s) :
    ∃ acc n, s.heap.get? c.Sl = some (lsO acc n) ∧ acc.size = j ∧ ∀ s' c', s'.heap.get? c.Sl = some (lsO (acc.push v) c') → c.og s' → Heap.SameBut c.Sl s.heap s'.heap → c.I it d ep (j + 1) s' := by
  obtain ⟨B', acc, n, ok, ov, fl, x, id, m, rfl, a1, a2, a3, a4, a5, a6, a7, O⟩ := x
  have hlt : j < c.rows.length := (List.getElem?_eq_some_iff.mp a1).1
  refine ⟨acc, n, (O.ob _ (.tail _ (.head _))).1, ?_, fun s' c' e og hs => ?_⟩
  · have := a4.length
    rw [List.length_take, Nat.min_eq_left (Nat.le_of_lt hlt)] at this
    simpa using this
  · refine ⟨B', acc.push (.ref x), c', ok, ov, fl, a3, ?_, a5, a6, og, ((O.permL (.swap ..)).put hs e).permL (.swap ..)⟩
    rw [Array.toList_push]
    rw [List.take_add_one, a1]
    exact a4.snoc a2
theorem AllBare.of_set {a b : Array GenState} {y : GenState} (x : AllBare a) (hs : b.size = a.size + 1) (hb : ∀ k, k < a.size → b[k]? = a[k]?) (hy : y.bare = true) (hg : b[a.size]? = some y) : AllBare b := by
  intro z hz
  obtain ⟨i, hi, e⟩ := Array.mem_iff_getElem.mp hz
  by_cases q : i < a.size
  · have := hb i q
    rw [Array.getElem?_eq_getElem hi, e] at this
    exact x _ (Array.mem_of_getElem? this.symm)
  · have q : i = a.size := by omega
    subst q
    rw [Array.getElem?_eq_getElem hi, e] at hg
    rw [Option.some.inj hg]; exact hy
section
variable {w : World} {A : Around} {E : Value → Shared → Prop} {s : Shared} {B : Heap} {F F' S S' : NsL} {L L' : ObL} {R : Result → Shared → Prop} {h : Heap}
/-- the items of the walk, at one turn -/
theorem gen_item {c : GC} {A : Around} {s : Shared} {gs : GenState} {j : Nat} {Q : Option Value → Shared → Prop} (W : Wd c.w c.B) (r : Room A 80) (Fo : Fro A (c.F.map (·.1))) {B' : Heap} (kB : Le c.B B') {F' S' L'} (O : Own B' F' S' L' s.heap) (ha : s.heap.get? c.a = some (genO c.G0.size c.nm c.qn)) (og : c.og s)
    (hgs : s.gens[c.G0.size]? = some gs) (hgo : gs.Goes (model prog c.w) A.in1 c.Rg c.Y (c.rows.length - j) (.send .none) (s.setGen c.G0.size .running)) (hj : j < c.rows.length)
    (hQ : ∀ v s₁ gs' it d ep, c.Y1 it d ep j v s₁ → s₁.gens[c.G0.size]? = some gs' → c.og s₁ → (∀ s'', c.I it d ep (j + 1) s'' → gs'.Goes (model prog c.w) A.in1 c.Rg c.Y (c.rows.length - (j + 1)) (.send .none) s'') → Q (some v) s₁) :
    wpAny (model prog c.w) A (pyNext (.ref c.a)) Q E s := by
  obtain ⟨mg, mb, T⟩ := (W.le kB).T
  refine wpAny_pyNext_gen (n := c.rows.length - j) (P := fun n _ s₁ => n = 0 ∧ c.E s₁) (Y := c.Y) Fo.hd (T.nolimit.keeps O.keep) r.depth ⟨_, _, _, ha, rfl, rfl, rfl⟩ hgs hgo (fun v s₁ gs' hY => ?_) (fun s₁ hP => absurd hP.1 (by omega))
  obtain ⟨it, d, ep, hy, hk⟩ := hY
  obtain ⟨m, hm⟩ : ∃ m, c.rows.length - j = m + 1 := ⟨c.rows.length - j - 1, by omega⟩
  rw [hm] at hy hk
  have e1 : c.rows.length - (m + 1 - 1) - 1 = j := by omega
  have e2 : c.rows.length - (m + 1 - 1) = j + 1 := by omega
  have e3 : c.rows.length - (j + 1) = m := by omega
  rw [e1] at hy
  rw [e2] at hk
  have ogs : c.og s₁ := by obtain ⟨_, _, _, _, _, _, _, _, _, _, _, _, _, _, _, _, z, _⟩ := hy; exact z
  have hy' : c.Y1 it d ep j v (s₁.setGen c.G0.size gs') := by
    obtain ⟨a1, a2, a3, a4, a5, a6, a7, a8, a9, b1, b2, b3, b4, b5, b6, b7, z, b8⟩ := hy
    exact ⟨a1, a2, a3, a4, a5, a6, a7, a8, a9, b1, b2, b3, b4, b5, b6, b7, z.set _, b8⟩
  refine hQ v _ gs' it d ep hy' ?_ (ogs.set _) fun s'' hI => ?_
  · have := ogs.1
    simp [Shared.setGen, this]
  · rw [e3]
    have := hk s'' hI
    exact this
theorem gen_last {c : GC} {A : Around} {s : Shared} {gs : GenState} {Q : Option Value → Shared → Prop} (W : Wd c.w c.B) (r : Room A 80) (Fo : Fro A (c.F.map (·.1))) {B' : Heap} (kB : Le c.B B') {F' S' L'} (O : Own B' F' S' L' s.heap) (ha : s.heap.get? c.a = some (genO c.G0.size c.nm c.qn))
    (hgs : s.gens[c.G0.size]? = some gs) (hgo : gs.Goes (model prog c.w) A.in1 c.Rg c.Y 0 (.send .none) (s.setGen c.G0.size .running))
    (hQ : ∀ s₁, c.E s₁ → s₁.gens[c.G0.size]? = some .finished → Q none s₁) :
    wpAny (model prog c.w) A (pyNext (.ref c.a)) Q E s := by
  obtain ⟨mg, mb, T⟩ := (W.le kB).T
  refine wpAny_pyNext_gen (n := 0) (P := fun n _ s₁ => n = 0 ∧ c.E s₁) (Y := c.Y) Fo.hd (T.nolimit.keeps O.keep) r.depth ⟨_, _, _, ha, rfl, rfl, rfl⟩ hgs hgo (fun v s₁ gs' hY => ?_) (fun s₁ hP h' kp => ?_)
  · obtain ⟨it, d, ep, hy, hk⟩ := hY
    have hlt : c.rows.length ≠ 0 := by
      obtain ⟨_, _, _, _, _, _, _, _, _, _, a1, _⟩ := hy
      intro q
      have := (List.getElem?_eq_some_iff.mp a1).1
      omega
    have ogs : c.og s₁ := by obtain ⟨_, _, _, _, _, _, _, _, _, _, _, _, _, _, _, _, z, _⟩ := hy; exact z
    obtain ⟨acc, n, e, _, q⟩ := hy.next
    have q' := q { s₁ with heap := s₁.heap.update c.Sl fun _ => lsO (acc.push v) n } n (by have := Heap.get?_update_self (fun _ => lsO (acc.push v) n) e rfl; exact this) ogs (Heap.SameBut.update ..)
    have e1 : c.rows.length - 0 - 1 + 1 = c.rows.length - 0 := by omega
    rw [e1] at q'
    exact (hk _ q').elim
  · obtain ⟨_, B₁, acc, n, fl, a1, a2, a3, a4⟩ := hP
    refine hQ _ ⟨B₁, acc, n, fl, a1, a2, (a3.set _).heap _, a4.keepF kp⟩ ?_
    have := a3.1
    simp [Shared.setGen, this]
end
-- H1
section
variable {w : World} {A : Around} {E : Value → Shared → Prop} {s : Shared} {B : Heap} {F F' S S' : NsL} {L L' : ObL} {R : Result → Shared → Prop} {h : Heap}
theorem own_iter {x f C : Addr} {ox : Obj} {od : Option Obj} {Q : Value → Shared → Prop} (X : (hd.heap_39 w.params).In s.heap) (I : InstAt s.heap x ox C od) (hs : findIn (hd.heap_39 w.params) (.ref C) "__iter__" = some (some (.ref f))) (hf : isFn (hd.heap_39 w.params) (.ref f) = true)
    (h : wpAny (model prog w) A (call (.ref f) [.ref x]) (fun it s' => wpAny (model prog w) A (specialOf it "__next__") (fun r s₂ => match r with | none => False | some _ => Q it s₂) E s') E s) : wpAny (model prog w) A (pyIter (.ref x)) Q E s := by
  have fin : wpAny (model prog w) A (call (.ref f) [.ref x] >>= fun v => pure (some v)) (fun r s' => ∃ v, r = some v ∧ wpAny (model prog w) A (specialOf v "__next__") (fun r s₂ => match r with | none => False | some _ => Q v s₂) E s') E s :=
    wpAny_bind (wpAny_mono h (fun v s' h' => wpAny_pure ⟨v, rfl, h'⟩) fun _ _ z => z)
  have one : ∀ refuse : Sem Value, wpAny (model prog w) A (callSpecialIfBoundUnlessNone? (.ref x) "__iter__" refuse) (fun r s' => ∃ v, r = some v ∧ wpAny (model prog w) A (specialOf v "__next__") (fun r s₂ => match r with | none => False | some _ => Q v s₂) E s') E s := by
    intro refuse
    simp only [callSpecialIfBoundUnlessNone?, bindSpecialIfBound?]
    refine wpAny_holding (wpAny_bind (wpAny_bind (wpAny_bind (I.type.here ((looks_findIn X hs).here ?_)))))
    refine wpAny_bind (wpAny_askSetting (wpAny_ite ?_))
    have fin2 : wpAny (model prog w) A (if (Value.ref f == Value.none) = true then (refuse >>= fun v => pure (some v)) else (call (.ref f) [.ref x] >>= fun v => pure (some v))) (fun r s' => ∃ v, r = some v ∧ wpAny (model prog w) A (specialOf v "__next__") (fun r s₂ => match r with | none => False | some _ => Q v s₂) E s') E s := by
      rw [if_neg (show ¬ ((Value.ref f == Value.none) = true) from Bool.false_ne_true)]
      exact fin
    split
    · exact wpAny_bind ((bind_fn X _ (beq_iff_eq.mp hf)).here (wpAny_pure (by exact fin2)))
    · exact wpAny_tryCatch (wpAny_bind ((bind_fn X _ (beq_iff_eq.mp hf)).here (wpAny_pure (by exact fin2))))
  unfold pyIter
  refine wpAny_bind (wpAny_bind (I.type.here ((looks_findIn X hs).here ?_)))
  show wpAny (model prog w) A (callSpecialIfBoundUnlessNone? (.ref x) "__iter__" _ >>= _) Q E s
  refine wpAny_bind (wpAny_mono (one _) (fun r s' hr => ?_) fun _ _ z => z)
  obtain ⟨v, rfl, hv⟩ := hr
  refine wpAny_bind (wpAny_mono hv (fun r s₂ hr => ?_) fun _ _ z => z)
  cases r with
  | none => exact hr.elim
  | some g => exact wpAny_pure hr
/-- iter(self): the generator -/
theorem iter_own {t td : Addr} {l : List (Str × Value)} {Lf : Addr} {lf : List (Str × Value)} {Q : Value → Shared → Prop} (O : Own B ((Lf, lf) :: F) S L s.heap) (W : Wd w B) (r : Room A 3) (ht : B.get? t = some (instObj 426 td)) (hm : (td, l) ∈ S)
    (k : ∀ C a h' tk nm qn, Own B ((C, [("self", .ref t)]) :: (Lf, lf) :: F) S ((a, genO s.gens.size nm qn) :: L) h' →
      Q (.ref a) { s with heap := h', toks := tk, gens := s.gens.push (.fresh (.func bodyIter (envIter C))) }) :
    wpAny (model prog w) A (call (.builtin "iter") [.ref t]) Q E s := by
  refine call_function_entry (by decide +kernel) (by decide +kernel) kdk_entry_iter (kdk_args_iter _) ?_
  unfold Builtin.«iter»
  refine wpAny_bind (m := someArgs "iter" 1 2 _) (wpAny_of_eq (a := [Value.ref t]) (by first | rfl | kernel_rfl!) ?_)
  show wpAny _ _ (pyIter (.ref t) >>= _) _ _ _
  obtain ⟨od, I, _, _⟩ := inst_at O ht (O.nsAt hm)
  refine wpAny_bind (own_iter (O.X W) I (f := 404) (by k_is) (by k_is) ?_)
  refine wpAny_call (call_gen (fl := [("self", .ref t)]) O W (by k_is) (by k_is) (r.in1 (n := 2)).depth (BindsTo.of_eq rfl) fun C a h₁ tk nm qn O₁ => ?_)
  dsimp only
  refine wpAny_specialOf (Heap.IsGen.typeIs (s := ⟨h₁, _, _, _, _⟩) (g := s.gens.size) ⟨_, nm, qn, (O₁.ob _ (.head _)).1, rfl, rfl, rfl⟩) slot_gen_next.lookup ?_
  exact wpAny_pure ⟨_, rfl, k C a h₁ tk nm qn O₁⟩
end
-- H2
abbrev scAll : Scope := by
  refine (fun (l : Scope) (_ : l = defScope (tableDef 6)) => l) ?x ?h
  case h => conv => rhs; whnf
abbrev envAll (Lf : Addr) : Env := envX (Str.ofString "Table.all") scAll Lf 317 (Value.ref 316) []
section
variable {w : World} {A : Around} {E : Value → Shared → Prop} {s : Shared} {B : Heap} {F F' S S' : NsL} {L L' : ObL} {R : Result → Shared → Prop} {h : Heap}
-- Table.all
theorem c_all {t td st q : Addr} {nm : Str} {tm : Tok} {nx v : Value} {kvs : List (Str × Value)} {rows : List (Int × Int)} (O : Own B F S L s.heap) (W : Wd w B) (r : Room A 90) (Fo : Fro A (F.map (·.1)))
    (ht : B.get? t = some (instObj 426 td)) (hm : (td, tableNs st nm tm q nx) ∈ S) (rd : StRead w B S st v) (tb : TabIs w B L nm v kvs) (hr : RowsOf w B kvs rows) (hN : rows.length ≤ 1000)
    (k : ∀ B' h' tk gens' x vs n, Le B B' → DocsOf w B' vs rows → B'.get? x = some (lsO vs.toArray n) → Own B' F S L h' → (AllBare s.gens → AllBare gens') → R (.ok (.ret (.ref x))) ⟨h', gens', s.drawn, tk, s.os⟩) :
    codeAny (model prog w) A (.call (.ref 317) ⟨[.ref t], []⟩) R s := by
  refine call_fn (fl := [("self", .ref t)]) O W (by k_is) (by k_is) r.depth (BindsTo.of_eq rfl) fun Lf h₁ O₁ => ?_
  refine wpAny_execs_cons (wpAny_Return_some (Call_ ?_))
  walk_at "nm"
  walk_at "cwT"
  walk_at "arg"
  refine Call_ ?_
  walk_at "nm"
  walk_at "cwB"
  walk_at "arg"
  walk_at "nm"
  walk_at "args1"
  refine iter_own O₁ W (r.deeper.le (by decide)) ht hm fun C a h₂ tk₂ nm2 qn2 O₂ => ?_
  walk_at "args1"
  have Fo1 := Fo.deeper (env := envX (Str.ofString "Table.all") scAll Lf 317 (Value.ref 316) []) (Lf := Lf) (by intro q; cases q) rfl
  let c : GC := ⟨w, B, (Lf, [("self", .ref t)]) :: F, S, L, rows, kvs, C, h₂.objs.size, a, nm2, qn2, s.gens, s.drawn, s.os⟩
  refine call_list_own (g := s.gens.size) (n := rows.length) (Sl := h₂.objs.size) (J := fun j s₁ => (j = 0 ∧ s₁.gens[s.gens.size]? = some (.fresh (.func bodyIter (envIter C))) ∧ c.og s₁ ∧ ∃ n, Own B ((C, [("self", .ref t)]) :: c.F) S ((c.Sl, lsO #[] n) :: (a, genO s.gens.size nm2 qn2) :: L) s₁.heap) ∨
      (0 < j ∧ ∃ it d ep gs, s₁.gens[s.gens.size]? = some gs ∧ c.I it d ep j s₁ ∧ ∀ s'', c.I it d ep j s'' → gs.Goes (model prog w) ((A.deeper (envAll Lf)).in1.in1.in1) c.Rg c.Y (rows.length - j) (.send .none) s''))
      ⟨_, nm2, qn2, (O₂.ob _ (.head _)).1, rfl, rfl, rfl⟩ (Nat.le_trans hN (by decide)) rfl ?_ ?_ ?_
  · intro h' n kp hS
    refine .inl ⟨rfl, ?_, ⟨by simp [c], fun k hk => ?_, rfl, rfl⟩, n, ?_⟩
    · simp
    · show (s.gens.push _)[k]? = s.gens[k]?
      rw [Array.getElem?_push, if_neg (Nat.ne_of_lt hk)]
    · exact O₂.add (Nat.le_refl _) kp hS
  · intro j s₁ Q' E' hj hJ hQ
    have fin : ∀ v s₂ gs' it d ep, c.Y1 it d ep j v s₂ → s₂.gens[c.G0.size]? = some gs' → c.og s₂ → (∀ s'', c.I it d ep (j + 1) s'' → gs'.Goes (model prog c.w) (A.deeper (envAll Lf)).in1.in1.in1 c.Rg c.Y (c.rows.length - (j + 1)) (.send .none) s'') → Q' (some v) s₂ := by
      intro v s₂ gs' it d ep hy hg og hgo
      obtain ⟨acc, n, e, hac, nx⟩ := hy.next
      exact hQ v s₂ acc n e hac fun h' c' hs he => .inr ⟨Nat.succ_pos _, it, d, ep, gs', hg, nx { s₂ with heap := h' } c' he og hs, hgo⟩
    rcases hJ with ⟨rfl, hg, og, n, O₃⟩ | ⟨_, it, d, ep, gs, hg, hI, hgo⟩
    · refine gen_item (c := c) W (r.deeper.in1.in1.le (by decide)) (Fo1.in1.in1) (.refl B) O₃ (O₃.ob _ (.tail _ (.head _))).1 og hg ⟨rfl, ?_⟩ hj fin
      exact gen_start (c := c) W (r.deeper.in1.in1.in1.le (by decide)) Fo1.in1.in1.in1 ht hm (fun a => rd a) tb hr (og.set _) (.refl B) O₃
    · obtain ⟨B', acc, n, ok, ov, fl, a1, a2, a3, a4, a5, a6⟩ := id hI
      exact gen_item (c := c) W (r.deeper.in1.in1.le (by decide)) (Fo1.in1.in1) a1 a6 (a6.ob _ (.tail _ (.tail _ (.head _)))).1 a5 hg (hgo _ (hI.set _)) hj fin
  · intro s₁ Q' E' hJ hQ
    have fin : ∀ s₂, c.E s₂ → s₂.gens[c.G0.size]? = some .finished → Q' none s₂ := by
      intro s₂ hE hg
      obtain ⟨B', acc, n, fl, a1, a2, a3, O₃⟩ := hE
      refine hQ s₂ ?_
      obtain ⟨B₂, kB, e, O₄⟩ := O₃.freeze1
      obtain ⟨h₂', g₂, d₂, t₂, o₂⟩ := s₂
      obtain ⟨b1, b2, b3, b4⟩ := a3
      dsimp only at b3 b4
      subst b3 b4
      refine k B₂ h₂' t₂ g₂ _ acc.toList n (a1.trans kB) (a2.le kB) (by simpa using e) O₄.dropL.dropF.dropF fun hb => ?_
      exact AllBare.of_set hb b1 b2 rfl hg
    rcases hJ with ⟨h0, hg, og, n, O₃⟩ | ⟨_, it, d, ep, gs, hg, hI, hgo⟩
    · refine gen_last (c := c) W (r.deeper.in1.in1.le (by decide)) (Fo1.in1.in1) (.refl B) O₃ (O₃.ob _ (.tail _ (.head _))).1 hg ⟨rfl, ?_⟩ fin
      have := gen_start (c := c) (s₀ := s₁.setGen c.G0.size .running) W (r.deeper.in1.in1.in1.le (by decide)) Fo1.in1.in1.in1 ht hm (fun a => rd a) tb hr (og.set .running) (.refl B) O₃
      rw [show c.rows.length = 0 from h0] at this
      exact this
    · obtain ⟨B', acc, n, ok, ov, fl, a1, a2, a3, a4, a5, a6⟩ := id hI
      have := hgo _ (hI.set .running)
      rw [Nat.sub_self] at this
      exact gen_last (c := c) W (r.deeper.in1.in1.le (by decide)) (Fo1.in1.in1) a1 a6 (a6.ob _ (.tail _ (.tail _ (.head _)))).1 hg this fin
end
-- H3
section
variable {w : World} {A : Around} {E : Value → Shared → Prop} {s : Shared} {B : Heap} {F F' S S' : NsL} {L L' : ObL} {R : Result → Shared → Prop} {h : Heap} {env : Env}
/-- a frame's names are let go -/
theorem Own.loseF {a : Addr} {l : List (Str × Value)} {h' : Heap} (O : Own B ((a, l) :: F) S L h) (hs : Heap.SameBut a h h') : Own B F S L h' := by
  have nd := O.nd
  rw [List.map_cons, List.cons_append, List.nodup_cons] at nd
  obtain ⟨n1, _⟩ := nd
  have e0 := (O.fr _ (.head _)).2
  have O' := O.dropF
  refine ⟨fun b x e => ?_, fun p hp => ⟨(O.fr p (.tail _ hp)).1.sameBut hs ?_, (O.fr p (.tail _ hp)).2⟩, fun p hp => ⟨(O.ns p hp).1.sameBut hs ?_, (O.ns p hp).2⟩, fun p hp => ?_, O'.nd, O'.lo, O.sz⟩
  · rw [hs.2 b (fun q => by rw [q] at e; rw [e0] at e; cases e)]; exact O.keep b x e
  · exact fun q => n1 (List.mem_append_left _ (List.mem_map.mpr ⟨p, hp, q⟩))
  · exact fun q => n1 (List.mem_append_right _ (List.mem_append_left _ (List.mem_map.mpr ⟨p, hp, q⟩)))
  · exact ⟨(hs.2 _ fun q => n1 (List.mem_append_right _ (List.mem_append_right _ (List.mem_map.mpr ⟨p, hp, q⟩)))).trans (O.ob p hp).1, (O.ob p hp).2⟩
theorem own_ListComp {elt target iter : Expr} {ifs : List Expr} {scope : Scope} {pos : Pos} {Q : Value → Shared → Prop}
    (h : wpAny (model prog w) A (eval iter env) (fun x s₁ => wpAny (model prog w) A (pyIter x) (fun it s₂ => ∃ B F S L, Own B F S L s₂.heap ∧
      (∀ (s' : Shared) (Q' : Value → Shared → Prop) (E' : Value → Shared → Prop), (∀ b o, s₂.heap.get? b = some o → s'.heap.get? b = some o) → Q' it s' → wpAny (model prog w) A (pyIter it) Q' E' s') ∧
      ∀ D C h₃ tk, Own B ((C, []) :: F) S ((D, lsO #[] 0) :: L) h₃ →
        codeAny (model prog w) A (.compLoop (.ListComp elt [⟨target, iter, ifs, 0⟩] scope pos) 0 it (.ref D) (compEnv scope C env))
          (fun r s' => r = .ok .next ∧ ∃ B' l F' S' L', Own B' ((C, l) :: F') S' L' s'.heap ∧ ∀ h', Own B' F' S' L' h' → Q (.ref D) { s' with heap := h' }) { s₂ with heap := h₃, toks := tk }) E s₁) E s)
    (hfree : ∀ x ∈ scope.names, x.2 ≠ .free := by decide) (hcell : ∀ x ∈ scope.names, x.2 ≠ .cell := by decide) (hkind : scope.kind = .function := by rfl) (hnames : ∀ x ∈ scope.names, x.2 = .local → scope.names.lookup x.1 = some .local := by decide)
    (hs : ∀ x, foldedSetIterable iter env x = pure x := by intro _; rfl) :
    wpAny (model prog w) A (eval (.ListComp elt [⟨target, iter, ifs, 0⟩] scope pos) env) Q E s := by
  refine wpAny_ListComp hfree hkind hnames (wpAny_mono h (fun xv s₁ h₁ => wpAny_mono h₁ (fun it s₂ h₂ => ?_) fun _ _ e => e) fun _ _ e => e) hs
  obtain ⟨B, F, S, L, O, hself, hk⟩ := h₂
  refine wpAny_newObj_type (hd := by size_fits) (wpAny_newFunctionEnv hcell (by intro y hy; simp at hy) (fun h₁ hns₁ hsb₁ => ?_) hkind)
  have O₁ : Own B F S ((s₂.heap.objs.size, lsO #[] 0) :: L) _ := O.push (lsO #[] 0)
  have kp : ∀ b o, (s₂.heap.push (lsO #[] 0)).get? b = some o → h₁.get? b = some o := fun b o e => hsb₁.extBut b o (Nat.ne_of_lt (Heap.lt_size e)) (Heap.get?_push_of_some _ e)
  have O₂ : Own B ((_, []) :: F) S ((s₂.heap.objs.size, lsO #[] 0) :: L) h₁ := O₁.enter kp (by exact hns₁)
  have fin : ∀ (r : Result) (s' : Shared), (r = .ok .next ∧ ∃ B' l F' S' L', Own B' (((s₂.heap.push (lsO #[] 0)).objs.size, l) :: F') S' L' s'.heap ∧ ∀ h', Own B' F' S' L' h' → Q (.ref s₂.heap.objs.size) { s' with heap := h' }) →
      ∃ m, s'.heap.Ns (s₂.heap.push (lsO #[] 0)).objs.size m ∧ ∀ h', Heap.SameBut (s₂.heap.push (lsO #[] 0)).objs.size s'.heap h' →
            match r with | .ok _ => Q (.ref s₂.heap.objs.size) { s' with heap := h' } | .error x => wpAny (model prog w) A (passOn "comprehension.variables-let-go" x (compEnv scope (s₂.heap.push (lsO #[] 0)).objs.size env)) Q E { s' with heap := h' } := by
    rintro r s' ⟨rfl, B', l, F', S', L', O', q⟩
    exact ⟨_, (O'.fr _ (.head _)).1, fun h' hs' => q h' (O'.loseF hs')⟩
  have hk' := codeAny_mono (hk _ _ _ (s₂.toks + ([] : List (Str × Value)).length) O₂) fin
  exact codeAny_compStart_list hk' (hself _ _ _ (fun b o e => kp b o (Heap.get?_push_of_some _ e)) hk')
theorem own_DictComp {kx vx target iter : Expr} {ifs : List Expr} {scope : Scope} {pos : Pos} {Q : Value → Shared → Prop}
    (h : wpAny (model prog w) A (eval iter env) (fun x s₁ => wpAny (model prog w) A (pyIter x) (fun it s₂ => ∃ B F S L, Own B F S L s₂.heap ∧
      (∀ (s' : Shared) (Q' : Value → Shared → Prop) (E' : Value → Shared → Prop), (∀ b o, s₂.heap.get? b = some o → s'.heap.get? b = some o) → Q' it s' → wpAny (model prog w) A (pyIter it) Q' E' s') ∧
      ∀ D C h₃ tk, Own B ((C, []) :: F) S ((D, emptyDict) :: L) h₃ →
        codeAny (model prog w) A (.compLoop (.DictComp kx vx [⟨target, iter, ifs, 0⟩] scope pos) 0 it (.ref D) (compEnv scope C env))
          (fun r s' => r = .ok .next ∧ ∃ B' l F' S' L', Own B' ((C, l) :: F') S' L' s'.heap ∧ ∀ h', Own B' F' S' L' h' → Q (.ref D) { s' with heap := h' }) { s₂ with heap := h₃, toks := tk }) E s₁) E s)
    (hfree : ∀ x ∈ scope.names, x.2 ≠ .free := by decide) (hcell : ∀ x ∈ scope.names, x.2 ≠ .cell := by decide) (hkind : scope.kind = .function := by rfl) (hnames : ∀ x ∈ scope.names, x.2 = .local → scope.names.lookup x.1 = some .local := by decide)
    (hs : ∀ x, foldedSetIterable iter env x = pure x := by intro _; rfl) :
    wpAny (model prog w) A (eval (.DictComp kx vx [⟨target, iter, ifs, 0⟩] scope pos) env) Q E s := by
  rw [arm_eval_DictComp]
  refine wpAny_comprehension rfl hs hfree hkind hnames (wpAny_mono h (fun xv s₁ h₁ => wpAny_mono h₁ (fun it s₂ h₂ => ?_) fun _ _ e => e) fun _ _ e => e)
  obtain ⟨B, F, S, L, O, hself, hk⟩ := h₂
  refine wpAny_newObj_type (wpAny_newFunctionEnv hcell (by intro y hy; simp at hy) (fun h₁ hns₁ hsb₁ => ?_) hkind)
  have O₁ : Own B F S ((s₂.heap.objs.size, emptyDict) :: L) _ := O.push emptyDict
  have kp : ∀ b o, (s₂.heap.push emptyDict).get? b = some o → h₁.get? b = some o := fun b o e => hsb₁.extBut b o (Nat.ne_of_lt (Heap.lt_size e)) (Heap.get?_push_of_some _ e)
  have O₂ : Own B ((_, []) :: F) S ((s₂.heap.objs.size, emptyDict) :: L) h₁ := O₁.enter kp (by exact hns₁)
  have fin : ∀ (r : Result) (s' : Shared), (r = .ok .next ∧ ∃ B' l F' S' L', Own B' (((s₂.heap.push emptyDict).objs.size, l) :: F') S' L' s'.heap ∧ ∀ h', Own B' F' S' L' h' → Q (.ref s₂.heap.objs.size) { s' with heap := h' }) →
      ∃ m, s'.heap.Ns (s₂.heap.push emptyDict).objs.size m ∧ ∀ h', Heap.SameBut (s₂.heap.push emptyDict).objs.size s'.heap h' →
            match r with | .ok _ => Q (.ref s₂.heap.objs.size) { s' with heap := h' } | .error x => wpAny (model prog w) A (passOn "comprehension.variables-let-go" x (compEnv scope (s₂.heap.push emptyDict).objs.size env)) Q E { s' with heap := h' } := by
    rintro r s' ⟨rfl, B', l, F', S', L', O', q⟩
    exact ⟨_, (O'.fr _ (.head _)).1, fun h' hs' => q h' (O'.loseF hs')⟩
  have hk' := codeAny_mono (hk _ _ _ (s₂.toks + ([] : List (Str × Value)).length) O₂) fin
  exact codeAny_compStart_dict hk' (hself _ _ _ (fun b o e => kp b o (Heap.get?_push_of_some _ e)) hk')
end
-- D1
namespace SF
theorem entry_dga : entryFor table "dict.__getattribute__" = some Builtin.«object.__getattribute__» := entryFor_alias (id' := "object.__getattribute__") (by kernel_rfl) (by first | rfl | (unfold String.splitOn; simp +decide [String.splitOnAux])) (by decide +kernel) (by kernel_rfl)
theorem dga_plain : plainId "dict.__getattribute__" = true := by decide +kernel
theorem dga_kind : builtinKind "dict.__getattribute__" = some .slot := by decide +kernel
theorem dga_split : splitId "dict.__getattribute__" = some ("dict", "__getattribute__") := by decide +kernel
theorem dga_args (a b : Value) : argsOk "dict.__getattribute__" ⟨[a, b], []⟩ := PySem.F.args_dict_getattribute_2 a b
theorem dga_bind (self : Value) : bindSpecial (.builtin "dict.__getattribute__") self = pure (.builtin "dict.__getattribute__", [self]) := PySem.F.slot_dict_getattribute.bind self
end SF
section
variable {w : World} {A : Around} {E : Value → Shared → Prop} {s : Shared} {B : Heap} {F S : NsL} {L : ObL}
theorem doc_attr {x xd : Addr} {name : Str} {v : Value} {es : Array DictEntry} {ep : Nat} {expr : Bool} {l : List (Str × Value)} {Q : Value → Shared → Prop} (O : Own B F S L s.heap) (W : Wd w B)
    (hx : B.get? x = some { cls := .ref 261, dict := some xd, data := .dict es ep }) (hm : NsB B xd l) (hv : Loc l name v)
    (ha : findIn (hd.heap_39 w.params) (.ref 261) name = some none) (hh : handedIn v = true) (h : ∀ tk, Q v { s with toks := tk })
    (hga : findIn (hd.heap_39 w.params) (.ref 261) "__getattribute__" = some (some (.builtin "dict.__getattribute__")) := by k_is) (hgr : findIn (hd.heap_39 w.params) (.ref 261) "__getattr__" = some none := by k_is)
    (hdd : hasDictIn (hd.heap_39 w.params) 261 = true := by k_is) (hn : noGet (hd.heap_39 w.params) none = true := by k_is) (hsub : subIn (hd.heap_39 w.params) (.ref 261) (.type "dict") = some true := by k_is) :
    wpAny (model prog w) A (getAttr (.ref x) name expr) Q E s := by
  have hm := O.nsOf hm
  obtain ⟨o, es', ep', h1, h2, h3, h4, _⟩ := hm
  have I : InstAt s.heap x { cls := .ref 261, dict := some xd, data := .dict es ep } 261 (some o) := ⟨O.keep _ _ hx, rfl, rfl, h1⟩
  have hl : lookIn name o = some (some v) := by
    have q := (h4 name).trans hv.eq
    unfold lookIn; rw [h2]; dsimp only
    unfold nsFind findBy at q
    rw [← Array.find?_toList] at q
    cases hf : es'.toList.find? (fun x => x.key.isStr name) with
    | none => rw [hf] at q; cases q
    | some e => rw [hf] at q; cases q; rfl
  have X := O.X W
  have hf := findObj_own hdd ha hn hl
  obtain ⟨hh', g, d, t, os⟩ := s
  have L0 := I.type (M := model prog w)
  have L1 := looks_findIn (M := model prog w) X hga
  have L2 := looks_findIn (M := model prog w) X hgr
  have L3 := looks_find (M := model prog w) X I hf
  have L4 : Looks (model prog w) hh' (isInstance (.ref x) (.type "dict")) true := L0.andThen (looks_subIn X hsub)
  unfold getAttr getAttrBy
  refine wpAny_bind (wpAny_mkText (wpAny_holding (wpAny_bind (L0.at (wpAny_bind (L1.at ?_))))))
  show wpAny _ _ (getAttrByItsOwn _ _ _ _ _ _) _ _ _
  unfold getAttrByItsOwn hookBefore callGetattribute boundAndCalled
  refine wpAny_bind ?_
  show wpAny _ _ (typeLookup (.ref 261) "__getattr__") _ _ _
  refine L2.at ?_
  refine wpAny_bind (wpAny_attempt (wpAny_holding ?_))
  show wpAny _ _ ((if (expr && onTheHeap (.builtin "dict.__getattribute__")) = true then _ else _)) _ _ _
  rw [show (expr && onTheHeap (.builtin "dict.__getattribute__")) = false from by cases expr <;> rfl, if_neg Bool.false_ne_true]
  refine wpAny_bind (wpAny_of_eq (SF.dga_bind _) ?_)
  refine wpAny_call (codeAny_call_builtin SF.dga_plain SF.entry_dga (@check_slot (model prog w) _ _ ⟨hh', g, d, t + 1, os⟩ "dict.__getattribute__" "dict" "__getattribute__" (.ref x) [.str name t] [] _ SF.dga_kind SF.dga_split L4 (SF.dga_args _ _) ?_))
  unfold Builtin.«object.__getattribute__»
  refine wpAny_bind (wpAny_pure (wpAny_bind (wpAny_pure (wpAny_bind (L0.at (wpAny_bind (L3.at ?_)))))))
  refine wpAny_pure ?_
  show wpAny _ _ (handedOut v) _ _ _
  rw [handedOut_of hh]; exact wpAny_pure (h _)
end
-- D2
section
open PySem.W.X
local macro_rules | `(tactic| x_close) => `(tactic| (first | apply_assumption | exact ⟨_, _, _, _, rfl, rfl, (mem_new (by assumption)).1, (mem_new (by assumption)).2.1, (mem_new (by assumption)).2.2, rfl, _, rfl⟩))
set_option maxHeartbeats 0 in
theorem x_getitem (w : World) (h : Heap) (g : Array GenState) (d : Drawn) (t : Nat) (os : OsState) (X : (hd.heap_39 w.params).In h) (x xd : Addr) (n : Int) (ta tn tk ep : Nat) (hx : h.get? x = some { cls := .ref 261, dict := some xd, data := .dict #[⟨hashStr w "a", .str "a" ta, .int n tn⟩] ep })
   (Q : Value → Shared → Prop) (hQ : ∀ t', Q (.int n tn) ⟨h, g, d, t', os⟩) :
    wpAny (model PySem.Challenge.pw_fk5016_01 w) A1 (call (.builtin "dict.__getitem__") [.ref x, .str "a" tk]) Q (fun _ _ => False) ⟨h, g, d, t, os⟩ := by
  x_run
  all_goals exact hQ _
section
variable {w : World} {A : Around} {E : Value → Shared → Prop} {s : Shared} {B : Heap} {F S : NsL} {L : ObL}
theorem dict_getitem_bind (self : Value) : bindSpecial (.builtin "dict.__getitem__") self = pure (.builtin "dict.__getitem__", [self]) := PySem.F.slot_dict_getitem.bind self
/-- one['a'] -/
theorem doc_item {x : Addr} {i n : Int} {value slice : Expr} {tk : Tok} {Q : Value → Shared → Prop} (O : Own B F S L s.heap) (W : Wd w B) (r : Room A 12) (hh : A.handled = none) (hx : Docm w B x i n) (h : ∀ tn t', Q (.int n tn) { s with toks := t' })
    (hga : findIn (hd.heap_39 w.params) (.ref 261) "__getitem__" = some (some (.builtin "dict.__getitem__")) := by k_is) (hq : noSeq (hd.heap_39 w.params) 261 = true := by k_is)
    (hs : subscripted slice false (.ref x) (.str "a" tk) = operate [.ref x, .str "a" tk] (getItem (.ref x) (.str "a" tk)) := by with_unfolding_all rfl) (ht : ∀ r, letTemporaryGo value (.ref x) r = pure () := by intro _; with_unfolding_all rfl) :
    wpAny (model prog w) A (subscriptTail value slice (.ref x) (.str "a" tk)) Q E s := by
  obtain ⟨xd, ta, tn, ti, ep, a, b⟩ := hx
  obtain ⟨o, es', ep', h1, h2, h3, h4, _⟩ := O.nsOf b
  have I : InstAt s.heap x { cls := .ref 261, dict := some xd, data := .dict #[⟨hashStr w "a", .str "a" ta, .int n tn⟩] ep } 261 (some o) := ⟨O.keep _ _ a, rfl, rfl, h1⟩
  have X := O.X W
  have L0 := I.type (M := model prog w)
  have L1 := looks_findIn (M := model prog w) X hga
  unfold subscriptTail getitemInPython
  refine wpAny_bind (wpAny_bind (wpAny_bind (L0.here (L1.here ?_))))
  refine wpAny_pure ?_
  rw [hs]
  refine wpAny_bind (wpAny_operating ?_)
  unfold getItem sequenceKey
  refine wpAny_holding (wpAny_bind (wpAny_bind (L0.here ?_)))
  refine wpAny_bind ((anyM_none X hq).here ?_)
  rw [if_pos (show (!false) = true from rfl)]
  refine wpAny_pure (wpAny_bind ?_)
  unfold callSpecial? specialOf
  refine wpAny_bind (wpAny_bind (L0.here (L1.here ?_)))
  refine wpAny_holding (wpAny_bind (wpAny_of_eq (dict_getitem_bind _) ?_))
  obtain ⟨hp, g, d, t, os⟩ := s
  refine wpAny_bind (toA1 hh (r.le (by decide)) (x_getitem w hp g d t os X x xd n ta tn tk ep (O.keep _ _ a) _ fun t' => ?_))
  exact wpAny_pure (wpAny_pure (wpAny_bind (wpAny_of_eq (ht _) (wpAny_pure (h tn t')))))
end
end
-- H4
def LiO (o : Obj) (x : Addr) (i : Nat) : Prop := o.cls = .type "list_iterator" ∧ o.data = .fields #[.ref x, .int i 0]
def LsO (o : Obj) (items : Array Value) : Prop := o.cls = .type "list" ∧ ∃ n, o.data = .seq items n
section
variable {w : World} {A : Around} {E : Value → Shared → Prop} {s : Shared} {B : Heap} {F F' S S' : NsL} {L L' : ObL} {R : Result → Shared → Prop} {h : Heap} {env : Env}
theorem LsO.list {h : Heap} {x : Addr} {o : Obj} {items : Array Value} (e : h.get? x = some o) (l : LsO o items) : h.IsList x items := ⟨o, e, l.1, l.2⟩
theorem IsList.keep {h h' : Heap} {x : Addr} {items : Array Value} (hl : h.IsList x items) (k : ∀ b o, h.get? b = some o → h'.get? b = some o) : h'.IsList x items := let ⟨o, e, r⟩ := hl; ⟨o, k _ _ e, r⟩
/-- an object of the ledger is dropped, all else is kept -/
theorem Own.lose {a : Addr} {o : Obj} {h' : Heap} (O : Own B F S ((a, o) :: L) h) (he : Heap.ExtBut a h h') : Own B F S L h' := by
  have nd := O.nd
  rw [List.map_cons, nodup_app, nodup_app, List.nodup_cons] at nd
  obtain ⟨_, ⟨_, ⟨n1, _⟩, n2⟩, n3⟩ := nd
  have e0 := (O.ob _ (.head _)).2
  have O' := O.dropL
  refine ⟨fun b x e => ?_, fun p hp => ⟨?_, (O.fr p hp).2⟩, fun p hp => ⟨?_, (O.ns p hp).2⟩, fun p hp => ?_, O'.nd, O'.lo, O.sz⟩
  · exact he b x (fun q => by rw [q] at e; rw [e0] at e; cases e) (O.keep b x e)
  · obtain ⟨x, es, ep, a1, r⟩ := (O.fr p hp).1
    exact ⟨x, es, ep, he _ _ (fun q => n3 p.1 (List.mem_map.mpr ⟨p, hp, rfl⟩) (List.mem_append_right _ (q ▸ .head _))) a1, r⟩
  · obtain ⟨x, es, ep, a1, r⟩ := (O.ns p hp).1
    exact ⟨x, es, ep, he _ _ (fun q => n2 p.1 (List.mem_map.mpr ⟨p, hp, rfl⟩) (q ▸ .head _)) a1, r⟩
  · exact ⟨he _ _ (fun q => n1 (List.mem_map.mpr ⟨p, hp, q⟩)) (O.ob p (.tail _ hp)).1, (O.ob p (.tail _ hp)).2⟩
theorem iter_list {x : Addr} {items : Array Value} {Q : Value → Shared → Prop} (O : Own B F S L s.heap) (hl : s.heap.IsList x items)
    (k : ∀ h' it o, LiO o x 0 → (∀ b o, s.heap.get? b = some o → h'.get? b = some o) → Own B F S ((it, o) :: L) h' → Q (.ref it) { s with heap := h' }) : wpAny (model prog w) A (pyIter (.ref x)) Q E s :=
  wpAny_pyIter_list hl (k _ _ _ ⟨rfl, rfl⟩ (fun _ _ e => Heap.get?_push_of_some _ e) (O.push _))
theorem next_list {x it : Addr} {o : Obj} {i : Nat} {items : Array Value} {v : Value} {Q : Option Value → Shared → Prop} (O : Own B F S ((it, o) :: L) s.heap) (lo : LiO o x i) (hl : s.heap.IsList x items) (hv : items[i]? = some v)
    (k : ∀ h' o', LiO o' x (i + 1) → Own B F S ((it, o') :: L) h' → Q (some v) { s with heap := h' }) : wpAny (model prog w) A (pyNext (.ref it)) Q E s :=
  wpAny_pyNext_list_item ⟨o, (O.ob _ (.head _)).1, lo.1, lo.2⟩ hl hv fun h' ⟨o', e, a, b⟩ hs => k h' o' ⟨a, b⟩ (O.put hs e)
theorem last_list {x it : Addr} {o : Obj} {i : Nat} {items : Array Value} {Q : Option Value → Shared → Prop} (hh : A.handled = none) (O : Own B F S ((it, o) :: L) s.heap) (lo : LiO o x i) (hl : s.heap.IsList x items) (hv : items[i]? = none)
    (k : ∀ h', Own B F S L h' → Q none { s with heap := h' }) : wpAny (model prog w) A (pyNext (.ref it)) Q E s :=
  wpAny_pyNext_list_end hh ⟨o, (O.ob _ (.head _)).1, lo.1, lo.2⟩ hl hv fun h' he => k h' (O.lose he)
theorem self_list {x it : Addr} {o : Obj} {i : Nat} {B F S L} {s₂ : Shared} (O : Own B F S ((it, o) :: L) s₂.heap) (lo : LiO o x i) :
    ∀ (s' : Shared) (Q' : Value → Shared → Prop) (E' : Value → Shared → Prop), (∀ b o, s₂.heap.get? b = some o → s'.heap.get? b = some o) → Q' (.ref it) s' → wpAny (model prog w) A (pyIter (.ref it)) Q' E' s' :=
  fun s' Q' E' k h => wpAny_pyIter_listiter (l := x) (i := i) ⟨o, k _ _ (O.ob _ (.head _)).1, lo.1, lo.2⟩ h
theorem list_append {x : Addr} {o : Obj} {items : Array Value} {v : Value} {Q : Value → Shared → Prop} (O : Own B F S ((x, o) :: L) s.heap) (lo : LsO o items) (hz : items.size ≤ 1000)
    (k : ∀ h' o', LsO o' (items.push v) → Own B F S ((x, o') :: L) h' → Q .none { s with heap := h' }) : wpAny (model prog w) A (call (.builtin "list.append") [.ref x, v]) Q E s :=
  wpAny_list_append (LsO.list (O.ob _ (.head _)).1 lo) (fun h' ⟨o', e, a, b⟩ hs => k h' o' ⟨a, b⟩ (O.put hs e)) (Nat.le_trans hz (by decide))
/-- a tuple is made -/
theorem new_tuple {vs : List Value} {Q : Value → Shared → Prop} (O : Own B F S L s.heap) (hz : vs.length ≤ 1000) (k : ∀ h' t, (∀ b o, s.heap.get? b = some o → h'.get? b = some o) → Own B F S ((t, tupO vs) :: L) h' → Q (.ref t) { s with heap := h' }) : wpAny (model prog w) A (newTuple vs) Q E s :=
  wpAny_newObj_type (k _ _ (fun _ _ e => Heap.get?_push_of_some _ e) (O.push _)) (by show vs.toArray.size ≤ sizeLine; rw [List.size_toArray]; exact Nat.le_trans hz (by decide))
/-- the rows as the law tells them -/
inductive TupsOf (B : Heap) : List Value → List (Int × Int) → Prop
  | nil : TupsOf B [] []
  | cons {t i n ti tn vs rows} : B.get? t = some (tupO [.int i ti, .int n tn]) → TupsOf B vs rows → TupsOf B (.ref t :: vs) ((i, n) :: rows)
theorem TupsOf.le {B B' : Heap} {kvs rows} (x : TupsOf B kvs rows) (k : Le B B') : TupsOf B' kvs rows := by
  induction x with
  | nil => exact .nil
  | cons d _ ih => exact .cons (k _ _ d) ih
theorem TupsOf.length {B : Heap} {kvs rows} (x : TupsOf B kvs rows) : kvs.length = rows.length := by
  induction x with
  | nil => rfl
  | cons _ _ ih => simp [ih]
theorem TupsOf.snoc {B : Heap} {vs rows} (x : TupsOf B vs rows) {y : Addr} {i n : Int} {ti tn : Tok} (d : B.get? y = some (tupO [.int i ti, .int n tn])) : TupsOf B (vs ++ [.ref y]) (rows ++ [(i, n)]) := by
  induction x with
  | nil => exact .cons d .nil
  | cons d' _ ih => exact .cons d' ih
theorem DocsOf.at {B : Heap} {vs rows} (x : DocsOf w B vs rows) {j : Nat} {i n : Int} (h : rows[j]? = some (i, n)) : ∃ y, vs[j]? = some (.ref y) ∧ Docm w B y i n := by
  induction x generalizing j with
  | nil => simp at h
  | cons d _ ih =>
    cases j with
    | zero => simp at h; obtain ⟨rfl, rfl⟩ := h; exact ⟨_, rfl, d⟩
    | succ j => exact ih (by simpa using h)
end
-- H5
section
variable {w : World} {A : Around} {E : Value → Shared → Prop} {s : Shared} {B : Heap} {F F' S S' : NsL} {L L' : ObL} {R : Result → Shared → Prop} {h : Heap}
-- _law_rows
theorem c_rows {t td st q : Addr} {nm : Str} {tm : Tok} {nx v : Value} {kvs : List (Str × Value)} {rows : List (Int × Int)} (O : Own B F S L s.heap) (W : Wd w B) (r : Room A 100) (Fo : Fro A (F.map (·.1)))
    (ht : B.get? t = some (instObj 426 td)) (hm : (td, tableNs st nm tm q nx) ∈ S) (rd : StRead w B S st v) (tb : TabIs w B L nm v kvs) (hr : RowsOf w B kvs rows) (hN : rows.length ≤ 900)
    (k : ∀ B' h' tk gens' x vs, Le B B' → TupsOf B' vs rows → B'.IsList x vs.toArray → Own B' F S L h' → (AllBare s.gens → AllBare gens') → R (.ok (.ret (.ref x))) ⟨h', gens', s.drawn, tk, s.os⟩) :
    codeAny (model prog w) A (.call (.ref 442) ⟨[.ref t], []⟩) R s := by
  refine call_fn (fl := [("made", .ref t)]) O W (by k_is) (by k_is) r.depth (BindsTo.of_eq rfl) fun Lf h₁ O₁ => ?_
  refine wpAny_execs_cons (wpAny_Return_some (own_ListComp (MethodCall_ ?_)))
  walk_at "nm"
  refine meth_at O₁ W ht (Own.nsAt O₁ hm) (by walk_at "noloc") (by k_is) (by k_is) (by k_is) ?_
  walk_at "cw0"
  refine wpAny_call (c_all O₁ W (r.deeper.le (by decide)) (Fo.deeper (by intro q; cases q) rfl) ht hm (fun a => rd a) tb hr (Nat.le_trans hN (by decide)) fun B₂ h₂ tk₂ g₂ x vs n kB hds hx O₂ hg => ?_)
  dsimp only
  have hxl : B₂.IsList x vs.toArray := ⟨_, hx, rfl, _, rfl⟩
  have W₂ := W.le kB
  refine iter_list (s := ⟨h₂, g₂, s.drawn, tk₂, s.os⟩) O₂ (IsList.keep hxl O₂.keep) fun h₃ it o lo k₃ O₃ => ?_
  refine ⟨_, _, _, _, O₃, self_list (s₂ := ⟨h₃, g₂, s.drawn, tk₂, s.os⟩) O₃ lo, fun D C h₄ tk₄ O₄ => ?_⟩
  refine codeAny_compLoop_tests (fun m s' => ∃ j, j + m = rows.length + 1 ∧ j ≤ rows.length ∧ ∃ B' l oD oi acc, Le B₂ B' ∧ LiO oi x j ∧ LsO oD acc ∧ TupsOf B' acc.toList (rows.take j) ∧
      (s'.gens = g₂ ∧ s'.drawn = s.drawn ∧ s'.os = s.os) ∧ Own B' ((C, l) :: (Lf, [("made", .ref t)]) :: F) S ((D, oD) :: (it, oi) :: L) s'.heap) ?_ (rows.length + 1) ⟨0, by omega, by omega, B₂, _, _, _, #[], .refl _, lo, ⟨rfl, _, rfl⟩, .nil, ⟨rfl, rfl, rfl⟩, O₄⟩
  rintro m ⟨h', g', d', t', os'⟩ ⟨j, hj, hjl, B', l, oD, oi, acc, kB', li, lD, htu, ⟨rfl, rfl, rfl⟩, O'⟩
  dsimp only at O'
  have hvl := hds.length
  refine wpAny_mono (E := fun _ _ => False) ?_ (fun _ _ z => z) (fun _ _ z => z.elim)
  by_cases hlt : j < rows.length
  · obtain ⟨⟨i, q'⟩, hq⟩ : ∃ y, rows[j]? = some y := ⟨_, List.getElem?_eq_getElem hlt⟩
    obtain ⟨y, hy, hdoc⟩ := hds.at hq
    refine next_list (s := ⟨h', _, _, t', _⟩) (O'.permL (.swap ..)) li (IsList.keep (IsList.keep hxl kB') O'.keep) (v := .ref y) (by simpa using hy) fun h₅ o₅ l₅ O₅ => ?_
    dsimp only
    refine wpAny_mono (E := fun _ _ => False) ?_ (fun _ _ z => z) (fun _ _ z => z.elim)
    refine wpAny_assign_Name ?_
    obtain ⟨l', hl'⟩ := Put.any (x := ("one" : Str)) (v := .ref y) l
    refine st_loc (s := ⟨h₅, _, _, t', _⟩) O₅ hl' (fun h₆ O₆ => ?_) rfl rfl rfl
    refine wpAny_tests_nil ?_
    rw [if_pos rfl]
    refine wpAny_mono (E := fun _ _ => False) ?_ (fun _ _ z => z) (fun _ _ z => z.elim)
    have W' := W₂.le kB'
    obtain ⟨xd, ta, tn, ti, ep, hd1, hd2⟩ := id (hdoc.le kB')
    refine Tuple_ ?_
    walk_at "arg"
    refine Attribute_any_ ?_
    refine nm_loc O₆ (.head _) hl'.loc ?_
    refine doc_attr O₆ W' hd1 hd2 (.head) (by k_is) rfl fun tk₇ => ?_
    walk_at "arg"
    refine Subscript_ ?_
    refine nm_loc O₆ (.head _) hl'.loc ?_
    refine wpAny_Constant_str ?_
    refine doc_item O₆ W' (r.deeper.le (by decide)) Fo.hd (hdoc.le kB') fun tn₈ tk₈ => ?_
    walk_at "args1"
    refine new_tuple (s := ⟨h₆, _, _, tk₈, _⟩) O₆ (Nat.le_of_ble_eq_true rfl) fun h₉ tt k₉ O₉ => ?_
    obtain ⟨B₃, kB₃, hb₃, O₁₀⟩ := O₉.freeze1
    refine list_append (s := ⟨h₉, _, _, tk₈, _⟩) (O₁₀.permL (.swap ..)) lD ?_ fun h₁₁ o₁₁ l₁₁ O₁₁ => ?_
    · have := htu.length
      rw [List.length_take] at this
      simp at this; omega
    · refine ⟨m - 1, by omega, j + 1, by omega, by omega, B₃, l', o₁₁, o₅, acc.push (.ref tt), kB'.trans kB₃, l₅, l₁₁, ?_, ⟨rfl, rfl, rfl⟩, O₁₁⟩
      rw [Array.toList_push, List.take_add_one, hq]
      exact (htu.le kB₃).snoc hb₃
  · have hje : j = rows.length := by omega
    refine last_list (s := ⟨h', _, _, t', _⟩) Fo.hd (O'.permL (.swap ..)) li (IsList.keep (IsList.keep hxl kB') O'.keep) (by simp; omega) fun h₅ O₅ => ?_
    dsimp only
    refine ⟨rfl, B', l, _, _, _, O₅, fun h₆ O₆ => ?_⟩
    obtain ⟨B₃, kB₃, hb₃, O₇⟩ := O₆.freeze1
    refine k B₃ h₆ _ _ D acc.toList ((kB.trans kB').trans kB₃) ?_ ?_ O₇.dropF hg
    · have := htu.le kB₃
      rw [hje, List.take_length] at this; exact this
    · rw [show acc.toList.toArray = acc from by simp]; exact LsO.list hb₃ lD
end
-- H6
section
variable {w : World} {A : Around} {E : Value → Shared → Prop} {s : Shared} {B : Heap} {F F' S S' : NsL} {L L' : ObL} {R : Result → Shared → Prop} {h : Heap} {env : Env} {K : Type} [DecidableEq K] {knd : KeyKind prog w K}
theorem compLoop_D {kx vx target iter : Expr} {scope : Scope} {pos : Pos} {it : Value} {D : Addr} {env : Env} (I : Nat → Shared → Prop)
    (turn : ∀ n s, I n s → wpAny (model prog w) A (pyNext it) (fun r s₁ => match r with
      | none => R (.ok .next) s₁
      | some v => wpAny (model prog w) A (letOwnedTupleGo target it v) (fun _ s₁ => wpAny (model prog w) A (assign target env v) (fun _ s₂ =>
          wpAny (model prog w) A (eval kx env) (fun kv s₄ => wpAny (model prog w) A (eval vx env) (fun vv s₅ =>
              wpAny (model prog w) A (dictSet D kv vv) (fun _ s₆ => ∃ m, m < n ∧ I m s₆) (fun _ _ => False) s₅) (fun _ _ => False) s₄) (fun _ _ => False) s₂) (fun _ _ => False) s₁) (fun _ _ => False) s₁) (fun _ _ => False) s)
    (n : Nat) (h : I n s) :
    codeAny (model prog w) A (.compLoop (.DictComp kx vx [⟨target, iter, [], 0⟩] scope pos) 0 it (.ref D) env) R s := by
  have no : ∀ {α : Type} {t : Sem α} {Q : α → Shared → Prop} {E : Value → Shared → Prop} {s : Shared}, wpAny (model prog w) A t Q (fun _ _ => False) s → wpAny (model prog w) A t Q E s := fun x => wpAny_mono x (fun _ _ z => z) fun _ _ z => z.elim
  refine codeAny_loop rfl I (fun n s hI => ?_) n h
  show wpAny _ A ((compTurn (.DictComp kx vx [⟨target, iter, [], 0⟩] scope pos) 0 it (.ref D) env).onRaise (fun x => do noteFrame x env; theTreesLotGoes x)) _ _ s
  refine wpAny_noted ?_
  rw [compTurn_dict]
  refine wpAny_bind (wpAny_standAt (wpAny_bind (no (wpAny_mono (turn n s hI) (fun r s₁ h₁ => ?_) fun _ _ h' => h'))))
  cases r with
  | none => exact wpAny_pure h₁
  | some v =>
    refine wpAny_bind (no (wpAny_mono h₁ (fun _ s₁ h₁ => ?_) fun _ _ h' => h'))
    refine wpAny_bind (no (wpAny_mono h₁ (fun _ s₂ h₂ => ?_) fun _ _ h' => h'))
    refine wpAny_bind (wpAny_tests_nil ?_)
    exact wpAny_bind (wpAny_bind (no (wpAny_mono h₂ (fun kv s₄ h₄ => wpAny_bind (wpAny_holding (no (wpAny_mono h₄ (fun vv s₅ h₅ => wpAny_bind (wpAny_standAt (wpAny_holding (no (wpAny_mono h₅ (fun _ s₆ h₆ => wpAny_pure ⟨rfl, h₆⟩) fun _ _ h' => h'))))) fun _ _ h' => h')))) fun _ _ h' => h')))
theorem set_dict {d : Addr} {o : Obj} {kvs : List (K × Value)} {k : K} {key v : Value} {Q : Unit → Shared → Prop} (O : Own B F S ((d, o) :: L) s.heap) (hd : o.IsDictOf knd kvs) (hkey : knd.is k key = true) (hz : kvs.length ≤ 1000)
    (q : ∀ h' o', o'.IsDictOf knd (stored kvs k v) → Own B F S ((d, o') :: L) h' → Q () { s with heap := h', toks := s.toks + 1 }) : wpAny (model prog w) A (dictSet d key v) Q E s :=
  wpAny_dictSet_pairs hkey (O.dictL (.head _) hd) (fun h' hd' hs => let ⟨o', a, b⟩ := O.putDict hs hd'; q h' o' a b) (Nat.le_trans hz (by decide))
theorem setitem_dict {d : Addr} {o : Obj} {kvs : List (K × Value)} {k : K} {key v : Value} {Q : Unit → Shared → Prop} (O : Own B F S ((d, o) :: L) s.heap) (hd : o.IsDictOf knd kvs) (hkey : knd.is k key = true) (hz : kvs.length ≤ 1000)
    (q : ∀ h' o', o'.IsDictOf knd (stored kvs k v) → Own B F S ((d, o') :: L) h' → Q () { s with heap := h', toks := s.toks + 1 }) : wpAny (model prog w) A (setItem (.ref d) key v) Q E s :=
  wpAny_setItem_pairs hkey (O.dictL (.head _) hd) (fun h' hd' hs => let ⟨o', a, b⟩ := O.putDict hs hd'; q h' o' a b) (Nat.le_trans hz (by decide))
theorem self_items {it d : Addr} {i n ep : Nat} {ok ov : Value} {s₂ : Shared} (O : Own B F S ((it, itO d i n ep ok ov) :: L) s₂.heap) :
    ∀ (s' : Shared) (Q' : Value → Shared → Prop) (E' : Value → Shared → Prop), (∀ b o, s₂.heap.get? b = some o → s'.heap.get? b = some o) → Q' (.ref it) s' → wpAny (model prog w) A (pyIter (.ref it)) Q' E' s' :=
  fun _ _ _ k h => kcp_self (i := i) (n := n) (ep := ep) (d := d) (ok := ok) (ov := ov) (k _ _ (O.ob _ (.head _)).1) h

-- keys
theorem keyOf_inj {i j : Int} (hi : 0 ≤ i ∧ i < 1000) (hj : 0 ≤ j ∧ j < 1000) (e : keyOf i = keyOf j) : i = j := by
  have a := KIN.num_reads (n := i) hi.1 (by omega)
  have b := KIN.num_reads (n := j) hj.1 (by omega)
  have e' : PySem.Str.ofString (toString i) = PySem.Str.ofString (toString j) := e
  rw [e', b] at a
  exact (Option.some.inj a).symm
abbrev toS (l : List (Int × Value)) : List (Str × Value) := l.map fun p => (keyOf p.1, p.2)
def Small (l : List (Int × Value)) : Prop := ∀ p ∈ l, 0 ≤ p.1 ∧ p.1 < 1000
theorem notIn_take {α : Type} [DecidableEq α] {l : List (α × Value)} (hn : (l.map (·.1)).Nodup) {j : Nat} {k : α} {v : Value} (h : l[j]? = some (k, v)) : valueAt (l.take j) k = none := by
  unfold valueAt
  rw [Option.map_eq_none_iff, List.find?_eq_none]
  intro p hp
  have hj : j < l.length := (List.getElem?_eq_some_iff.mp h).1
  have he : l[j] = (k, v) := (List.getElem?_eq_some_iff.mp h).2
  obtain ⟨i, hi, e⟩ := List.mem_iff_getElem.mp hp
  rw [List.length_take] at hi
  rw [List.getElem_take] at e
  have hij : i < j := by omega
  intro q
  have q : p.1 = k := by simpa using q
  have := (List.nodup_iff_pairwise_ne.mp hn)
  rw [List.pairwise_iff_getElem] at this
  have := this i j (by simpa using (show i < l.length by omega)) (by simpa using hj) hij
  simp only [List.getElem_map] at this
  apply this
  rw [e, he, q]
end
-- H6b
section
variable {w : World} {A : Around} {E : Value → Shared → Prop} {s : Shared} {B : Heap} {F F' S S' : NsL} {L L' : ObL} {R : Result → Shared → Prop} {h : Heap} {env : Env}
/-- y = {..: .. for ..}: the name is stored ahead of the letting go -/
theorem own_AssignDictComp {kx vx target iter : Expr} {ifs : List Expr} {scope : Scope} {pos spos py : Pos} {y : Str} {cl : List (Str × Addr)} {Q : Flow → Shared → Prop}
    (h : wpAny (model prog w) A (eval iter env) (fun x s₁ => wpAny (model prog w) A (pyIter x) (fun it s₂ => ∃ B F S L, Own B F S L s₂.heap ∧
      (∀ (s' : Shared) (Q' : Value → Shared → Prop) (E' : Value → Shared → Prop), (∀ b o, s₂.heap.get? b = some o → s'.heap.get? b = some o) → Q' it s' → wpAny (model prog w) A (pyIter it) Q' E' s') ∧
      ∀ D C h₃ tk, Own B ((C, []) :: F) S ((D, emptyDict) :: L) h₃ →
        codeAny (model prog w) A (.compLoop (.DictComp kx vx [⟨target, iter, ifs, 0⟩] scope pos) 0 it (.ref D) (compEnvC scope cl C env))
          (fun r s' => r = .ok .next ∧ ∃ B' l Lf lf lf' F' S' L', Own B' ((C, l) :: (Lf, lf) :: F') S' L' s'.heap ∧ Put lf y (.ref D) lf' ∧ env.locals = Lf ∧ ∀ h' tk', Own B' ((Lf, lf') :: F') S' L' h' → Q .next { s' with heap := h', toks := tk' }) { s₂ with heap := h₃, toks := tk }) E s₁) E s)
    (hsw : swapsWith (.DictComp kx vx [⟨target, iter, ifs, 0⟩] scope pos) (some (.Name y py)) spos.line env = pure true := by rfl)
    (hclos : closureFor scope env = pure cl := by rfl) (hcell : ∀ x ∈ scope.names, x.2 ≠ .cell := by decide) (hkind : scope.kind = .function := by rfl) (hnames : ∀ x ∈ scope.names, x.2 = .local → scope.names.lookup x.1 = some .local := by decide)
    (hy : env.kindOf y = some .local := by rfl) (hp : (env.scope.kind == .class || (env.scope.kind == .module && env.locals != env.globals)) = false := by rfl)
    (hs : ∀ x, foldedSetIterable iter env x = pure x := by intro _; rfl) :
    wpAny (model prog w) A (exec (.Assign [.Name y py] (.DictComp kx vx [⟨target, iter, ifs, 0⟩] scope pos) spos) env) Q E s := by
  rw [exec_Assign_Name_used _ _ _ _ hsw]
  refine wpAny_bind (wpAny_standAt (wpAny_bind ?_))
  show wpAny _ A (do let _ ← comprehension (.DictComp kx vx [⟨target, iter, ifs, 0⟩] scope pos) scope env _ newDict false (eval iter env) (some (assign (.Name y py) env))) _ _ s
  refine wpAny_bind (wpAny_mono (wpAny_comprehension_free (use := some (assign (.Name y py) env)) (Q := fun _ s' => Q .next s') rfl hs hclos hkind hnames
    (wpAny_mono h (fun xv s₁ h₁ => wpAny_mono h₁ (fun it s₂ h₂ => ?_) fun _ _ e => e) fun _ _ e => e)) (fun _ s' hq => wpAny_pure (wpAny_pure hq)) fun _ _ e => e)
  obtain ⟨B, F, S, L, O, hself, hk⟩ := h₂
  refine wpAny_newObj_type (wpAny_newFunctionEnv hcell (by intro y hy; simp at hy) (fun h₁ hns₁ hsb₁ => ?_) hkind)
  have O₁ : Own B F S ((s₂.heap.objs.size, emptyDict) :: L) _ := O.push emptyDict
  have kp : ∀ b o, (s₂.heap.push emptyDict).get? b = some o → h₁.get? b = some o := fun b o e => hsb₁.extBut b o (Nat.ne_of_lt (Heap.lt_size e)) (Heap.get?_push_of_some _ e)
  have O₂ : Own B ((_, []) :: F) S ((s₂.heap.objs.size, emptyDict) :: L) h₁ := O₁.enter kp (by exact hns₁)
  have hk' := codeAny_mono (hk _ _ _ (s₂.toks + ([] : List (Str × Value)).length) O₂) (R' := compPost (model prog w) A E (some (assign (.Name y py) env)) (fun _ s' => Q .next s') (.ref s₂.heap.objs.size) (s₂.heap.push emptyDict).objs.size) (by
    rintro r s' ⟨rfl, B', l, Lf, lf, lf', F', S', L', O', hput, hloc, q⟩
    show wpAny _ A (assign (.Name y py) env (.ref s₂.heap.objs.size)) _ _ _
    refine wpAny_assign_Name (st_loc (O'.permF (.swap ..)) hput (fun h₂ O₃ => ?_) hloc hy hp)
    replace O₃ := O₃.permF (.swap ..)
    exact ⟨_, (O₃.fr _ (.head _)).1, fun h' hs' => q h' _ (O₃.loseF hs')⟩)
  exact codeAny_compStart_dict hk' (hself _ _ _ (fun b o e => kp b o (Heap.get?_push_of_some _ e)) hk')
theorem Put.uniq {l l₁ l₂ : List (Str × Value)} {x : Str} {v : Value} (a : Put l x v l₁) (b : Put l x v l₂) : l₁ = l₂ := by
  induction a generalizing l₂ with
  | nil => cases b; rfl
  | head =>
    cases b with
    | head => rfl
    | tail e _ => simp at e
  | tail e _ ih =>
    cases b with
    | head => simp at e
    | tail _ q => rw [ih q]
end
-- H7
abbrev scUpd : Scope := by
  refine (fun (l : Scope) (_ : l = defScope (tableDef 21)) => l) ?x ?h
  case h => conv => rhs; whnf
abbrev envUpd (Lf : Addr) : Env := envX (Str.ofString "Table._update_table") scUpd Lf 423 (Value.ref 422) []
abbrev updSt3 : Stmt := by
  refine (fun (l : Stmt) (_ : l = defAt (tableDef 21) 3) => l) ?x ?h
  case h => conv => rhs; whnf
abbrev compInt : Expr := by
  refine (fun (l : Expr) (_ : l = exprOf (defAt (tableDef 21) 3)) => l) ?x ?h
  case h => conv => rhs; whnf
abbrev compStr : Expr := by
  refine (fun (l : Expr) (_ : l = exprOf (defAt (tableDef 21) 5)) => l) ?x ?h
  case h => conv => rhs; whnf
section
variable {w : World} {A : Around} {E : Value → Shared → Prop} {s : Shared} {B : Heap} {F F' S S' : NsL} {L L' : ObL} {R : Result → Shared → Prop} {h : Heap}
theorem log_small {n : Nat} (h : n < 2 ^ 10) : n.log2 < 1920 := by
  by_cases h0 : n = 0
  · subst h0; decide
  · exact Nat.lt_of_lt_of_le ((Nat.log2_lt h0).mpr h) (by decide)
theorem toS_nodup {ikvs : List (Int × Value)} (sm : Small ikvs) (hn : (ikvs.map (·.1)).Nodup) : ((toS ikvs).map (·.1)).Nodup := by
  rw [List.map_map]
  show (ikvs.map fun p => keyOf p.1).Nodup
  rw [List.nodup_iff_pairwise_ne, List.pairwise_map] at *
  refine hn.imp_of_mem fun {a b} ha hb hne e => hne (keyOf_inj (sm a ha) (sm b hb) e)
theorem comp_int {Lf d : Addr} {o : Obj} {l : List (Str × Value)} {ikvs : List (Int × Value)} {Q : Flow → Shared → Prop} (O : Own B ((Lf, l) :: F) S L s.heap) (W : Wd w B) (hl : Loc l "raw_table" (.ref d)) (kn : Kn B L d o) (hdS : (d == sysModules) = false)
    (hd : o.IsDictOf (strKind prog w) (toS ikvs)) (sm : Small ikvs) (hn : (ikvs.map (·.1)).Nodup) (hz : ikvs.length ≤ 900) (hh : A.handled = none)
    (q : ∀ h' tk D oD l', Put l "table" (.ref D) l' → oD.IsDictOf (intKind prog w) ikvs → Own B ((Lf, l') :: F) S ((D, oD) :: L) h' → Q .next { s with heap := h', toks := tk }) :
    wpAny (model prog w) A (exec updSt3 (envUpd Lf)) Q E s := by
  refine own_AssignDictComp (cl := []) (MethodCall_ ?_)
  refine nm_loc O (.head _) hl ?_
  refine m_items O (O.knDict kn hd) hdS fun h₁ v k₁ hv O₁ => ?_
  obtain ⟨es, ep, hd'⟩ := id hd
  have hda : ∀ {F' S' L' h'}, Own B F' S' L' h' → Kn B L' d o → h'.DictAt (strKind prog w) d (toS ikvs) ep := fun O' kn' => ⟨o, es, O'.kn kn', hd'⟩
  refine iter_items (s := { s with heap := h₁ }) O₁ hv (hda O₁ kn) fun h₂ it O₂ => ?_
  refine ⟨_, _, _, _, O₂, self_items (s₂ := { s with heap := h₂ }) O₂, fun D C h₃ tk₃ O₃ => ?_⟩
  refine compLoop_D (fun m s' => ∃ j, j + m = ikvs.length + 1 ∧ j ≤ ikvs.length ∧ ∃ l' oD ok ov h' tk, s' = ⟨h', s.gens, s.drawn, tk, s.os⟩ ∧ oD.IsDictOf (intKind prog w) (ikvs.take j) ∧
      Own B ((C, l') :: (Lf, l) :: F) S ((D, oD) :: (it, itO d j (toS ikvs).length ep ok ov) :: L) h') ?_ (ikvs.length + 1) ⟨0, by omega, by omega, _, _, _, _, h₃, tk₃, rfl, empty_of _, O₃⟩
  rintro m s' ⟨j, hj, hjl, l', oD, ok, ov, h', tk', rfl, hoD, O'⟩
  by_cases hlt : j < ikvs.length
  · obtain ⟨⟨i, v'⟩, hx⟩ : ∃ y, ikvs[j]? = some y := ⟨_, List.getElem?_eq_getElem hlt⟩
    have hi := sm (i, v') (List.mem_of_getElem? hx)
    have hx' : (toS ikvs)[j]? = some (keyOf i, v') := by simp [hx]
    refine next_items (s := ⟨h', s.gens, s.drawn, tk', s.os⟩) (O'.permL (.swap ..)) (hda (O'.permL (.swap ..)) (Kn.cons (Kn.cons kn))) hx' fun key h₅ a hkey O₅ => ?_
    obtain ⟨tkk, rfl⟩ := Value.isStrOf_shape hkey
    dsimp only
    refine letgo_items (s := ⟨h₅, s.gens, s.drawn, tk', s.os⟩) O₅ fun h₆ O₆ => ?_
    obtain ⟨l₁, hl1⟩ := Put.any (x := ("doc_id" : Str)) (v := .str (keyOf i) tkk) l'
    obtain ⟨l₂, hl2⟩ := Put.any (x := ("doc" : Str)) (v := v') l₁
    refine unpack2 (s := ⟨h₆, s.gens, s.drawn, tk', s.os⟩) hh O₆ ⟨_, (O₆.ob _ (.head _)).1, rfl, _, rfl⟩ hl1 hl2 (fun h₇ tk₇ O₇ => ?_)
    replace O₇ := O₇.dropL
    refine Call_ ?_
    walk_at "nm"
    walk_at "cwT"
    walk_at "arg"
    refine nm_loc O₇ (.head _) (Loc.put hl2 hl1.loc (by decide +kernel)) ?_
    walk_at "args1"
    refine KIN.call_num hi.1 (by omega) ?_
    refine nm_loc (s := ⟨h₇, s.gens, s.drawn, _, s.os⟩) O₇ (.head _) hl2.loc ?_
    refine set_dict (s := ⟨h₇, s.gens, s.drawn, _, s.os⟩) (O₇.permL (.swap ..)) hoD (k := i) (intKind_is ..) ?_ fun h₈ o₈ hd₈ O₈ => ?_
    · simp; omega
    · refine ⟨m - 1, by omega, j + 1, by omega, by omega, l₂, o₈, _, _, h₈, _, rfl, ?_, O₈⟩
      rw [stored_absent (notIn_take hn hx)] at hd₈
      rw [show ikvs.take (j + 1) = ikvs.take j ++ [(i, v')] from by rw [List.take_add_one, hx]; rfl]
      exact hd₈
  · have hje : j = ikvs.length := by omega
    refine last_items (s := ⟨h', s.gens, s.drawn, tk', s.os⟩) hh (O'.permL (.swap ..)) (hda (O'.permL (.swap ..)) (Kn.cons (Kn.cons kn))) (by rw [List.getElem?_eq_none_iff]; first | omega | (simp; omega)) fun h₅ O₅ => ?_
    obtain ⟨lt, hlt'⟩ := Put.any (x := ("table" : Str)) (v := .ref D) l
    refine ⟨rfl, B, l', _, _, lt, _, _, _, O₅, hlt', rfl, fun h₆ tk₆ O₆ => ?_⟩
    refine q h₆ tk₆ D oD lt hlt' ?_ O₆
    rw [hje, List.take_of_length_le (by first | exact Nat.le_refl _ | simp)] at hoD
    exact hoD
theorem comp_str {Lf d : Addr} {o : Obj} {l : List (Str × Value)} {ikvs : List (Int × Value)} {Q : Value → Shared → Prop} (O : Own B ((Lf, l) :: F) S L s.heap) (W : Wd w B) (hl : Loc l "table" (.ref d)) (kn : Kn B L d o) (hdS : (d == sysModules) = false)
    (hd : o.IsDictOf (intKind prog w) ikvs) (sm : Small ikvs) (hn : (ikvs.map (·.1)).Nodup) (hz : ikvs.length ≤ 900) (hh : A.handled = none)
    (q : ∀ h' tk D oD, oD.IsDictOf (strKind prog w) (toS ikvs) → Own B ((Lf, l) :: F) S ((D, oD) :: L) h' → Q (.ref D) { s with heap := h', toks := tk }) :
    wpAny (model prog w) A (eval compStr (envUpd Lf)) Q E s := by
  refine own_DictComp (MethodCall_ ?_)
  refine nm_loc O (.head _) hl ?_
  refine m_items O (O.knDict kn hd) hdS fun h₁ v k₁ hv O₁ => ?_
  obtain ⟨es, ep, hd'⟩ := id hd
  have hda : ∀ {F' S' L' h'}, Own B F' S' L' h' → Kn B L' d o → h'.DictAt (intKind prog w) d ikvs ep := fun O' kn' => ⟨o, es, O'.kn kn', hd'⟩
  refine iter_items (s := { s with heap := h₁ }) O₁ hv (hda O₁ kn) fun h₂ it O₂ => ?_
  refine ⟨_, _, _, _, O₂, self_items (s₂ := { s with heap := h₂ }) O₂, fun D C h₃ tk₃ O₃ => ?_⟩
  refine compLoop_D (fun m s' => ∃ j, j + m = ikvs.length + 1 ∧ j ≤ ikvs.length ∧ ∃ l' oD ok ov h' tk, s' = ⟨h', s.gens, s.drawn, tk, s.os⟩ ∧ oD.IsDictOf (strKind prog w) ((toS ikvs).take j) ∧
      Own B ((C, l') :: (Lf, l) :: F) S ((D, oD) :: (it, itO d j ikvs.length ep ok ov) :: L) h') ?_ (ikvs.length + 1) ⟨0, by omega, by omega, _, _, _, _, h₃, tk₃, rfl, empty_of _, O₃⟩
  rintro m s' ⟨j, hj, hjl, l', oD, ok, ov, h', tk', rfl, hoD, O'⟩
  by_cases hlt : j < ikvs.length
  · obtain ⟨⟨i, v'⟩, hx⟩ : ∃ y, ikvs[j]? = some y := ⟨_, List.getElem?_eq_getElem hlt⟩
    have hi := sm (i, v') (List.mem_of_getElem? hx)
    have hx' : (toS ikvs)[j]? = some (keyOf i, v') := by simp [hx]
    refine next_items (s := ⟨h', s.gens, s.drawn, tk', s.os⟩) (O'.permL (.swap ..)) (hda (O'.permL (.swap ..)) (Kn.cons (Kn.cons kn))) (hx) fun key h₅ a hkey O₅ => ?_
    obtain ⟨tkk, rfl⟩ := Value.isInt_shape hkey
    dsimp only
    refine letgo_items (s := ⟨h₅, s.gens, s.drawn, tk', s.os⟩) O₅ fun h₆ O₆ => ?_
    obtain ⟨l₁, hl1⟩ := Put.any (x := ("doc_id" : Str)) (v := .int i tkk) l'
    obtain ⟨l₂, hl2⟩ := Put.any (x := ("doc" : Str)) (v := v') l₁
    refine unpack2 (s := ⟨h₆, s.gens, s.drawn, tk', s.os⟩) hh O₆ ⟨_, (O₆.ob _ (.head _)).1, rfl, _, rfl⟩ hl1 hl2 (fun h₇ tk₇ O₇ => ?_)
    replace O₇ := O₇.dropL
    refine Call_ ?_
    walk_at "nm"
    walk_at "cwT"
    walk_at "arg"
    refine nm_loc O₇ (.head _) (Loc.put hl2 hl1.loc (by decide +kernel)) ?_
    walk_at "args1"
    refine P.str_of_int (log_small (by omega)) ?_
    refine nm_loc (s := ⟨h₇, s.gens, s.drawn, _, s.os⟩) O₇ (.head _) hl2.loc ?_
    refine set_dict (s := ⟨h₇, s.gens, s.drawn, _, s.os⟩) (O₇.permL (.swap ..)) hoD (k := keyOf i) (strKind_is ..) ?_ fun h₈ o₈ hd₈ O₈ => ?_
    · simp; omega
    · refine ⟨m - 1, by omega, j + 1, by omega, by omega, l₂, o₈, _, _, h₈, _, rfl, ?_, O₈⟩
      rw [stored_absent (notIn_take (toS_nodup sm hn) hx')] at hd₈
      rw [show (toS ikvs).take (j + 1) = (toS ikvs).take j ++ [(keyOf i, v')] from by rw [List.take_add_one]; simp [hx]]
      exact hd₈
  · have hje : j = ikvs.length := by omega
    refine last_items (s := ⟨h', s.gens, s.drawn, tk', s.os⟩) hh (O'.permL (.swap ..)) (hda (O'.permL (.swap ..)) (Kn.cons (Kn.cons kn))) (by rw [List.getElem?_eq_none_iff]; first | omega | (simp; omega)) fun h₅ O₅ => ?_
    refine ⟨rfl, B, l', _, _, _, O₅, fun h₆ O₆ => ?_⟩
    refine q h₆ tk' D oD ?_ O₆
    rw [hje, List.take_of_length_le (by first | exact Nat.le_refl _ | simp)] at hoD
    exact hoD
end
-- H8
abbrev updRest2 : List Stmt := by
  refine (fun (l : List Stmt) (_ : l = (defBody (tableDef 21)).drop 3) => l) ?x ?h
  case h => conv => rhs; whnf
abbrev updTry : Stmt := by
  refine (fun (l : Stmt) (_ : l = defAt (tableDef 21) 2) => l) ?x ?h
  case h => conv => rhs; whnf
abbrev updRest : List Stmt := updTry :: updRest2

section
variable {w : World} {A : Around} {E : Value → Shared → Prop} {s : Shared} {B : Heap} {F F' S S' : NsL} {L L' : ObL} {R : Result → Shared → Prop} {h : Heap}
/-- what an updater does -/
def UpdOk (w : World) (B : Heap) (S : NsL) (m : Nat) (u : Addr) (L1 : ObL) (ikvs : List (Int × Value)) (P : Heap → ObL → List (Int × Value) → Prop) : Prop :=
  ∀ {A : Around} {s : Shared} {B' : Heap} {F : NsL} {Y : ObL} {D : Addr} {oD : Obj} {R : Result → Shared → Prop}, Le B B' → Own B' F S ((D, oD) :: (L1 ++ Y)) s.heap → Wd w B' → Room A m → Fro A (F.map (·.1)) → oD.IsDictOf (intKind prog w) ikvs →
    (∀ B'' h' tk gens' oD' L1' ikvs', Le B' B'' → P B'' L1' ikvs' → oD'.IsDictOf (intKind prog w) ikvs' → Own B'' F S ((D, oD') :: (L1' ++ Y)) h' → (AllBare s.gens → AllBare gens') → R (.ok (.ret .none)) ⟨h', gens', s.drawn, tk, s.os⟩) →
    codeAny (model prog w) A (.call (.ref u) ⟨[.ref D], []⟩) R s
theorem callWith_fn {env : Env} {pos : Pos} {u : Addr} {e : Expr} {rest : List Expr} {first : List Value} {Q : Value → Shared → Prop} {P : Heap → Prop} (hP : ∀ h, P h → ∃ c d fd sl, h.get? u = some ⟨c, d, .func fd, sl⟩)
    (h : wpAny (model prog w) A (spliced (backTo pos (starEach (e :: rest) env))) (fun vs s₁ => P s₁.heap ∧ wpAny (model prog w) A (call (.ref u) (first ++ vs)) Q E s₁) E s)
    (he : starEach (e :: rest) env = (false, eval e env) :: starEach rest env := by rfl) (hplain : (backTo pos (starEach rest env)).any (·.1) = false := by rfl) :
    wpAny (model prog w) A (callWith pos (.ref u) first (backTo pos (starEach (e :: rest) env)) []) Q E s := by
  rw [he] at h ⊢
  refine callWith_of (P := P) (by show ((false || (backTo pos (starEach rest env)).any (·.1)) || false) = false; rw [hplain]; rfl) (fun h' hp => ?_) (evalArgs_plain h)
  obtain ⟨c, d, fd, sl, e⟩ := hP h' hp
  exact ⟨.frame, .inl rfl, (Looks.ld (part := none) e).andThen .now⟩
variable {t td c cd st q qd dq u : Addr} {oq : Obj} {nm : Str} {tm tn tc : Tok} {nx vc : Value} {n : Int} {kvs : List (Str × Value)} {ikvs : List (Int × Value)} {L1 Y : ObL} {P : Heap → ObL → List (Int × Value) → Prop} {S1 : NsL}
theorem upd_two {Lf T a0 : Addr} {oT : Obj} (O : Own B ((Lf, [("updater", .ref u), ("self", .ref t), ("tables", .ref T), ("raw_table", .ref a0)]) :: F) ((td, tableNs c nm tm q nx) :: (cd, cachedNs st vc n tn) :: S1) ((T, oT) :: (dq, oq) :: (L1 ++ Y)) s.heap)
    (W : Wd w B) (r : Room A 90) (Fo : Fro A (F.map (·.1)))
    (ht : B.get? t = some (instObj 426 td)) (hc : B.get? c = some (instObj 66 cd)) (hq : B.get? q = some (instObj 238 qd)) (hqd : NsB B qd (lruNs dq tc)) (hn : n < 900) (hu : ∃ c d fd sl, B.get? u = some ⟨c, d, .func fd, sl⟩)
    (hT : oT.IsDictOf (strKind prog w) kvs) (hkz : kvs.length ≤ 100) (haS : (a0 == sysModules) = false) (ha : B.DictOf (strKind prog w) a0 (toS ikvs)) (sm : Small ikvs) (hz : ikvs.length ≤ 800) (hoq : oq.IsDictOf (intKind prog w) [])
    (hup : UpdOk w B ((td, tableNs c nm tm q nx) :: (cd, cachedNs st vc n tn) :: S1) 60 u L1 ikvs P) (hP : ∀ B L ikvs, P B L ikvs → Small ikvs ∧ ikvs.length ≤ 900) (hPm : ∀ B B' L ikvs, Le B B' → P B L ikvs → P B' L ikvs)
    (k : ∀ B' h' tk gens' oT' oq' L1' ikvs' a tn', Le B B' → P B' L1' ikvs' → oT'.IsDictOf (strKind prog w) (stored kvs nm (.ref a)) → (a == sysModules) = false → B'.DictOf (strKind prog w) a (toS ikvs') → oq'.IsDictOf (intKind prog w) [] →
      Own B' F ((td, tableNs c nm tm q nx) :: (cd, cachedNs st (.ref T) (n + 1) tn') :: S1) ((T, oT') :: (dq, oq') :: (L1' ++ Y)) h' → (AllBare s.gens → AllBare gens') → R (.ok (.ret .none)) ⟨h', gens', s.drawn, tk, s.os⟩) :
    wpAny (model prog w) (A.deeper (envUpd Lf)) (execs updRest2 (envUpd Lf)) (fun fl s' => R (.ok (.ret (match fl with | .ret v => v | _ => .none))) s') (fun _ _ => False) s := by
  have Fo1 : Fro (A.deeper (envUpd Lf)) (Lf :: F.map (·.1)) := Fo.deeper (by intro q; cases q) rfl
  obtain ⟨oa, hoa, hda⟩ := Heap.dictOf_iff.mp ha
  have hnd : (ikvs.map (·.1)).Nodup := by
    obtain ⟨_, _, _, _, _, _, hp⟩ := hda
    rw [List.map_map] at hp
    rw [List.nodup_iff_pairwise_ne, List.pairwise_map] at *
    exact hp.imp fun {a b} hne e => hne (by simp [e])
  refine wpAny_execs_cons (comp_int O W (by walk_at "loc") (.inl hoa) haS hda sm hnd (by omega) Fo.hd fun h₂ tk₂ D oD lt hput hD O₂ => ?_)
  obtain rfl : lt = ([("updater", .ref u), ("self", .ref t), ("tables", .ref T), ("raw_table", .ref a0), ("table", .ref D)] : List (Str × Value)) := hput.uniq (by walk_at "put")
  dsimp only
  refine wpAny_execs_cons (wpAny_Expr (Call_ ?_))
  walk_at "nm"
  refine callWith_fn (P := fun h => ∀ b o, B.get? b = some o → h.get? b = some o) (fun h hp => let ⟨c, d, fd, sl, e⟩ := hu; ⟨c, d, fd, sl, hp _ _ e⟩) ?_
  walk_at "arg"
  walk_at "nm"
  refine wpAny_items_nil ⟨O₂.keep, ?_⟩
  dsimp only [List.nil_append, List.cons_append]
  refine wpAny_call (hup (.refl B) (O₂.permL (.cons _ (List.perm_append_comm_assoc [(T, oT), (dq, oq)] L1 Y))) W (r.deeper.le (by decide)) Fo1 hD fun B₃ h₃ tk₃ g₃ oD' L1' ikvs' kB₃ hp hD' O₃ hg => ?_)
  replace O₃ := O₃.permL (.cons _ (List.perm_append_comm_assoc [(T, oT), (dq, oq)] L1' Y).symm)
  dsimp only
  have W₃ := W.le kB₃
  obtain ⟨sm', hz'⟩ := hP _ _ _ hp
  have hnd' : (ikvs'.map (·.1)).Nodup := by obtain ⟨_, _, _, _, _, _, hp⟩ := hD'; exact hp
  refine wpAny_execs_cons (wpAny_Assign_Subscript (comp_str (s := ⟨h₃, g₃, s.drawn, tk₃, s.os⟩) O₃ W₃ (by walk_at "loc") (.inr (.head _)) (O₃.notSysL (.head _)) hD' sm' hnd' hz' Fo.hd fun h₄ tk₄ a oA hA O₄ => ?_))
  have haS' := O₄.notSysL (.head _)
  obtain ⟨B₄, kB₄, hb₄, O₅⟩ := O₄.freeze1
  replace O₅ := O₅.dropL
  have W₄ := W₃.le kB₄
  have k4 := kB₃.trans kB₄
  walk_at "nm"
  refine Attribute_any_ ?_
  walk_at "nm"
  refine prop_at (s := ⟨h₄, g₃, s.drawn, tk₄, s.os⟩) O₅ W₄ (k4 _ _ ht) (by walk_at "nsb") (by k_is) (by k_is) (by k_is) (by k_is) (by k_is) (by k_is) (c_name (R := fun r s' => match r with | .ok (.ret v) => handedIn v = true ∧ _ | _ => False) (s := ⟨h₄, g₃, s.drawn, _, s.os⟩) O₅ W₄ (r.deeper.in1.le (by decide)) (k4 _ _ ht) (.head _) fun h₆ tk₆ O₆ => ⟨rfl, ?_⟩)
  refine setitem_dict (s := ⟨h₆, g₃, s.drawn, tk₆, s.os⟩) O₆ hT (k := nm) (strKind_is ..) (by omega) fun h₇ oT' hT' O₇ => ?_
  dsimp only
  refine wpAny_execs_cons (wpAny_Expr (MethodCall_ (Attribute_any_ ?_)))
  walk_at "nm"
  refine get_at (s := ⟨h₇, g₃, s.drawn, _, s.os⟩) O₇ W₄ (k4 _ _ ht) (by walk_at "nsb") (by walk_at "loc") (by k_is) (by k_is) (by k_is) (by k_is) rfl ?_
  refine meth_at (s := ⟨h₇, g₃, s.drawn, _, s.os⟩) O₇ W₄ (k4 _ _ hc) (by walk_at "nsb") (by walk_at "noloc") (by k_is) (by k_is) (by k_is) ?_
  walk_at "cw"
  walk_at "arg"
  walk_at "nm"
  walk_at "args0"
  refine wpAny_call (c_write (s := ⟨h₇, g₃, s.drawn, _, s.os⟩) (O₇.permS (.swap ..)) W₄ (r.deeper.le (by decide)) (k4 _ _ hc) hn fun h₈ tk₈ tn₈ O₈ => ?_)
  replace O₈ := O₈.permS (.swap ..)
  dsimp only
  refine wpAny_execs_cons (wpAny_Expr (MethodCall_ ?_))
  walk_at "nm"
  refine meth_at (s := ⟨h₈, g₃, s.drawn, _, s.os⟩) O₈ W₄ (k4 _ _ ht) (by walk_at "nsb") (by walk_at "noloc") (by k_is) (by k_is) (by k_is) ?_
  walk_at "cw0"
  refine wpAny_call (c_clear_cache (s := ⟨h₈, g₃, s.drawn, _, s.os⟩) (O₈.permL (.swap ..)) W₄ (r.deeper.le (by decide)) (k4 _ _ ht) (k4 _ _ hq) (let ⟨o, es, ep, e, y⟩ := hqd; ⟨o, es, ep, k4 _ _ e, y⟩) hoq fun h₉ tk₉ oq' hoq' O₉ => ?_)
  refine wpAny_execs_nil ?_
  exact k B₄ h₉ tk₉ g₃ oT' oq' L1' ikvs' a tn₈ k4 (hPm _ _ _ _ kB₄ hp) hT' haS' (Heap.dictOf_iff.mpr ⟨_, hb₄, hA⟩) hoq' ((O₉.permL (.swap ..)).dropF) hg
end
-- H9
section
variable {w : World} {A : Around} {E : Value → Shared → Prop} {s : Shared} {B : Heap} {F F' S S' : NsL} {L L' : ObL} {R : Result → Shared → Prop} {h : Heap}
variable {t td c cd st q qd dq u : Addr} {oq : Obj} {nm : Str} {tm tn tc : Tok} {nx vc : Value} {n : Int} {kvs : List (Str × Value)} {ikvs : List (Int × Value)} {L1 Y : ObL} {P : Heap → ObL → List (Int × Value) → Prop} {S1 : NsL}
/-- the table of that name -/
def InTabs (w : World) (B : Heap) (kvs : List (Str × Value)) (nm : Str) (inner : List (Str × Value)) : Prop :=
  (valueAt kvs nm = none ∧ inner = []) ∨ ∃ a, valueAt kvs nm = some (.ref a) ∧ (a == sysModules) = false ∧ B.DictOf (strKind prog w) a inner
theorem upd_one {Lf T : Addr} {oT : Obj} (O : Own B ((Lf, [("updater", .ref u), ("self", .ref t), ("tables", .ref T)]) :: F) ((td, tableNs c nm tm q nx) :: (cd, cachedNs st vc n tn) :: S1) ((T, oT) :: (dq, oq) :: (L1 ++ Y)) s.heap)
    (W : Wd w B) (r : Room A 90) (Fo : Fro A (F.map (·.1)))
    (ht : B.get? t = some (instObj 426 td)) (hc : B.get? c = some (instObj 66 cd)) (hq : B.get? q = some (instObj 238 qd)) (hqd : NsB B qd (lruNs dq tc)) (hn : n < 900) (hu : ∃ c d fd sl, B.get? u = some ⟨c, d, .func fd, sl⟩)
    (hT : oT.IsDictOf (strKind prog w) kvs) (hkz : kvs.length ≤ 100) (hin : InTabs w B kvs nm (toS ikvs)) (sm : Small ikvs) (hz : ikvs.length ≤ 800) (hoq : oq.IsDictOf (intKind prog w) [])
    (hup : ∀ B', Le B B' → UpdOk w B' ((td, tableNs c nm tm q nx) :: (cd, cachedNs st vc n tn) :: S1) 60 u L1 ikvs P) (hP : ∀ B L ikvs, P B L ikvs → Small ikvs ∧ ikvs.length ≤ 900) (hPm : ∀ B B' L ikvs, Le B B' → P B L ikvs → P B' L ikvs)
    (k : ∀ B' h' tk gens' oT' oq' L1' ikvs' a tn', Le B B' → P B' L1' ikvs' → oT'.IsDictOf (strKind prog w) (stored kvs nm (.ref a)) → (a == sysModules) = false → B'.DictOf (strKind prog w) a (toS ikvs') → oq'.IsDictOf (intKind prog w) [] →
      Own B' F ((td, tableNs c nm tm q nx) :: (cd, cachedNs st (.ref T) (n + 1) tn') :: S1) ((T, oT') :: (dq, oq') :: (L1' ++ Y)) h' → (AllBare s.gens → AllBare gens') → R (.ok (.ret .none)) ⟨h', gens', s.drawn, tk, s.os⟩) :
    wpAny (model prog w) (A.deeper (envUpd Lf)) (execs updRest (envUpd Lf)) (fun fl s' => R (.ok (.ret (match fl with | .ret v => v | _ => .none))) s') (fun _ _ => False) s := by
  have two : ∀ B₁ h₁ tk₁ a0, Le B B₁ → (a0 == sysModules) = false → B₁.DictOf (strKind prog w) a0 (toS ikvs) → Own B₁ ((Lf, [("updater", .ref u), ("self", .ref t), ("tables", .ref T), ("raw_table", .ref a0)]) :: F) ((td, tableNs c nm tm q nx) :: (cd, cachedNs st vc n tn) :: S1) ((T, oT) :: (dq, oq) :: (L1 ++ Y)) h₁ →
      wpAny (model prog w) (A.deeper (envUpd Lf)) (execs updRest2 (envUpd Lf)) (fun fl s' => R (.ok (.ret (match fl with | .ret v => v | _ => .none))) s') (fun _ _ => False) { s with heap := h₁, toks := tk₁ } := by
    intro B₁ h₁ tk₁ a0 kB haS ha O₁
    exact upd_two (s := { s with heap := h₁, toks := tk₁ }) O₁ (W.le kB) r Fo (kB _ _ ht) (kB _ _ hc) (kB _ _ hq) (let ⟨o, es, ep, e, y⟩ := hqd; ⟨o, es, ep, kB _ _ e, y⟩) hn (let ⟨a, b, d, e, z⟩ := hu; ⟨a, b, d, e, kB _ _ z⟩)
      hT hkz haS ha sm hz hoq (hup _ kB) hP hPm fun B' h' tk gens' oT' oq' L1' ikvs' a tn' k1 => k B' h' tk gens' oT' oq' L1' ikvs' a tn' (kB.trans k1)
  have Fo1 : Fro (A.deeper (envUpd Lf)) (Lf :: F.map (·.1)) := Fo.deeper (by intro q; cases q) rfl
  have hTS := O.notSysL (.head _)
  refine wpAny_execs_cons (wpAny_Try_except ?_)
  refine wpAny_execs_cons (wpAny_Assign_Name (Subscript_ ?_))
  walk_at "nm"
  refine Attribute_any_ ?_
  walk_at "nm"
  refine prop_at O W ht (by walk_at "nsb") (by k_is) (by k_is) (by k_is) (by k_is) (by k_is) (by k_is) (c_name (R := fun r s' => match r with | .ok (.ret v) => handedIn v = true ∧ _ | _ => False) O W (r.deeper.in1.le (by decide)) ht (.head _) fun h₄ tk₄ O₄ => ⟨rfl, ?_⟩)
  have hm4 := O₄.dictL (.head _) hT
  rcases hin with ⟨hv, hemp⟩ | ⟨a, hv, haS, ha⟩
  · refine subscriptTail_builtin hm4.mapOf.typeIs PySem.F.slot_dict_getitem.lookup ?_
    refine wpAny_getItem_missing_of (knd := strKind prog w) (k := nm) (strKind_is ..) hTS Fo.hd hm4.mapOf hv ?_
    intro h₅ e hx
    refine caught (F := (Lf, _) :: F) (s := ⟨h₄, s.gens, s.drawn, tk₄, s.os⟩) O₄ W Fo1 (let ⟨o, a, _⟩ := Fo.fr; ⟨o, Around.frames_deeper a⟩) rfl hx fun h₆ tk₆ O₆ => ?_
    refine wpAny_execs_cons (wpAny_Assign_Name (newD O₆ fun h₇ d _ O₇ => ?_))
    walk_at "st"
    intro h₈ O₈
    have hdS := O₈.notSysL (.head _)
    obtain ⟨B', kB, hb, O₉⟩ := O₈.freeze1
    refine wpAny_execs_nil ?_
    exact two B' h₈ _ d kB hdS (hemp ▸ Heap.dictOf_iff.mpr ⟨_, hb, empty_of _⟩) O₉
  · refine subscriptTail_builtin hm4.mapOf.typeIs PySem.F.slot_dict_getitem.lookup ?_
    refine wpAny_getItem_of (knd := strKind prog w) (k := nm) (strKind_is ..) hm4.mapOf hv ?_
    walk_at "st"
    intro h₅ O₅
    refine wpAny_execs_nil (wpAny_execs_nil ?_)
    exact two B h₅ _ a (.refl B) haS ha O₅
-- Table._update_table
theorem c_update (O : Own B F ((td, tableNs c nm tm q nx) :: (cd, cachedNs st vc n tn) :: S1) L s.heap) (W : Wd w B) (r : Room A 100) (Fo : Fro A (F.map (·.1)))
    (ht : B.get? t = some (instObj 426 td)) (hc : B.get? c = some (instObj 66 cd)) (hq : B.get? q = some (instObj 238 qd)) (hqd : NsB B qd (lruNs dq tc)) (hn : n < 900) (hu : ∃ c d fd sl, B.get? u = some ⟨c, d, .func fd, sl⟩)
    (rd : StRead w B ((td, tableNs c nm tm q nx) :: (cd, cachedNs st vc n tn) :: S1) c vc)
    (hC : (vc = .none ∧ L = (dq, oq) :: (L1 ++ Y) ∧ kvs = []) ∨ ∃ T oT, vc = .ref T ∧ L = (T, oT) :: (dq, oq) :: (L1 ++ Y) ∧ oT.IsDictOf (strKind prog w) kvs)
    (hkz : kvs.length ≤ 100) (hin : InTabs w B kvs nm (toS ikvs)) (sm : Small ikvs) (hz : ikvs.length ≤ 800) (hoq : oq.IsDictOf (intKind prog w) [])
    (hup : ∀ B', Le B B' → UpdOk w B' ((td, tableNs c nm tm q nx) :: (cd, cachedNs st vc n tn) :: S1) 60 u L1 ikvs P) (hP : ∀ B L ikvs, P B L ikvs → Small ikvs ∧ ikvs.length ≤ 900) (hPm : ∀ B B' L ikvs, Le B B' → P B L ikvs → P B' L ikvs)
    (k : ∀ B' h' tk gens' T oT' oq' L1' ikvs' a tn', Le B B' → P B' L1' ikvs' → oT'.IsDictOf (strKind prog w) (stored kvs nm (.ref a)) → (a == sysModules) = false → B'.DictOf (strKind prog w) a (toS ikvs') → oq'.IsDictOf (intKind prog w) [] →
      Own B' F ((td, tableNs c nm tm q nx) :: (cd, cachedNs st (.ref T) (n + 1) tn') :: S1) ((T, oT') :: (dq, oq') :: (L1' ++ Y)) h' → (AllBare s.gens → AllBare gens') → R (.ok (.ret .none)) ⟨h', gens', s.drawn, tk, s.os⟩) :
    codeAny (model prog w) A (.call (.ref 423) ⟨[.ref t, .ref u], []⟩) R s := by
  refine call_fn (fl := [("updater", .ref u), ("self", .ref t)]) O W (by k_is) (by k_is) r.depth (BindsTo.of_eq rfl) fun Lf h₁ O₁ => ?_
  refine wpAny_execs_cons (wpAny_Assign_Name (MethodCall_ (Attribute_any_ ?_)))
  walk_at "nm"
  walk_at "get"
  refine rd (.refl B) O₁ W (r.deeper.le (by decide)) fun h₂ tk O₂ => ?_
  walk_at "st"
  intro h₃ O₃
  dsimp only
  refine wpAny_execs_cons (wpAny_If (wpAny_isTrue_Compare1 ?_))
  walk_at "nm"
  rcases hC with ⟨rfl, rfl, rfl⟩ | ⟨T, oT, rfl, rfl, hT⟩
  · refine wpAny_Constant_none (is_none_none (wpAny_truthy_bool ?_))
    refine wpAny_execs_cons (wpAny_Assign_Name (newD O₃ fun h₄ d _ O₄ => ?_))
    walk_at "st"
    intro h₅ O₅
    refine wpAny_execs_nil ?_
    refine upd_one (kvs := []) (s := ⟨h₅, s.gens, s.drawn, _, s.os⟩) O₅ W (r.le (by decide)) Fo ht hc hq hqd hn hu (empty_of _) hkz hin sm hz hoq hup hP hPm ?_
    intro B' h' tk gens' oT' oq' L1' ikvs' a tn' k1 k2 k3 k4 k5 k6 k7
    exact k B' h' tk gens' d oT' oq' L1' ikvs' a tn' k1 k2 k3 k4 k5 k6 k7
  · refine wpAny_Constant_none (is_none_ne (by intro e; cases e) (wpAny_truthy_bool ?_))
    refine wpAny_execs_nil ?_
    refine upd_one (kvs := kvs) (s := ⟨h₃, s.gens, s.drawn, _, s.os⟩) O₃ W (r.le (by decide)) Fo ht hc hq hqd hn hu hT hkz hin sm hz hoq hup hP hPm ?_
    intro B' h' tk gens' oT' oq' L1' ikvs' a tn' k1 k2 k3 k4 k5 k6 k7
    exact k B' h' tk gens' T oT' oq' L1' ikvs' a tn' k1 k2 k3 k4 k5 k6 k7
end
-- I1
section
variable {w : World} {A : Around} {E : Value → Shared → Prop} {s : Shared} {B : Heap} {F F' S S' : NsL} {L L' : ObL} {R : Result → Shared → Prop} {h : Heap}
-- Table._get_next_id
theorem c_next {t td st q : Addr} {nm : Str} {tm : Tok} {nx v : Value} {i : Int} {S1 : NsL} (O : Own B F ((td, tableNs st nm tm q nx) :: S1) L s.heap) (W : Wd w B) (r : Room A 10) (Fo : Fro A (F.map (·.1)))
    (ht : B.get? t = some (instObj 426 td)) (rd : StRead w B ((td, tableNs st nm tm q nx) :: S1) st v)
    (hx : (∃ ti, nx = .int i ti) ∨ (nx = .none ∧ i = 1 ∧ TabIs w B L nm v []))
    (k : ∀ B' h' tk ti ti', Le B B' → Own B' F ((td, tableNs st nm tm q (.int (i + 1) ti')) :: S1) L h' → R (.ok (.ret (.int i ti))) { s with heap := h', toks := tk }) :
    codeAny (model prog w) A (.call (.ref 411) ⟨[.ref t], []⟩) R s := by
  refine call_fn (fl := [("self", .ref t)]) O W (by k_is) (by k_is) r.depth (BindsTo.of_eq rfl) fun Lf h₁ O₁ => ?_
  refine wpAny_execs_cons (wpAny_If (wpAny_isTrue_Compare1 (Attribute_any_ ?_)))
  walk_at "nm"
  rcases hx with ⟨ti, rfl⟩ | ⟨rfl, rfl, tb⟩
  · walk_at "get"
    refine wpAny_Constant_none (isnot_none_gen (wpAny_truthy_bool ?_))
    refine wpAny_execs_cons (wpAny_Assign_Name (Attribute_any_ ?_))
    walk_at "nm"
    walk_at "get"
    walk_at "st"
    intro h₂ O₂
    refine wpAny_execs_cons (plainObj_wpAny_Assign_Attribute (wpAny_BinOp ?_))
    walk_at "nm"
    refine wpAny_Constant_int (PyProof.Rows.add_int ?_)
    walk_at "nm"
    walk_at "set"
    intro h₃ O₃
    refine wpAny_execs_cons (wpAny_Return_some ?_)
    walk_at "nm"
    exact k B _ _ _ _ (.refl B) O₃.dropF
  · walk_at "get"
    refine wpAny_Constant_none (isnot_none_gen (wpAny_truthy_bool ?_))
    refine wpAny_execs_nil ?_
    refine wpAny_execs_cons (wpAny_Assign_Name (MethodCall_ ?_))
    walk_at "nm"
    walk_at "meth"
    walk_at "cw0"
    refine wpAny_call (c_read_table (s := ⟨h₁, s.gens, s.drawn, _, s.os⟩) O₁ W (r.deeper.le (by decide)) (Fo.deeper (by intro q; cases q) rfl) ht (.head _) rd tb fun B₂ h₂ tk₂ d kB hdS hd O₂ => ?_)
    dsimp only
    walk_at "st"
    intro h₃ O₃
    have W₃ := W.le kB
    have ht₃ := kB _ _ ht
    refine wpAny_execs_cons (wpAny_If (wpAny_isTrue_Not (wpAny_isTrue_value ?_)))
    walk_at "nm"
    refine wpAny_truthy_dict hdS (O₃.dictB hd) (by decide) ?_
    refine wpAny_execs_cons (wpAny_Assign_Name (wpAny_Constant_int ?_))
    walk_at "st"
    intro h₄ O₄
    refine wpAny_execs_cons (plainObj_wpAny_Assign_Attribute (wpAny_BinOp ?_))
    walk_at "nm"
    refine wpAny_Constant_int (PyProof.Rows.add_int ?_)
    walk_at "nm"
    walk_at "set"
    intro h₅ O₅
    refine wpAny_execs_cons (wpAny_Return_some ?_)
    walk_at "nm"
    exact k B₂ _ _ _ _ kB O₅.dropF
end
-- C1
section
variable {w : World} {A : Around} {E : Value → Shared → Prop} {s : Shared} {B : Heap} {F F' S S' : NsL} {L L' : ObL} {R : Result → Shared → Prop} {h : Heap}
theorem cells_keys {cm : Str → Option Value} {cs : List (Str × Addr)} {cells : List (Addr × Obj)} (x : CellsAre cm cs cells) : cells.map (·.1) = cs.map (·.2) := by
  induction x with
  | nil => rfl
  | cons _ _ ih => simp [ih]
-- a call of a def whose locals are captured
theorem call_cells {name qual : Str} {params : Arguments} {body : List Stmt} {scope : Scope} {dV kV doc pm cdv ct oc : Value} {an od : Option Addr} {osl : Array (Option Value)} {f : Addr} {args : Args} {binds fl : List (Str × Value)}
    (O : Own B F S L s.heap) (W : Wd w B)
    (ho : List.lookup f (hd.heap_39 w.params) = some ⟨oc, od, .func (fnX name qual params body scope [] dV kV doc pm an cdv ct), osl⟩) (hcd : codeIn (hd.heap_39 w.params) cdv qual = true)
    (hroom : A.depth < recursionLimit) (hbind : BindsTo s (fnX name qual params body scope [] dV kV doc pm an cdv ct) args binds)
    (hkind : ∀ n, ∀ x ∈ binds, scope.names.lookup x.1 = some .local ∨ (scope.names.lookup x.1 = some .cell ∧ ((cellsFrom n scope.names []).lookup x.1).isSome = true))
    (hnd : ((cellsFrom 0 scope.names []).map (·.1)).Nodup)
    (hfl : ∀ Lf y, bindL (envOfC qual scope Lf f cdv).kindOf binds (fun _ => none) y = fl.lookup y)
    (h : ∀ Lf h₁ tk cells, CellsAre (bindC (envOfC qual scope Lf f cdv).kindOf binds fun _ => none) (cellsFrom (Lf + 1) scope.names []) cells → Own B ((Lf, fl) :: F) S (cells ++ L) h₁ →
      wpAny (model prog w) (A.deeper (envOfC qual scope Lf f cdv)) (execs body (envOfC qual scope Lf f cdv))
        (fun fl s' => R (.ok (.ret (match fl with | .ret v => v | _ => .none))) s') (fun _ _ => False) { s with heap := h₁, toks := tk })
    (hco : scope.isCoroutine = false := by rfl) (hgen : scope.isGenerator = false := by rfl) (hk : scope.kind = .function := by rfl) :
    codeAny (model prog w) A (.call (.ref f) args) R s := by
  obtain ⟨mg, mb, T⟩ := W.T
  have X := O.X W
  refine codeAny_call_function hroom (X _ _ ho) rfl hco hgen rfl (codeRec_of X hcd) (hbind _ _ _ _ ?_)
  refine wpAny_newFunctionEnv_cells hk (hkind _) fun env' he s' x => ?_
  subst he
  refine ⟨(T.nolimit.keeps O.keep).keeps x.toInCall.keep, codeAny_func ?_⟩
  obtain ⟨h₁, tk, rfl, _⟩ := x.done
  have hk₁ := x.toInCall.keep
  obtain ⟨cells, NC, Y⟩ := Cl.news (h₀ := s.heap) (Nat.le_refl _) fun n c hm => ⟨x.cell n c (lookup_of_mem_nodup (cellsFrom_names scope.names 0 (s.heap.objs.size + 1) [] [] rfl ▸ hnd) hm), x.above n c hm⟩
  have O₁ : Own B ((s.heap.objs.size, fl) :: F) S L h₁ := O.enter hk₁ (by
    rw [show (fun y => fl.lookup y) = fun y => bindL (envOfC qual scope s.heap.objs.size f cdv).kindOf binds (fun _ => none) y from funext fun y => (hfl _ y).symm]
    exact x.toInCall.ns)
  refine wpAny_mono (h _ h₁ tk cells Y (O₁.addMany (fun p hp => ?_) ?_)) (fun _ _ z => z) fun _ _ z => z.elim
  · obtain ⟨a, b, c⟩ := NC p hp
    have hB : B.get? p.1 = none := by
      cases q : B.get? p.1 with
      | none => rfl
      | some o => have := O.keep _ _ q; rw [c] at this; cases this
    refine ⟨a, hB, W.low hB, fun q => ?_⟩
    rcases mem_keys.mp q with ⟨y, hy, e⟩ | ⟨y, hy, e⟩ | ⟨y, hy, e⟩
    · rcases List.mem_cons.mp hy with rfl | hy
      · exact b e.symm
      · obtain ⟨o, _, _, z, _⟩ := (O.fr y hy).1; rw [e, c] at z; cases z
    · obtain ⟨o, _, _, z, _⟩ := (O.ns y hy).1; rw [e, c] at z; cases z
    · have z := (O.ob y hy).1; rw [e, c] at z; cases z
  · rw [cells_keys Y]
    have := x.apart
    rw [List.nodup_iff_pairwise_ne, List.pairwise_map]
    exact this
-- a call of a closure
theorem call_clos {name qual : Str} {params : Arguments} {body : List Stmt} {scope : Scope} {cl : List (Str × Addr)} {dV kV doc pm cdv ct oc : Value} {an od : Option Addr} {osl : Array (Option Value)} {f : Addr} {args : Args} {fl : List (Str × Value)}
    (O : Own B F S L s.heap) (W : Wd w B)
    (ho : s.heap.get? f = some ⟨oc, od, .func (fnX name qual params body scope cl dV kV doc pm an cdv ct), osl⟩) (hcd : s.heap.CodeRec cdv qual)
    (hroom : A.depth < recursionLimit) (hbind : BindsTo s (fnX name qual params body scope cl dV kV doc pm an cdv ct) args fl.reverse)
    (h : ∀ Lf h₁, Own B ((Lf, fl) :: F) S L h₁ →
      wpAny (model prog w) (A.deeper (envX qual scope Lf f cdv cl)) (execs body (envX qual scope Lf f cdv cl))
        (fun fl s' => R (.ok (.ret (match fl with | .ret v => v | _ => .none))) s') (fun _ _ => False) { s with heap := h₁, toks := s.toks + fl.length })
    (hloc : ∀ y ∈ fl.reverse, scope.names.lookup y.1 = some .local := by exact locs rfl)
    (hcell : ∀ x ∈ scope.names, x.2 ≠ .cell := by decide) (hco : scope.isCoroutine = false := by rfl) (hgen : scope.isGenerator = false := by rfl) (hk : scope.kind = .function := by rfl) :
    codeAny (model prog w) A (.call (.ref f) args) R s := by
  obtain ⟨mg, mb, T⟩ := W.T
  refine codeAny_call_def (fd := fnX name qual params body scope cl dV kV doc pm an cdv ct) (body := body) (binds := fl.reverse) hroom ho rfl (T.nolimit.keeps O.keep) hcd rfl hbind hcell hloc (fun h₁ hns hk₁ => ?_) hco hgen hk
  rw [List.reverse_reverse] at hns
  rw [List.length_reverse]
  exact wpAny_mono (h s.heap.objs.size h₁ (O.enter hk₁ hns)) (fun _ _ z => z) fun _ _ z => z.elim
theorem nm_cell {env : Env} {x : Str} {pos : Pos} {v : Value} {c : Addr} {o : Obj} {Q : Value → Shared → Prop} (O : Own B F S L s.heap) (hc : env.cells.lookup x = some c) (hm : Kn B L c o) (hd : o.data = .cell (some v)) (h : Q v s)
    (hk : env.scope.kind = .function := by rfl) (hx : env.kindOf x = some .cell := by rfl) (hb : (x == ("__debug__" : Str)) = false := by decide) :
    wpAny (model prog w) A (eval (.Name x pos) env) Q E s := wpAny_Name (wpAny_loadName_cell hk hx hc ⟨o, O.kn hm, hd⟩ h) hb
theorem nm_free {env : Env} {x : Str} {pos : Pos} {v : Value} {c : Addr} {o : Obj} {Q : Value → Shared → Prop} (O : Own B F S L s.heap) (hc : env.cells.lookup x = some c) (hm : Kn B L c o) (hd : o.data = .cell (some v)) (h : Q v s)
    (hk : env.scope.kind = .function := by rfl) (hx : env.kindOf x = some .free := by rfl) (hb : (x == ("__debug__" : Str)) = false := by decide) (hn : (x == ("__classdict__" : Str)) = false := by decide) :
    wpAny (model prog w) A (eval (.Name x pos) env) Q E s := wpAny_Name (wpAny_loadName_free hk hx hc ⟨o, O.kn hm, hd⟩ h hn) hb
theorem st_cell {env : Env} {x : Str} {v : Value} {v₀ : Option Value} {c : Addr} {o : Obj} {Q : Unit → Shared → Prop} (O : Own B F S ((c, o) :: L) s.heap) (hc : env.cells.lookup x = some c) (hd : o.data = .cell v₀)
    (h : ∀ h' o', o'.data = .cell (some v) → Own B F S ((c, o') :: L) h' → Q () { s with heap := h' })
    (hk : env.scope.kind = .function := by rfl) (hx : env.kindOf x = some .cell := by rfl) : wpAny (model prog w) A (storeName env x v) Q E s :=
  wpAny_storeName_cell hk hx hc ⟨o, (O.ob _ (.head _)).1, hd⟩ fun h' ⟨o', e, d⟩ hs => h h' o' d (O.put hs e)
end
-- C2
section
variable {w : World} {A : Around} {E : Value → Shared → Prop} {s : Shared} {B : Heap} {F F' S S' : NsL} {L L' : ObL} {R : Result → Shared → Prop} {h : Heap}
theorem CodeHd.of2 {h : Heap} {c P : Addr} {ps : Array Value} (hc : h.IsCode c P ps) (ht : h.TableAt c P ps) : CodeHd h c P := CodeHd.of hc ht
theorem makeFn {name qual : Str} {params : Arguments} {body : List Stmt} {scope : Scope} {env : Env} {c P : Addr} {ps : Array Value} {pos : Pos} {firstLine : Nat} {mg : Str → Option Value}
    {q : Str × Addr} {r : List (Str × Addr)} {Q : Value → Shared → Prop} (hcl : closureFor scope env = pure (q :: r)) (hge0 : env.globals = mainGlobals) (hg : s.heap.Ns mainGlobals mg) (hcode : env.code = .ref c) (C : CodeHd s.heap c P) (hP : s.heap.get? P = some (tabObj ps)) (ht : TriplesOk ps.toList)
    (hnf : codeAmong pos ps.toList = none) (hgP : mainGlobals ≠ P) (hb : s.heap.BuiltinsAt mg P)
    (h : ∀ c' P' ctv doc h' tk, Heap.ExtBut P s.heap h' → s.heap.objs.size ≤ c' → c' < h'.objs.size → h'.CodeRec (.ref c') qual → h'.get? P = some (tabObj (ps ++ #[rawInt pos.line, rawInt pos.col, .ref c'])) →
      s.heap.objs.size ≤ P' → CodeHd h' c' P' → h'.get? P' = some (tabObj #[]) →
      Q (.ref h'.objs.size) { s with heap := h'.push (fnMade name qual params body scope (q :: r) doc ((mg "__name__").getD .none) c' ctv), toks := tk }) :
    wpAny (model prog w) A (makeFunction name qual params (.stmts body) scope env [] [] [] pos firstLine) Q E s := by
  obtain ⟨bm, ob, hbm, hne0, _, hneP, hbo, hcls, hdict, hdata⟩ := hb
  rw [makeFunction_eq]
  simp only [List.zip_nil_right, List.filterMap_nil, List.isEmpty_nil, if_true, pure_bind]
  unfold makeTail
  rw [hcl, hge0]
  refine wpAny_bind (wpAny_pure ?_)
  simp only [List.isEmpty_cons, Bool.false_eq_true, if_false]
  refine wpAny_bind (wpAny_newTextTuple ?_)
  refine wpAny_bind (wpAny_functionCodeX hcode ((C.keeps fun b o e => Heap.get?_push_of_some _ e).code (Heap.get?_push_of_some _ hP) ht) ((C.keeps fun b o e => Heap.get?_push_of_some _ e).tab (Heap.get?_push_of_some _ hP)) hnf fun c' h' tk hx hge hlt _ hrec htb hnew => ?_)
  obtain ⟨P', hP', hic, hta⟩ := hnew
  have hg' := (hg.push _).extBut hx hgP
  have hx' : Heap.ExtBut P s.heap h' := fun b o hb' e => hx b o hb' (Heap.get?_push_of_some _ e)
  have hge' : s.heap.objs.size ≤ c' := Nat.le_trans (by rw [Heap.size_push]; omega) hge
  have hgeP' : s.heap.objs.size ≤ P' := Nat.le_trans (by rw [Heap.size_push]; omega) hP'
  refine wpAny_bind (wpAny_builtinsFor hg' hbm hne0 (hx' _ _ hneP hbo) hcls hdict hdata ?_)
  refine wpAny_bind (wpAny_nsGet hg' ?_)
  cases hdoc : docOf body with
  | none => exact wpAny_bind (wpAny_pure (wpAny_newObj_type (h c' P' _ .none h' tk hx' hge' hlt hrec htb.2 hgeP' (.of hic hta) hta.2) (by size_fits)))
  | some t => exact wpAny_bind (wpAny_mkText (wpAny_newObj_type (h c' P' _ _ h' _ hx' hge' hlt hrec htb.2 hgeP' (.of hic hta) hta.2) (by size_fits)))
theorem Own.bm (O : Own B F S L h) (W : Wd w B) {P : Addr} (hn : B.get? P = none) : ∃ mg, h.Ns mainGlobals mg ∧ h.BuiltinsAt mg P ∧ mainGlobals ≠ P := by
  obtain ⟨mg, mb, T⟩ := W.T
  obtain ⟨bm, ob, b1, b2, b3, b4, b5⟩ := T.bm
  refine ⟨mg, T.g.keeps O.keep, ⟨bm, ob, b1, b2, b3, fun q => ?_, O.keep _ _ b4, b5⟩, fun q => ?_⟩
  · rw [q, hn] at b4; cases b4
  · obtain ⟨o, _, _, e, _⟩ := T.g; rw [q, hn] at e; cases e
/-- a def in a body, made for the first time -/
theorem own_fn_new {name qual : Str} {params : Arguments} {body : List Stmt} {scope : Scope} {env : Env} {c P : Addr} {ps : Array Value} {pos : Pos} {firstLine : Nat}
    {q : Str × Addr} {r : List (Str × Addr)} {Q : Value → Shared → Prop} (O : Own B F S ((P, tabObj ps) :: L) s.heap) (W : Wd w B) (hcl : closureFor scope env = pure (q :: r)) (hge0 : env.globals = mainGlobals) (hcode : env.code = .ref c) (C : CodeHd B c P) (ht : TriplesOk ps.toList)
    (hnf : codeAmong pos ps.toList = none)
    (h : ∀ B' h' tk f c' P' ctv doc pm, Le B B' → B'.get? f = some (fnMade name qual params body scope (q :: r) doc pm c' ctv) → B'.CodeRec (.ref c') qual → CodeHd B' c' P' →
      Own B' F S ((P, tabObj (ps ++ #[rawInt pos.line, rawInt pos.col, .ref c'])) :: (P', tabObj #[]) :: L) h' → Q (.ref f) { s with heap := h', toks := tk }) :
    wpAny (model prog w) A (makeFunction name qual params (.stmts body) scope env [] [] [] pos firstLine) Q E s := by
  obtain ⟨hP, hPB⟩ := O.ob _ (.head _)
  obtain ⟨mg, hg, hb, hgP⟩ := O.bm W hPB
  refine makeFn hcl hge0 hg hcode (C.keeps O.keep) hP ht hnf hgP hb fun c' P' ctv doc h' tk hx hge hlt hrec htb hgeP hcd hP' => ?_
  have O₁ : Own B F S ((P, tabObj (ps ++ #[rawInt pos.line, rawInt pos.col, .ref c'])) :: L) h' := O.turn (fun b o n e => hx b o n e) htb
  have nk : ∀ {a : Addr}, s.heap.objs.size ≤ a → a ∉ keysOf F S ((P, tabObj (ps ++ #[rawInt pos.line, rawInt pos.col, .ref c'])) :: L) := fun {a} ha q => Nat.lt_irrefl _ (Nat.lt_of_lt_of_le (O.lt a q) ha)
  have nB : ∀ {a : Addr}, s.heap.objs.size ≤ a → B.get? a = none := fun {a} ha => by
    cases q : B.get? a with
    | none => rfl
    | some o => exact absurd (Heap.lt_size (O.keep _ _ q)) (Nat.not_lt.mpr ha)
  have O₂ : Own B F S ((P', tabObj #[]) :: (P, tabObj (ps ++ #[rawInt pos.line, rawInt pos.col, .ref c'])) :: L) h' := by
    have := O₁.addMany (cells := [(P', tabObj #[])]) (fun p hp => by
      rw [List.mem_singleton] at hp; subst hp
      exact ⟨hP', nB hgeP, W.low (nB hgeP), nk hgeP⟩) (by simp)
    exact this
  have O₃ := (O₂.permL (.swap ..)).push0 (fnMade name qual params body scope (q :: r) doc ((mg "__name__").getD .none) c' ctv)
  obtain ⟨kB, O₄, fz⟩ := O₃.frozen
  have hsz : s.heap.objs.size ≤ h'.objs.size := Nat.le_of_lt (Nat.lt_of_le_of_lt hge hlt)
  have notk : ∀ {a : Addr}, s.heap.objs.size ≤ a → a ≠ P' → a ∉ keysOf F S ((P, tabObj (ps ++ #[rawInt pos.line, rawInt pos.col, .ref c'])) :: (P', tabObj #[]) :: L) := fun {a} ha hne q => by
    rcases mem_keys.mp q with ⟨x, hx, e⟩ | ⟨x, hx, e⟩ | ⟨x, hx, e⟩
    · exact nk ha (mem_keys.mpr (.inl ⟨x, hx, e⟩))
    · exact nk ha (mem_keys.mpr (.inr (.inl ⟨x, hx, e⟩)))
    · rcases List.mem_cons.mp hx with rfl | hx
      · exact nk ha (mem_keys.mpr (.inr (.inr ⟨_, .head _, e⟩)))
      · rcases List.mem_cons.mp hx with rfl | hx
        · exact hne e.symm
        · exact nk ha (mem_keys.mpr (.inr (.inr ⟨x, .tail _ hx, e⟩)))
  obtain ⟨oc, vs, file, tf, flags, tg, inF, text, tt, e1, r1⟩ := hcd
  have hc'P' : c' ≠ P' := r1.2.2.2.2.2.2.2.2
  have ec := fz c' oc (Heap.get?_push_of_some _ e1) (notk hge hc'P')
  obtain ⟨c₂, oc', vs', t', q1, q2, q3⟩ := hrec
  cases q1
  rw [e1] at q2; cases q2
  refine h _ _ tk h'.objs.size c' P' ctv doc _ kB (fz _ _ (Heap.get?_push_size _ rfl) (notk hsz (Nat.ne_of_gt (Heap.lt_size hP')))) ⟨c', oc, vs', t', rfl, ec, q3⟩ ⟨oc, vs, file, tf, flags, tg, inF, text, tt, ec, r1⟩ O₄
/-- a def in a body, made again -/
theorem own_fn_hit {name qual : Str} {params : Arguments} {body : List Stmt} {scope : Scope} {env : Env} {c P c' : Addr} {ps : Array Value} {pos : Pos} {firstLine : Nat}
    {clos : List (Str × Addr)} {Q : Value → Shared → Prop} (O : Own B F S L s.heap) (hm : (P, tabObj ps) ∈ L) (W : Wd w B) (hcl : closureFor scope env = pure clos) (hge0 : env.globals = mainGlobals) (hcode : env.code = .ref c) (C : CodeHd B c P) (ht : TriplesOk ps.toList)
    (hf : codeAmong pos ps.toList = some (.ref c'))
    (h : ∀ B' h' tk f ctv doc pm, Le B B' → B'.get? f = some (fnMade name qual params body scope clos doc pm c' ctv) →
      Own B' F S L h' → Q (.ref f) { s with heap := h', toks := tk }) :
    wpAny (model prog w) A (makeFunction name qual params (.stmts body) scope env [] [] [] pos firstLine) Q E s := by
  obtain ⟨hP, hPB⟩ := O.ob _ hm
  obtain ⟨mg, hg, hb, hgP⟩ := O.bm W hPB
  refine makeFunction_hit (mg := mg) hcl hge0 hg hcode (C.keeps O.keep) hP ht hf hb fun ctv doc h' tk hk hsz => ?_
  have O₁ := (O.keepF hk).push (fnMade name qual params body scope clos doc ((mg "__name__").getD .none) c' ctv)
  obtain ⟨B', kB, hb', O₂⟩ := O₁.freeze1
  exact h B' _ tk _ ctv doc _ kB hb' O₂
end
-- D3
section
open PySem.W.X
local macro_rules | `(tactic| x_close) => `(tactic| (first | apply_assumption | exact ⟨_, _, _, _, rfl, rfl, (mem_new (by assumption)).1, (mem_new (by assumption)).2.1, (mem_new (by assumption)).2.2, rfl, _, rfl⟩))
set_option maxHeartbeats 0 in
theorem x_isi_dict (w : World) (h : Heap) (g : Array GenState) (d : Drawn) (t : Nat) (os : OsState) (X : (hd.heap_39 w.params).In h) (c : Addr) (es : Array DictEntry) (ep : Nat) (hc : h.get? c = some { cls := .type "dict", dict := none, data := .dict es ep, slots := #[] })
   (Q : Value → Shared → Prop) (hQ : ∀ t', Q (.bool true) ⟨h, g, d, t', os⟩) :
    wpAny (model PySem.Challenge.pw_fk5016_01 w) A1 (call (.builtin "isinstance") [.ref c, .type "dict"]) Q (fun _ _ => False) ⟨h, g, d, t, os⟩ := by
  x_run
  all_goals exact hQ _
set_option maxHeartbeats 0 in
theorem x_isi_doc (w : World) (h : Heap) (g : Array GenState) (d : Drawn) (t : Nat) (os : OsState) (X : (hd.heap_39 w.params).In h) (c : Addr) (es : Array DictEntry) (ep : Nat) (hc : h.get? c = some { cls := .type "dict", dict := none, data := .dict es ep, slots := #[] })
   (Q : Value → Shared → Prop) (hQ : ∀ t', Q (.bool false) ⟨h, g, d, t', os⟩) :
    wpAny (model PySem.Challenge.pw_fk5016_01 w) A1 (call (.builtin "isinstance") [.ref c, .ref 261]) Q (fun _ _ => False) ⟨h, g, d, t, os⟩ := by
  x_run
  all_goals exact hQ _
section
variable {w : World} {A : Around} {E : Value → Shared → Prop} {s : Shared} {B : Heap} {F S : NsL} {L : ObL}
theorem dictObj {o : Obj} {K : Type} [DecidableEq K] {knd : KeyKind prog w K} {kvs : List (K × Value)} (hd : o.IsDictOf knd kvs) : ∃ es ep, o = { cls := .type "dict", dict := none, data := .dict es ep, slots := #[] } := by
  obtain ⟨es, ep, ⟨a, b, c⟩, e, _⟩ := hd
  obtain ⟨x1, x2, x3, x4⟩ := o
  dsimp only at a b c e
  subst a b c e
  exact ⟨es, ep, rfl⟩
theorem isi_dict {c : Addr} {K : Type} [DecidableEq K] {knd : KeyKind prog w K} {kvs : List (K × Value)} {Q : Value → Shared → Prop} (O : Own B F S L s.heap) (W : Wd w B) (r : Room A 12) (hh : A.handled = none) (hd : B.DictOf knd c kvs) (hQ : ∀ t', Q (.bool true) { s with toks := t' }) :
    wpAny (model prog w) A (call (.builtin "isinstance") [.ref c, .type "dict"]) Q E s := by
  obtain ⟨o, ho, hd⟩ := Heap.dictOf_iff.mp hd
  obtain ⟨es, ep, rfl⟩ := dictObj hd
  obtain ⟨hp, g, d, t, os⟩ := s
  exact toA1 hh (r.le (by decide)) (x_isi_dict w hp g d t os (O.X W) c es ep (O.keep _ _ ho) _ hQ)
theorem isi_doc {c : Addr} {K : Type} [DecidableEq K] {knd : KeyKind prog w K} {kvs : List (K × Value)} {Q : Value → Shared → Prop} (O : Own B F S L s.heap) (W : Wd w B) (r : Room A 12) (hh : A.handled = none) (hd : B.DictOf knd c kvs) (hQ : ∀ t', Q (.bool false) { s with toks := t' }) :
    wpAny (model prog w) A (call (.builtin "isinstance") [.ref c, .ref 261]) Q E s := by
  obtain ⟨o, ho, hd⟩ := Heap.dictOf_iff.mp hd
  obtain ⟨es, ep, rfl⟩ := dictObj hd
  obtain ⟨hp, g, d, t, os⟩ := s
  exact toA1 hh (r.le (by decide)) (x_isi_doc w hp g d t os (O.X W) c es ep (O.keep _ _ ho) _ hQ)
end
end
-- I2
abbrev insPos : Pos := by
  refine (fun (l : Pos) (_ : l = defPos (defAt (tableDef 4) 2)) => l) ?x ?h
  case h => conv => rhs; whnf
abbrev insParams : Arguments := by
  refine (fun (l : Arguments) (_ : l = defArgs (defAt (tableDef 4) 2)) => l) ?x ?h
  case h => conv => rhs; whnf
abbrev insScope : Scope := by
  refine (fun (l : Scope) (_ : l = defScope (defAt (tableDef 4) 2)) => l) ?x ?h
  case h => conv => rhs; whnf
abbrev insBody : List Stmt := by
  refine (fun (l : List Stmt) (_ : l = defBody (defAt (tableDef 4) 2)) => l) ?x ?h
  case h => conv => rhs; whnf
abbrev insDef : Stmt := Stmt.FunctionDef (Str.ofString "updater") insParams insBody [] none [] insScope none (Str.ofString "updater") insPos
abbrev scIns : Scope := by
  refine (fun (l : Scope) (_ : l = defScope (tableDef 4)) => l) ?x ?h
  case h => conv => rhs; whnf
abbrev insQual : Str := qualnameIn (envOfC (Str.ofString "Table.insert") scIns 0 303 (Value.ref 302)) "updater" "updater"
section
variable {w : World} {A : Around} {E : Value → Shared → Prop} {s : Shared} {B : Heap} {F F' S S' : NsL} {L L' : ObL} {R : Result → Shared → Prop} {h : Heap}
abbrev Grown (w : World) (ikvs : List (Int × Value)) (i m : Int) : Heap → ObL → List (Int × Value) → Prop := fun B L1 ikvs' => L1 = [] ∧ ∃ v, Doc w B v m ∧ ikvs' = ikvs ++ [(i, v)]
theorem upd_insert {u c' cd1 cd2 d0 : Addr} {o1 o2 : Obj} {ctv doc pm : Value} {ikvs : List (Int × Value)} {i m : Int} {ti tm : Tok} (W : Wd w B)
    (hu : B.get? u = some (fnMade "updater" insQual insParams insBody insScope [("document", cd2), ("doc_id", cd1)] doc pm c' ctv)) (hrec : B.CodeRec (.ref c') insQual)
    (h1 : B.get? cd1 = some o1) (h1d : o1.data = .cell (some (.int i ti))) (h2 : B.get? cd2 = some o2) (h2d : o2.data = .cell (some (.ref d0))) (hdoc : B.DictOf (strKind prog w) d0 [("a", .int m tm)]) (hd0S : (d0 == sysModules) = false)
    (hi : valueAt ikvs i = none) (hz : ikvs.length ≤ 800) : UpdOk w B S 60 u [] ikvs (Grown w ikvs i m) := by
  intro A s B' F Y D oD R kB O W' r Fo hD k
  refine call_clos (fl := [("table", .ref D)]) O W' (O.keep _ _ (kB _ _ hu)) (hrec.keeps fun b o e => O.keep _ _ (kB _ _ e)) r.depth (BindsTo.of_eq rfl) fun Lf h₁ O₁ => ?_
  have hDS := O₁.notSysL (.head _)
  refine wpAny_execs_cons (wpAny_If (wpAny_isTrue_Compare1 ?_))
  refine nm_free O₁ rfl (.inl (kB _ _ h1)) h1d ?_
  walk_at "nm"
  refine wpAny_in_of (knd := intKind prog w) (k := i) (intKind_is ..) hDS (O₁.dictL (.head _) hD).mapOf ?_
  rw [hi]
  refine wpAny_truthy_bool ?_
  refine wpAny_execs_nil ?_
  refine wpAny_execs_cons (wpAny_Assign_Subscript (Call_ ?_))
  walk_at "nm"
  walk_at "cwT"
  walk_at "arg"
  refine nm_free (s := ⟨h₁, s.gens, s.drawn, _, s.os⟩) O₁ rfl (.inl (kB _ _ h2)) h2d ?_
  walk_at "args1"
  refine kt_call_dict hd0S (O₁.dictB (kB.dict hdoc)) (by show 1 ≤ sizeLine; decide) fun h₂ hd₂ hs₂ => ?_
  have O₂ := O₁.push emptyDict
  obtain ⟨o₂, ho₂, O₃⟩ := O₂.putDict hs₂ hd₂
  have hnS := O₃.notSysL (.head _)
  obtain ⟨B₂, kB₂, hb₂, O₄⟩ := O₃.freeze1
  refine nm_loc (s := ⟨h₂, s.gens, s.drawn, _, s.os⟩) O₄ (.head _) (by walk_at "loc") ?_
  refine nm_free (s := ⟨h₂, s.gens, s.drawn, _, s.os⟩) O₄ rfl (.inl (kB₂ _ _ (kB _ _ h1))) h1d ?_
  refine setitem_dict (s := ⟨h₂, s.gens, s.drawn, _, s.os⟩) O₄ hD (k := i) (intKind_is ..) (by omega) fun h₃ oD' hD' O₅ => ?_
  refine wpAny_execs_nil ?_
  rw [stored_absent hi] at hD'
  exact k B₂ h₃ _ s.gens oD' [] _ kB₂ ⟨rfl, _, ⟨_, _, rfl, hnS, Heap.dictOf_iff.mpr ⟨_, hb₂, ho₂⟩⟩, rfl⟩ hD' O₅.dropF id
end
-- I3
section
variable {w : World} {A : Around} {E : Value → Shared → Prop} {s : Shared} {B : Heap} {F F' S S' : NsL} {L L' : ObL} {R : Result → Shared → Prop} {h : Heap}
/-- the code table of a def that makes one def -/
def TabOk (B : Heap) (pos : Pos) (qual : Str) (ps : Array Value) : Prop := TriplesOk ps.toList ∧ (codeAmong pos ps.toList = none ∨ ∃ c', codeAmong pos ps.toList = some (.ref c') ∧ B.CodeRec (.ref c') qual)
theorem TabOk.le {B B' : Heap} {pos : Pos} {qual : Str} {ps : Array Value} (x : TabOk B pos qual ps) (k : Le B B') : TabOk B' pos qual ps := ⟨x.1, x.2.imp id fun ⟨c, a, b⟩ => ⟨c, a, b.keeps k⟩⟩
theorem TabOk.new {B : Heap} {pos : Pos} {qual : Str} {ps : Array Value} {c' : Addr} (h1 : TriplesOk ps.toList) (h2 : codeAmong pos ps.toList = none) (h3 : B.CodeRec (.ref c') qual) : TabOk B pos qual (ps ++ #[rawInt pos.line, rawInt pos.col, .ref c']) := by
  refine ⟨?_, .inr ⟨c', ?_, h3⟩⟩
  · have := TriplesOk_snoc pos.line pos.col (.ref c') ps.toList h1
    simpa using this
  · have := codeAmong_snoc (c := .ref c') ps.toList h1 h2
    simpa using this
theorem lookup1 (n : Str) (v : Value) (y : Str) : ([(n, v)] : List (Str × Value)).lookup y = if y = n then some v else none := by
  by_cases e : y = n
  · subst e; simp [List.lookup_cons]
  · have : (y == n) = false := by simpa using e
    simp [List.lookup_cons, this, e]
variable {t td c cd st q qd dq : Addr} {oq : Obj} {nm : Str} {tm tn tc : Tok} {nx vc : Value} {n : Int} {kvs : List (Str × Value)} {ikvs : List (Int × Value)} {Y : ObL} {S1 : NsL} {ps : Array Value}
-- Table.insert
theorem c_insert {d0 : Addr} {i m : Int} {tmm : Tok} {pre : ObL} (O : Own B F ((td, tableNs c nm tm q nx) :: (cd, cachedNs st vc n tn) :: S1) (pre ++ (dq, oq) :: (298, tabObj ps) :: Y) s.heap) (W : Wd w B) (r : Room A 120) (Fo : Fro A (F.map (·.1)))
    (ht : B.get? t = some (instObj 426 td)) (hc : B.get? c = some (instObj 66 cd)) (hq : B.get? q = some (instObj 238 qd)) (hqd : NsB B qd (lruNs dq tc)) (hn : n < 900)
    (rd : ∀ nx, StRead w B ((td, tableNs c nm tm q nx) :: (cd, cachedNs st vc n tn) :: S1) c vc)
    (hC : (vc = .none ∧ pre = [] ∧ kvs = []) ∨ ∃ T oT, vc = .ref T ∧ pre = [(T, oT)] ∧ oT.IsDictOf (strKind prog w) kvs)
    (hkz : kvs.length ≤ 100) (hin : InTabs w B kvs nm (toS ikvs)) (sm : Small ikvs) (hz : ikvs.length ≤ 800) (hoq : oq.IsDictOf (intKind prog w) []) (tab : TabOk B insPos insQual ps)
    (hx : (∃ ti, nx = .int i ti) ∨ (nx = .none ∧ i = 1 ∧ ikvs = [])) (hi0 : 0 ≤ i) (hi1 : i < 1000) (hiv : valueAt ikvs i = none)
    (hdoc : B.DictOf (strKind prog w) d0 [("a", .int m tmm)]) (hd0S : (d0 == sysModules) = false) (hcode : codeHdIn (hd.heap_39 w.params) 302 298 = true)
    (k : ∀ B' h' tk gens' T oT' oq' v a ps' ti tn' ti', Le B B' → Doc w B' v m → oT'.IsDictOf (strKind prog w) (stored kvs nm (.ref a)) → (a == sysModules) = false → B'.DictOf (strKind prog w) a (toS (ikvs ++ [(i, v)])) → oq'.IsDictOf (intKind prog w) [] → TabOk B' insPos insQual ps' →
      Own B' F ((td, tableNs c nm tm q (.int (i + 1) ti')) :: (cd, cachedNs st (.ref T) (n + 1) tn') :: S1) ((T, oT') :: (dq, oq') :: (298, tabObj ps') :: Y) h' → (AllBare s.gens → AllBare gens') → R (.ok (.ret (.int i ti))) ⟨h', gens', s.drawn, tk, s.os⟩) :
    codeAny (model prog w) A (.call (.ref 303) ⟨[.ref t, .ref d0], []⟩) R s := by
  refine call_cells (binds := [("self", .ref t), ("document", .ref d0)]) (fl := [("self", .ref t)]) O W (by k_is) (by k_is) r.depth (BindsTo.of_eq rfl) (fun n x hx => by
      rcases List.mem_cons.mp hx with rfl | hx
      · exact .inl rfl
      · rcases List.mem_cons.mp hx with rfl | hx
        · exact .inr ⟨rfl, rfl⟩
        · cases hx) (by decide) (by intro Lf y; exact (lookup1 _ _ _).symm) fun Lf h₁ tk₁ cells hcells O₁ => ?_
  obtain ⟨o1, o2, rfl, hd1, hd2⟩ := CellsAre.two hcells
  replace hd1 : o1.data = .cell none := hd1
  replace hd2 : o2.data = .cell (some (.ref d0)) := hd2
  have Fo1 : Fro (A.deeper (envOfC (Str.ofString "Table.insert") scIns Lf 303 (Value.ref 302))) (Lf :: F.map (·.1)) := Fo.deeper (by intro q; cases q) rfl
  refine wpAny_execs_cons (wpAny_If (wpAny_isTrue_Not (wpAny_isTrue_value (Call_ ?_))))
  walk_at "nm"
  walk_at "cwB"
  walk_at "arg"
  refine nm_cell (s := ⟨h₁, s.gens, s.drawn, _, s.os⟩) O₁ rfl (.inr (.tail _ (.head _))) hd2 ?_
  walk_at "arg"
  walk_at "nm"
  walk_at "args1"
  refine isi_dict (s := ⟨h₁, s.gens, s.drawn, _, s.os⟩) O₁ W (r.deeper.le (by decide)) Fo.hd hdoc fun tk₂ => wpAny_truthy_bool ?_
  refine wpAny_execs_nil ?_
  refine wpAny_execs_cons (wpAny_If (wpAny_isTrue_value (Call_ ?_)))
  walk_at "nm"
  walk_at "cwB"
  walk_at "arg"
  refine nm_cell (s := ⟨h₁, s.gens, s.drawn, _, s.os⟩) O₁ rfl (.inr (.tail _ (.head _))) hd2 ?_
  walk_at "arg"
  walk_at "nm"
  walk_at "args1"
  refine isi_doc (s := ⟨h₁, s.gens, s.drawn, _, s.os⟩) O₁ W (r.deeper.le (by decide)) Fo.hd hdoc fun tk₃ => wpAny_truthy_bool ?_
  refine wpAny_execs_cons (wpAny_Assign_Name (MethodCall_ ?_))
  walk_at "nm"
  refine meth_at (s := ⟨h₁, s.gens, s.drawn, tk₃, s.os⟩) O₁ W ht (by walk_at "nsb") (by walk_at "noloc") (by k_is) (by k_is) (by k_is) ?_
  walk_at "cw0"
  have tbs : nx = .none ∧ i = 1 ∧ ikvs = [] → nx = .none ∧ i = 1 ∧ TabIs w B ([(Lf + 1 + 1, o1), (Lf + 1, o2)] ++ (pre ++ (dq, oq) :: (298, tabObj ps) :: Y)) nm vc [] := by
    rintro ⟨a, b, rfl⟩
    refine ⟨a, b, ?_⟩
    rcases hC with ⟨rfl, rfl, rfl⟩ | ⟨T, oT, rfl, rfl, hT⟩
    · exact .none
    · rcases hin with ⟨hv, _⟩ | ⟨a, hv, haS, ha⟩
      · exact .missing (O₁.notSysL (.tail _ (.tail _ (.head _)))) (.inr (.tail _ (.tail _ (.head _)))) hT hv
      · exact .found (.inr (.tail _ (.tail _ (.head _)))) hT hv haS ha
  refine wpAny_call (c_next (s := ⟨h₁, s.gens, s.drawn, _, s.os⟩) O₁ W (r.deeper.le (by decide)) Fo1 ht (rd _) (hx.imp id tbs) fun B₂ h₂ tk₄ ti ti' kB₂ O₂ => ?_)
  dsimp only
  refine st_cell (s := ⟨h₂, s.gens, s.drawn, _, s.os⟩) O₂ rfl hd1 fun h₃ o1' hd1' O₃ => ?_
  refine wpAny_execs_nil ?_
  -- the cells stand still now
  obtain ⟨B₃, kB₃, fz, O₄⟩ := Own.freeze (G := [(Lf + 1 + 1, o1'), (Lf + 1, o2)]) O₃
  have hf1 := fz _ (.head _)
  have hf2 := fz _ (.tail _ (.head _))
  have k3 := kB₂.trans kB₃
  have W₃ := W.le k3
  have X₃ := W₃.X
  refine wpAny_execs_cons (nestDef_K rfl rfl rfl ?_)
  have tab₃ := tab.le k3
  have C₃ : CodeHd B₃ 302 298 := codeHd_of_K X₃ (K := hd.heap_39 w.params) hcode
  have O₅ : Own B₃ ((Lf, [("self", .ref t)]) :: F) ((td, tableNs c nm tm q (.int (i + 1) ti')) :: (cd, cachedNs st vc n tn) :: S1) ((298, tabObj ps) :: (pre ++ (dq, oq) :: Y)) h₃ := O₄.permL (by
    have := (List.perm_middle (a := (298, tabObj ps)) (l₁ := pre ++ [(dq, oq)]) (l₂ := Y))
    simpa using this)
  refine wpAny_mono (Q := fun v s' => ∃ B₄ h₄ tk₅ u c' ctv doc pm ps', v = .ref u ∧ s' = ⟨h₄, s.gens, s.drawn, tk₅, s.os⟩ ∧ Le B₃ B₄ ∧ B₄.get? u = some (fnMade "updater" insQual insParams insBody insScope [("document", Lf + 1), ("doc_id", Lf + 1 + 1)] doc pm c' ctv) ∧ B₄.CodeRec (.ref c') insQual ∧ TabOk B₄ insPos insQual ps' ∧
      Own B₄ ((Lf, [("self", .ref t)]) :: F) ((td, tableNs c nm tm q (.int (i + 1) ti')) :: (cd, cachedNs st vc n tn) :: S1) (pre ++ (dq, oq) :: (298, tabObj ps') :: Y) h₄) (E := fun _ _ => False) ?_ ?_ (fun _ _ z => z)
  · rcases tab₃ with ⟨tr, hnf | ⟨c', hf, hrec⟩⟩
    · refine own_fn_new (s := ⟨h₃, s.gens, s.drawn, _, s.os⟩) O₅ W₃ rfl rfl rfl C₃ tr hnf fun B₄ h₄ tk₅ f c' P' ctv doc pm kB₄ hf hrec hcd O₆ => ?_
      refine ⟨B₄, h₄, tk₅, f, c', ctv, doc, pm, _, rfl, rfl, kB₄, hf, hrec, .new tr hnf hrec, ?_⟩
      have O₇ := (O₆.permL (.swap ..)).dropL
      exact O₇.permL (by
        have := (List.perm_middle (a := (298, tabObj (ps ++ #[rawInt insPos.line, rawInt insPos.col, .ref c']))) (l₁ := pre ++ [(dq, oq)]) (l₂ := Y)).symm
        simpa using this)
    · refine own_fn_hit (s := ⟨h₃, s.gens, s.drawn, _, s.os⟩) O₅ (.head _) W₃ rfl rfl rfl C₃ tr hf fun B₄ h₄ tk₅ f ctv doc pm kB₄ hf' O₆ => ?_
      refine ⟨B₄, h₄, tk₅, f, c', ctv, doc, pm, ps, rfl, rfl, kB₄, hf', hrec.keeps kB₄, ⟨tr, .inr ⟨c', hf, hrec.keeps kB₄⟩⟩, ?_⟩
      exact O₆.permL (by
        have := (List.perm_middle (a := (298, tabObj ps)) (l₁ := pre ++ [(dq, oq)]) (l₂ := Y)).symm
        simpa using this)
  rintro _ _ ⟨B₄, h₄, tk₅, u, c', ctv, doc, pm, ps', rfl, rfl, kB₄, hu, hrec, tab₄, O₆⟩
  refine wpAny_mono (E := fun _ _ => False) ?_ (fun _ _ z => z) (fun _ _ z => z)
  have k4 := k3.trans kB₄
  have W₄ := W.le k4
  refine st_loc (s := ⟨h₄, s.gens, s.drawn, tk₅, s.os⟩) O₆ (by walk_at "put") (fun h₅ O₇ => ?_) rfl rfl rfl
  dsimp only
  refine wpAny_execs_cons (wpAny_Expr (MethodCall_ ?_))
  walk_at "nm"
  refine meth_at (s := ⟨h₅, s.gens, s.drawn, _, s.os⟩) O₇ W₄ (k4 _ _ ht) (by walk_at "nsb") (by walk_at "noloc") (by k_is) (by k_is) (by k_is) ?_
  walk_at "cw"
  walk_at "arg"
  walk_at "nm"
  walk_at "args0"
  have hC' : (vc = .none ∧ pre ++ (dq, oq) :: (298, tabObj ps') :: Y = (dq, oq) :: ([] ++ (298, tabObj ps') :: Y) ∧ kvs = []) ∨ ∃ T oT, vc = .ref T ∧ pre ++ (dq, oq) :: (298, tabObj ps') :: Y = (T, oT) :: (dq, oq) :: ([] ++ (298, tabObj ps') :: Y) ∧ oT.IsDictOf (strKind prog w) kvs := by
    rcases hC with ⟨a, rfl, b⟩ | ⟨T, oT, a, rfl, b⟩
    · exact .inl ⟨a, rfl, b⟩
    · exact .inr ⟨T, oT, a, rfl, b⟩
  have hin₄ : InTabs w B₄ kvs nm (toS ikvs) := hin.imp id fun ⟨a, x, y, z⟩ => ⟨a, x, y, k4.dict z⟩
  refine wpAny_call (c_update (s := ⟨h₅, s.gens, s.drawn, _, s.os⟩) (ikvs := ikvs) (P := Grown w ikvs i m) O₇ W₄ (r.deeper.le (by decide)) Fo1 (k4 _ _ ht) (k4 _ _ hc) (k4 _ _ hq) (let ⟨o, es, ep, e, y⟩ := hqd; ⟨o, es, ep, k4 _ _ e, y⟩) hn ⟨_, _, _, _, hu⟩ (fun kk => rd _ (k4.trans kk)) hC' hkz hin₄ sm hz hoq
    (fun B' kB' => upd_insert (W₄.le kB') (kB' _ _ hu) (hrec.keeps kB') (kB' _ _ (kB₄ _ _ hf1)) hd1' (kB' _ _ (kB₄ _ _ hf2)) hd2 ((k4.trans kB').dict hdoc) hd0S hiv hz) ?_ ?_ ?_)
  · rintro B L1 ikvs' ⟨_, v, _, rfl⟩
    refine ⟨fun p hp => ?_, by simp; omega⟩
    rcases List.mem_append.mp hp with hp | hp
    · exact sm p hp
    · rw [List.mem_singleton] at hp; subst hp; exact ⟨hi0, hi1⟩
  · rintro B B' L1 ikvs' kk ⟨a, v, b, e⟩
    exact ⟨a, v, b.le kk, e⟩
  · intro B' h' tk' gens' T oT' oq' L1' ikvs' a tn' kk ⟨hL1, v, hv, hik⟩ h3 h4 h5 h6 O₈ hg
    subst hL1 hik
    dsimp only
    refine wpAny_execs_cons (wpAny_Return_some ?_)
    refine nm_cell (s := ⟨h', gens', s.drawn, tk', s.os⟩) O₈ rfl (.inl ((kB₄.trans kk) _ _ hf1)) hd1' ?_
    exact k B' h' tk' gens' T oT' oq' v a ps' ti tn' ti' (k4.trans kk) hv h3 h4 h5 h6 (tab₄.le kk) O₈.dropF hg
end
-- C3
section
variable {w : World} {A : Around} {E : Value → Shared → Prop} {s : Shared} {B : Heap} {F F' S S' : NsL} {L L' : ObL} {R : Result → Shared → Prop} {h : Heap}
-- a call of a closure whose one parameter is captured
theorem call_clos1 {name qual : Str} {params : Arguments} {body : List Stmt} {scope : Scope} {cl : List (Str × Addr)} {dV kV doc pm cdv ct oc : Value} {an od : Option Addr} {osl : Array (Option Value)} {f : Addr} {args : Args} {x : Str} {v : Value}
    (O : Own B F S L s.heap) (W : Wd w B)
    (ho : s.heap.get? f = some ⟨oc, od, .func (fnX name qual params body scope cl dV kV doc pm an cdv ct), osl⟩) (hcd : s.heap.CodeRec cdv qual)
    (hroom : A.depth < recursionLimit) (hbind : BindsTo s (fnX name qual params body scope cl dV kV doc pm an cdv ct) args [(x, v)])
    (hcells : ∀ n, cellsFrom n scope.names cl = (x, n) :: cl) (hpush : ∀ h, pushCells h scope.names = h.push { cls := .type "cell", data := .cell none })
    (hx : scope.names.lookup x = some .cell)
    (h : ∀ Lf C o h₁ tk, o.data = .cell (some v) → Own B ((Lf, []) :: F) S ((C, o) :: L) h₁ →
      wpAny (model prog w) (A.deeper (envX qual scope Lf f cdv ((x, C) :: cl))) (execs body (envX qual scope Lf f cdv ((x, C) :: cl)))
        (fun fl s' => R (.ok (.ret (match fl with | .ret v => v | _ => .none))) s') (fun _ _ => False) { s with heap := h₁, toks := tk })
    (hco : scope.isCoroutine = false := by rfl) (hgen : scope.isGenerator = false := by rfl) (hk : scope.kind = .function := by rfl) :
    codeAny (model prog w) A (.call (.ref f) args) R s := by
  obtain ⟨mg, mb, T⟩ := W.T
  refine codeAny_call_function hroom ho rfl hco hgen rfl hcd (hbind _ _ _ _ ?_)
  simp only [newFunctionEnv, Option.isSome_none, Bool.false_eq_true, if_false]
  refine wpAny_bind (wpAny_alloc ?_)
  refine wpAny_bind (wpAny_layCells _ (fun name kind cells => by cases hkc : kind == NameKind.cell <;> simp [hkc]) _ _ _ _ ?_)
  show wpAny _ _ _ _ _ _
  rw [hcells, hpush]
  have k1 : ∀ b o, s.heap.get? b = some o → (s.heap.push { cls := .type "frame", data := .dict #[] }).get? b = some o := fun b o e => Heap.get?_push_of_some _ e
  have O₁ : Own B ((s.heap.objs.size, []) :: F) S L (s.heap.push { cls := .type "frame", data := .dict #[] }) := O.enter k1 (Heap.Ns.new s.heap (.type "frame"))
  have O₂ := O₁.push { cls := .type "cell", data := .cell none }
  rw [List.forIn_cons]
  refine wpAny_bind (wpAny_bind (wpAny_bind ?_))
  refine st_cell (s := ⟨_, s.gens, s.drawn, s.toks, s.os⟩) O₂ (v₀ := none) (by simp [List.lookup_cons]) rfl (fun h' o' hd' O₃ => ?_) hk hx
  refine wpAny_pure ?_
  dsimp only
  rw [List.forIn_nil]
  refine wpAny_pure (wpAny_pure ?_)
  refine ⟨(T.nolimit.keeps O₃.keep), codeAny_func ?_⟩
  exact wpAny_mono (h _ _ o' h' _ hd' O₃) (fun _ _ z => z) fun _ _ z => z.elim
end
-- R1
abbrev rmPos : Pos := by
  refine (fun (l : Pos) (_ : l = defPos (defAt (defAt (tableDef 13) 0) 2)) => l) ?x ?h
  case h => conv => rhs; whnf
abbrev rmParams : Arguments := by
  refine (fun (l : Arguments) (_ : l = defArgs (defAt (defAt (tableDef 13) 0) 2)) => l) ?x ?h
  case h => conv => rhs; whnf
abbrev rmScope : Scope := by
  refine (fun (l : Scope) (_ : l = defScope (defAt (defAt (tableDef 13) 0) 2)) => l) ?x ?h
  case h => conv => rhs; whnf
abbrev rmExt : Expr := by
  refine (fun (l : Expr) (_ : l = exprOf (defAt (defAt (defAt (tableDef 13) 0) 2) 0)) => l) ?x ?h
  case h => conv => rhs; whnf
abbrev rmFor : Stmt := by
  refine (fun (l : Stmt) (_ : l = defAt (defAt (defAt (tableDef 13) 0) 2) 1) => l) ?x ?h
  case h => conv => rhs; whnf
abbrev rmBody : List Stmt := by
  refine (fun (l : List Stmt) (_ : l = defBody (defAt (defAt (tableDef 13) 0) 2)) => l) ?x ?h
  case h => conv => rhs; whnf
def gxRaw (e : Expr) : Expr := match e with | .Call _ a _ _ => a.getD 0 nilEx | _ => nilEx
abbrev gxElt : Expr := by
  refine (fun (l : Expr) (_ : l = (match gxRaw rmExt with | .GeneratorExp e _ _ _ => e | _ => nilEx)) => l) ?x ?h
  case h => conv => rhs; whnf
abbrev gxIter : Expr := by
  refine (fun (l : Expr) (_ : l = (match gxRaw rmExt with | .GeneratorExp _ (g :: _) _ _ => g.iter | _ => nilEx)) => l) ?x ?h
  case h => conv => rhs; whnf
abbrev gxIfs : List Expr := by
  refine (fun (l : List Expr) (_ : l = (match gxRaw rmExt with | .GeneratorExp _ (g :: _) _ _ => g.ifs | _ => [])) => l) ?x ?h
  case h => conv => rhs; whnf
abbrev gxPx : Pos := by
  refine (fun (l : Pos) (_ : l = (match gxRaw rmExt with | .GeneratorExp _ (⟨.Name _ p, _, _, _⟩ :: _) _ _ => p | _ => ⟨0, 0, 0, 0⟩)) => l) ?x ?h
  case h => conv => rhs; whnf
abbrev gxSc : Scope := by
  refine (fun (l : Scope) (_ : l = (match gxRaw rmExt with | .GeneratorExp _ _ sc _ => sc | _ => default)) => l) ?x ?h
  case h => conv => rhs; whnf
abbrev gxPos : Pos := by
  refine (fun (l : Pos) (_ : l = (match gxRaw rmExt with | .GeneratorExp _ _ _ p => p | _ => ⟨0, 0, 0, 0⟩)) => l) ?x ?h
  case h => conv => rhs; whnf
abbrev scRm : Scope := by
  refine (fun (l : Scope) (_ : l = defScope (tableDef 13)) => l) ?x ?h
  case h => conv => rhs; whnf
abbrev rmQual : Str := qualnameIn (envOfC (Str.ofString "Table.remove") scRm 0 369 (Value.ref 368)) "updater" "updater"
section
variable {w : World} {A : Around} {E : Value → Shared → Prop} {s : Shared} {B : Heap} {F F' S S' : NsL} {L L' : ObL} {R : Result → Shared → Prop} {h : Heap}
/-- all is kept but one object, which is turned, and one, which is lost -/
theorem Own.moved {a b : Addr} {o o' ob : Obj} {h' : Heap} (O : Own B F S ((a, o) :: (b, ob) :: L) h) (k : ∀ c x, c ≠ a → c ≠ b → h.get? c = some x → h'.get? c = some x) (ho : h'.get? a = some o') : Own B F S ((a, o') :: L) h' := by
  have n0 := (O.permL (.swap ..)).nd
  rw [List.map_cons, nodup_app, nodup_app, List.nodup_cons] at n0
  obtain ⟨_, ⟨_, ⟨m1, _⟩, m2⟩, m3⟩ := n0
  have nd := O.nd
  rw [List.map_cons, nodup_app, nodup_app, List.nodup_cons] at nd
  obtain ⟨_, ⟨_, ⟨n1, _⟩, n2⟩, n3⟩ := nd
  have e0 := (O.ob _ (.head _)).2
  have e1 := (O.ob _ (.tail _ (.head _))).2
  have O' := (O.permL (.swap ..)).dropL
  refine ⟨fun c x e => ?_, fun p hp => ⟨?_, (O.fr p hp).2⟩, fun p hp => ⟨?_, (O.ns p hp).2⟩, fun p hp => ?_, O'.nd, O'.lo, O.sz⟩
  · exact k c x (fun q => by rw [q] at e; rw [e0] at e; cases e) (fun q => by rw [q] at e; rw [e1] at e; cases e) (O.keep c x e)
  · obtain ⟨x, es, ep, a1, r⟩ := (O.fr p hp).1
    exact ⟨x, es, ep, k _ _ (fun q => n3 p.1 (List.mem_map.mpr ⟨p, hp, rfl⟩) (List.mem_append_right _ (q ▸ .head _))) (fun q => m3 p.1 (List.mem_map.mpr ⟨p, hp, rfl⟩) (List.mem_append_right _ (q ▸ .head _))) a1, r⟩
  · obtain ⟨x, es, ep, a1, r⟩ := (O.ns p hp).1
    exact ⟨x, es, ep, k _ _ (fun q => n2 p.1 (List.mem_map.mpr ⟨p, hp, rfl⟩) (q ▸ .head _)) (fun q => m2 p.1 (List.mem_map.mpr ⟨p, hp, rfl⟩) (q ▸ .head _)) a1, r⟩
  · rcases List.mem_cons.mp hp with rfl | hp
    · exact ⟨ho, e0⟩
    · exact ⟨k _ _ (fun q => n1 (List.mem_map.mpr ⟨p, .tail _ hp, q⟩)) (fun q => m1 (List.mem_map.mpr ⟨p, .tail _ hp, q⟩)) (O.ob p (.tail _ (.tail _ hp))).1, (O.ob p (.tail _ (.tail _ hp))).2⟩
theorem codeOf_hd {c P : Addr} {ps : Array Value} {op : Obj} (x : CodeHd h c P) (hP : h.get? P = some op) (hd : op.data = .fields ps) (ht : TriplesOk ps.toList) : h.IsCode c P ps :=
  let ⟨o, vs, file, tf, flags, tg, inF, text, tt, e1, _, e3, _, f3, f4, f5, f6, f7, f11⟩ := x
  ⟨o, vs, file, tf, flags, tg, inF, text, tt, op, e1, e3, f3, f4, f5, f6, f7, hP, hd, ht, f11⟩
abbrev envRm (Lf u c' Ct : Addr) (c1 c2 : Addr) : Env := envX rmQual rmScope Lf u (Value.ref c') [("table", Ct), ("requested_ids", c2), ("removed_ids", c1)]
theorem gen_extend {Lf u c' Ct c1 c2 rl ql P' D : Addr} {o1 o2 ot oD op : Obj} {n0 : Nat} {ps : Array Value} {gone : Int} {tg : Tok} {ikvs : List (Int × Value)} {Q : Value → Shared → Prop}
    (O : Own B F S ((rl, lsO #[] n0) :: (P', op) :: L) s.heap) (W : Wd w B) (r : Room A 20) (hh : A.handled = none)
    (hcode : CodeHd B c' P') (hop : op.data = .fields ps) (tr : TriplesOk ps.toList)
    (h1 : B.get? c1 = some o1) (h1d : o1.data = .cell (some (.ref rl))) (h2 : B.get? c2 = some o2) (h2d : o2.data = .cell (some (.ref ql))) (hql : B.IsList ql #[.int gone tg])
    (ht : (Ct, ot) ∈ L) (htd : ot.data = .cell (some (.ref D))) (hD : (D, oD) ∈ L) (hDd : oD.IsDictOf (intKind prog w) ikvs)
    (k : ∀ h' tk gens' op' ps' o', LsO o' (if (valueAt ikvs gone).isSome then #[.int gone tg] else #[]) → op'.data = .fields ps' → TriplesOk ps'.toList → Own B F S ((rl, o') :: (P', op') :: L) h' → (AllBare s.gens → AllBare gens') → Q .none ⟨h', gens', s.drawn, tk, s.os⟩) :
    wpAny (model prog w) A (eval rmExt (envRm Lf u c' Ct c1 c2)) Q E s := by
  have hDS := O.notSysL (.tail _ (.tail _ hD))
  refine MethodCall_ ?_
  refine nm_free O rfl (.inl h1) h1d ?_
  have hrl := (O.ob _ (.head _)).1
  refine getMethod_builtin (T := "list") ⟨_, hrl, rfl⟩ PySem.F.plainAttrs_list PySem.F.slot_list_extend PySem.F.type_list_extend (fun a e => by cases e; exact ⟨_, hrl, rfl⟩) ?_
  dsimp only
  walk_at "cwB"
  walk_at "arg"
  refine wpAny_GeneratorExp_make (cl := [("table", Ct)]) rfl rfl (by decide) rfl rfl r.depth ?_ (by intro _; rfl)
  refine nm_free O rfl (.inl h2) h2d ?_
  refine iter_list O (IsList.keep hql O.keep) fun h₁ I oI lI k₁ O₁ => ?_
  obtain ⟨mg, mb, T⟩ := W.T
  refine ⟨T.nolimit.keeps O₁.keep, ?_⟩
  have hP' := (O₁.ob _ (.tail _ (.tail _ (.head _)))).1
  refine wpAny_genexprCode (s := { s with heap := h₁ }) (c := c') (P := P') rfl (codeOf_hd (hcode.keeps O₁.keep) hP' hop tr) fun code h₂ tk₂ ps₂ hx₂ hic => ?_
  obtain ⟨_, _, _, _, _, _, _, _, _, op₂, _, _, _, _, _, _, _, hP₂, hop₂, tr₂, _⟩ := id hic
  have pm : ((I, oI) :: (rl, lsO #[] n0) :: (P', op) :: L).Perm ((P', op) :: (rl, lsO #[] n0) :: (I, oI) :: L) := by
    refine (List.Perm.swap ..).trans ?_
    refine (List.Perm.cons _ (List.Perm.swap ..)).trans ?_
    exact List.Perm.swap ..
  have O₂ : Own B F S ((P', op₂) :: (rl, lsO #[] n0) :: (I, oI) :: L) h₂ := (O₁.permL pm).turn (fun b o n e => hx₂ b o n e) hP₂
  obtain ⟨mg', hg', hb', _⟩ := O₂.bm W (O₂.ob _ (.head _)).2
  obtain ⟨bm, ob, b1, b2, _, _, b5, b6, b7, b8⟩ := hb'
  refine wpAny_builtinsFor (s := ⟨h₂, s.gens, s.drawn, tk₂, s.os⟩) hg' b1 b2 b5 b6 b7 b8 ?_
  have mI := (O₂.ob _ (.tail _ (.tail _ (.head _)))).1
  have mrl := (O₂.ob _ (.tail _ (.head _))).1
  have mCt := (O₂.ob (Ct, ot) (.tail _ (.tail _ (.tail _ ht)))).1
  have mD := (O₂.ob (D, oD) (.tail _ (.tail _ (.tail _ hD)))).1
  have hqI : ql ≠ I := fun e => by
    obtain ⟨o, eo, _⟩ := hql
    have := (O₂.ob _ (.tail _ (.tail _ (.head _)))).2
    rw [← e, eo] at this; cases this
  have hcI : cStatics ≠ I := fun e => by
    have := (O₂.lo I (mem_keys.mpr (.inr (.inr ⟨_, .tail _ (.tail _ (.head _)), rfl⟩))))
    rw [← e] at this; exact absurd this (by decide)
  have ne : ∀ {x y : Addr} {ox oy : Obj}, (x, ox) ∈ (P', op₂) :: (rl, lsO #[] n0) :: (I, oI) :: L → (y, oy) ∈ (P', op₂) :: (rl, lsO #[] n0) :: (I, oI) :: L → ox ≠ oy → x ≠ y := fun {x y ox oy} hx hy hne e => by
    have a := (O₂.ob _ hx).1
    have b := (O₂.ob _ hy).1
    dsimp only at a b
    rw [e, b] at a
    exact hne (Option.some.inj a).symm
  have hCtI : Ct ≠ I := ne (.tail _ (.tail _ (.tail _ ht))) (.tail _ (.tail _ (.head _))) fun e => by have := lI.2; rw [← e, htd] at this; cases this
  have hCtrl : Ct ≠ rl := ne (.tail _ (.tail _ (.tail _ ht))) (.tail _ (.head _)) fun e => by rw [e] at htd; cases htd
  obtain ⟨esD, epD, hoD, hdD, _⟩ := id hDd
  have hDI : D ≠ I := ne (.tail _ (.tail _ (.tail _ hD))) (.tail _ (.tail _ (.head _))) fun e => by have := lI.2; rw [← e, hdD] at this; cases this
  have hDrl : D ≠ rl := ne (.tail _ (.tail _ (.tail _ hD))) (.tail _ (.head _)) fun e => by rw [e] at hdD; cases hdD
  have hrlI : rl ≠ I := ne (.tail _ (.head _)) (.tail _ (.tail _ (.head _))) fun e => by have := lI.2; rw [← e] at this; cases this
  have hqrl : ql ≠ rl := fun e => by
    obtain ⟨o, eo, _⟩ := hql
    have := (O₂.ob _ (.tail _ (.head _))).2
    rw [← e, eo] at this; cases this
  have hcrl : cStatics ≠ rl := fun e => by
    have := (O₂.lo rl (mem_keys.mpr (.inr (.inr ⟨_, .tail _ (.head _), rfl⟩))))
    rw [← e] at this; exact absurd this (by decide)
  intro h₃ hn₃ hs₃
  dsimp only at hn₃ hs₃
  have hsz : h₃.objs.size = h₂.objs.size + 1 := by rw [hs₃.1, Heap.size_push]
  have keep₃ : ∀ b o, h₂.get? b = some o → h₃.get? b = some o := fun b o e => hs₃.extBut b o (Nat.ne_of_lt (Heap.lt_size e)) (Heap.get?_push_of_some _ e)
  let fp : List Addr := (List.range h₂.objs.size).filter (fun b => decide (b ≠ rl))
  have infp : ∀ {b : Addr}, b < h₂.objs.size → b ≠ rl → b ∈ fp := fun {b} hb hne => List.mem_filter.mpr ⟨List.mem_range.mpr hb, by simpa using hne⟩
  have offp : ∀ {b : Addr}, b ∈ fp → b < h₂.objs.size ∧ b ≠ rl := fun {b} hb => by
    obtain ⟨x, y⟩ := List.mem_filter.mp hb
    exact ⟨List.mem_range.mp x, by simpa using y⟩
  have hIlt := Heap.lt_size mI
  have hclt : cStatics < h₂.objs.size := by
    obtain ⟨_, ⟨o, _, _, e, _⟩, _⟩ := T.nolimit; exact Heap.lt_size (O₂.keep _ _ e)
  have hqlt : ql < h₂.objs.size := by obtain ⟨o, e, _⟩ := hql; exact Heap.lt_size (O₂.keep _ _ e)
  have haC : h₃.objs.size ≠ h₂.objs.size := by rw [hsz]; exact Nat.succ_ne_self _
  have haf : h₃.objs.size ∉ fp := fun q => by have := (offp q).1; rw [hsz] at this; exact absurd (Nat.lt_of_succ_lt this) (Nat.lt_irrefl _)
  let pz : Nat → Bool := fun _ => (valueAt ikvs gone).isSome
  let Fv : Nat → Value → Prop := fun _ y => y = .int gone tg
  have hlist : h₂.IsList ql #[.int gone tg] := IsList.keep hql O₂.keep
  have WS := WalksS.genexpQ (prog := prog) (w := w) (A := A.in1) hh h₃.objs.size s.gens.size h₂.objs.size fp [I] pz 1 Fv haC haf (fun b hb => by rw [List.mem_singleton] at hb; subst hb; exact infp hIlt (Ne.symm hrlI)) r.depth (infp hclt hcrl) (Nat.ne_of_lt hclt) (by simpa using hcI)
  have keep₅ : ∀ b o, h₂.get? b = some o → (h₃.push (genO s.gens.size (.str "<genexpr>" (tk₂ + 1)) (.str ((envRm Lf u c' Ct c1 c2).qual ++ "<genexpr>") (tk₂ + 1 + 1)))).get? b = some o := fun b o e => Heap.get?_push_of_some _ (keep₃ b o e)
  have quiet : QuietGen prog w (genEnv gxSc [("table", Ct)] h₂.objs.size code builtinsNs (envRm Lf u c' Ct c1 c2)) "doc_id"
      gxIfs gxElt fp [I] (fun i v => (#[.int gone tg] : Array Value)[i]? = some v) pz Fv
      (h₃.push (genO s.gens.size (.str "<genexpr>" (tk₂ + 1)) (.str ((envRm Lf u c' Ct c1 c2).qual ++ "<genexpr>") (tk₂ + 1 + 1)))) := by
    have item : ∀ {i : Nat} {v : Value}, (#[.int gone tg] : Array Value)[i]? = some v → v = .int gone tg := fun {i v} e => by
      cases i with
      | zero => simpa using e.symm
      | succ i => simp at e
    constructor
    · intro A' E' i v s₂ m₂ hA hP hns hx hal
      have hv := item hP
      subst hv
      refine wpAny_tests_one (wpAny_isTrue_Compare1 (wpAny_Name (wpAny_loadName_local rfl rfl hns hx ?_) (by decide)))
      have eCt := hal Ct (infp (Heap.lt_size mCt) hCtrl) (by simpa using hCtI) _ (keep₅ _ _ mCt)
      have eD := hal D (infp (Heap.lt_size mD) hDrl) (by simpa using hDI) _ (keep₅ _ _ mD)
      refine wpAny_Name (wpAny_loadName_free rfl rfl rfl ⟨ot, eCt, htd⟩ ?_ (by decide)) (by decide)
      refine wpAny_in_of (knd := intKind prog w) (k := gone) (intKind_is ..) hDS (Heap.DictOf.mapOf (Heap.dictOf_iff.mpr ⟨oD, eD, hDd⟩)) ?_
      exact wpAny_truthy_bool ⟨rfl, _, _, rfl, fun _ _ e => e⟩
    · intro A' E' i v s₂ m₂ hA hP _ hns hx hal
      have hv := item hP
      subst hv
      exact wpAny_Name (wpAny_loadName_local rfl rfl hns hx ⟨rfl, _, _, rfl, fun _ _ e => e⟩) (by decide)
  have GA := GenAt.fresh (prog := prog) (w := w) (A := A.in1) (a := h₃.objs.size) (g := s.gens.size) (n₀ := 1) (iter := gxIter) (px := gxPx) (pos := gxPos) (scope := gxSc) hh
    (fun A' hA => (Walks.list (prog := prog) (w := w) hA I ql hqI #[.int gone tg]).mono_fp (fp' := fp) fun b hb => by
      rcases List.mem_cons.mp hb with rfl | hb
      · exact infp hIlt (Ne.symm hrlI)
      · rw [List.mem_singleton] at hb; subst hb; exact infp hqlt hqrl) pz Fv (x := "doc_id") rfl rfl rfl (fun q => Nat.lt_irrefl _ (offp q).1) quiet
    (s := ⟨_, s.gens.push (.fresh (.compStart (.GeneratorExp gxElt [⟨.Name "doc_id" gxPx, gxIter, _, 0⟩] _ gxPos) 0 (.ref I) .none _)), s.drawn, tk₂ + 1 + 1 + 1, s.os⟩)
    ⟨_, _, _, Heap.get?_push_size _ rfl, rfl, rfl, rfl⟩ (Array.getElem?_push_size ..) ⟨⟨oI, keep₅ _ _ mI, lI.1, lI.2⟩, IsList.keep hlist keep₅⟩ (hn₃.push _) ((T.nolimit.keeps O₂.keep).keeps keep₅)
  walk_at "args1"
  have mrl₅ := keep₅ _ _ mrl
  refine wpAny_call (codeAny_call_builtin PySem.F.slot_list_extend.plain PySem.F.entry_list_extend (PySem.F.slot_list_extend.check _ _ _ _ _ _ _ _ ⟨_, mrl₅, rfl⟩ (PySem.F.args_list_extend_2 _ _) ?_))
  unfold Builtin.«list.extend»
  refine wpAny_bind (wpAny_pure ?_)
  refine wpAny_extend_gen (R := fun r s' => match r with | .ok (.ret v) => Q v s' | .ok _ => False | .error e => E e s') WS (fun i s st => st.1.typeIs) rl .none n0 GA (fun q => ?_) (.head _) mrl₅ (fun s' acc' c' hm hS' hacc => ?_) (Nat.le_trans (List.length_filter_le _ _) (by decide))
  · rcases List.mem_cons.mp q with e | q
    · exact absurd (Heap.lt_size (keep₃ _ _ mrl)) (by rw [e]; exact Nat.lt_irrefl _)
    · rcases List.mem_cons.mp q with e | q
      · exact absurd (Heap.lt_size mrl) (by rw [e]; exact Nat.lt_irrefl _)
      · exact (offp q).2 rfl
  · obtain ⟨hp, g', d', t', os'⟩ := s'
    obtain ⟨m1, m2, m3, m4, m5⟩ := hm
    dsimp only at m1 m2 m3 m4 m5 hS'
    subst m3 m4
    have pm2 : ((P', op₂) :: (rl, lsO #[] n0) :: (I, oI) :: L).Perm ((rl, lsO #[] n0) :: (I, oI) :: (P', op₂) :: L) := (List.Perm.swap ..).trans (List.Perm.cons _ (List.Perm.swap ..))
    have O₅ := (O₂.permL pm2).moved (h' := hp) (fun c x n1 n2 e => m1 c x (fun q => by
      rcases List.mem_cons.mp q with e2 | q
      · exact n1 e2
      · rcases List.mem_cons.mp q with e2 | q
        · exact absurd (Heap.lt_size e) (by rw [e2]; exact Nat.lt_irrefl _)
        · rw [List.mem_singleton] at q; exact n2 q) (keep₅ _ _ e)) hS'
    refine k hp t' g' op₂ ps₂ _ ?_ hop₂ tr₂ O₅ (fun hb => ?_)
    · refine ⟨rfl, c', ?_⟩
      show Data.seq acc' c' = _
      congr 1
      obtain ⟨hz, hi⟩ := hacc
      by_cases hp : (valueAt ikvs gone).isSome = true
      · rw [if_pos hp]
        have e1 : passing pz 1 0 = [0] := by simp [passing, pz, hp]
        rw [e1] at hz hi
        have hz1 : acc'.size = 1 := hz
        have h0 := hi 0 acc'[0] (by rw [Array.getElem?_eq_getElem (by omega)])
        obtain ⟨_, _, hv⟩ := h0
        have hv : acc'[0] = .int gone tg := hv
        apply Array.ext
        · simpa using hz1
        · intro j hj1 hj2
          have : j = 0 := by omega
          subst this
          simpa using hv
      · rw [if_neg hp]
        have e1 : passing pz 1 0 = [] := by simp [passing, pz, hp]
        rw [e1] at hz
        exact Array.eq_empty_of_size_eq_zero hz
    · refine GenOnlyQ.bare m2 (AllBare.push hb rfl)
end
-- R2
section
variable {w : World} {A : Around} {E : Value → Shared → Prop} {s : Shared} {B : Heap} {F F' S S' : NsL} {L L' : ObL} {R : Result → Shared → Prop} {h : Heap} {K : Type} [DecidableEq K] {knd : KeyKind prog w K}
theorem del_dict {d : Addr} {o : Obj} {kvs : List (K × Value)} {k : K} {key : Value} {Q : Unit → Shared → Prop} (O : Own B F S ((d, o) :: L) s.heap) (hd : o.IsDictOf knd kvs) (hkey : knd.is k key = true) (hz : kvs.length ≤ 1000) (hv : (valueAt kvs k).isSome = true)
    (q : ∀ h' o', o'.IsDictOf knd (without kvs k) → Own B F S ((d, o') :: L) h' → Q () { s with heap := h', toks := s.toks + 1 }) : wpAny (model prog w) A (delItem (.ref d) key) Q E s := by
  have hD := O.dictL (.head _) hd
  unfold delItem
  try with_reducible refine wpAny_holding ?_
  refine wpAny_bind (wpAny_sequenceKey hD.typeIs (by decide) ?_)
  refine wpAny_bind (wpAny_callSpecial?_slot (name := Str.ofString "__delitem__") hD.typeIs PySem.F.slot_dict_delitem
    (call_meetsIn PySem.F.slot_dict_delitem hD.typeIs PySem.F.entry_dict_delitem (PySem.F.args_dict_delitem_2 _ _) (meets_dict_delitem_pairs knd d hkey) ⟨kvs, hD, Nat.le_trans hz (by decide), hv, fun h' hmm hs => ?_⟩))
  obtain ⟨o', hd', O'⟩ := O.putDict hs hmm
  exact wpAny_pure (q h' o' hd' O')
theorem without_none {kvs : List (K × Value)} {k : K} (h : valueAt kvs k = none) : without kvs k = kvs := by
  unfold without
  rw [List.filter_eq_self]
  intro p hp
  unfold valueAt at h
  rw [Option.map_eq_none_iff, List.find?_eq_none] at h
  simpa using h p hp
abbrev Shrunk (ikvs : List (Int × Value)) (gone : Int) (tg : Tok) (rl P' : Addr) : Heap → ObL → List (Int × Value) → Prop := fun _ L1 ikvs' =>
  ∃ o' op' ps', L1 = [(rl, o'), (P', op')] ∧ LsO o' (if (valueAt ikvs gone).isSome then #[.int gone tg] else #[]) ∧ op'.data = .fields ps' ∧ TriplesOk ps'.toList ∧ ikvs' = without ikvs gone
theorem upd_remove {u c' c1 c2 rl ql P' : Addr} {o1 o2 op : Obj} {n0 : Nat} {ps : Array Value} {ctv doc pm : Value} {ikvs : List (Int × Value)} {gone : Int} {tg : Tok}
    (hu : B.get? u = some (fnMade "updater" rmQual rmParams rmBody rmScope [("requested_ids", c2), ("removed_ids", c1)] doc pm c' ctv)) (hrec : B.CodeRec (.ref c') rmQual) (hcode : CodeHd B c' P') (hop : op.data = .fields ps) (tr : TriplesOk ps.toList)
    (h1 : B.get? c1 = some o1) (h1d : o1.data = .cell (some (.ref rl))) (h2 : B.get? c2 = some o2) (h2d : o2.data = .cell (some (.ref ql))) (hql : B.IsList ql #[.int gone tg]) (hz : ikvs.length ≤ 800) :
    UpdOk w B S 60 u [(rl, lsO #[] n0), (P', op)] ikvs (Shrunk ikvs gone tg rl P') := by
  intro A s B' F Y D oD R kB O W' r Fo hD k
  refine call_clos1 (x := "table") (v := .ref D) O W' (O.keep _ _ (kB _ _ hu)) (hrec.keeps fun b o e => O.keep _ _ (kB _ _ e)) r.depth (BindsTo.of_eq rfl) (fun _ => rfl) (fun _ => rfl) rfl fun Lf C oC h₁ tk₁ hoC O₁ => ?_
  have pm : ((C, oC) :: (D, oD) :: ([(rl, lsO #[] n0), (P', op)] ++ Y)).Perm ((rl, lsO #[] n0) :: (P', op) :: (C, oC) :: (D, oD) :: Y) := by
    exact List.perm_append_comm_assoc [(C, oC), (D, oD)] [(rl, lsO #[] n0), (P', op)] Y
  refine wpAny_execs_cons (wpAny_Expr (gen_extend (s := ⟨h₁, s.gens, s.drawn, tk₁, s.os⟩) (O₁.permL pm) W' (r.deeper.le (by decide)) Fo.hd (hcode.keeps kB) hop tr (kB _ _ h1) h1d (kB _ _ h2) h2d (IsList.keep hql kB) (.head _) hoC (.tail _ (.head _)) hD fun h₂ tk₂ g₂ op₂ ps₂ o₂ l₂ hop₂ tr₂ O₂ hg => ?_))
  dsimp only
  have fin : ∀ {h₄ tk₄ oD' l} {Lf' : Addr} {o₄ : Obj}, LsO o₄ (if (valueAt ikvs gone).isSome then #[.int gone tg] else #[]) → oD'.IsDictOf (intKind prog w) (without ikvs gone) → Own B' ((Lf', l) :: F) S ((D, oD') :: (rl, o₄) :: (P', op₂) :: (C, oC) :: Y) h₄ → R (.ok (.ret .none)) ⟨h₄, g₂, s.drawn, tk₄, s.os⟩ := by
    intro h₄ tk₄ oD' l Lf' o₄ l₄ hd₄ O₄
    refine k B' h₄ tk₄ g₂ oD' [(rl, o₄), (P', op₂)] (without ikvs gone) (.refl _) ⟨o₄, op₂, ps₂, rfl, l₄, hop₂, tr₂, rfl⟩ hd₄ ?_ hg
    have O₅ := O₄.dropF
    have := (O₅.permL (L' := (C, oC) :: (D, oD') :: (rl, o₄) :: (P', op₂) :: Y) (List.perm_middle (l₁ := [(D, oD'), (rl, o₄), (P', op₂)]) (a := (C, oC)) (l₂ := Y))).dropL
    exact this
  have W₂ := W'
  refine wpAny_execs_cons (wpAny_For ?_)
  refine nm_free (s := ⟨h₂, g₂, s.drawn, tk₂, s.os⟩) O₂ rfl (.inl (kB _ _ h1)) h1d ?_
  refine iter_list (s := ⟨h₂, g₂, s.drawn, tk₂, s.os⟩) O₂ (LsO.list (O₂.ob _ (.head _)).1 l₂) fun h₃ it oi li k₃ O₃ => ?_
  have O₃' := O₃.permL (L' := (it, oi) :: (D, oD) :: (rl, o₂) :: (P', op₂) :: (C, oC) :: Y) (.cons _ (by
    exact (List.perm_middle (l₁ := [(rl, o₂), (P', op₂), (C, oC)]) (a := (D, oD)) (l₂ := Y))))
  cases hf : valueAt ikvs gone with
  | none =>
    rw [hf] at l₂
    refine codeAny_forLoop_any (fun n s' => s' = ⟨h₃, g₂, s.drawn, tk₂, s.os⟩) (fun n s' hs' => ?_) 0 rfl
    subst hs'
    refine wpAny_mono (E := fun _ _ => False) ?_ (fun _ _ z => z) (fun _ _ z => z.elim)
    refine last_list (s := ⟨h₃, g₂, s.drawn, tk₂, s.os⟩) Fo.hd O₃' li (LsO.list (O₃'.ob _ (.tail _ (.tail _ (.head _)))).1 l₂) rfl fun h₄ O₄ => ?_
    refine wpAny_execs_nil ?_
    dsimp only
    refine wpAny_execs_nil ?_
    refine fin (by rw [hf]; exact l₂) ?_ O₄
    rw [without_none hf]; exact hD
  | some vv =>
    rw [hf] at l₂
    refine codeAny_forLoop_any (fun n s' => (n = 1 ∧ s' = ⟨h₃, g₂, s.drawn, tk₂, s.os⟩) ∨ (n = 0 ∧ ∃ h' tk l oi' oD', s' = ⟨h', g₂, s.drawn, tk, s.os⟩ ∧ LiO oi' rl 1 ∧ oD'.IsDictOf (intKind prog w) (without ikvs gone) ∧ Own B' ((Lf, l) :: F) S ((it, oi') :: (D, oD') :: (rl, o₂) :: (P', op₂) :: (C, oC) :: Y) h')) (fun n s' hs' => ?_) 1 (.inl ⟨rfl, rfl⟩)
    refine wpAny_mono (E := fun _ _ => False) ?_ (fun _ _ z => z) (fun _ _ z => z.elim)
    rcases hs' with ⟨rfl, rfl⟩ | ⟨rfl, h', tk', l', oi', oD', rfl, li', hd', O'⟩
    · refine next_list (s := ⟨h₃, g₂, s.drawn, tk₂, s.os⟩) O₃' li (LsO.list (O₃'.ob _ (.tail _ (.tail _ (.head _)))).1 l₂) (v := .int gone tg) rfl fun h₄ o₄ l₄ O₄ => ?_
      dsimp only
      refine wpAny_pure ?_
      refine wpAny_mono (E := fun _ _ => False) ?_ (fun _ _ z => z) (fun _ _ z => z.elim)
      refine wpAny_assign_Name (st_loc (s := ⟨h₄, g₂, s.drawn, tk₂, s.os⟩) O₄ (by walk_at "put") (fun h₅ O₅ => ?_) rfl rfl rfl)
      refine wpAny_mono (E := fun _ _ => False) ?_ (fun _ _ z => z) (fun _ _ z => z.elim)
      refine wpAny_execs_cons (wpAny_Delete (wpAny_deleteEach_cons (delete_Subscript ?_)))
      refine nm_cell (s := ⟨h₅, g₂, s.drawn, _, s.os⟩) O₅ rfl (.inr (.tail _ (.tail _ (.tail _ (.tail _ (.head _)))))) hoC ?_
      refine nm_loc (s := ⟨h₅, g₂, s.drawn, _, s.os⟩) O₅ (.head _) (by walk_at "loc") ?_
      refine del_dict (s := ⟨h₅, g₂, s.drawn, _, s.os⟩) (O₅.permL (.swap ..)) hD (k := gone) (intKind_is ..) (by omega) (by rw [hf]; rfl) fun h₆ o₆ hd₆ O₆ => ?_
      refine wpAny_deleteEach_nil (wpAny_execs_nil ?_)
      exact ⟨0, by decide, .inr ⟨rfl, h₆, _, _, o₄, o₆, rfl, l₄, hd₆, O₆.permL (.swap ..)⟩⟩
    · refine last_list (s := ⟨h', g₂, s.drawn, tk', s.os⟩) Fo.hd O' li' (LsO.list (O'.ob _ (.tail _ (.tail _ (.head _)))).1 l₂) rfl fun h₄ O₄ => ?_
      refine wpAny_execs_nil ?_
      dsimp only
      refine wpAny_execs_nil ?_
      exact fin (by rw [hf]; exact l₂) hd' O₄
end
-- D4
section
open PySem.W.X
local macro_rules | `(tactic| x_close) => `(tactic| (first | apply_assumption | exact ⟨_, _, _, _, rfl, rfl, (mem_new (by assumption)).1, (mem_new (by assumption)).2.1, (mem_new (by assumption)).2.2, rfl, _, rfl⟩))
set_option maxHeartbeats 0 in
theorem x_list1 (w : World) (h : Heap) (g : Array GenState) (d : Drawn) (t : Nat) (os : OsState) (X : (hd.heap_39 w.params).In h) (c : Addr) (n : Nat) (i : Int) (ti : Nat) (hc : h.get? c = some { cls := .type "list", dict := none, data := .seq #[.int i ti] n, slots := #[] }) :
    wpAny (model PySem.Challenge.pw_fk5016_01 w) A1 (call (.type "list") [.ref c]) (fun v s' => ∃ a o h' t', v = .ref a ∧ s' = ⟨h', g, d, t', os⟩ ∧ (∀ b x, h.get? b = some x → h'.get? b = some x) ∧ h.get? a = none ∧ h'.get? a = some o ∧ LsO o #[.int i ti]) (fun _ _ => False) ⟨h, g, d, t, os⟩ := by
  x_run
section
variable {w : World} {A : Around} {E : Value → Shared → Prop} {s : Shared} {B : Heap} {F S : NsL} {L : ObL}
theorem list_of1 {c : Addr} {n : Nat} {i : Int} {ti : Nat} {Q : Value → Shared → Prop} (O : Own B F S L s.heap) (W : Wd w B) (r : Room A 12) (hh : A.handled = none) (hc : B.get? c = some (lsO #[.int i ti] n))
    (k : ∀ h' t' a o, LsO o #[.int i ti] → Own B F S ((a, o) :: L) h' → Q (.ref a) { s with heap := h', toks := t' }) : wpAny (model prog w) A (call (.type "list") [.ref c]) Q E s := by
  obtain ⟨hp, g, d, t, os⟩ := s
  refine toA1 hh (r.le (by decide)) (wpAny_mono (x_list1 w hp g d t os (O.X W) c n i ti (O.keep _ _ hc)) (fun v s' z => ?_) fun _ _ z => z)
  obtain ⟨a, o, h', t', rfl, rfl, z1, z2, z3, z4⟩ := z
  exact k h' t' a o z4 (O.addN W z2 z1 z3)
end
end
-- R3
section
variable {w : World} {A : Around} {E : Value → Shared → Prop} {s : Shared} {B : Heap} {F F' S S' : NsL} {L L' : ObL} {R : Result → Shared → Prop} {h : Heap}
/-- the code tables of remove, and of its updater once it is made -/
inductive RemOk (B : Heap) : Array Value → ObL → Prop
  | new {ps} : TriplesOk ps.toList → codeAmong rmPos ps.toList = none → RemOk B ps []
  | old {ps c' P' op ps2} : TriplesOk ps.toList → codeAmong rmPos ps.toList = some (.ref c') → B.CodeRec (.ref c') rmQual → CodeHd B c' P' → op.data = .fields ps2 → TriplesOk ps2.toList → RemOk B ps [(P', op)]
theorem RemOk.le {B B' : Heap} {ps X} (x : RemOk B ps X) (k : Le B B') : RemOk B' ps X := by
  cases x with
  | new a b => exact .new a b
  | old a b c d e f => exact .old a b (c.keeps k) (d.keeps k) e f
theorem lookup2 (n m : Str) (v u : Value) (y : Str) : ([(n, v), (m, u)] : List (Str × Value)).lookup y = if y = n then some v else if y = m then some u else none := by
  by_cases e : y = n
  · subst e; simp [List.lookup_cons]
  · have : (y == n) = false := by simpa using e
    rw [List.lookup_cons, this, if_neg e]; exact lookup1 m u y
theorem getlast_perm {a : Addr × Obj} {pre : ObL} {d : Addr × Obj} {Z : ObL} : (pre ++ d :: a :: Z).Perm (a :: (pre ++ d :: Z)) := by
  have := (List.perm_middle (a := a) (l₁ := pre ++ [d]) (l₂ := Z))
  simpa using this
variable {t td c cd st q qd dq : Addr} {oq : Obj} {nm : Str} {tm tn tc : Tok} {nx vc : Value} {n : Int} {kvs : List (Str × Value)} {ikvs : List (Int × Value)} {Y X : ObL} {S1 : NsL} {ps : Array Value}
-- Table.remove
theorem c_remove {gl : Addr} {ng : Nat} {gone : Int} {tg : Tok} {pre : ObL} (O : Own B F ((td, tableNs c nm tm q nx) :: (cd, cachedNs st vc n tn) :: S1) (pre ++ (dq, oq) :: (364, tabObj ps) :: (X ++ Y)) s.heap) (W : Wd w B) (r : Room A 120) (Fo : Fro A (F.map (·.1)))
    (ht : B.get? t = some (instObj 426 td)) (hc : B.get? c = some (instObj 66 cd)) (hq : B.get? q = some (instObj 238 qd)) (hqd : NsB B qd (lruNs dq tc)) (hn : n < 900)
    (rd : StRead w B ((td, tableNs c nm tm q nx) :: (cd, cachedNs st vc n tn) :: S1) c vc)
    (hC : (vc = .none ∧ pre = [] ∧ kvs = []) ∨ ∃ T oT, vc = .ref T ∧ pre = [(T, oT)] ∧ oT.IsDictOf (strKind prog w) kvs)
    (hkz : kvs.length ≤ 100) (hin : InTabs w B kvs nm (toS ikvs)) (sm : Small ikvs) (hz : ikvs.length ≤ 800) (hoq : oq.IsDictOf (intKind prog w) []) (tab : RemOk B ps X)
    (hgl : B.get? gl = some (lsO #[.int gone tg] ng)) (hcode : codeHdIn (hd.heap_39 w.params) 368 364 = true)
    (k : ∀ B' h' tk gens' T oT' oq' rl a ps' X' tn', Le B B' → B'.IsList rl (if (valueAt ikvs gone).isSome then #[.int gone tg] else #[]) → oT'.IsDictOf (strKind prog w) (stored kvs nm (.ref a)) → (a == sysModules) = false → B'.DictOf (strKind prog w) a (toS (without ikvs gone)) → oq'.IsDictOf (intKind prog w) [] → RemOk B' ps' X' →
      Own B' F ((td, tableNs c nm tm q nx) :: (cd, cachedNs st (.ref T) (n + 1) tn') :: S1) ((T, oT') :: (dq, oq') :: (364, tabObj ps') :: (X' ++ Y)) h' → (AllBare s.gens → AllBare gens') → R (.ok (.ret (.ref rl))) ⟨h', gens', s.drawn, tk, s.os⟩) :
    codeAny (model prog w) A (.call (.ref 369) ⟨[.ref t], [("doc_ids", .ref gl)]⟩) R s := by
  refine call_cells (binds := [("self", .ref t), ("cond", .none), ("doc_ids", .ref gl)]) (fl := [("doc_ids", .ref gl), ("self", .ref t)]) O W (by k_is) (by k_is) r.depth (kp_binds (O.X W) (fun _ => by kernel_rfl)) (fun n x hx => by
      rcases List.mem_cons.mp hx with rfl | hx
      · exact .inl rfl
      · rcases List.mem_cons.mp hx with rfl | hx
        · exact .inr ⟨rfl, rfl⟩
        · rcases List.mem_cons.mp hx with rfl | hx
          · exact .inl rfl
          · cases hx) (by decide) (by intro Lf y; exact (lookup2 _ _ _ _ _).symm) fun Lf h₁ tk₁ cells hcells O₁ => ?_
  obtain ⟨o1, o2, o3, rfl, hd1, hd2, hd3⟩ := CellsAre.three hcells
  replace hd1 : o1.data = .cell none := hd1
  replace hd2 : o2.data = .cell none := hd2
  have Fo1 : Fro (A.deeper (envOfC (Str.ofString "Table.remove") scRm Lf 369 (Value.ref 368))) (Lf :: F.map (·.1)) := Fo.deeper (by intro q; cases q) rfl
  refine wpAny_execs_cons (wpAny_If (wpAny_isTrue_Compare1 ?_))
  refine nm_loc (s := ⟨h₁, s.gens, s.drawn, _, s.os⟩) O₁ (.head _) (by walk_at "loc") ?_
  refine wpAny_Constant_none (isnot_none_gen (wpAny_truthy_bool ?_))
  refine wpAny_execs_cons (wpAny_Assign_Name (Call_ ?_))
  walk_at "nm"
  walk_at "cwT"
  walk_at "arg"
  refine nm_loc (s := ⟨h₁, s.gens, s.drawn, _, s.os⟩) O₁ (.head _) (by walk_at "loc") ?_
  walk_at "args1"
  refine list_of1 (s := ⟨h₁, s.gens, s.drawn, _, s.os⟩) O₁ W (r.deeper.le (by decide)) Fo.hd hgl fun h₂ tk₂ ql oql lql O₂ => ?_
  obtain ⟨B₂, kB₂, hb₂, O₃⟩ := O₂.freeze1
  refine st_cell (s := ⟨h₂, s.gens, s.drawn, _, s.os⟩) O₃ rfl hd1 fun h₃ o1' hd1' O₄ => ?_
  dsimp only
  refine wpAny_execs_cons (wpAny_Assign_Name (List_ ?_))
  walk_at "args1"
  refine wpAny_newObj_type (hd := by size_fits) ?_
  have O₅ := O₄.push (lsO #[] 0)
  have O₆ := O₅.permL (.trans (.swap ..) (.trans (.cons _ (.swap ..)) (.swap ..)))
  refine st_cell (s := ⟨_, s.gens, s.drawn, _, s.os⟩) O₆ rfl hd2 fun h₄ o2' hd2' O₇ => ?_
  obtain ⟨B₃, kB₃, fz, O₈⟩ := Own.freeze (G := [(Lf + 1 + 1, o2'), (Lf + 1 + 1 + 1, o1')]) O₇
  have hf2 := fz _ (.head _)
  have hf1 := fz _ (.tail _ (.head _))
  have k3 := kB₂.trans kB₃
  have W₃ := W.le k3
  have hql₃ : B₃.IsList ql #[.int gone tg] := IsList.keep (LsO.list hb₂ lql) kB₃
  have O₉ := (O₈.permL (.swap ..)).dropL
  generalize hrl : (h₃.objs.size : Addr) = rl at *
  refine wpAny_execs_cons (nestDef_K rfl rfl rfl ?_)
  have C₃ : CodeHd B₃ 368 364 := codeHd_of_K W₃.X (K := hd.heap_39 w.params) hcode
  refine wpAny_mono (Q := fun v s' => ∃ B₄ h₄ tk₅ u c' P' op ps2 ctv doc pm ps', v = .ref u ∧ s' = ⟨h₄, s.gens, s.drawn, tk₅, s.os⟩ ∧ Le B₃ B₄ ∧ B₄.get? u = some (fnMade "updater" rmQual rmParams rmBody rmScope [("requested_ids", Lf + 1 + 1 + 1), ("removed_ids", Lf + 1 + 1)] doc pm c' ctv) ∧ B₄.CodeRec (.ref c') rmQual ∧ CodeHd B₄ c' P' ∧ op.data = .fields ps2 ∧ TriplesOk ps2.toList ∧ TriplesOk ps'.toList ∧ codeAmong rmPos ps'.toList = some (.ref c') ∧
      Own B₄ ((Lf, [("doc_ids", .ref gl), ("self", .ref t)]) :: F) ((td, tableNs c nm tm q nx) :: (cd, cachedNs st vc n tn) :: S1) (pre ++ (dq, oq) :: ([(rl, lsO #[] 0), (P', op)] ++ (364, tabObj ps') :: Y)) h₄) (E := fun _ _ => False) ?_ ?_ (fun _ _ z => z)
  · cases tab with
    | new tr hnf =>
      have O₁₀ := O₉.permL (L' := (364, tabObj ps) :: (rl, lsO #[] 0) :: (pre ++ (dq, oq) :: Y)) ((List.Perm.cons _ getlast_perm).trans (.swap ..))
      refine own_fn_new (s := ⟨_, s.gens, s.drawn, _, s.os⟩) O₁₀ W₃ rfl rfl rfl C₃ tr hnf fun B₄ h₄ tk₅ f c' P' ctv doc pm kB₄ hf hrec hcd O₁₁ => ?_
      have tn := TabOk.new (pos := rmPos) (qual := rmQual) tr hnf hrec
      have hnf' := codeAmong_snoc (c := .ref c') ps.toList tr hnf
      refine ⟨B₄, h₄, tk₅, f, c', P', tabObj #[], #[], ctv, doc, pm, _, rfl, rfl, kB₄, hf, hrec, hcd, rfl, trivial, tn.1, by simpa using hnf', ?_⟩
      refine O₁₁.permL ?_
      refine ((List.reverse_perm [(rl, lsO #[] 0), (P', tabObj #[]), _]).append_right (pre ++ (dq, oq) :: Y)).trans ?_
      have := List.perm_append_comm_assoc [(rl, lsO #[] 0), (P', tabObj #[]), (364, tabObj (ps ++ #[rawInt rmPos.line, rawInt rmPos.col, .ref c']))] (pre ++ [(dq, oq)]) Y
      simpa using this
    | @old c' P' op ps2 tr hf hrec hcd hop tr2 =>
      refine own_fn_hit (s := ⟨_, s.gens, s.drawn, _, s.os⟩) O₉ (by simp) W₃ rfl rfl rfl C₃ tr hf fun B₄ h₄ tk₅ f ctv doc pm kB₄ hf' O₁₁ => ?_
      refine ⟨B₄, h₄, tk₅, f, c', P', op, ps2, ctv, doc, pm, ps, rfl, rfl, kB₄, hf', (hrec.keeps k3).keeps kB₄, (hcd.keeps k3).keeps kB₄, hop, tr2, tr, hf, ?_⟩
      refine O₁₁.permL ?_
      have e1 := (List.perm_middle (a := (rl, lsO #[] 0)) (l₁ := pre ++ [(dq, oq)]) (l₂ := (364, tabObj ps) :: (P', op) :: Y)).symm
      have e2 : ((pre ++ [(dq, oq)]) ++ (rl, lsO #[] 0) :: (364, tabObj ps) :: (P', op) :: Y).Perm ((pre ++ [(dq, oq)]) ++ (rl, lsO #[] 0) :: (P', op) :: (364, tabObj ps) :: Y) := List.Perm.append_left _ (.cons _ (.swap ..))
      have := e1.trans e2
      simpa using this
  rintro _ _ ⟨B₄, h₅, tk₅, u, c', P', op, ps2, ctv, doc, pm, ps', rfl, rfl, kB₄, hu, hrec, hcd, hop, tr2, tr', hf', O₁₀⟩
  refine wpAny_mono (E := fun _ _ => False) ?_ (fun _ _ z => z) (fun _ _ z => z)
  have k4 := k3.trans kB₄
  have W₄ := W.le k4
  refine st_loc (s := ⟨h₅, s.gens, s.drawn, tk₅, s.os⟩) O₁₀ (by walk_at "put") (fun h₆ O₁₁ => ?_) rfl rfl rfl
  dsimp only
  refine wpAny_execs_cons (wpAny_Expr (MethodCall_ ?_))
  walk_at "nm"
  refine meth_at (s := ⟨h₆, s.gens, s.drawn, _, s.os⟩) O₁₁ W₄ (k4 _ _ ht) (by walk_at "nsb") (by walk_at "noloc") (by k_is) (by k_is) (by k_is) ?_
  walk_at "cw"
  walk_at "arg"
  walk_at "nm"
  walk_at "args0"
  have hC' : (vc = .none ∧ pre ++ (dq, oq) :: ([(rl, lsO #[] 0), (P', op)] ++ (364, tabObj ps') :: Y) = (dq, oq) :: ([(rl, lsO #[] 0), (P', op)] ++ (364, tabObj ps') :: Y) ∧ kvs = []) ∨ ∃ T oT, vc = .ref T ∧ pre ++ (dq, oq) :: ([(rl, lsO #[] 0), (P', op)] ++ (364, tabObj ps') :: Y) = (T, oT) :: (dq, oq) :: ([(rl, lsO #[] 0), (P', op)] ++ (364, tabObj ps') :: Y) ∧ oT.IsDictOf (strKind prog w) kvs := by
    rcases hC with ⟨a, rfl, b⟩ | ⟨T, oT, a, rfl, b⟩
    · exact .inl ⟨a, rfl, b⟩
    · exact .inr ⟨T, oT, a, rfl, b⟩
  have hin₄ : InTabs w B₄ kvs nm (toS ikvs) := hin.imp id fun ⟨a, x, y, z⟩ => ⟨a, x, y, k4.dict z⟩
  refine wpAny_call (c_update (s := ⟨h₆, s.gens, s.drawn, _, s.os⟩) (ikvs := ikvs) (P := Shrunk ikvs gone tg rl P') O₁₁ W₄ (r.deeper.le (by decide)) Fo1 (k4 _ _ ht) (k4 _ _ hc) (k4 _ _ hq) (let ⟨o, es, ep, e, y⟩ := hqd; ⟨o, es, ep, k4 _ _ e, y⟩) hn ⟨_, _, _, _, hu⟩ (fun kk => rd (k4.trans kk)) hC' hkz hin₄ sm hz hoq
    (fun B' kB' => upd_remove (kB' _ _ hu) (hrec.keeps kB') (hcd.keeps kB') hop tr2 (kB' _ _ (kB₄ _ _ hf2)) hd2' (kB' _ _ (kB₄ _ _ hf1)) hd1' (IsList.keep hql₃ (kB₄.trans kB')) hz) ?_ ?_ ?_)
  · rintro B L1 ikvs' ⟨_, _, _, _, _, _, _, rfl⟩
    exact ⟨fun p hp => sm p (List.mem_filter.mp hp).1, Nat.le_trans (List.length_filter_le _ _) (by omega)⟩
  · rintro B B' L1 ikvs' kk z
    exact z
  · intro B' h' tk' gens' T oT' oq' L1' ikvs' a tn' kk ⟨o', op', ps3, hL1, lo', hop', tr3, hik⟩ h3 h4 h5 h6 O₁₂ hg
    subst hL1 hik
    dsimp only
    refine wpAny_execs_cons (wpAny_Return_some ?_)
    refine nm_cell (s := ⟨h', gens', s.drawn, tk', s.os⟩) O₁₂ rfl (.inl ((kB₄.trans kk) _ _ hf2)) hd2' ?_
    have O₁₃ := O₁₂.permL (L' := (rl, o') :: (T, oT') :: (dq, oq') :: (P', op') :: (364, tabObj ps') :: Y) ((List.Perm.cons _ (.swap ..)).trans (.swap ..))
    obtain ⟨B₅, kB₅, hb₅, O₁₄⟩ := O₁₃.freeze1
    refine k B₅ h' tk' gens' T oT' oq' rl a ps' [(P', op')] tn' ((k4.trans kk).trans kB₅) (LsO.list hb₅ lo') h3 h4 (kB₅.dict h5) h6 (.old tr' hf' ((hrec.keeps kk).keeps kB₅) ((hcd.keeps kk).keeps kB₅) hop' tr3) ?_ hg
    exact (O₁₄.permL (.cons _ (.cons _ (.swap ..)))).dropF
end
-- L1
section
variable {w : World} {A : Around} {E : Value → Shared → Prop} {s : Shared} {B : Heap} {F F' S S' : NsL} {L L' : ObL} {R : Result → Shared → Prop} {h : Heap} {env : Env}
theorem noE {α : Type} {M : Model} {t : Sem α} {Q : α → Shared → Prop} (x : wpAny M A t Q (fun _ _ => False) s) : wpAny M A t Q E s := wpAny_mono x (fun _ _ z => z) fun _ _ z => z.elim
/-- one turn of a list comprehension -/
theorem lc_turn {elt target iter : Expr} {ifs : List Expr} {scope : Scope} {pos : Pos} {it acc : Value}
    (turn : wpAny (model prog w) A (pyNext it) (fun r s₁ => match r with
      | none => R (.ok .next) s₁
      | some v => wpAny (model prog w) A (letOwnedTupleGo target it v) (fun _ s₁ => wpAny (model prog w) A (assign target env v) (fun _ s₂ =>
          wpAny (model prog w) A (forIn ifs true fun c r => if r = true then do let ok ← isTrue c env (eval c env); pure (ForInStep.yield ok) else pure (ForInStep.yield r)) (fun ok s₃ =>
            if ok = true then wpAny (model prog w) A (eval elt env) (fun x s₄ =>
              wpAny (model prog w) A (call (.builtin "list.append") [acc, x]) (fun _ s₅ => codeAny (model prog w) A (.compLoop (.ListComp elt [⟨target, iter, ifs, 0⟩] scope pos) 0 it acc env) R s₅) (fun _ _ => False) s₄) (fun _ _ => False) s₃
            else codeAny (model prog w) A (.compLoop (.ListComp elt [⟨target, iter, ifs, 0⟩] scope pos) 0 it acc env) R s₃) (fun _ _ => False) s₂) (fun _ _ => False) s₁) (fun _ _ => False) s₁) (fun _ _ => False) s) :
    codeAny (model prog w) A (.compLoop (.ListComp elt [⟨target, iter, ifs, 0⟩] scope pos) 0 it acc env) R s := by
  refine codeAny_of_tree ?_
  show wpAny _ A ((compTurn (.ListComp elt [⟨target, iter, ifs, 0⟩] scope pos) 0 it acc env).onRaise (fun x => do noteFrame x env; theTreesLotGoes x)) _ _ s
  refine wpAny_noted ?_
  rw [compTurn_list]
  refine wpAny_bind (wpAny_standAt (wpAny_bind (noE (wpAny_mono turn (fun r s₁ h₁ => ?_) fun _ _ h' => h'))))
  cases r with
  | none => exact wpAny_pure h₁
  | some v =>
    refine wpAny_bind (noE (wpAny_mono h₁ (fun _ s₁ h₁ => ?_) fun _ _ h' => h'))
    refine wpAny_bind (noE (wpAny_mono h₁ (fun _ s₂ h₂ => wpAny_bind (noE (wpAny_mono h₂ (fun ok s₃ h₃ => ?_) fun _ _ h' => h'))) fun _ _ h' => h'))
    cases ok with
    | false => exact wpAny_pure ⟨rfl, h₃⟩
    | true =>
      exact wpAny_bind (wpAny_bind (noE (wpAny_mono h₃ (fun x s₄ h₄ => wpAny_bind (noE (wpAny_mono h₄ (fun _ s₅ h₅ => wpAny_pure (wpAny_pure ⟨rfl, h₅⟩)) fun _ _ h' => h'))) fun _ _ h' => h')))
/-- a list comprehension with free names -/
theorem own_LC {elt target iter : Expr} {ifs : List Expr} {scope : Scope} {pos : Pos} {cl : List (Str × Addr)} {Q : Value → Shared → Prop}
    (h : wpAny (model prog w) A (eval iter env) (fun x s₁ => wpAny (model prog w) A (pyIter x) (fun it s₂ => ∃ B F S L, Own B F S L s₂.heap ∧
      (∀ (s' : Shared) (Q' : Value → Shared → Prop) (E' : Value → Shared → Prop), (∀ b o, s₂.heap.get? b = some o → s'.heap.get? b = some o) → Q' it s' → wpAny (model prog w) A (pyIter it) Q' E' s') ∧
      ∀ D C h₃ tk, Own B ((C, []) :: F) S ((D, lsO #[] 0) :: L) h₃ →
        codeAny (model prog w) A (.compLoop (.ListComp elt [⟨target, iter, ifs, 0⟩] scope pos) 0 it (.ref D) (compEnvC scope cl C env))
          (fun r s' => r = .ok .next ∧ ∃ B' l F' S' L', Own B' ((C, l) :: F') S' L' s'.heap ∧ ∀ h', Own B' F' S' L' h' → Q (.ref D) { s' with heap := h' }) { s₂ with heap := h₃, toks := tk }) E s₁) E s)
    (hclos : closureFor scope env = pure cl := by rfl) (hcell : ∀ x ∈ scope.names, x.2 ≠ .cell := by decide) (hkind : scope.kind = .function := by rfl) (hnames : ∀ x ∈ scope.names, x.2 = .local → scope.names.lookup x.1 = some .local := by decide)
    (hs : ∀ x, foldedSetIterable iter env x = pure x := by intro _; rfl) :
    wpAny (model prog w) A (eval (.ListComp elt [⟨target, iter, ifs, 0⟩] scope pos) env) Q E s := by
  rw [arm_eval_ListComp]
  refine wpAny_comprehension_free (use := none) rfl hs hclos hkind hnames (wpAny_mono h (fun xv s₁ h₁ => wpAny_mono h₁ (fun it s₂ h₂ => ?_) fun _ _ e => e) fun _ _ e => e)
  obtain ⟨B, F, S, L, O, hself, hk⟩ := h₂
  refine wpAny_newObj_type (hd := by size_fits) (wpAny_newFunctionEnv hcell (by intro y hy; simp at hy) (fun h₁ hns₁ hsb₁ => ?_) hkind)
  have O₁ : Own B F S ((s₂.heap.objs.size, lsO #[] 0) :: L) _ := O.push (lsO #[] 0)
  have kp : ∀ b o, (s₂.heap.push (lsO #[] 0)).get? b = some o → h₁.get? b = some o := fun b o e => hsb₁.extBut b o (Nat.ne_of_lt (Heap.lt_size e)) (Heap.get?_push_of_some _ e)
  have O₂ : Own B ((_, []) :: F) S ((s₂.heap.objs.size, lsO #[] 0) :: L) h₁ := O₁.enter kp (by exact hns₁)
  have hk' := codeAny_mono (hk _ _ _ (s₂.toks + ([] : List (Str × Value)).length) O₂) (R' := compPost (model prog w) A E none Q (.ref s₂.heap.objs.size) (s₂.heap.push (lsO #[] 0)).objs.size) (by
    rintro r s' ⟨rfl, B', l, F', S', L', O', q⟩
    exact ⟨_, (O'.fr _ (.head _)).1, fun h' hs' => q h' (O'.loseF hs')⟩)
  exact codeAny_compStart_list hk' (hself _ _ _ (fun b o e => kp b o (Heap.get?_push_of_some _ e)) hk')
/-- a list comprehension with free names, its own name captured -/
theorem own_LC1 {elt target iter : Expr} {ifs : List Expr} {scope : Scope} {pos : Pos} {cl : List (Str × Addr)} {x : Str} {Q : Value → Shared → Prop}
    (h : wpAny (model prog w) A (eval iter env) (fun x' s₁ => wpAny (model prog w) A (pyIter x') (fun it s₂ => ∃ B F S L, Own B F S L s₂.heap ∧
      (∀ (s' : Shared) (Q' : Value → Shared → Prop) (E' : Value → Shared → Prop), (∀ b o, s₂.heap.get? b = some o → s'.heap.get? b = some o) → Q' it s' → wpAny (model prog w) A (pyIter it) Q' E' s') ∧
      ∀ D C c o h₃ tk, o.data = .cell none → Own B ((C, []) :: F) S ((c, o) :: (D, lsO #[] 0) :: L) h₃ →
        codeAny (model prog w) A (.compLoop (.ListComp elt [⟨target, iter, ifs, 0⟩] scope pos) 0 it (.ref D) (compEnvC scope ((x, c) :: cl) C env))
          (fun r s' => r = .ok .next ∧ ∃ B' l F' S' L', Own B' ((C, l) :: F') S' L' s'.heap ∧ ∀ h', Own B' F' S' L' h' → Q (.ref D) { s' with heap := h' }) { s₂ with heap := h₃, toks := tk }) E s₁) E s)
    (hclos : closureFor scope env = pure cl := by rfl) (hcells : ∀ n, cellsFrom n scope.names cl = (x, n) :: cl := by intro _; rfl) (hpush : ∀ h, pushCells h scope.names = h.push { cls := .type "cell", data := .cell none } := by intro _; rfl)
    (hkind : scope.kind = .function := by rfl) (hnames : ∀ x ∈ scope.names, x.2 = .local → scope.names.lookup x.1 = some .local := by decide)
    (hs : ∀ x, foldedSetIterable iter env x = pure x := by intro _; rfl) :
    wpAny (model prog w) A (eval (.ListComp elt [⟨target, iter, ifs, 0⟩] scope pos) env) Q E s := by
  rw [arm_eval_ListComp]
  refine wpAny_comprehension_free (use := none) rfl hs hclos hkind hnames (wpAny_mono h (fun xv s₁ h₁ => wpAny_mono h₁ (fun it s₂ h₂ => ?_) fun _ _ e => e) fun _ _ e => e)
  obtain ⟨B, F, S, L, O, hself, hk⟩ := h₂
  refine wpAny_newObj_type (hd := by size_fits) ?_
  have O₁ : Own B F S ((s₂.heap.objs.size, lsO #[] 0) :: L) _ := O.push (lsO #[] 0)
  have k₁ : ∀ b o, s₂.heap.get? b = some o → (s₂.heap.push (lsO #[] 0)).get? b = some o := fun b o e => Heap.get?_push_of_some _ e
  generalize hD : s₂.heap.objs.size = D at *
  generalize hh₁ : s₂.heap.push (lsO #[] 0) = h₁ at *
  simp only [newFunctionEnv, Option.isSome_some, if_true]
  refine wpAny_bind (wpAny_alloc ?_)
  refine wpAny_bind (wpAny_layCells _ (fun name kind cells => by cases hkc : kind == NameKind.cell <;> simp [hkc]) _ _ _ _ ?_)
  show wpAny _ _ _ _ _ _
  rw [hcells, hpush]
  have k2 : ∀ b o, h₁.get? b = some o → (h₁.push { cls := .type "dict", data := .dict #[] }).get? b = some o := fun b o e => Heap.get?_push_of_some _ e
  have O₂ : Own B ((h₁.objs.size, []) :: F) S ((D, lsO #[] 0) :: L) (h₁.push { cls := .type "dict", data := .dict #[] }) := O₁.enter k2 (Heap.Ns.new h₁ (.type "dict"))
  have O₃ := O₂.push { cls := .type "cell", data := .cell none }
  have k3 : ∀ b o, h₁.get? b = some o → ((h₁.push { cls := .type "dict", data := .dict #[] }).push { cls := .type "cell", data := .cell none }).get? b = some o := fun b o e => Heap.get?_push_of_some _ (k2 b o e)
  rw [List.forIn_nil]
  refine wpAny_bind (wpAny_pure (wpAny_pure ?_))
  have hk' := codeAny_mono (hk _ _ _ _ _ s₂.toks rfl O₃) (R' := compPost (model prog w) A E none Q (.ref D) h₁.objs.size) (by
    rintro r s' ⟨rfl, B', l, F', S', L', O', q⟩
    exact ⟨_, (O'.fr _ (.head _)).1, fun h' hs' => q h' (O'.loseF hs')⟩)
  exact codeAny_compStart_list hk' (hself _ _ _ (fun b o e => k3 b o (k₁ b o e)) hk')
def TiO (o : Obj) (x : Addr) (i : Nat) : Prop := o.cls = .type "tuple_iterator" ∧ o.data = .fields #[.ref x, .int i 0]
theorem iter_tuple {x : Addr} {items : Array Value} {Q : Value → Shared → Prop} (O : Own B F S L s.heap) (hl : s.heap.IsTuple x items)
    (k : ∀ h' it o, TiO o x 0 → (∀ b o, s.heap.get? b = some o → h'.get? b = some o) → Own B F S ((it, o) :: L) h' → Q (.ref it) { s with heap := h' }) : wpAny (model prog w) A (pyIter (.ref x)) Q E s :=
  wpAny_pyIter_tuple hl (k _ _ _ ⟨rfl, rfl⟩ (fun _ _ e => Heap.get?_push_of_some _ e) (O.push _))
theorem next_tuple {x it : Addr} {o : Obj} {i : Nat} {items : Array Value} {v : Value} {Q : Option Value → Shared → Prop} (O : Own B F S ((it, o) :: L) s.heap) (lo : TiO o x i) (hl : s.heap.IsTuple x items) (hv : items[i]? = some v)
    (k : ∀ h' o', TiO o' x (i + 1) → Own B F S ((it, o') :: L) h' → Q (some v) { s with heap := h' }) : wpAny (model prog w) A (pyNext (.ref it)) Q E s :=
  wpAny_pyNext_tuple_item ⟨o, (O.ob _ (.head _)).1, lo.1, lo.2⟩ hl hv fun h' ⟨o', e, a, b⟩ hs => k h' o' ⟨a, b⟩ (O.put hs e)
theorem last_tuple {x it : Addr} {o : Obj} {i : Nat} {items : Array Value} {Q : Option Value → Shared → Prop} (hh : A.handled = none) (O : Own B F S ((it, o) :: L) s.heap) (lo : TiO o x i) (hl : s.heap.IsTuple x items) (hv : items[i]? = none)
    (k : ∀ h', Own B F S L h' → Q none { s with heap := h' }) : wpAny (model prog w) A (pyNext (.ref it)) Q E s :=
  wpAny_pyNext_tuple_end hh ⟨o, (O.ob _ (.head _)).1, lo.1, lo.2⟩ hl hv fun h' he => k h' (O.lose he)
theorem self_tuple {x it : Addr} {o : Obj} {i : Nat} {B F S L} {s₂ : Shared} (O : Own B F S ((it, o) :: L) s₂.heap) (lo : TiO o x i) :
    ∀ (s' : Shared) (Q' : Value → Shared → Prop) (E' : Value → Shared → Prop), (∀ b o, s₂.heap.get? b = some o → s'.heap.get? b = some o) → Q' (.ref it) s' → wpAny (model prog w) A (pyIter (.ref it)) Q' E' s' :=
  fun s' Q' E' k h => wpAny_pyIter_tupleiter (t := x) (i := i) ⟨o, k _ _ (O.ob _ (.head _)).1, lo.1, lo.2⟩ h
theorem IsTuple.keep {h h' : Heap} {x : Addr} {items : Array Value} (hl : h.IsTuple x items) (k : ∀ b o, h.get? b = some o → h'.get? b = some o) : h'.IsTuple x items := let ⟨o, e, r⟩ := hl; ⟨o, k _ _ e, r⟩
end
-- L2
section
variable {w : World} {A : Around} {E : Value → Shared → Prop} {s : Shared} {B : Heap} {F F' S S' : NsL} {L L' : ObL} {R : Result → Shared → Prop} {h h' : Heap} {env : Env}
abbrev tupD (p : Int × Int) : PyData := .tuple [.int p.1, .int p.2]
abbrev rowsD (rows : List (Int × Int)) : PyData := .list (rows.map tupD)
abbrev twoD (a b : List (Int × Int)) : PyData := .list [rowsD a, rowsD b]
theorem rows_lay : ∀ rows : List (Int × Int), PyData.canLayAll0 (rows.map tupD) = true
  | [] => rfl
  | _ :: r => by simp [PyData.canLayAll0, PyData.canLay0, rows_lay r]
theorem rows_depth : ∀ rows : List (Int × Int), PyData.depthAll (rows.map tupD) ≤ 1
  | [] => by simp [PyData.depthAll]
  | _ :: r => by simp [PyData.depthAll, PyData.depth, rows_depth r]
theorem two_lay (a b : List (Int × Int)) : (twoD a b).canLay0 = true := by simp [PyData.canLayAll0, PyData.canLay0, rows_lay]
theorem two_shaped (a b : List (Int × Int)) : SeqAt.shaped (twoD a b) = true := by
  unfold SeqAt.shaped
  rw [two_lay]
  have h1 := rows_depth a
  have h2 := rows_depth b
  simp [PyData.depth, PyData.depthAll]
  omega
/-- a list of rows, as the law tells them -/
def RowsAt (h : Heap) (x : Addr) (rows : List (Int × Int)) : Prop := ∃ vs, TupsOf h vs rows ∧ h.IsList x vs.toArray
/-- a list of two of them -/
def TwoAt (h : Heap) (x : Addr) (a b : List (Int × Int)) : Prop := ∃ p q, h.IsList x #[.ref p, .ref q] ∧ RowsAt h p a ∧ RowsAt h q b
theorem RowsAt.keep {x : Addr} {rows : List (Int × Int)} (y : RowsAt h x rows) (k : ∀ b o, h.get? b = some o → h'.get? b = some o) : RowsAt h' x rows :=
  let ⟨vs, a, b⟩ := y; ⟨vs, a.le k, IsList.keep b k⟩
theorem TwoAt.keep {x : Addr} {a b : List (Int × Int)} (y : TwoAt h x a b) (k : ∀ b o, h.get? b = some o → h'.get? b = some o) : TwoAt h' x a b :=
  let ⟨p, q, z, r1, r2⟩ := y; ⟨p, q, IsList.keep z k, r1.keep k, r2.keep k⟩
theorem TupsOf.reads {vs : List Value} {rows : List (Int × Int)} (x : TupsOf h vs rows) : ∃ as, ReadsAll h vs (rows.map tupD) as := by
  induction x with
  | nil => exact ⟨_, .nil⟩
  | cons d _ ih =>
    obtain ⟨as, r⟩ := ih
    exact ⟨_, .cons (.tuple d rfl rfl (.cons (.int _ _) (.cons (.int _ _) .nil))) r⟩
theorem RowsAt.reads {x : Addr} {rows : List (Int × Int)} (y : RowsAt h x rows) : ∃ as, Reads h (.ref x) (rowsD rows) as := by
  obtain ⟨vs, t, o, e, c, n, d⟩ := y
  obtain ⟨as, r⟩ := t.reads
  exact ⟨_, .list e c d (by simpa using r)⟩
theorem TwoAt.reads {x : Addr} {a b : List (Int × Int)} (y : TwoAt h x a b) : ∃ as, Reads h (.ref x) (twoD a b) as := by
  obtain ⟨p, q, ⟨o, e, c, n, d⟩, r1, r2⟩ := y
  obtain ⟨as, r1⟩ := r1.reads
  obtain ⟨bs, r2⟩ := r2.reads
  exact ⟨_, .list e c d (.cons r1 (.cons r2 .nil))⟩
theorem Room.eq {A : Around} {n : Nat} (r : Room A n) (h : 4 ≤ n := by decide) : A.units + 64 < cLine := by have := r.2; show A.units + 64 < 9900; omega
theorem eq_two {x y : Addr} {a b : List (Int × Int)} {Q : Value → Shared → Prop} (hx : TwoAt s.heap x a b) (hy : TwoAt s.heap y a b) (r : Room A 4) (k : Q (.bool true) s) : wpAny (model prog w) A (compareOp .Eq (.ref x) (.ref y)) Q E s := by
  obtain ⟨as, r1⟩ := hx.reads
  obtain ⟨bs, r2⟩ := hy.reads
  exact eq_dataH r1 r2 (two_shaped a b) (two_shaped a b) r.eq (by rw [PySem.SeqAt.eqv_refl _ (two_lay a b)]; exact k)
theorem ne_two {x y : Addr} {a b : List (Int × Int)} {Q : Value → Shared → Prop} (hx : TwoAt s.heap x a b) (hy : TwoAt s.heap y a b) (r : Room A 4) (k : Q (.bool false) s) : wpAny (model prog w) A (compareOp .NotEq (.ref x) (.ref y)) Q E s := by
  obtain ⟨as, r1⟩ := hx.reads
  obtain ⟨bs, r2⟩ := hy.reads
  exact ne_dataH r1 r2 (two_shaped a b) (two_shaped a b) r.eq (by rw [PySem.SeqAt.eqv_refl _ (two_lay a b)]; exact k)
theorem ne_ints {x y : Addr} {xs ys : List Value} {ns : List Int} {Q : Value → Shared → Prop} (hx : s.heap.IsList x xs.toArray) (hy : s.heap.IsList y ys.toArray) (i : IntsAre xs ns) (j : IntsAre ys ns) (r : Room A 4) (k : Q (.bool false) s) : wpAny (model prog w) A (compareOp .NotEq (.ref x) (.ref y)) Q E s :=
  ke_ne_ints hx hy i j r.eq (by simpa using k)
end
-- L3
section
variable {w : World} {A : Around} {E : Value → Shared → Prop} {s : Shared} {B : Heap} {F F' S S' : NsL} {L L' : ObL} {R : Result → Shared → Prop} {h h' : Heap} {env : Env}
theorem ints_at {vs : List Value} {ns : List Int} (x : IntsAre vs ns) {j : Nat} (hj : j < vs.length) : ∃ n t, vs[j]? = some (.int n t) := by
  induction x generalizing j with
  | nil => simp at hj
  | cons i t _ ih =>
    cases j with
    | zero => exact ⟨_, _, rfl⟩
    | succ j => exact ih (by simpa using hj)
-- _law_cell
theorem c_cell {sc : Addr} {vs : List Value} {ns : List Int} {at' : Int} {ta : Tok} (O : Own B F S L s.heap) (W : Wd w B) (r : Room A 12) (hsc : B.IsList sc vs.toArray) (hi : IntsAre vs ns) (hz : vs.length ≤ 1000) (h0 : 0 ≤ at') (h1 : at' < 100)
    (k : ∀ h' tk n tn, 0 ≤ n → n < 1000003 → Own B F S L h' → R (.ok (.ret (.int n tn))) { s with heap := h', toks := tk }) :
    codeAny (model prog w) A (.call (.ref 437) ⟨[.ref sc, .int at' ta], []⟩) R s := by
  refine call_fn (fl := [("at", .int at' ta), ("script", .ref sc)]) O W (by k_is) (by k_is) r.depth (BindsTo.of_eq rfl) fun Lf h₁ O₁ => ?_
  have hl := IsList.keep hsc O₁.keep
  refine wpAny_execs_cons (wpAny_Return_some (wpAny_IfExp (wpAny_isTrue_Compare1 ?_)))
  walk_at "nm"
  refine Call_ ?_
  walk_at "nm"
  walk_at "cwB"
  walk_at "arg"
  walk_at "nm"
  walk_at "args1"
  refine PyProof.Rows.len_list (s := ⟨h₁, s.gens, s.drawn, _, s.os⟩) hl (by simp; omega) ?_
  refine PyProof.Rows.lt_int (wpAny_truthy_bool ?_)
  by_cases hlt : at' < (vs.toArray.size : Int)
  · rw [decide_eq_true hlt]
    obtain ⟨n, t, hn⟩ := ints_at hi (j := at'.toNat) (by simp at hlt; omega)
    refine wpAny_BinOp ?_
    refine Call_ ?_
    walk_at "nm"
    walk_at "cwB"
    walk_at "arg"
    refine Call_ ?_
    walk_at "nm"
    walk_at "cwT"
    walk_at "arg"
    refine Subscript_ ?_
    walk_at "nm"
    walk_at "nm"
    refine item_list (s := ⟨h₁, s.gens, s.drawn, _, s.os⟩) hl h0 (by omega) (x := .int n t) (by simpa using hn) ?_
    walk_at "args1"
    refine call_int_int ?_
    walk_at "args1"
    refine call_abs_int fun u tk => ?_
    refine wpAny_Constant_int (mod_int' (by decide) ?_)
    generalize hm : (if n < 0 then -n else n) = m
    have e : m.fmod 1000003 = m % 1000003 := Int.fmod_eq_emod_of_nonneg m (by decide)
    refine k h₁ _ _ _ ?_ ?_ O₁.dropF
    · rw [e]; exact Int.emod_nonneg _ (by decide)
    · rw [e]; exact Int.emod_lt_of_pos _ (by decide)
  · rw [decide_eq_false hlt]
    refine wpAny_BinOp (wpAny_BinOp (wpAny_Constant_int ?_))
    walk_at "nm"
    refine PyProof.Rows.mul_int ?_ ?_
    · refine wpAny_Constant_int (PyProof.Rows.add_int ?_)
      exact k h₁ _ _ _ (by omega) (by omega) O₁.dropF
    · first | mul_fits | exact trivial
end
-- L4
section
variable {w : World} {A : Around} {E : Value → Shared → Prop} {s : Shared} {B : Heap} {F F' S S' : NsL} {L L' : ObL} {R : Result → Shared → Prop} {h h' : Heap} {env : Env}
theorem perm_of_mem {α : Type} {x : α} {l : List α} (h : x ∈ l) : ∃ l', l.Perm (x :: l') := by
  obtain ⟨a, b, rfl⟩ := List.append_of_mem h
  exact ⟨a ++ b, List.perm_middle⟩
/-- what a memory storage's read() tells -/
theorem st_mem {st sd : Addr} {v : Value} (hi : B.get? st = some (instObj 138 sd)) (hm : (sd, memNs v) ∈ S) (hv : handedIn v = true) : StRead w B S st v := by
  intro A E s B' F L Q pl pos env kB O W r k
  obtain ⟨S', pm⟩ := perm_of_mem hm
  have O₁ := O.permS pm
  have hi := kB _ _ hi
  refine meth_at O₁ W hi (by walk_at "nsb") (by walk_at "noloc") (by k_is) (by k_is) (by k_is) ?_
  walk_at "cw0"
  exact wpAny_call (c_mem_read O₁ W (r.le (by decide)) hi hv fun h' tk O₂ => k h' tk (O₂.permS pm.symm))
/-- the two tables in what read() told -/
def TabsIn (w : World) (B : Heap) (L : ObL) (v : Value) (r1 r2 : List (Int × Int)) : Prop :=
  ∃ kt ku, TabIs w B L "t" v kt ∧ RowsOf w B kt r1 ∧ TabIs w B L "u" v ku ∧ RowsOf w B ku r2 ∧ r1.length ≤ 100 ∧ r2.length ≤ 100
theorem TabsIn.mono {v : Value} {r1 r2 : List (Int × Int)} {B' : Heap} (x : TabsIn w B L v r1 r2) (k : Le B B') (kl : ∀ p ∈ L, p ∈ L') : TabsIn w B' L' v r1 r2 :=
  let ⟨kt, ku, a, b, c, d, e⟩ := x; ⟨kt, ku, a.mono k kl, b.le k, c.mono k kl, d.le k, e⟩
abbrev scTwo : Scope := { kind := ScopeKind.function, names := [(Str.ofString ".0", NameKind.local), (Str.ofString "name", NameKind.local), (Str.ofString "_law_rows", NameKind.globalImplicit), (Str.ofString "Table", NameKind.globalImplicit), (Str.ofString "storage", NameKind.cell)], isGenerator := false, isCoroutine := false }
abbrev envTwo (c C : Addr) (q : Str) (cd : Value) (fr : Option Addr) : Env := { scope := scTwo, locals := C, globals := mainGlobals, cells := [("storage", c)], qual := q, func := none, code := cd, frame := fr, builtins := builtinsNs }
abbrev eltTwo (p1 p2 p3 p4 p5 p6 : Pos) : Expr := Expr.Call (Expr.Name (Str.ofString "_law_rows") p1) [Expr.Call (Expr.Name (Str.ofString "Table") p2) [Expr.Name (Str.ofString "storage") p3, Expr.Name (Str.ofString "name") p4] [] p5] [] p6
theorem elt_two {p1 p2 p3 p4 p5 p6 : Pos} {c C st sd : Addr} {q : Str} {cd v : Value} {fr : Option Addr} {oc : Obj} {l : List (Str × Value)} {nm : Str} {tn : Tok} {kts : List (Str × Value)} {rows : List (Int × Int)} {Q : Value → Shared → Prop}
    (O : Own B ((C, l) :: F) S L s.heap) (W : Wd w B) (r : Room A 120) (Fo : Fro A (((C, l) :: F).map (·.1))) (hl : Loc l "name" (.str nm tn)) (hc : Kn B L c oc) (hcd : oc.data = .cell (some (.ref st)))
    (hst : B.get? st = some (instObj 138 sd)) (hm : (sd, memNs v) ∈ S) (hv : handedIn v = true) (tb : TabIs w B L nm v kts) (hr : RowsOf w B kts rows) (hz : rows.length ≤ 100)
    (k : ∀ B' h' tk gens' x, Le B B' → RowsAt B' x rows → Own B' ((C, l) :: F) S L h' → (AllBare s.gens → AllBare gens') → Q (.ref x) ⟨h', gens', s.drawn, tk, s.os⟩) :
    wpAny (model prog w) A (eval (eltTwo p1 p2 p3 p4 p5 p6) (envTwo c C q cd fr)) Q E s := by
  refine Call_ ?_
  walk_at "nm"
  walk_at "cw"
  walk_at "arg"
  refine Call_ ?_
  walk_at "nm"
  walk_at "cw"
  walk_at "arg"
  refine nm_cell O rfl hc hcd ?_
  walk_at "arg"
  refine nm_loc O (.head _) hl ?_
  walk_at "args0"
  refine wpAny_call (c_table_new O W (r.le (by decide)) fun B₁ h₁ tk₁ t td qa qd dq tc kB ht hq hqd O₁ => ?_)
  have W₁ := W.le kB
  walk_at "args0"
  refine wpAny_call (c_rows (s := ⟨h₁, s.gens, s.drawn, tk₁, s.os⟩) O₁ W₁ (r.le (by decide)) Fo ht (.head _) (st_mem (kB _ _ hst) (.tail _ hm) hv) (tb.mono kB fun p hp => .tail _ hp) (hr.le kB) (by omega) fun B₂ h₂ tk₂ g₂ x vs kB₂ htu hx O₂ hg => ?_)
  exact k B₂ h₂ tk₂ g₂ x (kB.trans kB₂) ⟨vs, htu, hx⟩ O₂.dropS.dropL hg
theorem loop_two {p1 p2 p3 p4 p5 p6 p7 : Pos} {iter : Expr} {scope : Scope} {pos : Pos} {c C D it tp st sd : Addr} {q : Str} {cd v : Value} {fr : Option Addr} {oc oi : Obj} {t1 t2 : Tok} {r1 r2 : List (Int × Int)}
    (O : Own B ((C, []) :: F) S ((D, lsO #[] 0) :: (it, oi) :: L) s.heap) (W : Wd w B) (r : Room A 120) (Fo : Fro A (F.map (·.1))) (hc : Kn B L c oc) (hcd : oc.data = .cell (some (.ref st))) (hti : TiO oi tp 0) (htp : B.IsTuple tp #[.str "t" t1, .str "u" t2])
    (hst : B.get? st = some (instObj 138 sd)) (hm : (sd, memNs v) ∈ S) (hv : handedIn v = true) (tb : TabsIn w B L v r1 r2)
    (k : ∀ B' l h' tk gens', Le B B' → Own B' ((C, l) :: F) S L h' → TwoAt B' D r1 r2 → (AllBare s.gens → AllBare gens') → R (.ok .next) ⟨h', gens', s.drawn, tk, s.os⟩) :
    codeAny (model prog w) A (.compLoop (.ListComp (eltTwo p1 p2 p3 p4 p5 p6) [⟨.Name (Str.ofString "name") p7, iter, [], 0⟩] scope pos) 0 (.ref it) (.ref D) (envTwo c C q cd fr)) R s := by
  obtain ⟨kt, ku, b1, b2, b3, b4, b5, b6⟩ := tb
  have Fo' : ∀ {l : List (Str × Value)}, Fro A (((C, l) :: F).map (·.1)) := fun {l} => Fo.sub fun a h => .tail _ h
  refine lc_turn ?_
  refine next_tuple (O.permL (.swap ..)) hti (IsTuple.keep htp O.keep) (v := .str "t" t1) rfl fun h₁ o₁ l₁ O₁ => ?_
  dsimp only
  refine wpAny_pure ?_
  refine wpAny_assign_Name (st_loc (s := ⟨h₁, s.gens, s.drawn, s.toks, s.os⟩) O₁ (by walk_at "put") (fun h₂ O₂ => ?_) rfl rfl rfl)
  refine wpAny_tests_nil ?_
  rw [if_pos rfl]
  refine elt_two (s := ⟨h₂, s.gens, s.drawn, _, s.os⟩) O₂ W r Fo' (by walk_at "loc") (hc.cons.cons) hcd hst hm hv (b1.mono (.refl B) fun p hp => .tail _ (.tail _ hp)) b2 b5 fun B₃ h₃ tk₃ g₃ x k₃ hx O₃ hg₃ => ?_
  refine list_append (s := ⟨h₃, g₃, s.drawn, tk₃, s.os⟩) (O₃.permL (.swap ..)) ⟨rfl, 0, rfl⟩ (by decide) fun h₄ o₄ l₄ O₄ => ?_
  have W₃ := W.le k₃
  refine lc_turn ?_
  refine next_tuple (s := ⟨h₄, g₃, s.drawn, tk₃, s.os⟩) (O₄.permL (.swap ..)) l₁ (IsTuple.keep htp fun b o e => O₄.keep _ _ (k₃ _ _ e)) (v := .str "u" t2) rfl fun h₅ o₅ l₅ O₅ => ?_
  dsimp only
  refine wpAny_pure ?_
  refine wpAny_assign_Name (st_loc (s := ⟨h₅, g₃, s.drawn, tk₃, s.os⟩) O₅ (by walk_at "put") (fun h₆ O₆ => ?_) rfl rfl rfl)
  refine wpAny_tests_nil ?_
  rw [if_pos rfl]
  refine elt_two (s := ⟨h₆, g₃, s.drawn, _, s.os⟩) O₆ W₃ r Fo' (by walk_at "loc") ((hc.le k₃).cons.cons) hcd (k₃ _ _ hst) hm hv (b3.mono k₃ fun p hp => .tail _ (.tail _ hp)) (b4.le k₃) b6 fun B₇ h₇ tk₇ g₇ y k₇ hy O₇ hg₇ => ?_
  refine list_append (s := ⟨h₇, g₇, s.drawn, tk₇, s.os⟩) (O₇.permL (.swap ..)) l₄ (by simp) fun h₈ o₈ l₈ O₈ => ?_
  refine lc_turn ?_
  refine last_tuple (s := ⟨h₈, g₇, s.drawn, tk₇, s.os⟩) Fo.hd (O₈.permL (.swap ..)) l₅ (IsTuple.keep htp fun b o e => O₈.keep _ _ (k₇ _ _ (k₃ _ _ e))) rfl fun h₉ O₉ => ?_
  dsimp only
  obtain ⟨B', kB', hb, O₁₀⟩ := O₉.freeze1
  exact k B' _ h₉ tk₇ g₇ ((k₃.trans k₇).trans kB') O₁₀ ⟨x, y, LsO.list hb l₈, (hx.keep k₇).keep kB', hy.keep kB'⟩ (fun z => hg₇ (hg₃ z))
/-- what lies beneath -/
def Ben (w : World) (B : Heap) (L : ObL) (v bv : Value) : Prop := (v = .none ∧ bv = .none) ∨ ∃ bl r1 r2, bv = .ref bl ∧ TwoAt B bl r1 r2 ∧ TabsIn w B L v r1 r2
theorem Ben.mono {v bv : Value} {B' : Heap} (x : Ben w B L v bv) (k : Le B B') (kl : ∀ p ∈ L, p ∈ L') : Ben w B' L' v bv :=
  x.imp id fun ⟨bl, r1, r2, a, b, c⟩ => ⟨bl, r1, r2, a, b.keep k, c.mono k kl⟩
-- _law_is_beneath
theorem c_beneath {st sd : Addr} {v bv : Value} (O : Own B F S L s.heap) (W : Wd w B) (r : Room A 130) (Fo : Fro A (F.map (·.1))) (hst : B.get? st = some (instObj 138 sd)) (hm : (sd, memNs v) ∈ S) (hv : handedIn v = true) (hb : Ben w B L v bv)
    (k : ∀ B' h' tk gens', Le B B' → Own B' F S L h' → (AllBare s.gens → AllBare gens') → R (.ok (.ret (.bool true))) ⟨h', gens', s.drawn, tk, s.os⟩) :
    codeAny (model prog w) A (.call (.ref 447) ⟨[.ref st, bv], []⟩) R s := by
  refine call_cells (binds := [("storage", .ref st), ("beneath", bv)]) (fl := [("beneath", bv)]) O W (by k_is) (by k_is) r.depth (BindsTo.of_eq rfl) (fun n x hx => by
      rcases List.mem_cons.mp hx with rfl | hx
      · exact .inr ⟨rfl, rfl⟩
      · rcases List.mem_cons.mp hx with rfl | hx
        · exact .inl rfl
        · cases hx) (by decide) (by intro Lf y; exact (lookup1 _ _ _).symm) fun Lf h₁ tk₁ cells hcells O₁ => ?_
  obtain ⟨o1, rfl, hd1⟩ := CellsAre.one hcells
  replace hd1 : o1.data = .cell (some (.ref st)) := hd1
  refine wpAny_execs_cons (wpAny_If (wpAny_isTrue_Compare1 ?_))
  refine nm_loc (s := ⟨h₁, s.gens, s.drawn, tk₁, s.os⟩) O₁ (.head _) (by walk_at "loc") ?_
  rcases hb with ⟨rfl, rfl⟩ | ⟨bl, r1, r2, rfl, htw, tb⟩
  · refine wpAny_Constant_none (is_none_none (wpAny_truthy_bool ?_))
    refine wpAny_execs_cons (wpAny_Return_some (wpAny_Compare1 ?_))
    refine MethodCall_ ?_
    refine nm_cell (s := ⟨h₁, s.gens, s.drawn, tk₁, s.os⟩) O₁ rfl (.inr (.head _)) hd1 ?_
    refine st_mem hst hm hv (.refl B) O₁ W (r.deeper.le (by decide)) fun h₂ tk₂ O₂ => ?_
    refine wpAny_Constant_none (is_none_none ?_)
    exact k B h₂ tk₂ s.gens (.refl B) O₂.dropL.dropF id
  · refine wpAny_Constant_none (is_none_ne (by intro e; cases e) (wpAny_truthy_bool ?_))
    refine wpAny_execs_nil ?_
    refine wpAny_execs_cons (wpAny_Return_some (wpAny_Compare1 ?_))
    refine own_LC (cl := [("storage", Lf + 1)]) (Tuple_ ?_)
    walk_at "arg"
    refine wpAny_Constant_str ?_
    walk_at "arg"
    refine wpAny_Constant_str ?_
    walk_at "args1"
    refine new_tuple (s := ⟨h₁, s.gens, s.drawn, _, s.os⟩) O₁ (by simp) fun h₂ tp k₂ O₂ => ?_
    obtain ⟨B₂, kB₂, hb₂, O₃⟩ := O₂.freeze1
    have htp : B₂.IsTuple tp _ := ⟨_, hb₂, rfl, _, rfl⟩
    refine iter_tuple (s := ⟨h₂, s.gens, s.drawn, _, s.os⟩) O₃ (IsTuple.keep htp O₃.keep) fun h₃ it o lo k₃ O₄ => ?_
    refine ⟨_, _, _, _, O₄, self_tuple (s₂ := ⟨h₃, s.gens, s.drawn, _, s.os⟩) O₄ lo, fun D C h₄ tk₄ O₅ => ?_⟩
    refine loop_two (s := ⟨h₄, s.gens, s.drawn, tk₄, s.os⟩) O₅ (W.le kB₂) (r.deeper.le (by decide)) (Fo.deeper (by intro q; cases q) rfl) (.inr (.head _)) hd1 lo htp (kB₂ _ _ hst) hm hv (tb.mono kB₂ fun p hp => .tail _ hp) fun B₆ l h₆ tk₆ g₆ k₆ O₆ htw₆ hg => ?_
    refine ⟨rfl, B₆, l, _, _, _, O₆, fun h₇ O₇ => ?_⟩
    refine nm_loc (s := ⟨h₇, g₆, s.drawn, tk₆, s.os⟩) O₇ (.head _) (by walk_at "loc") ?_
    refine eq_two (htw₆.keep O₇.keep) (htw.keep fun b o e => O₇.keep _ _ (k₆ _ _ (kB₂ _ _ e))) (r.deeper.le (by decide)) ?_
    exact k B₆ h₇ tk₆ g₆ (kB₂.trans k₆) O₇.dropL.dropF hg
end
-- M1
namespace SF
theorem miss_list_keys : typeLookup (.type "list") "keys" = pure none := am_miss_of_fast (by decide +kernel)
theorem entry_update_loop : entryFor table "dict.update.loop" = some Builtin.«dict.update.loop» := entryFor_of_tree (by kernel_rfl)
theorem plain_update_loop : plainId "dict.update.loop" = true := by decide +kernel
end SF
section
variable {w : World} {A : Around} {E : Value → Shared → Prop} {s : Shared} {B : Heap} {F F' S S' : NsL} {L L' : ObL} {R : Result → Shared → Prop} {h h' : Heap} {env : Env}
/-- a list has no keys -/
theorem nokeys {a : Addr} {o : Obj} {xs : Array Value} {k : Nat} {Q : Option Value → Shared → Prop} (hx : s.heap.get? a = some o) (hc : o.cls = .type "list") (hdat : o.data = .seq xs k) (hd : o.dict = none) (hA : A.handled = none)
    (hq : ∀ h' tk, (∀ b x, s.heap.get? b = some x → h'.get? b = some x) → Q none { s with heap := h', toks := tk }) : wpAny (model prog w) A (getAttr? (.ref a) "keys") Q E s := by
  obtain ⟨c, dct, dat, sl⟩ := o
  simp only at hc hdat hd
  subst hc hdat hd
  obtain ⟨hp, g, d, tk, os⟩ := s
  have hT : ∀ tk', (⟨hp, g, d, tk', os⟩ : Shared).TypeIs (.ref a) "list" := fun _ => ⟨_, hx, rfl⟩
  have f1 := sub_AttributeError
  have f3 := PySem.F.slot_list_getattribute.lookup
  have f4 := PySem.F.slot_list_getattribute.bind (.ref a)
  have f5 := am_list_getattr_none
  have hmiss := SF.miss_list_keys
  unfold getAttr? getAttrBy? getAttrBy
  repeat (any_goals (first | assumption | exact hT _ | ((with_reducible show wpAny _ _ (call (Value.builtin "list.__getattribute__") _ _) _ _ _); refine call_meets PySem.F.slot_list_getattribute (hT _) am_entry_list_getattribute (PySem.F.args_list_getattribute_2 _ _) (meets_getattribute_miss_list a xs k sl "keys" _ hmiss (by decide +kernel) (by decide +kernel)) ⟨hx, hA, fun h' tk' e hx' => ?_⟩) | wp_step))
  obtain ⟨t', u', he⟩ := hx'.there
  show wpAny _ _ (getattributeRaised _ _ _ _ _ _ _) _ _ _
  unfold getattributeRaised
  repeat (any_goals (first | assumption | wp_step))
  exact hq _ _ hx'.keeps
end
-- M2
/-- the items of a list, as pairs -/
inductive PairsAt (B : Heap) : List Value → List (Str × Value) → Prop
  | nil : PairsAt B [] []
  | cons {t k tk v vs kvs} : B.get? t = some (tupO [.str k tk, v]) → PairsAt B vs kvs → PairsAt B (.ref t :: vs) ((k, v) :: kvs)
section
variable {w : World} {A : Around} {E : Value → Shared → Prop} {s : Shared} {B : Heap} {F F' S S' : NsL} {L L' : ObL} {R : Result → Shared → Prop} {h h' : Heap} {env : Env}
theorem PairsAt.le {B B' : Heap} {vs kvs} (x : PairsAt B vs kvs) (k : Le B B') : PairsAt B' vs kvs := by
  induction x with
  | nil => exact .nil
  | cons d _ ih => exact .cons (k _ _ d) ih
theorem PairsAt.length {B : Heap} {vs kvs} (x : PairsAt B vs kvs) : vs.length = kvs.length := by
  induction x with
  | nil => rfl
  | cons _ _ ih => simp [ih]
theorem PairsAt.snoc {B : Heap} {vs kvs} (x : PairsAt B vs kvs) {t : Addr} {k : Str} {tk : Tok} {v : Value} (d : B.get? t = some (tupO [.str k tk, v])) : PairsAt B (vs ++ [.ref t]) (kvs ++ [(k, v)]) := by
  induction x with
  | nil => exact .cons d .nil
  | cons d' _ ih => exact .cons d' ih
theorem PairsAt.at {B : Heap} {vs kvs} (x : PairsAt B vs kvs) {j : Nat} {k : Str} {v : Value} (h : kvs[j]? = some (k, v)) : ∃ t tk, vs[j]? = some (.ref t) ∧ B.get? t = some (tupO [.str k tk, v]) := by
  induction x generalizing j with
  | nil => simp at h
  | cons d _ ih =>
    cases j with
    | zero => simp at h; obtain ⟨rfl, rfl⟩ := h; exact ⟨_, _, rfl, d⟩
    | succ j => exact ih (by simpa using h)
theorem upd_loop {x d it : Addr} {vs : List Value} {kvs : List (Str × Value)} (hx : B.IsList x vs.toArray) (hp : PairsAt B vs kvs) (hn : (kvs.map (·.1)).Nodup) (hz : kvs.length ≤ 900) (hh : A.handled = none) :
    ∀ (m j : Nat) (s : Shared) (i : Int) (ti : Tok) (oi od : Obj) (R : Result → Shared → Prop), j + m = kvs.length → LiO oi x j → od.IsDictOf (strKind prog w) (kvs.take j) → Own B F S ((it, oi) :: (d, od) :: L) s.heap →
      (∀ h' od' tk, od'.IsDictOf (strKind prog w) kvs → Own B F S ((d, od') :: L) h' → R (.ok (.ret .none)) { s with heap := h', toks := tk }) →
      codeAny (model prog w) A (.builtin "dict.update.loop" ⟨[.ref d, .ref it, .int i ti, .none], []⟩) R s := by
  intro m
  induction m with
  | zero =>
    intro j s i ti oi od R hj li hd O k
    refine codeAny_builtin SF.entry_update_loop ?_
    rw [Around.under_plainId SF.plain_update_loop _]
    show wpAny _ A.in1 (pyNext (.ref it) >>= _) _ _ s
    refine wpAny_bind (last_list (A := A.in1) hh O li (IsList.keep hx O.keep) (by have := hp.length; simp; omega) fun h' O' => ?_)
    show wpAny _ A.in1 (Builtin.Dict.addKeywords d [] >>= _) _ _ _
    refine wpAny_bind (wpAny_pure (wpAny_pure ?_))
    have e : kvs.take j = kvs := List.take_of_length_le (by omega)
    rw [e] at hd
    exact k h' od _ hd O'
  | succ m ih =>
    intro j s i ti oi od R hj li hd O k
    obtain ⟨⟨key, v⟩, hkv⟩ : ∃ y, kvs[j]? = some y := ⟨_, List.getElem?_eq_getElem (by omega)⟩
    obtain ⟨t, tk, hvt, ht⟩ := hp.at hkv
    refine codeAny_builtin SF.entry_update_loop ?_
    rw [Around.under_plainId SF.plain_update_loop _]
    show wpAny _ A.in1 (pyNext (.ref it) >>= _) _ _ s
    refine wpAny_bind (next_list O li (IsList.keep hx O.keep) (v := .ref t) (by simpa using hvt) fun h₁ o₁ l₁ O₁ => ?_)
    have ht₁ := O₁.keep _ _ ht
    show wpAny _ A.in1 (holding [.ref t] _ >>= _) _ _ _
    refine wpAny_bind (wpAny_holding (wpAny_bind (wpAny_tryCatch ?_)))
    unfold Builtin.Dict.pairItems
    refine wpAny_bind (wpAny_typeOf (T := "tuple") ⟨_, ht₁, rfl⟩ ?_)
    rw [if_pos (by decide)]
    refine wpAny_bind (wpAny_seqItems ht₁ rfl ?_)
    refine wpAny_pure ?_
    show wpAny _ A.in1 (holding [.str key tk, v] (dictSet d (.str key tk) v)) _ _ _
    refine wpAny_holding (set_dict (s := { s with heap := h₁ }) (O₁.permL (.swap ..)) hd (k := key) (strKind_is ..) (by simp; omega) fun h₂ o₂ hd₂ O₂ => ?_)
    refine wpAny_pure ⟨plainId_quiet SF.plain_update_loop _, ?_⟩
    rw [stored_absent (notIn_take hn hkv)] at hd₂
    rw [show kvs.take j ++ [(key, v)] = kvs.take (j + 1) from by rw [List.take_add_one, hkv]; rfl] at hd₂
    exact ih (j + 1) _ (i + 1) 0 o₁ o₂ R (by omega) l₁ hd₂ (O₂.permL (.swap ..)) fun h' od' tk' a b => k h' od' tk' a b
end
-- M3
section
variable {w : World} {A : Around} {E : Value → Shared → Prop} {s : Shared} {B : Heap} {F F' S S' : NsL} {L L' : ObL} {R : Result → Shared → Prop} {h h' : Heap} {env : Env}
/-- dict(a list of pairs) -/
theorem dict_pairs {x : Addr} {n : Nat} {vs : List Value} {kvs : List (Str × Value)} {Q : Value → Shared → Prop} (O : Own B F S L s.heap) (hx : B.get? x = some (lsO vs.toArray n)) (hp : PairsAt B vs kvs) (hn : (kvs.map (·.1)).Nodup) (hz : kvs.length ≤ 900) (hh : A.handled = none)
    (k : ∀ h' tk d o, o.IsDictOf (strKind prog w) kvs → Own B F S ((d, o) :: L) h' → Q (.ref d) { s with heap := h', toks := tk }) :
    wpAny (model prog w) A (call (.type "dict") [.ref x]) Q E s := by
  refine callType_codes (Q₁ := fun obj s₁ => obj = .ref s.heap.objs.size ∧ s₁ = { s with heap := s.heap.push { cls := .type "dict", data := .dict #[] } }) PySem.F.kt_called_dict (PySem.F.kt_typeCall_dict_1 _) PySem.F.entry_dict_init (kt_code_dict_new _ ⟨rfl, rfl⟩) ?_
  rintro obj s₁ ⟨rfl, rfl⟩
  have O₁ : Own B F S ((s.heap.objs.size, emptyDict) :: L) (s.heap.push { cls := .type "dict", data := .dict #[] }) := O.push emptyDict
  have hT : (⟨s.heap.push { cls := .type "dict", data := .dict #[] }, s.gens, s.drawn, s.toks, s.os⟩ : Shared).TypeIs (.ref s.heap.objs.size) "dict" := ⟨_, (O₁.ob _ (.head _)).1, rfl⟩
  refine ⟨hT, PySem.F.args_dict_init_2 _ _, ?_⟩
  have hx₁ := O₁.keep _ _ hx
  unfold Builtin.«dict.__init__»
  refine wpAny_bind ?_
  unfold Builtin.Dict.selfAndRest
  refine wpAny_bind (wpAny_notOrdered_dict hT ?_)
  show wpAny _ _ (pure (s.heap.objs.size, [Value.ref x])) _ _ _
  refine wpAny_pure ?_
  show wpAny _ _ (Builtin.Dict.updateFrom "dict.__init__" s.heap.objs.size (.ref x) [] .none) _ _ _
  unfold Builtin.Dict.updateFrom
  refine wpAny_bind (wpAny_typeOf (T := "list") ⟨_, hx₁, rfl⟩ ?_)
  rw [if_pos (by decide)]
  refine wpAny_bind (nokeys (A := A.in1.in1) hx₁ rfl rfl rfl hh fun h₂ tk₂ k₂ => ?_)
  have O₂ := O₁.keepF k₂
  rw [if_pos (by rfl)]
  refine wpAny_bind (wpAny_rule (wpAny_bind ?_))
  refine iter_list (s := ⟨h₂, s.gens, s.drawn, tk₂, s.os⟩) O₂ ⟨_, O₂.keep _ _ hx, rfl, _, rfl⟩ fun h₃ it o lo k₃ O₃ => ?_
  refine wpAny_pure ⟨plainId_quiet SF.plain_update_loop _, ?_⟩
  refine upd_loop (A := A.in1) (x := x) (vs := vs) ⟨_, hx, rfl, _, rfl⟩ hp hn hz hh kvs.length 0 ⟨h₃, s.gens, s.drawn, tk₂, s.os⟩ 0 0 o emptyDict _ (by omega) lo (by rw [List.take_zero]; exact empty_of _) O₃ fun h₄ od tk hd O₄ => ?_
  exact ⟨rfl, k h₄ tk _ od hd O₄⟩
def KiO (o : Obj) (d : Addr) (i n ep : Nat) : Prop := o.cls = .type "dict_keyiterator" ∧ o.data = .fields #[.ref d, .int i 0, .int n 0, .int ep 0]
theorem iter_keys {K : Type} [DecidableEq K] {knd : KeyKind prog w K} {d : Addr} {kvs : List (K × Value)} {ep : Nat} {Q : Value → Shared → Prop} (O : Own B F S L s.heap) (hdS : (d == sysModules) = false) (hm : s.heap.DictAt knd d kvs ep)
    (k : ∀ h' it o, KiO o d 0 kvs.length ep → (∀ b o, s.heap.get? b = some o → h'.get? b = some o) → Own B F S ((it, o) :: L) h' → Q (.ref it) { s with heap := h' }) : wpAny (model prog w) A (pyIter (.ref d)) Q E s :=
  wpAny_pyIter_dict hdS hm (k _ _ _ ⟨rfl, rfl⟩ (fun _ _ e => Heap.get?_push_of_some _ e) (O.push _))
theorem next_keys {K : Type} [DecidableEq K] {knd : KeyKind prog w K} {d it : Addr} {o : Obj} {i ep : Nat} {kvs : List (K × Value)} {key : K} {v : Value} {Q : Option Value → Shared → Prop} (O : Own B F S ((it, o) :: L) s.heap) (lo : KiO o d i kvs.length ep) (hm : s.heap.DictAt knd d kvs ep) (hx : kvs[i]? = some (key, v))
    (k : ∀ kv h' o', knd.is key kv = true → KiO o' d (i + 1) kvs.length ep → Own B F S ((it, o') :: L) h' → Q (some kv) { s with heap := h' }) : wpAny (model prog w) A (pyNext (.ref it)) Q E s :=
  wpAny_pyNext_dict_item ⟨o, (O.ob _ (.head _)).1, lo.1, lo.2⟩ hm hx fun kv h' hk ⟨o', e, a, b⟩ hs => k kv h' o' hk ⟨a, b⟩ (O.put hs e)
theorem last_keys {K : Type} [DecidableEq K] {knd : KeyKind prog w K} {d it : Addr} {o : Obj} {i ep : Nat} {kvs : List (K × Value)} {Q : Option Value → Shared → Prop} (hh : A.handled = none) (O : Own B F S ((it, o) :: L) s.heap) (lo : KiO o d i kvs.length ep) (hm : s.heap.DictAt knd d kvs ep) (hx : kvs[i]? = none)
    (k : ∀ h', Own B F S L h' → Q none { s with heap := h' }) : wpAny (model prog w) A (pyNext (.ref it)) Q E s :=
  wpAny_pyNext_dict_end hh ⟨o, (O.ob _ (.head _)).1, lo.1, lo.2⟩ hm hx fun h' he => k h' (O.lose he)
theorem self_keys {d it : Addr} {o : Obj} {i n ep : Nat} {B F S L} {s₂ : Shared} (O : Own B F S ((it, o) :: L) s₂.heap) (lo : KiO o d i n ep) :
    ∀ (s' : Shared) (Q' : Value → Shared → Prop) (E' : Value → Shared → Prop), (∀ b o, s₂.heap.get? b = some o → s'.heap.get? b = some o) → Q' (.ref it) s' → wpAny (model prog w) A (pyIter (.ref it)) Q' E' s' :=
  fun s' _ _ k h => wpAny_pyIter_keyiter (d := d) (i := i) (n := n) (ep := ep) ⟨o, k _ _ (O.ob _ (.head _)).1, lo.1, lo.2⟩ h
end
-- P1
section
variable {w : World} {B B' : Heap}
/-- a table's entries by number, as they are worked on -/
inductive IRows (w : World) (B : Heap) : List (Int × Value) → List (Int × Int) → Prop
  | nil : IRows w B [] []
  | cons {v i n ikvs rows} : Doc w B v n → 0 ≤ i → i < 1000 → IRows w B ikvs rows → IRows w B ((i, v) :: ikvs) ((i, n) :: rows)
theorem IRows.le {ikvs rows} (x : IRows w B ikvs rows) (k : Le B B') : IRows w B' ikvs rows := by
  induction x with
  | nil => exact .nil
  | cons d a b _ ih => exact .cons (d.le k) a b ih
theorem IRows.rows {ikvs rows} (x : IRows w B ikvs rows) : RowsOf w B (toS ikvs) rows := by
  induction x with
  | nil => exact .nil
  | cons d a b _ ih => exact .cons d a b ih
theorem IRows.keys {ikvs rows} (x : IRows w B ikvs rows) : ikvs.map (·.1) = rows.map (·.1) := by
  induction x with
  | nil => rfl
  | cons _ _ _ _ ih => simp [ih]
theorem IRows.length {ikvs rows} (x : IRows w B ikvs rows) : ikvs.length = rows.length := by
  induction x with
  | nil => rfl
  | cons _ _ _ _ ih => simp [ih]
theorem IRows.small {ikvs rows} (x : IRows w B ikvs rows) : Small ikvs := by
  induction x with
  | nil => intro p hp; cases hp
  | cons _ a b _ ih =>
    intro p hp
    rcases List.mem_cons.mp hp with rfl | hp
    · exact ⟨a, b⟩
    · exact ih p hp
theorem IRows.snoc {ikvs rows} (x : IRows w B ikvs rows) {i n : Int} {v : Value} (d : Doc w B v n) (a : 0 ≤ i) (b : i < 1000) : IRows w B (ikvs ++ [(i, v)]) (rows ++ [(i, n)]) := by
  induction x with
  | nil => exact .cons d a b .nil
  | cons d' a' b' _ ih => exact .cons d' a' b' ih
theorem IRows.without {ikvs rows} (x : IRows w B ikvs rows) (g : Int) : IRows w B (without ikvs g) (rows.filter fun p => decide (p.1 ≠ g)) := by
  induction x with
  | nil => exact .nil
  | @cons v i n ikvs rows d a b _ ih =>
    unfold PySem.without at ih ⊢
    by_cases e : i = g
    · simp only [List.filter_cons, e, ne_eq, not_true_eq_false, decide_false, Bool.false_eq_true, if_false]; simpa using ih
    · simp only [List.filter_cons, ne_eq, e, not_false_eq_true, decide_true, if_true]; exact .cons d a b (by simpa using ih)
theorem IRows.at {ikvs rows} (x : IRows w B ikvs rows) {j : Nat} {i n : Int} (h : rows[j]? = some (i, n)) : ∃ v, ikvs[j]? = some (i, v) ∧ Doc w B v n ∧ 0 ≤ i ∧ i < 1000 := by
  induction x generalizing j with
  | nil => simp at h
  | cons d a b _ ih =>
    cases j with
    | zero => simp at h; obtain ⟨rfl, rfl⟩ := h; exact ⟨_, rfl, d, a, b⟩
    | succ j => exact ih (by simpa using h)
/-- the law's tables, by name -/
def lookR (R : List (Str × List (Int × Int))) (nm : Str) : Option (List (Int × Int)) := (R.find? fun p => p.1 = nm).map (·.2)
def rowsIn (R : List (Str × List (Int × Int))) (nm : Str) : List (Int × Int) := (lookR R nm).getD []
def storeR (R : List (Str × List (Int × Int))) (nm : Str) (rows : List (Int × Int)) : List (Str × List (Int × Int)) :=
  if R.any (fun p => p.1 = nm) then R.map (fun p => if p.1 = nm then (p.1, rows) else p) else R ++ [(nm, rows)]
inductive TabsOf (w : World) (B : Heap) : List (Str × Value) → List (Str × List (Int × Int)) → Prop
  | nil : TabsOf w B [] []
  | cons {nm a ikvs rows kvs R} : (a == sysModules) = false → B.DictOf (strKind prog w) a (toS ikvs) → IRows w B ikvs rows → TabsOf w B kvs R → TabsOf w B ((nm, .ref a) :: kvs) ((nm, rows) :: R)
theorem TabsOf.le {kvs R} (x : TabsOf w B kvs R) (k : Le B B') : TabsOf w B' kvs R := by
  induction x with
  | nil => exact .nil
  | cons a b c _ ih => exact .cons a (k.dict b) (c.le k) ih
theorem TabsOf.length {kvs R} (x : TabsOf w B kvs R) : kvs.length = R.length := by
  induction x with
  | nil => rfl
  | cons _ _ _ _ ih => simp [ih]
theorem TabsOf.keys {kvs R} (x : TabsOf w B kvs R) : kvs.map (·.1) = R.map (·.1) := by
  induction x with
  | nil => rfl
  | cons _ _ _ _ ih => simp [ih]
theorem TabsOf.at {kvs R} (x : TabsOf w B kvs R) {j : Nat} {nm : Str} {rows : List (Int × Int)} (h : R[j]? = some (nm, rows)) : ∃ a ikvs, kvs[j]? = some (nm, .ref a) ∧ (a == sysModules) = false ∧ B.DictOf (strKind prog w) a (toS ikvs) ∧ IRows w B ikvs rows := by
  induction x generalizing j with
  | nil => simp at h
  | cons a b c _ ih =>
    cases j with
    | zero => simp at h; obtain ⟨rfl, rfl⟩ := h; exact ⟨_, _, rfl, a, b, c⟩
    | succ j => exact ih (by simpa using h)
theorem TabsOf.snoc {kvs R} (x : TabsOf w B kvs R) {nm : Str} {a : Addr} {ikvs rows} (h1 : (a == sysModules) = false) (h2 : B.DictOf (strKind prog w) a (toS ikvs)) (h3 : IRows w B ikvs rows) : TabsOf w B (kvs ++ [(nm, .ref a)]) (R ++ [(nm, rows)]) := by
  induction x with
  | nil => exact .cons h1 h2 h3 .nil
  | cons a b c _ ih => exact .cons a b c ih
theorem TabsOf.look {kvs R} (x : TabsOf w B kvs R) (nm : Str) : (valueAt kvs nm = none ∧ lookR R nm = none) ∨ ∃ a ikvs rows, valueAt kvs nm = some (.ref a) ∧ lookR R nm = some rows ∧ (a == sysModules) = false ∧ B.DictOf (strKind prog w) a (toS ikvs) ∧ IRows w B ikvs rows := by
  induction x with
  | nil => exact .inl ⟨rfl, rfl⟩
  | @cons nm' a ikvs rows kvs R h1 h2 h3 _ ih =>
    by_cases e : nm' = nm
    · exact .inr ⟨a, ikvs, rows, by simp [valueAt, e], by simp [lookR, e], h1, h2, h3⟩
    · rcases ih with ⟨a1, a2⟩ | ⟨a', ik', rw', a1, a2, r⟩
      · exact .inl ⟨by simpa [valueAt, e] using a1, by simpa [lookR, e] using a2⟩
      · exact .inr ⟨a', ik', rw', by simpa [valueAt, e] using a1, by simpa [lookR, e] using a2, r⟩
theorem TabsOf.store {kvs R} (x : TabsOf w B kvs R) (nm : Str) {a : Addr} {ikvs rows} (h1 : (a == sysModules) = false) (h2 : B.DictOf (strKind prog w) a (toS ikvs)) (h3 : IRows w B ikvs rows) : TabsOf w B (stored kvs nm (.ref a)) (storeR R nm rows) := by
  have any : kvs.any (fun p => p.1 = nm) = R.any (fun p => p.1 = nm) := by
    induction x with
    | nil => rfl
    | cons _ _ _ _ ih => simp [ih]
  unfold stored storeR
  rw [any]
  split
  · clear any
    rename_i hany
    clear hany
    induction x with
    | nil => exact .nil
    | @cons nm' a' ikvs' rows' kvs R g1 g2 g3 _ ih =>
      by_cases e : nm' = nm
      · simp only [List.map_cons, e, if_true]; exact .cons h1 h2 h3 ih
      · simp only [List.map_cons, e, if_false]; exact .cons g1 g2 g3 ih
  · exact x.snoc h1 h2 h3
theorem lookR_store (R : List (Str × List (Int × Int))) (nm nm' : Str) (rows : List (Int × Int)) : lookR (storeR R nm rows) nm' = if nm' = nm then some rows else lookR R nm' := by
  unfold storeR
  split
  · rename_i hany
    induction R with
    | nil => simp at hany
    | cons p R ih =>
      obtain ⟨k, r⟩ := p
      by_cases e : k = nm
      · subst e
        by_cases e' : nm' = k
        · subst e'; simp [lookR]
        · have e2 : ¬ k = nm' := fun q => e' q.symm
          rw [if_neg e']
          simp only [List.map_cons, if_true, lookR, List.find?_cons, e2, decide_false]
          by_cases h2 : R.any (fun p => p.1 = k) = true
          · have := ih h2
            rw [if_neg e'] at this
            simpa [lookR] using this
          · have : R.map (fun p => if p.1 = k then (p.1, rows) else p) = R := by
              rw [List.map_congr_left (g := id) (fun p hp => ?_), List.map_id]
              have : ¬ p.1 = k := fun q => h2 (List.any_eq_true.mpr ⟨p, hp, by simp [q]⟩)
              simp [this]
            rw [this]
      · have h2 : R.any (fun p => p.1 = nm) = true := by simpa [e] using hany
        have := ih h2
        by_cases e' : k = nm'
        · subst e'
          rw [if_neg (by exact e)]
          simp [lookR, e]
        · simp only [List.map_cons, e, if_false, lookR, List.find?_cons, e', decide_false]
          simpa [lookR] using this
  · rename_i hany
    by_cases e : nm' = nm
    · subst e
      have : R.find? (fun p => decide (p.1 = nm')) = none := by
        rw [List.find?_eq_none]
        intro p hp q
        exact hany (List.any_eq_true.mpr ⟨p, hp, q⟩)
      simp [lookR, List.find?_append, this]
    · have e2 : ¬ nm = nm' := fun q => e q.symm
      simp [lookR, List.find?_append, e, e2]
theorem storeR_length (R : List (Str × List (Int × Int))) (nm : Str) (rows : List (Int × Int)) : (storeR R nm rows).length ≤ R.length + 1 := by
  unfold storeR
  split <;> simp
theorem rowsIn_same (R : List (Str × List (Int × Int))) (nm : Str) (rows : List (Int × Int)) : rowsIn (storeR R nm rows) nm = rows := by
  unfold rowsIn; rw [lookR_store, if_pos rfl]; rfl
theorem rowsIn_other (R : List (Str × List (Int × Int))) {nm nm' : Str} (h : nm' ≠ nm) (rows : List (Int × Int)) : rowsIn (storeR R nm rows) nm' = rowsIn R nm' := by
  unfold rowsIn; rw [lookR_store, if_neg h]
theorem TabsOf.tab {kvs R} {L : ObL} (x : TabsOf w B kvs R) {T : Addr} {o : Obj} (hS : (T == sysModules) = false) (kn : Kn B L T o) (hd : o.IsDictOf (strKind prog w) kvs) (nm : Str) : ∃ kts, TabIs w B L nm (.ref T) kts ∧ RowsOf w B kts (rowsIn R nm) := by
  rcases x.look nm with ⟨a, b⟩ | ⟨a, ikvs, rows, h1, h2, h3, h4, h5⟩
  · exact ⟨[], .missing hS kn hd a, by unfold rowsIn; rw [b]; exact .nil⟩
  · exact ⟨toS ikvs, .found kn hd h1 h3 h4, by unfold rowsIn; rw [h2]; exact h5.rows⟩
theorem TabsOf.tabs {kvs R} {L : ObL} (x : TabsOf w B kvs R) {T : Addr} {o : Obj} (hS : (T == sysModules) = false) (kn : Kn B L T o) (hd : o.IsDictOf (strKind prog w) kvs) (h1 : (rowsIn R "t").length ≤ 100) (h2 : (rowsIn R "u").length ≤ 100) : TabsIn w B L (.ref T) (rowsIn R "t") (rowsIn R "u") := by
  obtain ⟨k1, a, b⟩ := x.tab hS kn hd "t"
  obtain ⟨k2, c, d⟩ := x.tab hS kn hd "u"
  exact ⟨k1, k2, a, b, c, d, h1, h2⟩
theorem IRows.gone {ikvs rows} (x : IRows w B ikvs rows) (hn : (rows.map (·.1)).Nodup) (g : Int) : ((rows.filter fun p => p.1 == g).map (·.1)) = if (valueAt ikvs g).isSome then [g] else [] := by
  induction x with
  | nil => rfl
  | @cons v i n ikvs rows d a b _ ih =>
    rw [List.map_cons, List.nodup_cons] at hn
    by_cases e : i = g
    · subst e
      have h0 : rows.filter (fun p => p.1 == i) = [] := by
        rw [List.filter_eq_nil_iff]
        intro p hp q
        exact hn.1 (List.mem_map.mpr ⟨p, hp, by simpa using q⟩)
      simp [valueAt, h0]
    · have e3 : valueAt ((i, v) :: ikvs) g = valueAt ikvs g := by unfold valueAt; rw [List.find?_cons]; simp [e]
      have e4 : ((i, n) :: rows).filter (fun p => p.1 == g) = rows.filter (fun p => p.1 == g) := by rw [List.filter_cons]; simp [e]
      rw [e3, e4]; exact ih hn.2
theorem IRows.fresh {ikvs rows} (x : IRows w B ikvs rows) {g : Int} (h : ∀ p ∈ rows, p.1 ≠ g) : valueAt ikvs g = none := by
  induction x with
  | nil => rfl
  | @cons v i n ikvs rows d a b _ ih =>
    have e : ¬ i = g := h (i, n) (.head _)
    have := ih fun p hp => h p (.tail _ hp)
    simpa [valueAt, e] using this
end
-- L5
abbrev scIn0 : Scope := { kind := ScopeKind.function, names := [(Str.ofString ".0", NameKind.local), (Str.ofString "one", NameKind.local), (Str.ofString "dict", NameKind.globalImplicit), (Str.ofString "name", NameKind.free), (Str.ofString "told", NameKind.free)], isGenerator := false, isCoroutine := false }
abbrev scIn : Scope := { kind := ScopeKind.function, names := [(Str.ofString ".0", NameKind.local), (Str.ofString "one", NameKind.local), (Str.ofString "dict", NameKind.globalImplicit), (Str.ofString "name", NameKind.cell), (Str.ofString "told", NameKind.cell)], isGenerator := false, isCoroutine := false }
abbrev scOut : Scope := { kind := ScopeKind.function, names := [(Str.ofString ".0", NameKind.local), (Str.ofString "name", NameKind.cell), (Str.ofString "dict", NameKind.globalImplicit), (Str.ofString "told", NameKind.cell)], isGenerator := false, isCoroutine := false }
abbrev envIn (ct cn C : Addr) (q : Str) (cd : Value) (fr : Option Addr) : Env := { scope := scIn, locals := C, globals := mainGlobals, cells := [("told", ct), ("name", cn)], qual := q, func := none, code := cd, frame := fr, builtins := builtinsNs }
abbrev envOut (ct cn C : Addr) (q : Str) (cd : Value) (fr : Option Addr) : Env := { scope := scOut, locals := C, globals := mainGlobals, cells := [("name", cn), ("told", ct)], qual := q, func := none, code := cd, frame := fr, builtins := builtinsNs }
abbrev eltIn (p1 p2 p3 p4 p5 p6 p7 p8 p9 : Pos) : Expr := .Tuple [.Name (Str.ofString "one") p1, .Call (.Name (Str.ofString "dict") p2) [.Subscript (.Subscript (.Name (Str.ofString "told") p3) (.Name (Str.ofString "name") p4) p5) (.Name (Str.ofString "one") p6) p7] [] p8] 0 p9
section
variable {w : World} {A : Around} {E : Value → Shared → Prop} {s : Shared} {B : Heap} {F F' S S' : NsL} {L L' : ObL} {R : Result → Shared → Prop} {h h' : Heap} {env : Env}
theorem list_append_x {x : Addr} {items : Array Value} {n : Nat} {v : Value} {Q : Value → Shared → Prop} (O : Own B F S ((x, lsO items n) :: L) s.heap) (hz : items.size ≤ 1000)
    (k : ∀ h' n', Own B F S ((x, lsO (items.push v) n') :: L) h' → Q .none { s with heap := h' }) : wpAny (model prog w) A (call (.builtin "list.append") [.ref x, v]) Q E s :=
  wpAny_list_append_plain ⟨n, (O.ob _ (.head _)).1⟩ (fun h' ⟨n', e⟩ hs => k h' n' (O.put hs e)) (Nat.le_trans hz (by decide))
theorem elt_in {p1 p2 p3 p4 p5 p6 p7 p8 p9 : Pos} {ct cn C T a : Addr} {q : Str} {cd v : Value} {fr : Option Addr} {oct ocn oT : Obj} {l : List (Str × Value)} {nm key : Str} {tn tk : Tok} {kvs inner : List (Str × Value)} {n : Int} {Q : Value → Shared → Prop}
    (O : Own B ((C, l) :: F) S L s.heap) (W : Wd w B) (hl : Loc l "one" (.str key tk)) (h1 : Kn B L ct oct) (h1d : oct.data = .cell (some (.ref T))) (h2 : Kn B L cn ocn) (h2d : ocn.data = .cell (some (.str nm tn)))
    (hT : Kn B L T oT) (hTd : oT.IsDictOf (strKind prog w) kvs) (hv : valueAt kvs nm = some (.ref a)) (ha : B.DictOf (strKind prog w) a inner) (hk : valueAt inner key = some v) (hd : Doc w B v n)
    (k : ∀ B' h' tk' t v', Le B B' → B'.get? t = some (tupO [.str key tk, v']) → Doc w B' v' n → Own B' ((C, l) :: F) S L h' → Q (.ref t) { s with heap := h', toks := tk' }) :
    wpAny (model prog w) A (eval (eltIn p1 p2 p3 p4 p5 p6 p7 p8 p9) (envIn ct cn C q cd fr)) Q E s := by
  obtain ⟨d, td, rfl, hdS, hdoc⟩ := hd
  refine Tuple_ ?_
  walk_at "arg"
  refine nm_loc O (.head _) hl ?_
  walk_at "arg"
  refine Call_ ?_
  walk_at "nm"
  walk_at "cwT"
  walk_at "arg"
  refine Subscript_ (Subscript_ ?_)
  refine nm_cell O rfl h1 h1d ?_
  refine nm_cell O rfl h2 h2d ?_
  have hm := O.knDict hT hTd
  refine subscriptTail_builtin hm.mapOf.typeIs PySem.F.slot_dict_getitem.lookup ?_
  refine wpAny_getItem_of (knd := strKind prog w) (k := nm) (strKind_is ..) hm.mapOf hv ?_
  refine nm_loc O (.head _) hl ?_
  have hm2 := O.dictB ha
  refine subscriptTail_builtinR (x := .ref d) hm2.mapOf.typeIs PySem.F.slot_dict_getitem.lookup ?_
  refine wpAny_getItem_of (knd := strKind prog w) (k := key) (strKind_is ..) hm2.mapOf hk ⟨rfl, ?_⟩
  walk_at "args1"
  refine kt_call_dict hdS (O.dictB hdoc) (by show 1 ≤ sizeLine; decide) fun h₂ hd₂ hs₂ => ?_
  have O₂ := O.push emptyDict
  obtain ⟨o₂, ho₂, O₃⟩ := O₂.putDict hs₂ hd₂
  have hnS := O₃.notSysL (.head _)
  obtain ⟨B₂, kB₂, hb₂, O₄⟩ := O₃.freeze1
  walk_at "args1"
  refine new_tuple (s := ⟨h₂, s.gens, s.drawn, _, s.os⟩) O₄ (by simp) fun h₅ t k₅ O₅ => ?_
  obtain ⟨B₃, kB₃, hb₃, O₆⟩ := O₅.freeze1
  exact k B₃ h₅ _ t _ (kB₂.trans kB₃) hb₃ ⟨_, _, rfl, hnS, kB₃.dict (Heap.dictOf_iff.mpr ⟨_, hb₂, ho₂⟩)⟩ O₆
end
-- L6
section
variable {w : World} {A : Around} {E : Value → Shared → Prop} {s : Shared} {B : Heap} {F F' S S' : NsL} {L L' : ObL} {R : Result → Shared → Prop} {h h' : Heap} {env : Env}
theorem Kn.mono {a : Addr} {o : Obj} {B' : Heap} (x : Kn B L a o) (k : Le B B') (kl : ∀ p ∈ L, p ∈ L') : Kn B' L' a o := x.imp (k _ _) (kl _)
theorem loop_in {p1 p2 p3 p4 p5 p6 p7 p8 p9 p10 : Pos} {iter : Expr} {scope : Scope} {pos : Pos} {ct cn C D it T a : Addr} {q : Str} {cd : Value} {fr : Option Addr} {oct ocn oT : Obj} {nm : Str} {tn : Tok} {kvs : List (Str × Value)} {ikvs rows} {ep : Nat}
    (W : Wd w B) (hh : A.handled = none) (h1 : Kn B L ct oct) (h1d : oct.data = .cell (some (.ref T))) (h2 : Kn B L cn ocn) (h2d : ocn.data = .cell (some (.str nm tn)))
    (hT : Kn B L T oT) (hTd : oT.IsDictOf (strKind prog w) kvs) (hv : valueAt kvs nm = some (.ref a)) (ha : B.DictAt (strKind prog w) a (toS ikvs) ep) (hi : IRows w B ikvs rows) (hz : rows.length ≤ 900) :
    ∀ (m j : Nat) (B₀ : Heap) (s : Shared) (l : List (Str × Value)) (oi : Obj) (acc : Array Value) (nacc : Nat) (dn : List (Int × Value)) (R : Result → Shared → Prop), j + m = rows.length → Le B B₀ → KiO oi a j (toS ikvs).length ep → IRows w B₀ dn (rows.take j) → PairsAt B₀ acc.toList (toS dn) →
      Own B₀ ((C, l) :: F) S ((it, oi) :: (D, lsO acc nacc) :: L) s.heap →
      (∀ B' h' tk l acc n dn, Le B B' → IRows w B' dn rows → PairsAt B' acc.toList (toS dn) → Own B' ((C, l) :: F) S ((D, lsO acc n) :: L) h' → R (.ok .next) { s with heap := h', toks := tk }) →
      codeAny (model prog w) A (.compLoop (.ListComp (eltIn p1 p2 p3 p4 p5 p6 p7 p8 p9) [⟨.Name (Str.ofString "one") p10, iter, [], 0⟩] scope pos) 0 (.ref it) (.ref D) (envIn ct cn C q cd fr)) R s := by
  have hlen := hi.length
  have hnd : ((toS ikvs).map (·.1)).Nodup := ha.nodup
  intro m
  induction m with
  | zero =>
    intro j B₀ s l oi acc nacc dn R hj k₀ ki hdn hpa O k
    refine lc_turn ?_
    refine last_keys hh O ki (ha.keep fun b o e => O.keep _ _ (k₀ _ _ e)) (by simp; omega) fun h₁ O₁ => ?_
    dsimp only
    rw [List.take_of_length_le (by omega)] at hdn
    exact k B₀ h₁ _ l acc nacc dn k₀ hdn hpa O₁
  | succ m ih =>
    intro j B₀ s l oi acc nacc dn R hj k₀ ki hdn hpa O k
    obtain ⟨⟨i, n⟩, hx⟩ : ∃ y, rows[j]? = some y := ⟨_, List.getElem?_eq_getElem (by omega)⟩
    obtain ⟨v, hv', hdoc, hi0, hi1⟩ := hi.at hx
    have hx' : (toS ikvs)[j]? = some (keyOf i, v) := by simp [hv']
    refine lc_turn ?_
    refine next_keys O ki (ha.keep fun b o e => O.keep _ _ (k₀ _ _ e)) hx' fun kv h₁ o₁ hk l₁ O₁ => ?_
    obtain ⟨tkk, rfl⟩ := Value.isStrOf_shape hk
    dsimp only
    refine wpAny_pure ?_
    obtain ⟨l', hl'⟩ := Put.any (x := ("one" : Str)) (v := .str (keyOf i) tkk) l
    refine wpAny_assign_Name (st_loc (s := ⟨h₁, s.gens, s.drawn, s.toks, s.os⟩) O₁ hl' (fun h₂ O₂ => ?_) rfl rfl rfl)
    refine wpAny_tests_nil ?_
    rw [if_pos rfl]
    have sub : ∀ p ∈ L, p ∈ (it, o₁) :: (D, lsO acc nacc) :: L := fun p hp => .tail _ (.tail _ hp)
    refine elt_in (s := ⟨h₂, s.gens, s.drawn, _, s.os⟩) O₂ (W.le k₀) hl'.loc (h1.mono k₀ sub) h1d (h2.mono k₀ sub) h2d (hT.mono k₀ sub) hTd hv (k₀.dict ha.dictOf) (valueAt_of_get hnd hx') (hdoc.le k₀) fun B₃ h₃ tk₃ t v' k₃ ht hd' O₃ => ?_
    have hal : acc.size = j := by
      have e1 := hpa.length
      have e2 := hdn.length
      simp at e1
      rw [List.length_take] at e2
      omega
    refine list_append_x (s := ⟨h₃, s.gens, s.drawn, tk₃, s.os⟩) (O₃.permL (.swap ..)) (by omega) fun h₄ n₄ O₄ => ?_
    refine ih (j + 1) B₃ ⟨h₄, s.gens, s.drawn, tk₃, s.os⟩ l' o₁ (acc.push (.ref t)) n₄ (dn ++ [(i, v')]) R (by omega) (k₀.trans k₃) l₁ ?_ ?_ (O₄.permL (.swap ..)) fun B' h' tk l a n dn => k B' h' tk l a n dn
    · rw [List.take_add_one, hx]
      exact (hdn.le k₃).snoc hd' hi0 hi1
    · rw [Array.toList_push, show toS (dn ++ [(i, v')]) = toS dn ++ [(keyOf i, v')] from by simp]
      exact (hpa.le k₃).snoc ht
abbrev compIn (p1 p2 p3 p4 p5 p6 p7 p8 p9 p10 p11 p12 p13 p14 : Pos) : Expr := .ListComp (eltIn p1 p2 p3 p4 p5 p6 p7 p8 p9) [⟨.Name (Str.ofString "one") p10, .Subscript (.Name (Str.ofString "told") p11) (.Name (Str.ofString "name") p12) p13, [], 0⟩] scIn0 p14
theorem comp_in {p1 p2 p3 p4 p5 p6 p7 p8 p9 p10 p11 p12 p13 p14 : Pos} {ct cn C T a : Addr} {q : Str} {cd : Value} {fr : Option Addr} {oct ocn oT : Obj} {l : List (Str × Value)} {nm : Str} {tn : Tok} {kvs : List (Str × Value)} {ikvs rows} {Q : Value → Shared → Prop}
    (O : Own B ((C, l) :: F) S L s.heap) (W : Wd w B) (hh : A.handled = none) (h1 : Kn B L ct oct) (h1d : oct.data = .cell (some (.ref T))) (h2 : Kn B L cn ocn) (h2d : ocn.data = .cell (some (.str nm tn)))
    (hT : Kn B L T oT) (hTd : oT.IsDictOf (strKind prog w) kvs) (hv : valueAt kvs nm = some (.ref a)) (haS : (a == sysModules) = false) (ha : B.DictOf (strKind prog w) a (toS ikvs)) (hi : IRows w B ikvs rows) (hz : rows.length ≤ 900)
    (k : ∀ B' h' tk D vs n dn, Le B B' → B'.get? D = some (lsO vs n) → PairsAt B' vs.toList (toS dn) → IRows w B' dn rows → Own B' ((C, l) :: F) S L h' → Q (.ref D) { s with heap := h', toks := tk }) :
    wpAny (model prog w) A (eval (compIn p1 p2 p3 p4 p5 p6 p7 p8 p9 p10 p11 p12 p13 p14) (envOut ct cn C q cd fr)) Q E s := by
  refine own_LC (cl := [("told", ct), ("name", cn)]) (Subscript_ ?_)
  refine nm_cell O rfl h1 h1d ?_
  refine nm_cell O rfl h2 h2d ?_
  have hm := O.knDict hT hTd
  refine subscriptTail_builtin hm.mapOf.typeIs PySem.F.slot_dict_getitem.lookup ?_
  refine wpAny_getItem_of (knd := strKind prog w) (k := nm) (strKind_is ..) hm.mapOf hv ?_
  obtain ⟨ep, hda⟩ := DictOf.at_ ha
  refine iter_keys O haS (hda.keep O.keep) fun h₁ it oi ki k₁ O₁ => ?_
  refine ⟨_, _, _, _, O₁, self_keys (s₂ := ⟨h₁, s.gens, s.drawn, s.toks, s.os⟩) O₁ ki, fun D C' h₃ tk₃ O₃ => ?_⟩
  have O₄ : Own B ((C', []) :: (C, l) :: F) S ((it, oi) :: (D, lsO #[] 0) :: L) h₃ := O₃.permL (.swap ..)
  refine loop_in W hh h1 h1d h2 h2d hT hTd hv hda hi hz rows.length 0 B ⟨h₃, s.gens, s.drawn, tk₃, s.os⟩ [] oi #[] 0 [] _ (by omega) (.refl B) ki (by rw [List.take_zero]; exact .nil) .nil O₄ fun B' h' tk l' acc n dn k' hdn hpa O' => ?_
  refine ⟨rfl, B', l', _, _, _, O', fun h'' O'' => ?_⟩
  obtain ⟨B₂, kB₂, hb₂, O₅⟩ := O''.freeze1
  exact k B₂ h'' _ D acc n dn (k'.trans kB₂) hb₂ (hpa.le kB₂) (hdn.le kB₂) O₅
abbrev eltOut (q1 q2 q3 q4 : Pos) (c : Expr) : Expr := .Tuple [.Name (Str.ofString "name") q1, .Call (.Name (Str.ofString "dict") q2) [c] [] q3] 0 q4
theorem elt_out {q1 q2 q3 q4 : Pos} {p1 p2 p3 p4 p5 p6 p7 p8 p9 p10 p11 p12 p13 p14 : Pos} {ct cn C T a : Addr} {q : Str} {cd : Value} {fr : Option Addr} {oct ocn oT : Obj} {l : List (Str × Value)} {nm : Str} {tn : Tok} {kvs : List (Str × Value)} {ikvs rows} {Q : Value → Shared → Prop}
    (O : Own B ((C, l) :: F) S L s.heap) (W : Wd w B) (hh : A.handled = none) (h1 : Kn B L ct oct) (h1d : oct.data = .cell (some (.ref T))) (h2 : Kn B L cn ocn) (h2d : ocn.data = .cell (some (.str nm tn)))
    (hT : Kn B L T oT) (hTd : oT.IsDictOf (strKind prog w) kvs) (hv : valueAt kvs nm = some (.ref a)) (haS : (a == sysModules) = false) (ha : B.DictOf (strKind prog w) a (toS ikvs)) (hi : IRows w B ikvs rows) (hn : (rows.map (·.1)).Nodup) (hz : rows.length ≤ 900)
    (k : ∀ B' h' tk t a' dn, Le B B' → B'.get? t = some (tupO [.str nm tn, .ref a']) → (a' == sysModules) = false → B'.DictOf (strKind prog w) a' (toS dn) → IRows w B' dn rows → Own B' ((C, l) :: F) S L h' → Q (.ref t) { s with heap := h', toks := tk }) :
    wpAny (model prog w) A (eval (eltOut q1 q2 q3 q4 (compIn p1 p2 p3 p4 p5 p6 p7 p8 p9 p10 p11 p12 p13 p14)) (envOut ct cn C q cd fr)) Q E s := by
  refine Tuple_ ?_
  walk_at "arg"
  refine nm_cell O rfl h2 h2d ?_
  walk_at "arg"
  refine Call_ ?_
  walk_at "nm"
  walk_at "cwT"
  walk_at "arg"
  refine comp_in O W hh h1 h1d h2 h2d hT hTd hv haS ha hi hz fun B₁ h₁ tk₁ D vs n dn k₁ hD hpa hdn O₁ => ?_
  walk_at "args1"
  have hnd : ((toS dn).map (·.1)).Nodup := toS_nodup hdn.small (by rw [hdn.keys]; exact hn)
  refine dict_pairs (s := ⟨h₁, s.gens, s.drawn, tk₁, s.os⟩) O₁ (x := D) (vs := vs.toList) (n := n) (by simpa using hD) hpa hnd (by have := hdn.length; simp; omega) hh fun h₂ tk₂ d o hd O₂ => ?_
  have hdS := O₂.notSysL (.head _)
  obtain ⟨B₂, kB₂, hb₂, O₃⟩ := O₂.freeze1
  walk_at "args1"
  refine new_tuple (s := ⟨h₂, s.gens, s.drawn, tk₂, s.os⟩) O₃ (by simp) fun h₅ t k₅ O₅ => ?_
  obtain ⟨B₃, kB₃, hb₃, O₆⟩ := O₅.freeze1
  exact k B₃ h₅ _ t d dn ((k₁.trans kB₂).trans kB₃) hb₃ hdS (kB₃.dict (Heap.dictOf_iff.mpr ⟨_, hb₂, hd⟩)) (hdn.le (kB₂.trans kB₃)) O₆
end
-- L7
abbrev scOut0 : Scope := { kind := ScopeKind.function, names := [(Str.ofString ".0", NameKind.local), (Str.ofString "name", NameKind.cell), (Str.ofString "dict", NameKind.globalImplicit), (Str.ofString "told", NameKind.free)], isGenerator := false, isCoroutine := false }
section
variable {w : World} {A : Around} {E : Value → Shared → Prop} {s : Shared} {B : Heap} {F F' S S' : NsL} {L L' : ObL} {h h' : Heap} {env : Env}
theorem loop_out {q1 q2 q3 q4 q5 : Pos} {p1 p2 p3 p4 p5 p6 p7 p8 p9 p10 p11 p12 p13 p14 : Pos} {iter : Expr} {scope : Scope} {pos : Pos} {ct cn C D it T : Addr} {q : Str} {cd : Value} {fr : Option Addr} {oct oT : Obj} {kvs : List (Str × Value)} {RR : List (Str × List (Int × Int))} {ep : Nat}
    (W : Wd w B) (hh : A.handled = none) (h1 : Kn B L ct oct) (h1d : oct.data = .cell (some (.ref T)))
    (hT : Kn B L T oT) (hTd : oT.IsDictOf (strKind prog w) kvs) (hta : ∀ {B' F' S' L' h'}, Own B' F' S' L' h' → Kn B' L' T oT → h'.DictAt (strKind prog w) T kvs ep) (tb : TabsOf w B kvs RR) (hn : ∀ p ∈ RR, (p.2.map (·.1)).Nodup ∧ p.2.length ≤ 900) (hz : RR.length ≤ 900) :
    ∀ (m j : Nat) (B₀ : Heap) (s : Shared) (l : List (Str × Value)) (oi oc : Obj) (v₀ : Option Value) (acc : Array Value) (nacc : Nat) (kd : List (Str × Value)) (R : Result → Shared → Prop), j + m = RR.length → Le B B₀ → KiO oi T j kvs.length ep → oc.data = .cell v₀ → TabsOf w B₀ kd (RR.take j) → PairsAt B₀ acc.toList kd →
      Own B₀ ((C, l) :: F) S ((it, oi) :: (cn, oc) :: (D, lsO acc nacc) :: L) s.heap →
      (∀ B' h' tk l acc n kd, Le B B' → TabsOf w B' kd RR → PairsAt B' acc.toList kd → Own B' ((C, l) :: F) S ((D, lsO acc n) :: L) h' → R (.ok .next) { s with heap := h', toks := tk }) →
      codeAny (model prog w) A (.compLoop (.ListComp (eltOut q1 q2 q3 q4 (compIn p1 p2 p3 p4 p5 p6 p7 p8 p9 p10 p11 p12 p13 p14)) [⟨.Name (Str.ofString "name") q5, iter, [], 0⟩] scope pos) 0 (.ref it) (.ref D) (envOut ct cn C q cd fr)) R s := by
  have hlen := tb.length
  have hTn : (kvs.map (·.1)).Nodup := by obtain ⟨es, ep, _, _, _, _, z⟩ := hTd; exact z
  intro m
  induction m with
  | zero =>
    intro j B₀ s l oi oc v₀ acc nacc kd R hj k₀ ki hoc hkd hpa O k
    refine lc_turn ?_
    have sub : ∀ p ∈ L, p ∈ (it, oi) :: (cn, oc) :: (D, lsO acc nacc) :: L := fun p hp => .tail _ (.tail _ (.tail _ hp))
    refine last_keys hh O ki (hta O (hT.mono k₀ sub)) (by rw [List.getElem?_eq_none_iff]; omega) fun h₁ O₁ => ?_
    dsimp only
    rw [List.take_of_length_le (by omega)] at hkd
    exact k B₀ h₁ _ l acc nacc kd k₀ hkd hpa O₁.dropL
  | succ m ih =>
    intro j B₀ s l oi oc v₀ acc nacc kd R hj k₀ ki hoc hkd hpa O k
    obtain ⟨⟨nm, rows⟩, hx⟩ : ∃ y, RR[j]? = some y := ⟨_, List.getElem?_eq_getElem (by omega)⟩
    obtain ⟨a, ikvs, hv', haS, ha, hi⟩ := tb.at hx
    obtain ⟨hnd, hrz⟩ := hn _ (List.mem_of_getElem? hx)
    have sub : ∀ p ∈ L, p ∈ (it, oi) :: (cn, oc) :: (D, lsO acc nacc) :: L := fun p hp => .tail _ (.tail _ (.tail _ hp))
    refine lc_turn ?_
    refine next_keys O ki (hta O (hT.mono k₀ sub)) hv' fun kv h₁ o₁ hk l₁ O₁ => ?_
    obtain ⟨tkk, rfl⟩ := Value.isStrOf_shape hk
    dsimp only
    refine wpAny_pure ?_
    refine wpAny_assign_Name (st_cell (s := ⟨h₁, s.gens, s.drawn, s.toks, s.os⟩) (O₁.permL (.swap ..)) rfl hoc (fun h₂ o₂ hd₂ O₂ => ?_) rfl rfl)
    refine wpAny_tests_nil ?_
    rw [if_pos rfl]
    have sub2 : ∀ p ∈ L, p ∈ (cn, o₂) :: (it, o₁) :: (D, lsO acc nacc) :: L := fun p hp => .tail _ (.tail _ (.tail _ hp))
    refine elt_out (s := ⟨h₂, s.gens, s.drawn, _, s.os⟩) O₂ (W.le k₀) hh (h1.mono k₀ sub2) h1d (.inr (.head _)) hd₂ (hT.mono k₀ sub2) hTd (valueAt_of_get hTn hv') haS (k₀.dict ha) (hi.le k₀) hnd hrz fun B₃ h₃ tk₃ t a' dn k₃ ht haS' ha' hdn O₃ => ?_
    have hal : acc.size = j := by
      have e1 := hpa.length
      have e2 := hkd.length
      simp at e1
      rw [List.length_take] at e2
      omega
    have O₃' : Own B₃ ((C, l) :: F) S ((D, lsO acc nacc) :: (it, o₁) :: (cn, o₂) :: L) h₃ := O₃.permL (by
      refine (List.Perm.cons _ (.swap ..)).trans ?_
      refine (List.Perm.swap ..).trans ?_
      exact List.Perm.cons _ (.swap ..))
    refine list_append_x (s := ⟨h₃, s.gens, s.drawn, tk₃, s.os⟩) O₃' (by omega) fun h₄ n₄ O₄ => ?_
    have O₅ : Own B₃ ((C, l) :: F) S ((it, o₁) :: (cn, o₂) :: (D, lsO (acc.push (.ref t)) n₄) :: L) h₄ := O₄.permL ((List.Perm.swap ..).trans (List.Perm.cons _ (.swap ..)))
    refine ih (j + 1) B₃ ⟨h₄, s.gens, s.drawn, tk₃, s.os⟩ l o₁ o₂ _ (acc.push (.ref t)) n₄ (kd ++ [(nm, .ref a')]) R (by omega) (k₀.trans k₃) l₁ hd₂ ?_ ?_ O₅ fun B' h' tk l a n kd => k B' h' tk l a n kd
    · rw [List.take_add_one, hx]
      exact (hkd.le k₃).snoc haS' ha' hdn
    · rw [Array.toList_push]
      exact (hpa.le k₃).snoc ht
end
section
variable {w : World} {A : Around} {E : Value → Shared → Prop} {s : Shared} {B : Heap} {F F' S S' : NsL} {L L' : ObL} {R : Result → Shared → Prop} {h h' : Heap} {env : Env}
/-- what a storage holds: nothing, or the tables RR -/
inductive Held (w : World) (B : Heap) (L : ObL) : Value → Option (List (Str × List (Int × Int))) → Prop
  | none : Held w B L .none none
  | some {T oT kvs RR} : (T == sysModules) = false → Kn B L T oT → oT.IsDictOf (strKind prog w) kvs → TabsOf w B kvs RR → Held w B L (.ref T) (some RR)
theorem Held.mono {v : Value} {r} {B' : Heap} (x : Held w B L v r) (k : Le B B') (kl : ∀ p ∈ L, p ∈ L') : Held w B' L' v r := by
  cases x with
  | none => exact .none
  | some a b c d => exact .some a (b.mono k kl) c (d.le k)
theorem Held.handed {v : Value} {r} (x : Held w B L v r) : handedIn v = true := by cases x <;> rfl
-- _law_copied
theorem c_copied {st sd : Addr} {v : Value} {r} (O : Own B F ((sd, memNs v) :: S) L s.heap) (W : Wd w B) (rm : Room A 40) (Fo : Fro A (F.map (·.1))) (hst : B.get? st = some (instObj 138 sd)) (hv : Held w B L v r)
    (hn : ∀ RR, r = some RR → (∀ p ∈ RR, (p.2.map (·.1)).Nodup ∧ p.2.length ≤ 900) ∧ (RR.map (·.1)).Nodup ∧ RR.length ≤ 900)
    (k : ∀ B' h' tk v', Le B B' → Held w B' [] v' r → Own B' F ((sd, memNs v') :: S) L h' → R (.ok (.ret .none)) { s with heap := h', toks := tk }) :
    codeAny (model prog w) A (.call (.ref 452) ⟨[.ref st], []⟩) R s := by
  refine call_cells (binds := [("storage", .ref st)]) (fl := [("storage", .ref st)]) O W (by k_is) (by k_is) rm.depth (BindsTo.of_eq rfl) (fun n x hx => by
      rcases List.mem_cons.mp hx with rfl | hx
      · exact .inl rfl
      · cases hx) (by decide) (by intro Lf y; exact (lookup1 _ _ _).symm) fun Lf h₁ tk₁ cells hcells O₁ => ?_
  obtain ⟨o1, rfl, hd1⟩ := CellsAre.one hcells
  replace hd1 : o1.data = .cell none := hd1
  refine wpAny_execs_cons (wpAny_Assign_Name (MethodCall_ ?_))
  refine nm_loc (s := ⟨h₁, s.gens, s.drawn, tk₁, s.os⟩) O₁ (.head _) (by walk_at "loc") ?_
  refine st_mem hst (.head _) hv.handed (.refl B) O₁ W (rm.deeper.le (by decide)) fun h₂ tk₂ O₂ => ?_
  refine st_cell (s := ⟨h₂, s.gens, s.drawn, tk₂, s.os⟩) O₂ rfl hd1 fun h₃ o1' hd1' O₃ => ?_
  dsimp only
  refine wpAny_execs_cons (wpAny_If (wpAny_isTrue_Compare1 ?_))
  refine nm_cell (s := ⟨h₃, s.gens, s.drawn, tk₂, s.os⟩) O₃ rfl (.inr (.head _)) hd1' ?_
  cases hv with
  | none =>
    refine wpAny_Constant_none (isnot_none_gen (wpAny_truthy_bool ?_))
    refine wpAny_execs_nil (wpAny_execs_nil ?_)
    exact k B h₃ tk₂ .none (.refl B) .none O₃.dropL.dropF
  | @some T oT kvs RR hS kn hd tb =>
    obtain ⟨hrn, hkn, hrz⟩ := hn RR rfl
    refine wpAny_Constant_none (isnot_none_gen (wpAny_truthy_bool ?_))
    refine wpAny_execs_cons (wpAny_Expr (MethodCall_ ?_))
    refine nm_loc (s := ⟨h₃, s.gens, s.drawn, _, s.os⟩) O₃ (.head _) (by walk_at "loc") ?_
    refine meth_at (s := ⟨h₃, s.gens, s.drawn, _, s.os⟩) O₃ W hst (by walk_at "nsb") (by walk_at "noloc") (by k_is) (by k_is) (by k_is) ?_
    walk_at "cw"
    walk_at "arg"
    refine Call_ ?_
    walk_at "nm"
    walk_at "cwT"
    walk_at "arg"
    refine own_LC1 (x := "name") (cl := [("told", Lf + 1)]) ?_
    refine nm_cell (s := ⟨h₃, s.gens, s.drawn, tk₂, s.os⟩) O₃ rfl (.inr (.head _)) hd1' ?_
    obtain ⟨es, ep, hd'⟩ := id hd
    have hda : ∀ {B' F' S' L' h'}, Own B' F' S' L' h' → Kn B' L' T oT → h'.DictAt (strKind prog w) T kvs ep := fun O' kn' => ⟨oT, es, O'.kn kn', hd'⟩
    have kn₃ : Kn B ((Lf + 1, o1') :: L) T oT := kn.cons
    refine iter_keys (s := ⟨h₃, s.gens, s.drawn, tk₂, s.os⟩) O₃ hS (hda O₃ kn₃) fun h₄ it oi ki k₄ O₄ => ?_
    refine ⟨_, _, _, _, O₄, self_keys (s₂ := ⟨h₄, s.gens, s.drawn, tk₂, s.os⟩) O₄ ki, fun D C c o h₅ tk₅ ho O₅ => ?_⟩
    have O₆ := O₅.permL (L' := (it, oi) :: (c, o) :: (D, lsO #[] 0) :: (Lf + 1, o1') :: L) ((List.Perm.cons _ (.swap ..)).trans (.swap ..))
    refine loop_out W (by exact Fo.hd) (.inr (.head _)) hd1' kn₃ hd hda tb hrn hrz RR.length 0 B ⟨h₅, s.gens, s.drawn, tk₅, s.os⟩ [] oi o none #[] 0 [] _ (by omega) (.refl B) ki ho (by rw [List.take_zero]; exact .nil) .nil O₆ fun B₇ h₇ tk₇ l acc n kd k₇ hkd hpa O₇ => ?_
    refine ⟨rfl, B₇, l, _, _, _, O₇, fun h₈ O₈ => ?_⟩
    obtain ⟨B₉, kB₉, hb₉, O₉⟩ := O₈.freeze1
    walk_at "args1"
    refine dict_pairs (s := ⟨h₈, s.gens, s.drawn, tk₇, s.os⟩) O₉ (x := D) (vs := acc.toList) (n := n) (by simpa using hb₉) (hpa.le kB₉) (by rw [hkd.keys]; exact hkn) (by have := hkd.length; omega) Fo.hd fun h₁₀ tk₁₀ d od hod O₁₀ => ?_
    have hdS := O₁₀.notSysL (.head _)
    obtain ⟨B₁₁, kB₁₁, hb₁₁, O₁₁⟩ := O₁₀.freeze1
    have k₁₁ := (k₇.trans kB₉).trans kB₁₁
    have W₁₁ := W.le k₁₁
    walk_at "args0"
    refine wpAny_call (c_mem_write (s := ⟨h₁₀, s.gens, s.drawn, tk₁₀, s.os⟩) O₁₁ W₁₁ (rm.deeper.le (by decide)) (k₁₁ _ _ hst) fun h₁₂ tk₁₂ O₁₂ => ?_)
    dsimp only
    refine wpAny_execs_nil (wpAny_execs_nil ?_)
    exact k B₁₁ h₁₂ tk₁₂ (.ref d) k₁₁ (.some hdS (.inl hb₁₁) hod (hkd.le (kB₉.trans kB₁₁))) O₁₂.dropL.dropF
end
-- Q1
section
variable {w : World} {A : Around} {E : Value → Shared → Prop} {s : Shared} {B : Heap} {F F' S S' : NsL} {L L' : ObL} {R : Result → Shared → Prop} {h h' : Heap} {env : Env}
theorem Own.ext1 (O : Own B F S L h) (hx : Heap.ExtBut h.objs.size h h') : Own B F S L h' :=
  O.keepF fun b x e => hx b x (Nat.ne_of_lt (Heap.lt_size e)) e
/-- xs[i] = v -/
theorem assign_Sub {o i : Expr} {pos : Pos} {v : Value} {Q : Unit → Shared → Prop}
    (h : wpAny (model prog w) A (eval o env) (fun ov s₁ => wpAny (model prog w) A (eval i env) (fun iv s₂ => wpAny (model prog w) A (setItem ov iv v) Q E s₂) E s₁) E s) :
    wpAny (model prog w) A (assign (.Subscript o i pos) env v) Q E s := by
  rw [arm_assign_Subscript]
  refine wpAny_bind (wpAny_holding (wpAny_mono h (fun ov s₁ h₁ => wpAny_bind (wpAny_holding (wpAny_mono h₁ (fun iv s₂ h₂ => ?_) fun _ _ z => z))) fun _ _ z => z))
  exact wpAny_bind (wpAny_standAt (wpAny_bind (wpAny_holding (wpAny_mono h₂ (fun _ s₃ h₃ => wpAny_release h₃) fun _ _ z => z))))
theorem unpack_two {elts : List Expr} {f g : Value → Sem Unit} {x1} {pos : Pos} {t : Addr} {u v : Value} {Q : Unit → Shared → Prop} (hh : A.handled = none) (O : Own B F S L s.heap) (ht : s.heap.IsTuple t #[u, v])
    (he : assignEach elts env = [(false, f), (false, g)])
    (k : ∀ h', Own B F S L h' → wpAny (model prog w) A (f u) (fun _ s₁ => wpAny (model prog w) A (g v) Q E s₁) E { s with heap := h' }) :
    wpAny (model prog w) A (assign (.Tuple elts x1 pos) env (.ref t)) Q E s := by
  refine wpAny_assign_Tuple hh ht (by rw [he]; rfl) (by rw [he]; rfl) fun h₃ hx₃ => ?_
  rw [he]
  show wpAny _ _ (do holding [v] (f u); holding [] (g v); pure ()) _ _ _
  exact wpAny_bind (wpAny_holding (wpAny_mono (k _ (O.ext1 hx₃)) (fun _ s₁ h₁ => wpAny_bind (wpAny_holding (wpAny_mono h₁ (fun _ s₂ h₂ => wpAny_pure h₂) fun _ _ z => z))) fun _ _ z => z))
theorem unpack_three {elts : List Expr} {f g e : Value → Sem Unit} {x1} {pos : Pos} {t : Addr} {u v x : Value} {Q : Unit → Shared → Prop} (hh : A.handled = none) (O : Own B F S L s.heap) (ht : s.heap.IsTuple t #[u, v, x])
    (he : assignEach elts env = [(false, f), (false, g), (false, e)])
    (k : ∀ h', Own B F S L h' → wpAny (model prog w) A (f u) (fun _ s₁ => wpAny (model prog w) A (g v) (fun _ s₂ => wpAny (model prog w) A (e x) Q E s₂) E s₁) E { s with heap := h' }) :
    wpAny (model prog w) A (assign (.Tuple elts x1 pos) env (.ref t)) Q E s := by
  refine wpAny_assign_Tuple hh ht (by rw [he]; rfl) (by rw [he]; rfl) fun h₃ hx₃ => ?_
  rw [he]
  show wpAny _ _ (do holding [v, x] (f u); holding [x] (g v); holding [] (e x); pure ()) _ _ _
  refine wpAny_bind (wpAny_holding (wpAny_mono (k _ (O.ext1 hx₃)) (fun _ s₁ h₁ => wpAny_bind (wpAny_holding (wpAny_mono h₁ (fun _ s₂ h₂ => wpAny_bind (wpAny_holding (wpAny_mono h₂ (fun _ s₃ h₃ => wpAny_pure h₃) fun _ _ z => z))) fun _ _ z => z))) fun _ _ z => z))
theorem setitem_list {x : Addr} {o : Obj} {items : Array Value} {k : Nat} {t : Tok} {v : Value} {Q : Unit → Shared → Prop} (O : Own B F S ((x, o) :: L) s.heap) (lo : LsO o items) (hk : k < items.size) (hz : items.size ≤ 1000)
    (q : ∀ h' o', LsO o' (items.setIfInBounds k v) → Own B F S ((x, o') :: L) h' → Q () { s with heap := h' }) : wpAny (model prog w) A (setItem (.ref x) (.int (k : Int) t) v) Q E s :=
  wpAny_setItem_list (LsO.list (O.ob _ (.head _)).1 lo) (by omega) (by omega) (by omega) fun h' hl hs => by
    obtain ⟨o', e, a, b⟩ := hl
    exact q h' o' ⟨a, by simpa using b⟩ (O.put hs e)
theorem concat_list {x y : Addr} {vs ws : List Value} {Q : Value → Shared → Prop} (O : Own B F S L s.heap) (hl : s.heap.IsList x vs.toArray) (hb : s.heap.IsList y ws.toArray) (hz : vs.length + ws.length ≤ 1000)
    (k : ∀ h' d, Own B F S ((d, lsO (vs ++ ws).toArray 0) :: L) h' → Q (.ref d) { s with heap := h' }) : wpAny (model prog w) A (binaryOp .Add (.ref x) (.ref y)) Q E s := by
  obtain ⟨⟨cls, dd, data, sl⟩, ho, hc, n, hd⟩ := id hl
  obtain ⟨⟨cls2, dd2, data2, sl2⟩, ho2, hc2, n2, hd2⟩ := id hb
  simp only at hc hd hc2 hd2
  subst hc hd hc2 hd2
  have e : vs.toArray ++ ws.toArray = (vs ++ ws).toArray := by simp
  refine concat_meets ⟨_, ho, rfl⟩ ⟨_, ho2, rfl⟩ noFill_list_add seq_list_add PySem.F.slot_list_add PySem.F.entry_list_add (PySem.F.args_list_add_2 _ _) (list_addW x y vs.toArray ws.toArray n n2 dd dd2 sl sl2 (by simp; exact Nat.le_trans hz (by decide))) ⟨ho, ho2, ?_⟩
  rw [e]
  exact k _ _ (O.push _)
theorem new_list {vs : List Value} {Q : Value → Shared → Prop} (O : Own B F S L s.heap) (hz : vs.length ≤ 1000) (k : ∀ h' x, Own B F S ((x, lsO vs.toArray 0) :: L) h' → Q (.ref x) { s with heap := h' }) : wpAny (model prog w) A (newList vs) Q E s :=
  wpAny_newObj_type (k _ _ (O.push _)) (by show vs.toArray.size ≤ sizeLine; rw [List.size_toArray]; exact Nat.le_trans hz (by decide))
/-- list(a list) -/
theorem copy_list {x : Addr} {items : Array Value} {Q : Value → Shared → Prop} (O : Own B F S L s.heap) (hl : s.heap.IsList x items) (hz : items.size ≤ 1000)
    (k : ∀ h' d c, Own B F S ((d, lsO items c) :: L) h' → Q (.ref d) { s with heap := h' }) : wpAny (model prog w) A (call (.type "list") [.ref x]) Q E s := by
  obtain ⟨o, ho, hc, n, hd⟩ := hl
  exact call_list_seq (hsz := Nat.le_trans hz (by decide)) x (.inl rfl) ho hc hd fun h' c' hk hD => k h' _ c' (O.add (Nat.le_refl _) hk hD)
abbrev riO (x left : Int) : Obj := { cls := .type "range_iterator", dict := none, data := .fields #[rawInt x, rawInt left, rawInt 1], slots := #[] }
theorem iter_range {n : Int} {t : Tok} {Q : Value → Shared → Prop} (O : Own B F S L s.heap) (h0 : 0 ≤ n) (h1 : n ≤ 1000)
    (k : ∀ h' tk it, Own B F S ((it, riO 0 n) :: L) h' → Q (.ref it) { s with heap := h', toks := tk }) :
    wpAny (model prog w) A (call (.type "range") [.int n t]) (fun x s₁ => wpAny (model prog w) A (pyIter x) Q E s₁) E s := by
  refine call_range_1 ?_
  have O₁ := O.push { cls := .type "range", data := .fields #[.int 0 s.toks, .int n t, .int 1 (s.toks + 1)] }
  have e : Builtin.Range.rangeSize 0 n 1 = n := by rw [rangeSize_nat]; omega
  refine wpAny_pyIter_range (t := s.toks) (u := t) (v := s.toks + 1) (O₁.ob _ (.head _)).1 ?_ ?_
  · unfold Builtin.Range.small
    rw [e]
    simp [Builtin.Range.rangeFitsLong]
    omega
  · have O₂ := O₁.dropL.push { cls := .type "range_iterator", data := .fields #[rawInt 0, rawInt (Builtin.Range.rangeSize 0 n 1), rawInt 1] }
    rw [e] at O₂ ⊢
    exact k _ _ _ O₂
theorem next_range {it : Addr} {x left : Int} {Q : Option Value → Shared → Prop} (O : Own B F S ((it, riO x left) :: L) s.heap) (hl : 0 < left)
    (k : ∀ h' tk tx, Own B F S ((it, riO (x + 1) (left - 1)) :: L) h' → Q (some (.int x tx)) { s with heap := h', toks := tk }) : wpAny (model prog w) A (pyNext (.ref it)) Q E s :=
  wpAny_pyNext_range_item (O.ob _ (.head _)).1 hl fun h' hi hs => k h' _ _ (O.put hs hi)
theorem last_range {it : Addr} {x left : Int} {Q : Option Value → Shared → Prop} (hh : A.handled = none) (O : Own B F S ((it, riO x left) :: L) s.heap) (hl : left ≤ 0)
    (k : ∀ h', Own B F S L h' → Q none { s with heap := h' }) : wpAny (model prog w) A (pyNext (.ref it)) Q E s :=
  wpAny_pyNext_range_end hh (O.ob _ (.head _)).1 hl fun h' he => k h' (O.lose he)
end
-- Q2
abbrev scGone : Scope := { kind := ScopeKind.function, names := [(Str.ofString ".0", NameKind.local), (Str.ofString "one", NameKind.local), (Str.ofString "had", NameKind.local), (Str.ofString "gone", NameKind.cell)], isGenerator := false, isCoroutine := false }
abbrev envG (scope : Scope) (cl : List (Str × Addr)) (C : Addr) (q : Str) (cd : Value) (fr : Option Addr) : Env := { scope := scope, locals := C, globals := mainGlobals, cells := cl, qual := q, func := none, code := cd, frame := fr, builtins := builtinsNs }
section
variable {w : World} {A : Around} {E : Value → Shared → Prop} {s : Shared} {B : Heap} {F F' S S' : NsL} {L L' : ObL} {R : Result → Shared → Prop} {h h' : Heap} {env : Env}
theorem TupsOf.at {vs : List Value} {rows : List (Int × Int)} (x : TupsOf B vs rows) {j : Nat} {i n : Int} (h : rows[j]? = some (i, n)) : ∃ t ti tn, vs[j]? = some (.ref t) ∧ B.get? t = some (tupO [.int i ti, .int n tn]) := by
  induction x generalizing j with
  | nil => simp at h
  | cons d _ ih =>
    cases j with
    | zero => simp at h; obtain ⟨rfl, rfl⟩ := h; exact ⟨_, _, _, rfl, d⟩
    | succ j => exact ih (by simpa using h)
/-- [one for one, had in rows if one == gone] -/
theorem loop_eq {p1 p2 p3 p4 p5 p6 p7 : Pos} {x1} {iter : Expr} {scope : Scope} {pos : Pos} {gc C D it xs : Addr} {q : Str} {cd : Value} {fr : Option Addr} {og : Obj} {g : Int} {tg : Tok} {vs : List Value} {rows : List (Int × Int)}
    (hh : A.handled = none) (hg : Kn B L gc og) (hgd : og.data = .cell (some (.int g tg))) (hxs : B.IsList xs vs.toArray) (htu : TupsOf B vs rows) (hz : rows.length ≤ 900) :
    ∀ (m j : Nat) (s : Shared) (l : List (Str × Value)) (oi : Obj) (acc : Array Value) (nacc : Nat) (R : Result → Shared → Prop), j + m = rows.length → LiO oi xs j → IntsAre acc.toList (((rows.take j).filter fun p => p.1 == g).map (·.1)) → acc.size ≤ j →
      Own B ((C, l) :: F) S ((it, oi) :: (D, lsO acc nacc) :: L) s.heap →
      (∀ h' tk l acc n, IntsAre acc.toList ((rows.filter fun p => p.1 == g).map (·.1)) → Own B ((C, l) :: F) S ((D, lsO acc n) :: L) h' → R (.ok .next) { s with heap := h', toks := tk }) →
      codeAny (model prog w) A (.compLoop (.ListComp (.Name (Str.ofString "one") p1) [⟨.Tuple [.Name (Str.ofString "one") p2, .Name (Str.ofString "had") p3] x1 p4, iter, [.Compare (.Name (Str.ofString "one") p5) [.Eq] [.Name (Str.ofString "gone") p6] p7], 0⟩] scope pos) 0 (.ref it) (.ref D) (envG scGone [("gone", gc)] C q cd fr)) R s := by
  have hlen := htu.length
  intro m
  induction m with
  | zero =>
    intro j s l oi acc nacc R hj li hi hs O k
    refine lc_turn ?_
    refine last_list hh O li (IsList.keep hxs O.keep) (by simp; omega) fun h₁ O₁ => ?_
    dsimp only
    rw [List.take_of_length_le (by omega)] at hi
    exact k h₁ _ l acc nacc hi O₁
  | succ m ih =>
    intro j s l oi acc nacc R hj li hi hs O k
    obtain ⟨⟨i, n⟩, hx⟩ : ∃ y, rows[j]? = some y := ⟨_, List.getElem?_eq_getElem (by omega)⟩
    obtain ⟨t, ti, tn, hv, ht⟩ := htu.at hx
    refine lc_turn ?_
    refine next_list O li (IsList.keep hxs O.keep) (v := .ref t) (by simpa using hv) fun h₁ o₁ l₁ O₁ => ?_
    dsimp only
    refine wpAny_letOwnedTupleGo_listiter (l := xs) (i := j + 1) ⟨o₁, (O₁.ob _ (.head _)).1, l₁.1, l₁.2⟩ ?_
    obtain ⟨l', hl1⟩ := Put.any (x := ("one" : Str)) (v := .int i ti) l
    obtain ⟨l'', hl2⟩ := Put.any (x := ("had" : Str)) (v := .int n tn) l'
    refine unpack2 (s := { s with heap := h₁ }) hh O₁ ⟨_, O₁.keep _ _ ht, rfl, _, rfl⟩ hl1 hl2 (fun h₂ tk₂ O₂ => ?_)
    refine wpAny_tests_one (wpAny_isTrue_Compare1 ?_)
    refine nm_loc (s := ⟨h₂, s.gens, s.drawn, tk₂, s.os⟩) O₂ (.head _) (Loc.put hl2 hl1.loc (by decide +kernel)) ?_
    refine nm_cell (s := ⟨h₂, s.gens, s.drawn, tk₂, s.os⟩) O₂ rfl (hg.cons.cons) hgd ?_
    refine PyProof.Rows.eq_int (wpAny_truthy_bool ?_)
    by_cases e : i = g
    · rw [if_pos (by simpa using e)]
      refine nm_loc (s := ⟨h₂, s.gens, s.drawn, tk₂, s.os⟩) O₂ (.head _) (Loc.put hl2 hl1.loc (by decide +kernel)) ?_
      refine list_append_x (s := ⟨h₂, s.gens, s.drawn, tk₂, s.os⟩) (O₂.permL (.swap ..)) (by omega) fun h₃ n₃ O₃ => ?_
      refine ih (j + 1) ⟨h₃, s.gens, s.drawn, tk₂, s.os⟩ l'' o₁ _ n₃ R (by omega) l₁ ?_ (by simp; omega) (O₃.permL (.swap ..)) fun h' tk l acc n => k h' tk l acc n
      rw [List.take_add_one, hx, Array.toList_push, List.filter_append, List.map_append]
      have : (([(i, n)] : List (Int × Int)).filter fun p => p.1 == g).map (·.1) = [i] := by simp [e]
      show IntsAre _ (_ ++ ((([(i, n)] : List (Int × Int)).filter fun p => p.1 == g).map (·.1)))
      rw [this]
      exact hi.append (.cons _ _ .nil)
    · rw [if_neg (by simpa using e)]
      refine ih (j + 1) ⟨h₂, s.gens, s.drawn, tk₂, s.os⟩ l'' o₁ acc nacc R (by omega) l₁ ?_ (by omega) O₂ fun h' tk l acc n => k h' tk l acc n
      rw [List.take_add_one, hx, List.filter_append, List.map_append]
      have : (([(i, n)] : List (Int × Int)).filter fun p => p.1 == g).map (·.1) = [] := by simp [e]
      show IntsAre _ (_ ++ ((([(i, n)] : List (Int × Int)).filter fun p => p.1 == g).map (·.1)))
      rw [this, List.append_nil]
      exact hi
/-- [(one, had) for one, had in rows if one != gone] -/
theorem loop_ne {p1 p2 p3 p4 p5 p6 p7 p8 p9 : Pos} {x1} {k0} {iter : Expr} {scope : Scope} {pos : Pos} {gc C D it xs : Addr} {q : Str} {cd : Value} {fr : Option Addr} {og : Obj} {g : Int} {tg : Tok} {vs : List Value} {rows : List (Int × Int)}
    (hh : A.handled = none) (hg : Kn B L gc og) (hgd : og.data = .cell (some (.int g tg))) (hxs : B.IsList xs vs.toArray) (htu : TupsOf B vs rows) (hz : rows.length ≤ 900) :
    ∀ (m j : Nat) (B₀ : Heap) (s : Shared) (l : List (Str × Value)) (oi : Obj) (acc : Array Value) (nacc : Nat) (R : Result → Shared → Prop), j + m = rows.length → Le B B₀ → LiO oi xs j → TupsOf B₀ acc.toList ((rows.take j).filter fun p => decide (p.1 ≠ g)) → acc.size ≤ j →
      Own B₀ ((C, l) :: F) S ((it, oi) :: (D, lsO acc nacc) :: L) s.heap →
      (∀ B' h' tk l acc n, Le B B' → TupsOf B' acc.toList (rows.filter fun p => decide (p.1 ≠ g)) → Own B' ((C, l) :: F) S ((D, lsO acc n) :: L) h' → R (.ok .next) { s with heap := h', toks := tk }) →
      codeAny (model prog w) A (.compLoop (.ListComp (.Tuple [.Name (Str.ofString "one") p1, .Name (Str.ofString "had") p8] k0 p9) [⟨.Tuple [.Name (Str.ofString "one") p2, .Name (Str.ofString "had") p3] x1 p4, iter, [.Compare (.Name (Str.ofString "one") p5) [.NotEq] [.Name (Str.ofString "gone") p6] p7], 0⟩] scope pos) 0 (.ref it) (.ref D) (envG scGone [("gone", gc)] C q cd fr)) R s := by
  have hlen := htu.length
  intro m
  induction m with
  | zero =>
    intro j B₀ s l oi acc nacc R hj k₀ li hi hs O k
    refine lc_turn ?_
    refine last_list hh O li (IsList.keep hxs fun b o e => O.keep _ _ (k₀ _ _ e)) (by simp; omega) fun h₁ O₁ => ?_
    dsimp only
    rw [List.take_of_length_le (by omega)] at hi
    exact k B₀ h₁ _ l acc nacc k₀ hi O₁
  | succ m ih =>
    intro j B₀ s l oi acc nacc R hj k₀ li hi hs O k
    obtain ⟨⟨i, n⟩, hx⟩ : ∃ y, rows[j]? = some y := ⟨_, List.getElem?_eq_getElem (by omega)⟩
    obtain ⟨t, ti, tn, hv, ht⟩ := htu.at hx
    refine lc_turn ?_
    refine next_list O li (IsList.keep hxs fun b o e => O.keep _ _ (k₀ _ _ e)) (v := .ref t) (by simpa using hv) fun h₁ o₁ l₁ O₁ => ?_
    dsimp only
    refine wpAny_letOwnedTupleGo_listiter (l := xs) (i := j + 1) ⟨o₁, (O₁.ob _ (.head _)).1, l₁.1, l₁.2⟩ ?_
    obtain ⟨l', hl1⟩ := Put.any (x := ("one" : Str)) (v := .int i ti) l
    obtain ⟨l'', hl2⟩ := Put.any (x := ("had" : Str)) (v := .int n tn) l'
    refine unpack2 (s := { s with heap := h₁ }) hh O₁ ⟨_, O₁.keep _ _ (k₀ _ _ ht), rfl, _, rfl⟩ hl1 hl2 (fun h₂ tk₂ O₂ => ?_)
    refine wpAny_tests_one (wpAny_isTrue_Compare1 ?_)
    refine nm_loc (s := ⟨h₂, s.gens, s.drawn, tk₂, s.os⟩) O₂ (.head _) (Loc.put hl2 hl1.loc (by decide +kernel)) ?_
    refine nm_cell (s := ⟨h₂, s.gens, s.drawn, tk₂, s.os⟩) O₂ rfl ((hg.le k₀).cons.cons) hgd ?_
    refine PyProof.Rows.ne_int (wpAny_truthy_bool ?_)
    by_cases e : i = g
    · rw [if_neg (by simpa using e)]
      refine ih (j + 1) B₀ ⟨h₂, s.gens, s.drawn, tk₂, s.os⟩ l'' o₁ acc nacc R (by omega) k₀ l₁ ?_ (by omega) O₂ fun B' h' tk l acc n => k B' h' tk l acc n
      rw [List.take_add_one, hx, List.filter_append]
      have : (([(i, n)] : List (Int × Int)).filter fun p => decide (p.1 ≠ g)) = [] := by simp [e]
      show TupsOf _ _ (_ ++ (([(i, n)] : List (Int × Int)).filter fun p => decide (p.1 ≠ g)))
      rw [this, List.append_nil]
      exact hi
    · rw [if_pos (by simpa using e)]
      refine Tuple_ ?_
      walk_at "arg"
      refine nm_loc (s := ⟨h₂, s.gens, s.drawn, tk₂, s.os⟩) O₂ (.head _) (Loc.put hl2 hl1.loc (by decide +kernel)) ?_
      walk_at "arg"
      refine nm_loc (s := ⟨h₂, s.gens, s.drawn, tk₂, s.os⟩) O₂ (.head _) hl2.loc ?_
      walk_at "args1"
      refine new_tuple (s := ⟨h₂, s.gens, s.drawn, tk₂, s.os⟩) O₂ (by simp) fun h₃ t₃ k₃ O₃ => ?_
      obtain ⟨B₄, kB₄, hb₄, O₄⟩ := O₃.freeze1
      refine list_append_x (s := ⟨h₃, s.gens, s.drawn, tk₂, s.os⟩) (O₄.permL (.swap ..)) (by omega) fun h₅ n₅ O₅ => ?_
      refine ih (j + 1) B₄ ⟨h₅, s.gens, s.drawn, tk₂, s.os⟩ l'' o₁ _ n₅ R (by omega) (k₀.trans kB₄) l₁ ?_ (by simp; omega) (O₅.permL (.swap ..)) fun B' h' tk l acc n => k B' h' tk l acc n
      rw [List.take_add_one, hx, Array.toList_push, List.filter_append]
      have : (([(i, n)] : List (Int × Int)).filter fun p => decide (p.1 ≠ g)) = [(i, n)] := by simp [e]
      show TupsOf _ _ (_ ++ (([(i, n)] : List (Int × Int)).filter fun p => decide (p.1 ≠ g)))
      rw [this]
      exact (hi.le kB₄).snoc hb₄
end
-- Q3
section
variable {w : World} {A : Around} {E : Value → Shared → Prop} {s : Shared} {B : Heap} {F F' S S' : NsL} {L L' : ObL} {R : Result → Shared → Prop} {h h' : Heap} {env : Env}
/-- what a caching storage's read() tells -/
theorem st_cached {c cd st sd : Addr} {vc : Value} {n : Int} {tn : Tok} (hc : B.get? c = some (instObj 66 cd)) (hm : (cd, cachedNs st vc n tn) ∈ S)
    (hx : (∃ a, vc = .ref a) ∨ (vc = .none ∧ B.get? st = some (instObj 138 sd) ∧ (sd, memNs .none) ∈ S)) : StRead w B S c vc := by
  intro A E s B' F L Q pl pos env kB O W r k
  obtain ⟨S', pm⟩ := perm_of_mem hm
  have O₁ := O.permS pm
  have hc := kB _ _ hc
  refine meth_at O₁ W hc (by walk_at "nsb") (by walk_at "noloc") (by k_is) (by k_is) (by k_is) ?_
  walk_at "cw0"
  rcases hx with ⟨a, rfl⟩ | ⟨rfl, hst, hm2⟩
  · exact wpAny_call (c_read_some O₁ W (r.le (by decide)) hc fun h' tk O₂ => k h' tk (O₂.permS pm.symm))
  · have hm3 := pm.mem_iff.mp hm2
    rcases List.mem_cons.mp hm3 with e | hm3
    · have := congrArg (fun p => p.2.length) e
      simp at this
    · obtain ⟨S2, pm2⟩ := perm_of_mem hm3
      have O₂ := O₁.permS (List.Perm.cons _ pm2)
      exact wpAny_call (c_read_none O₂ W (r.le (by decide)) hc (kB _ _ hst) fun h' tk O₃ => k h' tk ((O₃.permS (List.Perm.cons _ pm2.symm)).permS pm.symm))
/-- [list(rows) for rows in kept] -/
theorem loop_copy {p1 p2 p3 p4 : Pos} {iter : Expr} {scope : Scope} {pos : Pos} {C D it kl k0 k1 : Addr} {q : Str} {cd : Value} {fr : Option Addr} {oi ok : Obj} {r1 r2 : List (Int × Int)}
    (O : Own B ((C, []) :: F) S ((D, lsO #[] 0) :: (it, oi) :: L) s.heap) (W : Wd w B) (hh : A.handled = none) (li : LiO oi kl 0) (hkl : (kl, ok) ∈ L) (hok : LsO ok #[.ref k0, .ref k1]) (h1 : RowsAt B k0 r1) (h2 : RowsAt B k1 r2) (z1 : r1.length ≤ 900) (z2 : r2.length ≤ 900)
    (k : ∀ B' l h' tk, Le B B' → Own B' ((C, l) :: F) S L h' → TwoAt B' D r1 r2 → R (.ok .next) { s with heap := h', toks := tk }) :
    codeAny (model prog w) A (.compLoop (.ListComp (.Call (.Name (Str.ofString "list") p1) [.Name (Str.ofString "rows") p2] [] p3) [⟨.Name (Str.ofString "rows") p4, iter, [], 0⟩] scope pos) 0 (.ref it) (.ref D)
      (envG { kind := ScopeKind.function, names := [(Str.ofString ".0", NameKind.local), (Str.ofString "rows", NameKind.local), (Str.ofString "list", NameKind.globalImplicit)], isGenerator := false, isCoroutine := false } [] C q cd fr)) R s := by
  obtain ⟨v1, t1, x1⟩ := h1
  obtain ⟨v2, t2, x2⟩ := h2
  have e1 := t1.length
  have e2 := t2.length
  refine lc_turn ?_
  refine next_list (O.permL (.swap ..)) li (LsO.list (O.ob _ (.tail _ (.tail _ hkl))).1 hok) (v := .ref k0) rfl fun h₁ o₁ l₁ O₁ => ?_
  dsimp only
  refine wpAny_pure ?_
  refine wpAny_assign_Name (st_loc (s := ⟨h₁, s.gens, s.drawn, s.toks, s.os⟩) O₁ (by walk_at "put") (fun h₂ O₂ => ?_) rfl rfl rfl)
  refine wpAny_tests_nil ?_
  rw [if_pos rfl]
  refine Call_ ?_
  walk_at "nm"
  walk_at "cwT"
  walk_at "arg"
  refine nm_loc (s := ⟨h₂, s.gens, s.drawn, _, s.os⟩) O₂ (.head _) (by walk_at "loc") ?_
  walk_at "args1"
  refine copy_list (s := ⟨h₂, s.gens, s.drawn, _, s.os⟩) O₂ (IsList.keep x1 O₂.keep) (by simp; omega) fun h₃ d₁ c₁ O₃ => ?_
  obtain ⟨B₃, kB₃, hb₃, O₄⟩ := O₃.freeze1
  refine list_append (s := ⟨h₃, s.gens, s.drawn, _, s.os⟩) (O₄.permL (.swap ..)) ⟨rfl, 0, rfl⟩ (by decide) fun h₄ o₄ l₄ O₅ => ?_
  have W₃ := W.le kB₃
  refine lc_turn ?_
  refine next_list (s := ⟨h₄, s.gens, s.drawn, _, s.os⟩) (O₅.permL (.swap ..)) l₁ (LsO.list (O₅.ob _ (.tail _ (.tail _ hkl))).1 hok) (v := .ref k1) rfl fun h₅ o₅ l₅ O₆ => ?_
  dsimp only
  refine wpAny_pure ?_
  refine wpAny_assign_Name (st_loc (s := ⟨h₅, s.gens, s.drawn, _, s.os⟩) O₆ (by walk_at "put") (fun h₆ O₇ => ?_) rfl rfl rfl)
  refine wpAny_tests_nil ?_
  rw [if_pos rfl]
  refine Call_ ?_
  walk_at "nm"
  walk_at "cwT"
  walk_at "arg"
  refine nm_loc (s := ⟨h₆, s.gens, s.drawn, _, s.os⟩) O₇ (.head _) (by walk_at "loc") ?_
  walk_at "args1"
  refine copy_list (s := ⟨h₆, s.gens, s.drawn, _, s.os⟩) O₇ (IsList.keep x2 fun b o e => O₇.keep _ _ (kB₃ _ _ e)) (by simp; omega) fun h₇ d₂ c₂ O₈ => ?_
  obtain ⟨B₈, kB₈, hb₈, O₉⟩ := O₈.freeze1
  refine list_append (s := ⟨h₇, s.gens, s.drawn, _, s.os⟩) (O₉.permL (.swap ..)) l₄ (by simp) fun h₈ o₈ l₈ O₁₀ => ?_
  refine lc_turn ?_
  refine last_list (s := ⟨h₈, s.gens, s.drawn, _, s.os⟩) hh (O₁₀.permL (.swap ..)) l₅ (LsO.list (O₁₀.ob _ (.tail _ (.tail _ hkl))).1 hok) rfl fun h₉ O₁₁ => ?_
  dsimp only
  obtain ⟨B', kB', hb, O₁₂⟩ := O₁₁.freeze1
  exact k B' _ h₉ _ ((kB₃.trans kB₈).trans kB') O₁₂ ⟨d₁, d₂, LsO.list hb l₈, ⟨v1, t1.le ((kB₃.trans kB₈).trans kB'), _, (kB₈.trans kB') _ _ hb₃, rfl, _, rfl⟩, ⟨v2, t2.le ((kB₃.trans kB₈).trans kB'), _, kB' _ _ hb₈, rfl, _, rfl⟩⟩
/-- [_law_rows(one) for one in made] -/
theorem loop_rows {p1 p2 p3 p4 : Pos} {iter : Expr} {scope : Scope} {pos : Pos} {C D it ml c t1 td1 q1 t2 td2 q2 : Addr} {q : Str} {cd vc nx1 nx2 : Value} {fr : Option Addr} {oi : Obj} {tm1 tm2 : Tok} {r1 r2 : List (Int × Int)}
    (O : Own B ((C, []) :: F) S ((D, lsO #[] 0) :: (it, oi) :: L) s.heap) (W : Wd w B) (r : Room A 120) (Fo : Fro A (F.map (·.1))) (li : LiO oi ml 0) (hml : B.IsList ml #[.ref t1, .ref t2])
    (h1 : B.get? t1 = some (instObj 426 td1)) (h2 : B.get? t2 = some (instObj 426 td2)) (m1 : (td1, tableNs c "t" tm1 q1 nx1) ∈ S) (m2 : (td2, tableNs c "u" tm2 q2 nx2) ∈ S) (rd : StRead w B S c vc) (tb : TabsIn w B L vc r1 r2)
    (k : ∀ B' l h' tk gens', Le B B' → Own B' ((C, l) :: F) S L h' → TwoAt B' D r1 r2 → (AllBare s.gens → AllBare gens') → R (.ok .next) ⟨h', gens', s.drawn, tk, s.os⟩) :
    codeAny (model prog w) A (.compLoop (.ListComp (.Call (.Name (Str.ofString "_law_rows") p1) [.Name (Str.ofString "one") p2] [] p3) [⟨.Name (Str.ofString "one") p4, iter, [], 0⟩] scope pos) 0 (.ref it) (.ref D)
      (envG { kind := ScopeKind.function, names := [(Str.ofString ".0", NameKind.local), (Str.ofString "one", NameKind.local), (Str.ofString "_law_rows", NameKind.globalImplicit)], isGenerator := false, isCoroutine := false } [] C q cd fr)) R s := by
  obtain ⟨kt, ku, b1, b2, b3, b4, b5, b6⟩ := tb
  have Fo' : ∀ {l : List (Str × Value)}, Fro A (((C, l) :: F).map (·.1)) := fun {l} => Fo.sub fun a h => .tail _ h
  refine lc_turn ?_
  refine next_list (O.permL (.swap ..)) li (IsList.keep hml O.keep) (v := .ref t1) rfl fun h₁ o₁ l₁ O₁ => ?_
  dsimp only
  refine wpAny_pure ?_
  refine wpAny_assign_Name (st_loc (s := ⟨h₁, s.gens, s.drawn, s.toks, s.os⟩) O₁ (by walk_at "put") (fun h₂ O₂ => ?_) rfl rfl rfl)
  refine wpAny_tests_nil ?_
  rw [if_pos rfl]
  refine Call_ ?_
  walk_at "nm"
  walk_at "cw"
  walk_at "arg"
  refine nm_loc (s := ⟨h₂, s.gens, s.drawn, _, s.os⟩) O₂ (.head _) (by walk_at "loc") ?_
  walk_at "args0"
  refine wpAny_call (c_rows (s := ⟨h₂, s.gens, s.drawn, _, s.os⟩) O₂ W (r.le (by decide)) Fo' h1 m1 rd (b1.mono (.refl B) fun p hp => .tail _ (.tail _ hp)) b2 (by omega) fun B₃ h₃ tk₃ g₃ x vs k₃ htu hx O₃ hg₃ => ?_)
  dsimp only
  refine list_append (s := ⟨h₃, g₃, s.drawn, tk₃, s.os⟩) (O₃.permL (.swap ..)) ⟨rfl, 0, rfl⟩ (by decide) fun h₄ o₄ l₄ O₄ => ?_
  have W₃ := W.le k₃
  refine lc_turn ?_
  refine next_list (s := ⟨h₄, g₃, s.drawn, tk₃, s.os⟩) (O₄.permL (.swap ..)) l₁ (IsList.keep hml fun b o e => O₄.keep _ _ (k₃ _ _ e)) (v := .ref t2) rfl fun h₅ o₅ l₅ O₅ => ?_
  dsimp only
  refine wpAny_pure ?_
  refine wpAny_assign_Name (st_loc (s := ⟨h₅, g₃, s.drawn, tk₃, s.os⟩) O₅ (by walk_at "put") (fun h₆ O₆ => ?_) rfl rfl rfl)
  refine wpAny_tests_nil ?_
  rw [if_pos rfl]
  refine Call_ ?_
  walk_at "nm"
  walk_at "cw"
  walk_at "arg"
  refine nm_loc (s := ⟨h₆, g₃, s.drawn, _, s.os⟩) O₆ (.head _) (by walk_at "loc") ?_
  walk_at "args0"
  refine wpAny_call (c_rows (s := ⟨h₆, g₃, s.drawn, _, s.os⟩) O₆ W₃ (r.le (by decide)) Fo' (k₃ _ _ h2) m2 (fun kk => rd (k₃.trans kk)) (b3.mono k₃ fun p hp => .tail _ (.tail _ hp)) (b4.le k₃) (by omega) fun B₇ h₇ tk₇ g₇ y ws k₇ htu₇ hy O₇ hg₇ => ?_)
  dsimp only
  refine list_append (s := ⟨h₇, g₇, s.drawn, tk₇, s.os⟩) (O₇.permL (.swap ..)) l₄ (by simp) fun h₈ o₈ l₈ O₈ => ?_
  refine lc_turn ?_
  refine last_list (s := ⟨h₈, g₇, s.drawn, tk₇, s.os⟩) Fo.hd (O₈.permL (.swap ..)) l₅ (IsList.keep hml fun b o e => O₈.keep _ _ (k₇ _ _ (k₃ _ _ e))) rfl fun h₉ O₉ => ?_
  dsimp only
  obtain ⟨B', kB', hb, O₁₀⟩ := O₉.freeze1
  exact k B' _ h₉ tk₇ g₇ ((k₃.trans k₇).trans kB') O₁₀ ⟨x, y, LsO.list hb l₈, ⟨vs, htu.le (k₇.trans kB'), IsList.keep hx (k₇.trans kB')⟩, ⟨ws, htu₇.le kB', IsList.keep hy kB'⟩⟩ (fun z => hg₇ (hg₃ z))
end
-- Q4
def lawStmt : Stmt := PySem.Challenge.pw_fk5016_01.main.body.getD 16 (.Pass ⟨0, 0, 0, 0⟩)
def lawBody : List Stmt := match lawStmt with | .FunctionDef _ _ b _ _ _ _ _ _ _ => b | _ => []
def lawScope : Scope := match lawStmt with | .FunctionDef _ _ _ _ _ _ sc _ _ _ => sc | _ => default
def lawFor : Stmt := lawBody.getD 4 (.Pass ⟨0, 0, 0, 0⟩)
def forBody : List Stmt := match lawFor with | .For _ _ b _ _ => b | _ => []
def forTarget : Expr := match lawFor with | .For t _ _ _ _ => t | _ => .Constant .none 0 ⟨0, 0, 0, 0⟩
def waySt : Stmt := forBody.getD 2 (.Pass ⟨0, 0, 0, 0⟩)
def insBr : List Stmt := match waySt with | .If _ b _ _ => b | _ => []
def elseSt : Stmt := match waySt with | .If _ _ e _ => e.getD 0 (.Pass ⟨0, 0, 0, 0⟩) | _ => .Pass ⟨0, 0, 0, 0⟩
def remBr : List Stmt := match elseSt with | .If _ b _ _ => b | _ => []
def fluBr : List Stmt := match elseSt with | .If _ _ e _ => e | _ => []
def chkSt : Stmt := forBody.getD 3 (.Pass ⟨0, 0, 0, 0⟩)
abbrev envLaw (Lf : Addr) (cd : Value) : Env := envOfC (Str.ofString "law") lawScope Lf 457 cd
theorem Pick.app {α : Type} {x : α} {l r r' : List α} (p : Pick x r r') : Pick x (l ++ r) (l ++ r') := by
  induction l with
  | nil => exact p
  | cons a l ih => exact .tail ih
local macro_rules | `(tactic| walk_at "pick") => `(tactic| first | with_reducible exact Pick.head | (refine' Pick.tail ?b; (case b => walk_at "pick")) | (refine' Pick.app ?b; (case b => walk_at "pick")))
local macro_rules | `(tactic| walk_at "perm") => `(tactic| first | exact List.Perm.refl _ | (refine' List.Perm.trans (Pick.perm ?p) (List.Perm.cons _ ?q); (case p => walk_at "pick"); (case q => walk_at "perm")) | (refine' List.Perm.symm (List.Perm.trans (Pick.perm ?p) (List.Perm.cons _ ?q)); (case p => walk_at "pick"); (case q => walk_at "perm")) | (refine' List.Perm.append_left _ ?q; (case q => walk_at "perm")) | (simp only [List.append_nil]; exact List.Perm.refl _))
section
variable {w : World} {A : Around} {E : Value → Shared → Prop} {s : Shared} {B : Heap} {F F' S S' : NsL} {L L' : ObL} {R : Result → Shared → Prop} {h h' : Heap} {env : Env}
/-- {'a': x} -/
theorem dict_one {p1 p2 p3 : Pos} {k0} {m : Int} {tm : Tok} {Q : Value → Shared → Prop} {x : Str} (O : Own B F S L s.heap)
    (hx : ∀ (s' : Shared) (Q' : Value → Shared → Prop), s'.heap = s.heap.push emptyDict → Q' (.int m tm) s' → wpAny (model prog w) A (eval (.Name x p2) env) Q' E s')
    (k : ∀ h' tk d o, o.IsDictOf (strKind prog w) [("a", .int m tm)] → Own B F S ((d, o) :: L) h' → Q (.ref d) { s with heap := h', toks := tk }) :
    wpAny (model prog w) A (eval (.Dict [some (.Constant (.str (Str.ofString "a")) k0 p1)] [.Name x p2] p3) env) Q E s := by
  refine wpAny_Dict_walk (knd := strKind prog w) rfl rfl (by simp) (by simp) ?_
  refine pairTrees_cons_walk (wpAny_Constant_str ?_)
  refine hx _ _ rfl ?_
  refine pairTrees_nil_walk ?_
  have O₁ := O.push emptyDict
  refine ⟨[("a", .int m tm)], ⟨strKind_is .., rfl, trivial⟩, Heap.DictOf.new s.heap, fun h' hd hs => ?_⟩
  obtain ⟨o', hd', O₂⟩ := O₁.putDict hs hd
  exact k h' _ _ o' hd' O₂
end
-- Q5
/-- the law's names -/
structure LL (l : List (Str × Value)) (sc c kl ml fl : Addr) (bv : Value) (iw : Bool) : Prop where
  script : Loc l "script" (.ref sc)
  cached : Loc l "cached" (.ref c)
  kept : Loc l "kept" (.ref kl)
  beneath : Loc l "beneath" bv
  made : Loc l "made" (.ref ml)
  free : Loc l "free" (.ref fl)
  iw : Loc l "is_written" (.bool iw)
theorem LL.put {l l' : List (Str × Value)} {sc c kl ml fl : Addr} {bv v : Value} {iw : Bool} {x : Str} (y : LL l sc c kl ml fl bv iw) (p : Put l x v l')
    (hx : ((("script" : Str) == x) || (("cached" : Str) == x) || (("kept" : Str) == x) || (("beneath" : Str) == x) || (("made" : Str) == x) || (("free" : Str) == x) || (("is_written" : Str) == x)) = false := by decide +kernel) : LL l' sc c kl ml fl bv iw := by
  simp only [Bool.or_eq_false_iff] at hx
  obtain ⟨⟨⟨⟨⟨⟨a, b⟩, d⟩, e⟩, f⟩, g⟩, i⟩ := hx
  exact ⟨Loc.put p y.script a, Loc.put p y.cached b, Loc.put p y.kept d, Loc.put p y.beneath e, Loc.put p y.made f, Loc.put p y.free g, Loc.put p y.iw i⟩
theorem LL.putIw {l l' : List (Str × Value)} {sc c kl ml fl : Addr} {bv : Value} {iw iw' : Bool} (y : LL l sc c kl ml fl bv iw) (p : Put l "is_written" (.bool iw') l') : LL l' sc c kl ml fl bv iw' :=
  ⟨Loc.put p y.script (by decide +kernel), Loc.put p y.cached (by decide +kernel), Loc.put p y.kept (by decide +kernel), Loc.put p y.beneath (by decide +kernel), Loc.put p y.made (by decide +kernel), Loc.put p y.free (by decide +kernel), p.loc⟩
theorem LL.putBv {l l' : List (Str × Value)} {sc c kl ml fl : Addr} {bv bv' : Value} {iw : Bool} (y : LL l sc c kl ml fl bv iw) (p : Put l "beneath" bv' l') : LL l' sc c kl ml fl bv' iw :=
  ⟨Loc.put p y.script (by decide +kernel), Loc.put p y.cached (by decide +kernel), Loc.put p y.kept (by decide +kernel), p.loc, Loc.put p y.made (by decide +kernel), Loc.put p y.free (by decide +kernel), Loc.put p y.iw (by decide +kernel)⟩
section
variable {w : World} {A : Around} {E : Value → Shared → Prop} {s : Shared} {B : Heap} {F F' S S' : NsL} {L L' : ObL} {R : Result → Shared → Prop} {h h' : Heap} {env : Env}
theorem StRead.le {st : Addr} {v : Value} {B' : Heap} (x : StRead w B S st v) (k : Le B B') : StRead w B' S st v := by
  intro A E s B₂ F L Q pl pos env kk
  exact x (k.trans kk)
theorem item_own {x : Addr} {o : Obj} {items : Array Value} {sp : Nat} {ts : Tok} {v : Value} {value slice : Expr} {Q : Value → Shared → Prop} (O : Own B F S L s.heap) (hm : (x, o) ∈ L) (lo : LsO o items) (hx : items[sp]? = some v) (hz : sp < 1000) (q : Q v s)
    (hs : subscripted slice false (.ref x) (.int (sp : Int) ts) = operate [.ref x, .int (sp : Int) ts] (getItem (.ref x) (.int (sp : Int) ts)) := by with_unfolding_all rfl) (hg : ∀ r, letTemporaryGo value (.ref x) r = pure () := by intro _; with_unfolding_all rfl) :
    wpAny (model prog w) A (subscriptTail value slice (.ref x) (.int (sp : Int) ts)) Q E s :=
  item_list (LsO.list (O.ob _ hm).1 lo) (by omega) (by omega) (by simpa using hx) q hs hg
variable {c cd st : Addr} {n : Int} {tn : Tok} {vc : Value} {S1 : NsL} {Y pre : ObL} {ps : Array Value} {kvs : List (Str × Value)} {ikvs : List (Int × Value)} {rows : List (Int × Int)}
set_option maxHeartbeats 2000000 in
theorem br_insert {Lf sc kl ml fl t td q qd dq k : Addr} {cdl bv nx : Value} {l : List (Str × Value)} {iw : Bool} {m f : Int} {tm ts tf tmm tc : Tok} {sp : Nat} {nm : Str} {oq ok oF : Obj} {M KA FA : Array Value} {Q : Flow → Shared → Prop}
    (O : Own B ((Lf, l) :: F) ((td, tableNs c nm tmm q nx) :: (cd, cachedNs st vc n tn) :: S1) (pre ++ (dq, oq) :: (298, tabObj ps) :: (kl, ok) :: (fl, oF) :: Y) s.heap) (W : Wd w B) (r : Room A 130) (Fo : Fro A (((Lf, l) :: F).map (·.1)))
    (ll : LL l sc c kl ml fl bv iw) (hnum : Loc l "number" (.int m tm)) (hsp : Loc l "spot" (.int (sp : Int) ts)) (hml : B.IsList ml M) (hM : M[sp]? = some (.ref t)) (lok : LsO ok KA) (hK : KA[sp]? = some (.ref k)) (hKz : KA.size = 2) (lof : LsO oF FA) (hF : FA[sp]? = some (.int f tf)) (hFz : FA.size = 2)
    (hrk : RowsAt B k rows) (hrz : rows.length ≤ 100)
    (ht : B.get? t = some (instObj 426 td)) (hc : B.get? c = some (instObj 66 cd)) (hq : B.get? q = some (instObj 238 qd)) (hqd : NsB B qd (lruNs dq tc)) (hn : n < 900)
    (rd : ∀ nx, StRead w B ((td, tableNs c nm tmm q nx) :: (cd, cachedNs st vc n tn) :: S1) c vc)
    (hC : (vc = .none ∧ pre = [] ∧ kvs = []) ∨ ∃ T oT, vc = .ref T ∧ pre = [(T, oT)] ∧ oT.IsDictOf (strKind prog w) kvs)
    (hkz : kvs.length ≤ 100) (hin : InTabs w B kvs nm (toS ikvs)) (sm : Small ikvs) (hz : ikvs.length ≤ 800) (hoq : oq.IsDictOf (intKind prog w) []) (tab : TabOk B insPos insQual ps)
    (hx : (∃ ti, nx = .int f ti) ∨ (nx = .none ∧ f = 1 ∧ ikvs = [])) (hi0 : 0 ≤ f) (hi1 : f < 1000) (hiv : valueAt ikvs f = none)
    (kk : ∀ B' h' tk gens' l' T oT' oq' ok' oF' v a ps' k' tf' tn' ti', Le B B' → LL l' sc c kl ml fl bv true → Doc w B' v m → oT'.IsDictOf (strKind prog w) (stored kvs nm (.ref a)) → (a == sysModules) = false → B'.DictOf (strKind prog w) a (toS (ikvs ++ [(f, v)])) → oq'.IsDictOf (intKind prog w) [] → TabOk B' insPos insQual ps' →
      LsO ok' (KA.setIfInBounds sp (.ref k')) → LsO oF' (FA.setIfInBounds sp (.int (f + 1) tf')) → RowsAt B' k' (rows ++ [(f, m)]) →
      Own B' ((Lf, l') :: F) ((td, tableNs c nm tmm q (.int (f + 1) ti')) :: (cd, cachedNs st (.ref T) (n + 1) tn') :: S1) ((T, oT') :: (dq, oq') :: (298, tabObj ps') :: (kl, ok') :: (fl, oF') :: Y) h' → (AllBare s.gens → AllBare gens') → Q .next ⟨h', gens', s.drawn, tk, s.os⟩) :
    wpAny (model prog w) A (execs insBr (envLaw Lf cdl)) Q E s := by
  have hsz : sp < 2 := by
    rcases Nat.lt_or_ge sp 2 with h | h
    · exact h
    · rw [Array.getElem?_eq_none (by omega)] at hK; cases hK
  refine wpAny_execs_cons (wpAny_If (wpAny_isTrue_Compare1 ?_))
  refine MethodCall_ (Subscript_ ?_)
  refine nm_loc O (.head _) ll.made ?_
  refine nm_loc O (.head _) hsp ?_
  refine item_list (IsList.keep hml O.keep) (by omega) (by omega) (x := .ref t) (by simpa using hM) ?_
  refine meth_at O W ht (by walk_at "nsb") (by walk_at "noloc") (by k_is) (by k_is) (by k_is) ?_
  walk_at "cw"
  walk_at "arg"
  refine dict_one O (m := m) (tm := tm) (fun s' Q' e q' => ?_) fun h₁ tk₁ d od hod O₁ => ?_
  · have O' : Own B ((Lf, l) :: F) ((td, tableNs c nm tmm q nx) :: (cd, cachedNs st vc n tn) :: S1) (pre ++ (dq, oq) :: (298, tabObj ps) :: (kl, ok) :: (fl, oF) :: Y) s'.heap := by rw [e]; exact O.push0 _
    exact nm_loc O' (.head _) hnum q'
  have hdS := O₁.notSysL (.head _)
  obtain ⟨B₁, k₁, hb₁, O₂⟩ := O₁.freeze1
  have W₁ := W.le k₁
  walk_at "args0"
  have hin₁ : InTabs w B₁ kvs nm (toS ikvs) := hin.imp id fun ⟨a, x, y, z⟩ => ⟨a, x, y, k₁.dict z⟩
  refine wpAny_call (c_insert (s := ⟨h₁, s.gens, s.drawn, tk₁, s.os⟩) (ikvs := ikvs) (i := f) (m := m) O₂ W₁ (r.le (by decide)) Fo (k₁ _ _ ht) (k₁ _ _ hc) (k₁ _ _ hq) (hqd.keeps k₁) hn (fun nx => StRead.le (rd nx) k₁) hC hkz hin₁ sm hz hoq (tab.le k₁) hx hi0 hi1 hiv (Heap.dictOf_iff.mpr ⟨_, hb₁, hod⟩) hdS (by kernel_rfl) fun B₃ h₃ tk₃ g₃ T oT' oq' v a ps' ti tn' ti' k₃ hv hT' haS ha hoq' tab' O₃ hg₃ => ?_)
  dsimp only
  have kB := k₁.trans k₃
  have W₃ := W.le kB
  refine Subscript_ ?_
  refine nm_loc (s := ⟨h₃, g₃, s.drawn, tk₃, s.os⟩) O₃ (.head _) ll.free ?_
  refine nm_loc (s := ⟨h₃, g₃, s.drawn, tk₃, s.os⟩) O₃ (.head _) hsp ?_
  refine item_own (s := ⟨h₃, g₃, s.drawn, tk₃, s.os⟩) O₃ (x := fl) (o := oF) (by simp) lof hF (by omega) ?_
  refine PyProof.Rows.ne_int (wpAny_truthy_bool ?_)
  rw [show (f != f) = false from by simp]
  refine wpAny_execs_nil ?_
  refine wpAny_execs_cons (Assign_Tuple (Tuple_ ?_))
  walk_at "arg"
  refine wpAny_BinOp (Subscript_ ?_)
  refine nm_loc (s := ⟨h₃, g₃, s.drawn, tk₃, s.os⟩) O₃ (.head _) ll.kept ?_
  refine nm_loc (s := ⟨h₃, g₃, s.drawn, tk₃, s.os⟩) O₃ (.head _) hsp ?_
  refine item_own (s := ⟨h₃, g₃, s.drawn, tk₃, s.os⟩) O₃ (x := kl) (o := ok) (by simp) lok hK (by omega) ?_
  refine List_ ?_
  walk_at "arg"
  refine Tuple_ ?_
  walk_at "arg"
  refine Subscript_ ?_
  refine nm_loc (s := ⟨h₃, g₃, s.drawn, tk₃, s.os⟩) O₃ (.head _) ll.free ?_
  refine nm_loc (s := ⟨h₃, g₃, s.drawn, tk₃, s.os⟩) O₃ (.head _) hsp ?_
  refine item_own (s := ⟨h₃, g₃, s.drawn, tk₃, s.os⟩) O₃ (x := fl) (o := oF) (by simp) lof hF (by omega) ?_
  walk_at "arg"
  refine nm_loc (s := ⟨h₃, g₃, s.drawn, tk₃, s.os⟩) O₃ (.head _) hnum ?_
  walk_at "args1"
  refine new_tuple (s := ⟨h₃, g₃, s.drawn, tk₃, s.os⟩) O₃ (by simp) fun h₄ t₄ _ O₄ => ?_
  obtain ⟨B₄, k₄, hb₄, O₅⟩ := O₄.freeze1
  walk_at "args1"
  refine new_list (s := ⟨h₄, g₃, s.drawn, tk₃, s.os⟩) O₅ (by simp) fun h₅ y₅ O₆ => ?_
  obtain ⟨vs, htu, hkl⟩ := hrk
  have hvl := htu.length
  refine concat_list (s := ⟨h₅, g₃, s.drawn, tk₃, s.os⟩) O₆ (vs := vs) (ws := [.ref t₄]) (IsList.keep hkl fun b o e => O₆.keep _ _ (k₄ _ _ (kB _ _ e))) ⟨_, (O₆.ob _ (.head _)).1, rfl, _, rfl⟩ (by simp; omega) fun h₆ k' O₇ => ?_
  obtain ⟨B₇, k₇, hb₇, O₈⟩ := O₇.freeze1
  replace O₈ := O₈.dropL
  have kB7 := (kB.trans k₄).trans k₇
  have hrk' : RowsAt B₇ k' (rows ++ [(f, m)]) := ⟨vs ++ [.ref t₄], (htu.le kB7).snoc (k₇ _ _ hb₄), _, hb₇, rfl, _, rfl⟩
  walk_at "arg"
  refine wpAny_BinOp (Subscript_ ?_)
  refine nm_loc (s := ⟨h₆, g₃, s.drawn, tk₃, s.os⟩) O₈ (.head _) ll.free ?_
  refine nm_loc (s := ⟨h₆, g₃, s.drawn, tk₃, s.os⟩) O₈ (.head _) hsp ?_
  refine item_own (s := ⟨h₆, g₃, s.drawn, tk₃, s.os⟩) O₈ (x := fl) (o := oF) (by simp) lof hF (by omega) ?_
  refine wpAny_Constant_int (PyProof.Rows.add_int ?_)
  walk_at "arg"
  refine wpAny_Constant_bool ?_
  walk_at "args1"
  refine new_tuple (s := ⟨h₆, g₃, s.drawn, _, s.os⟩) O₈ (by simp) fun h₉ t₉ _ O₉ => ?_
  obtain ⟨B₉, k₉, hb₉, O₁₀⟩ := O₉.freeze1
  refine unpack_three (s := ⟨h₉, g₃, s.drawn, _, s.os⟩) Fo.hd O₁₀ ⟨_, O₁₀.keep _ _ hb₉, rfl, _, rfl⟩ rfl fun h₁₁ O₁₁ => ?_
  refine assign_Sub ?_
  refine nm_loc (s := ⟨h₁₁, g₃, s.drawn, _, s.os⟩) O₁₁ (.head _) ll.kept ?_
  refine nm_loc (s := ⟨h₁₁, g₃, s.drawn, _, s.os⟩) O₁₁ (.head _) hsp ?_
  refine setitem_list (s := ⟨h₁₁, g₃, s.drawn, _, s.os⟩) (O₁₁.permL (L' := (kl, ok) :: (T, oT') :: (dq, oq') :: (298, tabObj ps') :: (fl, oF) :: Y) (by walk_at "perm")) lok (by omega) (by omega) fun h₁₂ ok' lok' O₁₂ => ?_
  refine assign_Sub ?_
  refine nm_loc (s := ⟨h₁₂, g₃, s.drawn, _, s.os⟩) O₁₂ (.head _) ll.free ?_
  refine nm_loc (s := ⟨h₁₂, g₃, s.drawn, _, s.os⟩) O₁₂ (.head _) hsp ?_
  refine setitem_list (s := ⟨h₁₂, g₃, s.drawn, _, s.os⟩) (O₁₂.permL (L' := (fl, oF) :: (kl, ok') :: (T, oT') :: (dq, oq') :: (298, tabObj ps') :: Y) (by walk_at "perm")) lof (by omega) (by omega) fun h₁₃ oF' lof' O₁₃ => ?_
  obtain ⟨l', hl'⟩ := Put.any (x := ("is_written" : Str)) (v := .bool true) l
  refine wpAny_assign_Name (st_loc (s := ⟨h₁₃, g₃, s.drawn, _, s.os⟩) O₁₃ hl' (fun h₁₄ O₁₄ => ?_) rfl rfl rfl)
  refine wpAny_execs_nil ?_
  have kZ := kB7.trans k₉
  exact kk B₉ h₁₄ _ g₃ l' T oT' oq' ok' oF' v a ps' k' _ tn' ti' kZ (ll.putIw hl') (hv.le ((k₄.trans k₇).trans k₉)) hT' haS (((k₄.trans k₇).trans k₉).dict ha) hoq' (tab'.le ((k₄.trans k₇).trans k₉)) lok' lof' (hrk'.keep k₉) (O₁₄.permL (by walk_at "perm")) hg₃
end
-- Q6
section
variable {w : World} {A : Around} {E : Value → Shared → Prop} {s : Shared} {B : Heap} {F F' S S' : NsL} {L L' : ObL} {R : Result → Shared → Prop} {h h' : Heap} {env : Env}
variable {c cd st : Addr} {n : Int} {tn : Tok} {vc : Value} {S1 : NsL} {X Y pre : ObL} {ps : Array Value} {kvs : List (Str × Value)} {ikvs : List (Int × Value)} {rows : List (Int × Int)}
set_option maxHeartbeats 2000000 in
theorem br_remove {Lf sc kl ml fl t td q qd dq k : Addr} {cdl bv nx : Value} {l : List (Str × Value)} {iw : Bool} {m : Int} {tm ts tmm tc : Tok} {sp : Nat} {nm : Str} {oq ok og : Obj} {v₀ : Option Value} {M KA : Array Value} {Q : Flow → Shared → Prop}
    (O : Own B ((Lf, l) :: F) ((td, tableNs c nm tmm q nx) :: (cd, cachedNs st vc n tn) :: S1) (pre ++ (dq, oq) :: (364, tabObj ps) :: (X ++ (kl, ok) :: (Lf + 1 + 1, og) :: Y)) s.heap) (W : Wd w B) (r : Room A 130) (Fo : Fro A (((Lf, l) :: F).map (·.1)))
    (ll : LL l sc c kl ml fl bv iw) (hnum : Loc l "number" (.int m tm)) (hm0 : 0 ≤ m) (hm1 : m < 1000003) (hsp : Loc l "spot" (.int (sp : Int) ts)) (hml : B.IsList ml M) (hM : M[sp]? = some (.ref t)) (lok : LsO ok KA) (hK : KA[sp]? = some (.ref k)) (hKz : KA.size = 2) (hog : og.data = .cell v₀)
    (hrk : RowsAt B k rows) (hrz : rows.length ≤ 100)
    (ht : B.get? t = some (instObj 426 td)) (hc : B.get? c = some (instObj 66 cd)) (hq : B.get? q = some (instObj 238 qd)) (hqd : NsB B qd (lruNs dq tc)) (hn : n < 900)
    (rd : StRead w B ((td, tableNs c nm tmm q nx) :: (cd, cachedNs st vc n tn) :: S1) c vc)
    (hC : (vc = .none ∧ pre = [] ∧ kvs = []) ∨ ∃ T oT, vc = .ref T ∧ pre = [(T, oT)] ∧ oT.IsDictOf (strKind prog w) kvs)
    (hkz : kvs.length ≤ 100) (hin : InTabs w B kvs nm (toS ikvs)) (sm : Small ikvs) (hz : ikvs.length ≤ 800) (hoq : oq.IsDictOf (intKind prog w) []) (tab : RemOk B ps X)
    (hgone : ∀ g, ((rows.filter fun p => p.1 == g).map (·.1)) = if (valueAt ikvs g).isSome then [g] else [])
    (kk : ∀ B' h' tk gens' l' T oT' oq' ok' og' v₀' g a ps' X' k' tn', Le B B' → LL l' sc c kl ml fl bv true → oT'.IsDictOf (strKind prog w) (stored kvs nm (.ref a)) → (a == sysModules) = false → B'.DictOf (strKind prog w) a (toS (without ikvs g)) → oq'.IsDictOf (intKind prog w) [] → RemOk B' ps' X' →
      LsO ok' (KA.setIfInBounds sp (.ref k')) → og'.data = .cell v₀' → RowsAt B' k' (rows.filter fun p => decide (p.1 ≠ g)) →
      Own B' ((Lf, l') :: F) ((td, tableNs c nm tmm q nx) :: (cd, cachedNs st (.ref T) (n + 1) tn') :: S1) ((T, oT') :: (dq, oq') :: (364, tabObj ps') :: (X' ++ (kl, ok') :: (Lf + 1 + 1, og') :: Y)) h' → (AllBare s.gens → AllBare gens') → Q .next ⟨h', gens', s.drawn, tk, s.os⟩) :
    wpAny (model prog w) A (execs remBr (envLaw Lf cdl)) Q E s := by
  have hsz : sp < 2 := by
    rcases Nat.lt_or_ge sp 2 with h | h
    · exact h
    · rw [Array.getElem?_eq_none (by omega)] at hK; cases hK
  refine wpAny_execs_cons (wpAny_Assign_Name (wpAny_BinOp (wpAny_Constant_int ?_)))
  refine wpAny_BinOp (wpAny_BinOp ?_)
  refine nm_loc (s := { s with toks := _ }) O (.head _) hnum ?_
  refine wpAny_Constant_int (floordiv_int (by decide) ?_ (Or.inl (PyProof.noPylong_small (by omega))))
  refine wpAny_Constant_int (mod_int' (by decide) ?_)
  refine PyProof.Rows.add_int ?_
  generalize (1 + (m.fdiv 8).fmod 3 : Int) = g
  refine st_cell (s := ⟨s.heap, s.gens, s.drawn, _, s.os⟩) (O.permL (L' := (Lf + 1 + 1, og) :: (pre ++ (dq, oq) :: (364, tabObj ps) :: (X ++ (kl, ok) :: Y))) (by walk_at "perm")) rfl hog fun h₁ og' hog' O₁ => ?_
  dsimp only
  refine wpAny_execs_cons (wpAny_If (wpAny_isTrue_Compare1 ?_))
  refine methodCall_KW (Subscript_ ?_)
  refine nm_loc (s := ⟨h₁, s.gens, s.drawn, _, s.os⟩) O₁ (.head _) ll.made ?_
  refine nm_loc (s := ⟨h₁, s.gens, s.drawn, _, s.os⟩) O₁ (.head _) hsp ?_
  refine item_list (s := ⟨h₁, s.gens, s.drawn, _, s.os⟩) (IsList.keep hml O₁.keep) (by omega) (by omega) (x := .ref t) (by simpa using hM) ?_
  refine meth_at (s := ⟨h₁, s.gens, s.drawn, _, s.os⟩) O₁ W ht (by walk_at "nsb") (by walk_at "noloc") (by k_is) (by k_is) (by k_is) ?_
  refine callWith_KW0 (O₁.X W) (by k_is) rfl (kwAll_cons ?_)
  refine List_ ?_
  walk_at "arg"
  refine nm_cell (s := ⟨h₁, s.gens, s.drawn, _, s.os⟩) O₁ rfl (.inr (.head _)) hog' ?_
  walk_at "args1"
  refine new_list (s := ⟨h₁, s.gens, s.drawn, _, s.os⟩) O₁ (by simp) fun h₂ gl O₂ => ?_
  obtain ⟨B₂, k₂, hb₂, O₃⟩ := O₂.freeze1
  have W₂ := W.le k₂
  refine kwAll_nil ⟨O₃.X W₂, ?_⟩
  have hin₂ : InTabs w B₂ kvs nm (toS ikvs) := hin.imp id fun ⟨a, x, y, z⟩ => ⟨a, x, y, k₂.dict z⟩
  refine wpAny_call (c_remove (s := ⟨h₂, s.gens, s.drawn, _, s.os⟩) (ikvs := ikvs) (gl := gl) (gone := g) (X := X) (Y := (kl, ok) :: (Lf + 1 + 1, og') :: Y) (pre := pre) (O₃.permL (by walk_at "perm")) W₂ (r.le (by decide)) Fo (k₂ _ _ ht) (k₂ _ _ hc) (k₂ _ _ hq) (hqd.keeps k₂) hn (StRead.le rd k₂) hC hkz hin₂ sm hz hoq (tab.le k₂) hb₂ (by kernel_rfl) fun B₃ h₃ tk₃ g₃ T oT' oq' rl a ps' X' tn' k₃ hrl hT' haS ha hoq' tab' O₄ hg₃ => ?_)
  dsimp only
  have kB := k₂.trans k₃
  have W₃ := W.le kB
  obtain ⟨vs, htu, hkl⟩ := hrk
  have hvl := htu.length
  refine own_LC (cl := [("gone", Lf + 1 + 1)]) (Subscript_ ?_)
  refine nm_loc (s := ⟨h₃, g₃, s.drawn, tk₃, s.os⟩) O₄ (.head _) ll.kept ?_
  refine nm_loc (s := ⟨h₃, g₃, s.drawn, tk₃, s.os⟩) O₄ (.head _) hsp ?_
  refine item_own (s := ⟨h₃, g₃, s.drawn, tk₃, s.os⟩) O₄ (x := kl) (o := ok) (by simp) lok hK (by omega) ?_
  refine iter_list (s := ⟨h₃, g₃, s.drawn, tk₃, s.os⟩) O₄ (IsList.keep hkl fun b o e => O₄.keep _ _ (kB _ _ e)) fun h₅ it oi li _ O₅ => ?_
  refine ⟨_, _, _, _, O₅, self_list (s₂ := ⟨h₅, g₃, s.drawn, tk₃, s.os⟩) O₅ li, fun D C h₆ tk₆ O₆ => ?_⟩
  refine loop_eq (w := w) (B := B₃) (vs := vs) (rows := rows) (g := g) (og := og') (by exact Fo.hd) (.inr (by simp)) hog' (IsList.keep hkl kB) (htu.le kB) (by omega) rows.length 0 ⟨h₆, g₃, s.drawn, tk₆, s.os⟩ [] oi #[] 0 _ (by omega) li (by rw [List.take_zero]; exact .nil) (by simp) (O₆.permL (.swap ..)) fun h₇ tk₇ l₇ acc n₇ hia O₇ => ?_
  refine ⟨rfl, B₃, l₇, _, _, _, O₇, fun h₈ O₈ => ?_⟩
  have hD := (O₈.ob _ (.head _)).1
  rw [hgone g] at hia
  have hleft : ∃ xs, B₃.IsList rl xs.toArray ∧ IntsAre xs (if (valueAt ikvs g).isSome = true then [g] else []) := by
    cases hv : (valueAt ikvs g).isSome with
    | true => rw [hv] at hrl; exact ⟨[.int g _], hrl, .cons _ _ .nil⟩
    | false => rw [hv] at hrl; exact ⟨[], hrl, .nil⟩
  obtain ⟨xs, hxs, hxi⟩ := hleft
  refine ne_ints (s := ⟨h₈, g₃, s.drawn, tk₇, s.os⟩) (xs := xs) (ys := acc.toList) (IsList.keep hxs O₈.keep) ⟨_, hD, rfl, n₇, by simp⟩ hxi hia (r.le (by decide)) (wpAny_truthy_bool ?_)
  refine wpAny_execs_nil ?_
  replace O₈ := O₈.dropL
  refine wpAny_execs_cons (Assign_Tuple (Tuple_ ?_))
  walk_at "arg"
  refine own_LC (cl := [("gone", Lf + 1 + 1)]) (Subscript_ ?_)
  refine nm_loc (s := ⟨h₈, g₃, s.drawn, tk₇, s.os⟩) O₈ (.head _) ll.kept ?_
  refine nm_loc (s := ⟨h₈, g₃, s.drawn, tk₇, s.os⟩) O₈ (.head _) hsp ?_
  refine item_own (s := ⟨h₈, g₃, s.drawn, tk₇, s.os⟩) O₈ (x := kl) (o := ok) (by simp) lok hK (by omega) ?_
  refine iter_list (s := ⟨h₈, g₃, s.drawn, tk₇, s.os⟩) O₈ (IsList.keep hkl fun b o e => O₈.keep _ _ (kB _ _ e)) fun h₉ it2 oi2 li2 _ O₉ => ?_
  refine ⟨_, _, _, _, O₉, self_list (s₂ := ⟨h₉, g₃, s.drawn, tk₇, s.os⟩) O₉ li2, fun D2 C2 h₁₀ tk₁₀ O₁₀ => ?_⟩
  refine loop_ne (w := w) (B := B₃) (vs := vs) (rows := rows) (g := g) (og := og') (by exact Fo.hd) (.inr (by simp)) hog' (IsList.keep hkl kB) (htu.le kB) (by omega) rows.length 0 B₃ ⟨h₁₀, g₃, s.drawn, tk₁₀, s.os⟩ [] oi2 #[] 0 _ (by omega) (.refl _) li2 (by rw [List.take_zero]; exact .nil) (by simp) (O₁₀.permL (.swap ..)) fun B₁₁ h₁₁ tk₁₁ l₁₁ acc2 n₁₁ k₁₁ htu2 O₁₁ => ?_
  refine ⟨rfl, B₁₁, l₁₁, _, _, _, O₁₁, fun h₁₂ O₁₂ => ?_⟩
  obtain ⟨B₁₃, k₁₃, hb₁₃, O₁₃⟩ := O₁₂.freeze1
  have hrk' : RowsAt B₁₃ D2 (rows.filter fun p => decide (p.1 ≠ g)) := ⟨acc2.toList, htu2.le k₁₃, _, hb₁₃, rfl, n₁₁, by simp⟩
  walk_at "arg"
  refine wpAny_Constant_bool ?_
  walk_at "args1"
  refine new_tuple (s := ⟨h₁₂, g₃, s.drawn, _, s.os⟩) O₁₃ (by simp) fun h₁₄ t₁₄ _ O₁₄ => ?_
  obtain ⟨B₁₄, k₁₄, hb₁₄, O₁₅⟩ := O₁₄.freeze1
  refine unpack_two (s := ⟨h₁₄, g₃, s.drawn, _, s.os⟩) Fo.hd O₁₅ ⟨_, O₁₅.keep _ _ hb₁₄, rfl, _, rfl⟩ rfl fun h₁₆ O₁₆ => ?_
  refine assign_Sub ?_
  refine nm_loc (s := ⟨h₁₆, g₃, s.drawn, _, s.os⟩) O₁₆ (.head _) ll.kept ?_
  refine nm_loc (s := ⟨h₁₆, g₃, s.drawn, _, s.os⟩) O₁₆ (.head _) hsp ?_
  refine setitem_list (s := ⟨h₁₆, g₃, s.drawn, _, s.os⟩) (O₁₆.permL (L' := (kl, ok) :: (T, oT') :: (dq, oq') :: (364, tabObj ps') :: (X' ++ (Lf + 1 + 1, og') :: Y)) (by walk_at "perm")) lok (by omega) (by omega) fun h₁₇ ok' lok' O₁₇ => ?_
  obtain ⟨l', hl'⟩ := Put.any (x := ("is_written" : Str)) (v := .bool true) l
  refine wpAny_assign_Name (st_loc (s := ⟨h₁₇, g₃, s.drawn, _, s.os⟩) O₁₇ hl' (fun h₁₈ O₁₈ => ?_) rfl rfl rfl)
  refine wpAny_execs_nil ?_
  have kZ := ((k₁₁.trans k₁₃).trans k₁₄)
  exact kk B₁₄ h₁₈ _ g₃ l' T oT' oq' ok' og' _ g a ps' X' D2 tn' (kB.trans kZ) (ll.putIw hl') hT' haS (kZ.dict ha) hoq' (tab'.le kZ) lok' hog' (hrk'.keep k₁₄) (O₁₈.permL (by walk_at "perm")) hg₃
end
-- Q7
/-- what the law keeps of what lies beneath -/
def BenOf (B : Heap) (bv : Value) (rm : Option (List (Str × List (Int × Int)))) : Prop := (rm = none ∧ bv = .none) ∨ ∃ RR bl, rm = some RR ∧ bv = .ref bl ∧ TwoAt B bl (rowsIn RR "t") (rowsIn RR "u")
def GoodR (RR : List (Str × List (Int × Int))) : Prop := (∀ p ∈ RR, (p.2.map (·.1)).Nodup ∧ p.2.length ≤ 100) ∧ (RR.map (·.1)).Nodup ∧ RR.length ≤ 100
theorem GoodR.row {RR : List (Str × List (Int × Int))} (g : GoodR RR) (nm : Str) : ((rowsIn RR nm).map (·.1)).Nodup ∧ (rowsIn RR nm).length ≤ 100 := by
  unfold rowsIn lookR
  cases h : RR.find? (fun p => decide (p.1 = nm)) with
  | none => exact ⟨List.nodup_nil, Nat.zero_le _⟩
  | some p => exact g.1 p (List.mem_of_find?_eq_some h)
section
variable {w : World} {A : Around} {E : Value → Shared → Prop} {s : Shared} {B : Heap} {F F' S S' : NsL} {L L' : ObL} {R : Result → Shared → Prop} {h h' : Heap} {env : Env}
theorem BenOf.le {bv : Value} {rm} {B' : Heap} (x : BenOf B bv rm) (k : Le B B') : BenOf B' bv rm := x.imp id fun ⟨RR, bl, a, b, c⟩ => ⟨RR, bl, a, b, c.keep k⟩
theorem BenOf.ben {v bv : Value} {rm} (x : BenOf B bv rm) (y : Held w B L v rm) (g : ∀ RR, rm = some RR → GoodR RR) : Ben w B L v bv := by
  rcases x with ⟨rfl, rfl⟩ | ⟨RR, bl, rfl, rfl, htw⟩
  · cases y; exact .inl ⟨rfl, rfl⟩
  · cases y with
    | some hS kn hd tb => exact .inr ⟨bl, _, _, rfl, htw, tb.tabs hS kn hd ((g _ rfl).row "t").2 ((g _ rfl).row "u").2⟩
variable {c cd st sd : Addr} {n : Int} {tn : Tok} {vc vm : Value} {S1 : NsL} {rc rm : Option (List (Str × List (Int × Int)))}
set_option maxHeartbeats 2000000 in
theorem br_flush {Lf sc kl ml fl k0 k1 : Addr} {cdl bv : Value} {l : List (Str × Value)} {iw : Bool} {ok ost : Obj} {Q : Flow → Shared → Prop}
    (O : Own B ((Lf, l) :: F) ((cd, cachedNs st vc n tn) :: (sd, memNs vm) :: S1) L s.heap) (W : Wd w B) (r : Room A 140) (Fo : Fro A (((Lf, l) :: F).map (·.1)))
    (ll : LL l sc c kl ml fl bv iw) (hkl : (kl, ok) ∈ L) (lok : LsO ok #[.ref k0, .ref k1]) (h0 : RowsAt B k0 (rowsIn (rc.getD []) "t")) (h1 : RowsAt B k1 (rowsIn (rc.getD []) "u"))
    (hc : B.get? c = some (instObj 66 cd)) (hst : B.get? st = some (instObj 138 sd)) (hcs : B.get? (Lf + 1) = some ost) (hcsd : ost.data = .cell (some (.ref st)))
    (hvc : Held w B L vc rc) (hvm : Held w B L vm rm) (hb : BenOf B bv rm) (hn0 : 0 ≤ n) (hnz : n = 0 → rm = rc) (hnone : rc = none → rm = none) (hiw : iw = rc.isSome) (hg : ∀ RR, rc = some RR → GoodR RR)
    (kk : ∀ B' h' tk gens' l' bv' vm' tn', Le B B' → LL l' sc c kl ml fl bv' iw → Held w B' [] vm' rc → BenOf B' bv' rc → Own B' ((Lf, l') :: F) ((cd, cachedNs st vc 0 tn') :: (sd, memNs vm') :: S1) L h' → (AllBare s.gens → AllBare gens') → Q .next ⟨h', gens', s.drawn, tk, s.os⟩) :
    wpAny (model prog w) A (execs fluBr (envLaw Lf cdl)) Q E s := by
  have hg1 : (rowsIn (rc.getD []) "t").length ≤ 100 := by
    cases rc with
    | none => simp [rowsIn, lookR]
    | some RR => exact ((hg RR rfl).row "t").2
  have hg2 : (rowsIn (rc.getD []) "u").length ≤ 100 := by
    cases rc with
    | none => simp [rowsIn, lookR]
    | some RR => exact ((hg RR rfl).row "u").2
  refine wpAny_execs_cons (wpAny_Expr (MethodCall_ ?_))
  refine nm_loc O (.head _) ll.cached ?_
  refine meth_at O W hc (by walk_at "nsb") (by walk_at "noloc") (by k_is) (by k_is) (by k_is) ?_
  walk_at "cw0"
  refine wpAny_call (c_flush O W (r.le (by decide)) hc hst hvc.handed fun h₁ tk₁ tn₁ O₁ => ?_)
  rw [show (if 0 < n then 0 else n) = 0 from by split <;> omega] at O₁
  generalize hvm1 : (if 0 < n then vc else vm) = vm₁ at O₁
  have hvm₁ : Held w B L vm₁ rc := by
    by_cases e : 0 < n
    · rw [if_pos e] at hvm1; rw [← hvm1]; exact hvc
    · rw [if_neg e] at hvm1; rw [← hvm1, ← hnz (by omega)]; exact hvm
  dsimp only
  have rest : ∀ (B₂ : Heap) (h₂ : Heap) (tk₂ : Nat) (l' : List (Str × Value)) (bv' : Value), Le B B₂ → LL l' sc c kl ml fl bv' iw → BenOf B₂ bv' rc → Own B₂ ((Lf, l') :: F) ((cd, cachedNs st vc 0 tn₁) :: (sd, memNs vm₁) :: S1) L h₂ →
      wpAny (model prog w) A (execs (fluBr.drop 2) (envLaw Lf cdl)) Q E ⟨h₂, s.gens, s.drawn, tk₂, s.os⟩ := by
    intro B₂ h₂ tk₂ l' bv' k₂ ll' hb' O₂
    have W₂ := W.le k₂
    have hvm₂ := hvm₁.mono k₂ (fun p hp => hp)
    have Fo₂ : Fro A (((Lf, l') :: F).map (·.1)) := Fo
    refine wpAny_execs_cons (wpAny_If (wpAny_isTrue_Not (wpAny_isTrue_value (Call_ ?_))))
    walk_at "nm"
    walk_at "cw"
    walk_at "arg"
    refine nm_cell (s := ⟨h₂, s.gens, s.drawn, tk₂, s.os⟩) O₂ rfl (.inl (k₂ _ _ hcs)) hcsd ?_
    walk_at "arg"
    refine nm_loc (s := ⟨h₂, s.gens, s.drawn, tk₂, s.os⟩) O₂ (.head _) ll'.beneath ?_
    walk_at "args0"
    refine wpAny_call (c_beneath (s := ⟨h₂, s.gens, s.drawn, tk₂, s.os⟩) O₂ W₂ (r.le (by decide)) Fo₂ (k₂ _ _ hst) (.tail _ (.head _)) hvm₂.handed (hb'.ben hvm₂ hg) fun B₃ h₃ tk₃ g₃ k₃ O₃ hg₃ => ?_)
    refine wpAny_truthy_bool ?_
    refine wpAny_execs_nil ?_
    have W₃ := W₂.le k₃
    refine wpAny_execs_cons (wpAny_Expr (Call_ ?_))
    walk_at "nm"
    walk_at "cw"
    walk_at "arg"
    refine nm_cell (s := ⟨h₃, g₃, s.drawn, tk₃, s.os⟩) O₃ rfl (.inl (k₃ _ _ (k₂ _ _ hcs))) hcsd ?_
    walk_at "args0"
    refine wpAny_call (c_copied (s := ⟨h₃, g₃, s.drawn, tk₃, s.os⟩) (O₃.permS (.swap ..)) W₃ (r.le (by decide)) Fo₂ (k₃ _ _ (k₂ _ _ hst)) (hvm₂.mono k₃ (fun p hp => hp)) (fun RR e => ?_) fun B₄ h₄ tk₄ v' k₄ hv' O₄ => ?_)
    · obtain ⟨a, b, d⟩ := hg RR e
      exact ⟨fun p hp => ⟨(a p hp).1, Nat.le_trans (a p hp).2 (by decide)⟩, b, Nat.le_trans d (by decide)⟩
    dsimp only
    refine wpAny_execs_nil ?_
    exact kk B₄ h₄ tk₄ g₃ l' bv' v' tn₁ ((k₂.trans k₃).trans k₄) ll' hv' (hb'.le (k₃.trans k₄)) (O₄.permS (.swap ..)) hg₃
  refine wpAny_execs_cons (wpAny_Assign_Name (wpAny_IfExp (wpAny_isTrue_value ?_)))
  refine nm_loc (s := ⟨h₁, s.gens, s.drawn, tk₁, s.os⟩) O₁ (.head _) ll.iw ?_
  refine wpAny_truthy_bool ?_
  cases rc with
  | none =>
    subst hiw
    refine nm_loc (s := ⟨h₁, s.gens, s.drawn, tk₁, s.os⟩) O₁ (.head _) ll.beneath ?_
    obtain ⟨l', hl'⟩ := Put.any (x := ("beneath" : Str)) (v := bv) l
    refine st_loc (s := ⟨h₁, s.gens, s.drawn, tk₁, s.os⟩) O₁ hl' (fun h₂ O₂ => ?_) rfl rfl rfl
    dsimp only
    exact rest B h₂ _ l' bv (.refl B) (ll.putBv hl') (hnone rfl ▸ hb) O₂
  | some RR =>
    subst hiw
    refine own_LC (cl := []) ?_
    refine nm_loc (s := ⟨h₁, s.gens, s.drawn, tk₁, s.os⟩) O₁ (.head _) ll.kept ?_
    refine iter_list (s := ⟨h₁, s.gens, s.drawn, tk₁, s.os⟩) O₁ (LsO.list (O₁.ob _ hkl).1 lok) fun h₃ it oi li _ O₃ => ?_
    refine ⟨_, _, _, _, O₃, self_list (s₂ := ⟨h₃, s.gens, s.drawn, tk₁, s.os⟩) O₃ li, fun D C h₄ tk₄ O₄ => ?_⟩
    refine loop_copy (s := ⟨h₄, s.gens, s.drawn, tk₄, s.os⟩) O₄ W (by exact Fo.hd) li hkl lok h0 h1 (by omega) (by omega) fun B₅ l₅ h₅ tk₅ k₅ O₅ htw => ?_
    refine ⟨rfl, B₅, l₅, _, _, _, O₅, fun h₆ O₆ => ?_⟩
    obtain ⟨l', hl'⟩ := Put.any (x := ("beneath" : Str)) (v := .ref D) l
    refine st_loc (s := ⟨h₆, s.gens, s.drawn, tk₅, s.os⟩) O₆ hl' (fun h₇ O₇ => ?_) rfl rfl rfl
    dsimp only
    exact rest B₅ h₇ _ l' (.ref D) k₅ (ll.putBv hl') (.inr ⟨RR, D, rfl, rfl, htw⟩) O₇
end
-- Q8
section
variable {w : World} {A : Around} {E : Value → Shared → Prop} {s : Shared} {B : Heap} {F F' S S' : NsL} {L L' : ObL} {R : Result → Shared → Prop} {h h' : Heap} {env : Env}
theorem held_tabs {v : Value} {r} (x : Held w B L v r) (g : ∀ RR, r = some RR → GoodR RR) : TabsIn w B L v (rowsIn (r.getD []) "t") (rowsIn (r.getD []) "u") := by
  cases x with
  | none => exact ⟨[], [], .none, .nil, .none, .nil, Nat.zero_le _, Nat.zero_le _⟩
  | some a b c d => exact d.tabs a b c ((g _ rfl).row "t").2 ((g _ rfl).row "u").2
variable {c cd st sd : Addr} {n : Int} {tn : Tok} {vc vm : Value} {rc rm : Option (List (Str × List (Int × Int)))}
theorem held_read {st sd c cd : Addr} (hc : B.get? c = some (instObj 66 cd)) (hm : (cd, cachedNs st vc n tn) ∈ S) (hst : B.get? st = some (instObj 138 sd)) (hm2 : (sd, memNs vm) ∈ S) (x : Held w B L vc rc) (y : Held w B L' vm rm) (hnone : rc = none → rm = none) : StRead w B S c vc := by
  refine st_cached (sd := sd) hc hm ?_
  cases x with
  | none =>
    have := hnone rfl
    subst this
    cases y
    exact .inr ⟨rfl, hst, hm2⟩
  | some => exact .inl ⟨_, rfl⟩
set_option maxHeartbeats 2000000 in
theorem br_check {Lf sc kl ml fl k0 k1 t1 td1 q1 t2 td2 q2 : Addr} {cdl bv nx1 nx2 : Value} {tm1 tm2 : Tok} {l : List (Str × Value)} {iw : Bool} {ok ost : Obj} {Q : Flow → Shared → Prop}
    (O : Own B ((Lf, l) :: F) S L s.heap) (W : Wd w B) (r : Room A 140) (Fo : Fro A (((Lf, l) :: F).map (·.1)))
    (ll : LL l sc c kl ml fl bv iw) (hkl : (kl, ok) ∈ L) (lok : LsO ok #[.ref k0, .ref k1]) (h0 : RowsAt B k0 (rowsIn (rc.getD []) "t")) (h1 : RowsAt B k1 (rowsIn (rc.getD []) "u")) (hml : B.IsList ml #[.ref t1, .ref t2])
    (ht1 : B.get? t1 = some (instObj 426 td1)) (ht2 : B.get? t2 = some (instObj 426 td2)) (m1 : (td1, tableNs c "t" tm1 q1 nx1) ∈ S) (m2 : (td2, tableNs c "u" tm2 q2 nx2) ∈ S) (mc : (cd, cachedNs st vc n tn) ∈ S) (mm : (sd, memNs vm) ∈ S)
    (hc : B.get? c = some (instObj 66 cd)) (hst : B.get? st = some (instObj 138 sd)) (hcs : B.get? (Lf + 1) = some ost) (hcsd : ost.data = .cell (some (.ref st)))
    (hvc : Held w B L vc rc) (hvm : Held w B L vm rm) (hb : BenOf B bv rm) (hnone : rc = none → rm = none) (hg : ∀ RR, rc = some RR → GoodR RR) (hgm : ∀ RR, rm = some RR → GoodR RR)
    (kk : ∀ B' h' tk gens', Le B B' → Own B' ((Lf, l) :: F) S L h' → (AllBare s.gens → AllBare gens') → Q .next ⟨h', gens', s.drawn, tk, s.os⟩) :
    wpAny (model prog w) A (exec chkSt (envLaw Lf cdl)) Q E s := by
  refine wpAny_If (isTrue_or (wpAny_isTrue_Compare1 ?_))
  refine own_LC (cl := []) ?_
  refine nm_loc O (.head _) ll.made ?_
  refine iter_list O (IsList.keep hml O.keep) fun h₃ it oi li _ O₃ => ?_
  refine ⟨_, _, _, _, O₃, self_list (s₂ := ⟨h₃, s.gens, s.drawn, s.toks, s.os⟩) O₃ li, fun D C h₄ tk₄ O₄ => ?_⟩
  refine loop_rows (s := ⟨h₄, s.gens, s.drawn, tk₄, s.os⟩) O₄ W (r.le (by decide)) Fo li hml ht1 ht2 m1 m2 (held_read hc mc hst mm hvc hvm hnone) (held_tabs hvc hg) fun B₅ l₅ h₅ tk₅ g₅ k₅ O₅ htw hg₅ => ?_
  refine ⟨rfl, B₅, l₅, _, _, _, O₅, fun h₆ O₆ => ?_⟩
  refine nm_loc (s := ⟨h₆, g₅, s.drawn, tk₅, s.os⟩) O₆ (.head _) ll.kept ?_
  have hkt : TwoAt h₆ kl (rowsIn (rc.getD []) "t") (rowsIn (rc.getD []) "u") := ⟨k0, k1, LsO.list (O₆.ob _ hkl).1 lok, h0.keep fun b o e => O₆.keep _ _ (k₅ _ _ e), h1.keep fun b o e => O₆.keep _ _ (k₅ _ _ e)⟩
  refine ne_two (s := ⟨h₆, g₅, s.drawn, tk₅, s.os⟩) (htw.keep O₆.keep) hkt (r.le (by decide)) (wpAny_truthy_bool ?_)
  have W₅ := W.le k₅
  refine isTrue_or (wpAny_isTrue_Not (wpAny_isTrue_value (Call_ ?_)))
  walk_at "nm"
  walk_at "cw"
  walk_at "arg"
  refine nm_cell (s := ⟨h₆, g₅, s.drawn, tk₅, s.os⟩) O₆ rfl (.inl (k₅ _ _ hcs)) hcsd ?_
  walk_at "arg"
  refine nm_loc (s := ⟨h₆, g₅, s.drawn, tk₅, s.os⟩) O₆ (.head _) ll.beneath ?_
  walk_at "args0"
  have hvm₅ := hvm.mono k₅ (fun p hp => hp)
  refine wpAny_call (c_beneath (s := ⟨h₆, g₅, s.drawn, tk₅, s.os⟩) O₆ W₅ (r.le (by decide)) Fo (k₅ _ _ hst) mm hvm₅.handed ((hb.le k₅).ben hvm₅ hgm) fun B₇ h₇ tk₇ g₇ k₇ O₇ hg₇ => ?_)
  refine wpAny_truthy_bool ?_
  refine isTrue_or_nil ?_
  refine wpAny_execs_nil ?_
  exact kk B₇ h₇ tk₇ g₇ (k₅.trans k₇) O₇ fun z => hg₇ (hg₅ z)
end
-- Q9
/-- what stands still through the law's loop -/
structure Fx where
  (sc c cd st sd kl ml fl t1 td1 q1 qd1 dq1 t2 td2 q2 qd2 dq2 : Addr)
  (tc1 tm1 tc2 tm2 : Tok)
  ost : Obj
  vs : List Value
  ns : List Int
structure FxOk (w : World) (B : Heap) (x : Fx) (Lf : Addr) : Prop where
  sc : B.IsList x.sc x.vs.toArray
  iar : IntsAre x.vs x.ns
  len : x.vs.length ≤ 63
  c : B.get? x.c = some (instObj 66 x.cd)
  st : B.get? x.st = some (instObj 138 x.sd)
  ml : B.IsList x.ml #[.ref x.t1, .ref x.t2]
  t1 : B.get? x.t1 = some (instObj 426 x.td1)
  q1 : B.get? x.q1 = some (instObj 238 x.qd1)
  qd1 : NsB B x.qd1 (lruNs x.dq1 x.tc1)
  t2 : B.get? x.t2 = some (instObj 426 x.td2)
  q2 : B.get? x.q2 = some (instObj 238 x.qd2)
  qd2 : NsB B x.qd2 (lruNs x.dq2 x.tc2)
  cs : B.get? (Lf + 1) = some x.ost
  csd : x.ost.data = .cell (some (.ref x.st))
theorem FxOk.le {w : World} {B B' : Heap} {x : Fx} {Lf : Addr} (y : FxOk w B x Lf) (k : Le B B') : FxOk w B' x Lf :=
  ⟨IsList.keep y.sc k, y.iar, y.len, k _ _ y.c, k _ _ y.st, IsList.keep y.ml k, k _ _ y.t1, k _ _ y.q1, y.qd1.keeps k, k _ _ y.t2, k _ _ y.q2, y.qd2.keeps k, k _ _ y.cs, y.csd⟩
/-- one table's values -/
structure Tv where
  nx : Value
  f : Int
  tf : Tok
  k : Addr
  oq : Obj
structure TvOk (w : World) (B : Heap) (v : Tv) (rows : List (Int × Int)) (j : Nat) : Prop where
  oq : v.oq.IsDictOf (intKind prog w) []
  told : RowsAt B v.k rows
  ids : ∀ p ∈ rows, 1 ≤ p.1 ∧ p.1 < v.f
  nd : (rows.map (·.1)).Nodup
  f1 : 1 ≤ v.f
  fj : v.f ≤ j + 1
  len : rows.length ≤ j
  nx : (v.nx = .none ∧ v.f = 1) ∨ ∃ t, v.nx = .int v.f t
theorem TvOk.mono {w : World} {B B' : Heap} {v : Tv} {rows : List (Int × Int)} {j : Nat} (y : TvOk w B v rows j) (k : Le B B') : TvOk w B' v rows (j + 1) :=
  ⟨y.oq, y.told.keep k, y.ids, y.nd, y.f1, by have := y.fj; omega, by have := y.len; omega, y.nx⟩
theorem TvOk.insert {w : World} {B B' : Heap} {v : Tv} {rows : List (Int × Int)} {j : Nat} (y : TvOk w B v rows j) {m : Int} {ti tf : Tok} {k : Addr} {oq : Obj} (hoq : oq.IsDictOf (intKind prog w) []) (hr : RowsAt B' k (rows ++ [(v.f, m)])) :
    TvOk w B' ⟨.int (v.f + 1) ti, v.f + 1, tf, k, oq⟩ (rows ++ [(v.f, m)]) (j + 1) := by
  have f1 := y.f1
  have fj := y.fj
  refine ⟨hoq, hr, fun p hp => ?_, ?_, by show 1 ≤ v.f + 1; omega, by show v.f + 1 ≤ ((j + 1 : Nat) : Int) + 1; omega, by have := y.len; simp; omega, .inr ⟨ti, rfl⟩⟩
  · show 1 ≤ p.1 ∧ p.1 < v.f + 1
    rcases List.mem_append.mp hp with hp | hp
    · have := y.ids p hp; omega
    · rw [List.mem_singleton] at hp; subst hp; show 1 ≤ v.f ∧ v.f < v.f + 1; omega
  · rw [List.map_append, List.nodup_append]
    refine ⟨y.nd, by simp, fun a ha b hb e => ?_⟩
    obtain ⟨p, hp, rfl⟩ := List.mem_map.mp ha
    have := (y.ids p hp).2
    simp at hb
    omega
theorem TvOk.remove {w : World} {B B' : Heap} {v : Tv} {rows : List (Int × Int)} {j : Nat} (y : TvOk w B v rows j) {g : Int} {k : Addr} {oq : Obj} (hoq : oq.IsDictOf (intKind prog w) []) (hr : RowsAt B' k (rows.filter fun p => decide (p.1 ≠ g))) :
    TvOk w B' ⟨v.nx, v.f, v.tf, k, oq⟩ (rows.filter fun p => decide (p.1 ≠ g)) (j + 1) := by
  refine ⟨hoq, hr, fun p hp => y.ids p (List.mem_filter.mp hp).1, ?_, y.f1, by have := y.fj; show v.f ≤ ((j + 1 : Nat) : Int) + 1; omega, by have := y.len; have := List.length_filter_le (fun p => decide (p.1 ≠ g)) rows; omega, y.nx⟩
  exact List.Nodup.sublist (List.Sublist.map _ List.filter_sublist) y.nd
def GJ (RR : List (Str × List (Int × Int))) (j : Nat) : Prop := (∀ p ∈ RR, (p.2.map (·.1)).Nodup ∧ p.2.length ≤ j) ∧ (RR.map (·.1)).Nodup ∧ RR.length ≤ j
theorem GJ.good {RR : List (Str × List (Int × Int))} {j : Nat} (g : GJ RR j) (h : j ≤ 100) : GoodR RR := ⟨fun p hp => ⟨(g.1 p hp).1, by have := (g.1 p hp).2; omega⟩, g.2.1, by have := g.2.2; omega⟩
theorem GJ.mono {RR : List (Str × List (Int × Int))} {j : Nat} (g : GJ RR j) : GJ RR (j + 1) := ⟨fun p hp => ⟨(g.1 p hp).1, by have := (g.1 p hp).2; omega⟩, g.2.1, by have := g.2.2; omega⟩
theorem storeR_keys (R : List (Str × List (Int × Int))) (nm : Str) (rows : List (Int × Int)) (h : (R.map (·.1)).Nodup) : ((storeR R nm rows).map (·.1)).Nodup := by
  unfold storeR
  split
  · have : (R.map fun p => if p.1 = nm then (p.1, rows) else p).map (·.1) = R.map (·.1) := by
      rw [List.map_map]
      refine List.map_congr_left fun p _ => ?_
      show (if p.1 = nm then (p.1, rows) else p).1 = p.1
      split <;> rfl
    rw [this]; exact h
  · rename_i hany
    rw [List.map_append, List.nodup_append]
    refine ⟨h, by simp, fun a ha b hb e => ?_⟩
    obtain ⟨p, hp, rfl⟩ := List.mem_map.mp ha
    simp at hb
    exact hany (List.any_eq_true.mpr ⟨p, hp, by simp [e, hb]⟩)
theorem GJ.store {RR : List (Str × List (Int × Int))} {j : Nat} (g : GJ RR j) {nm : Str} {rows : List (Int × Int)} (hn : (rows.map (·.1)).Nodup) (hl : rows.length ≤ j + 1) : GJ (storeR RR nm rows) (j + 1) := by
  refine ⟨fun p hp => ?_, storeR_keys _ _ _ g.2.1, by have := storeR_length RR nm rows; have := g.2.2; omega⟩
  unfold storeR at hp
  split at hp
  · obtain ⟨q, hq, rfl⟩ := List.mem_map.mp hp
    split
    · exact ⟨hn, hl⟩
    · exact ⟨(g.1 q hq).1, by have := (g.1 q hq).2; omega⟩
  · rcases List.mem_append.mp hp with hp | hp
    · exact ⟨(g.1 p hp).1, by have := (g.1 p hp).2; omega⟩
    · rw [List.mem_singleton] at hp; subst hp; exact ⟨hn, hl⟩
/-- the cache -/
def CC (w : World) (B : Heap) (vc : Value) (pre : ObL) (rc : Option (List (Str × List (Int × Int)))) (j : Nat) : Prop :=
  ∃ kvs, ((vc = .none ∧ pre = [] ∧ kvs = [] ∧ rc = none) ∨ ∃ T oT, vc = .ref T ∧ pre = [(T, oT)] ∧ oT.IsDictOf (strKind prog w) kvs ∧ rc.isSome = true) ∧ TabsOf w B kvs (rc.getD []) ∧ GJ (rc.getD []) j
theorem CC.mono {w : World} {B B' : Heap} {vc : Value} {pre : ObL} {rc} {j : Nat} (x : CC w B vc pre rc j) (k : Le B B') : CC w B' vc pre rc (j + 1) :=
  let ⟨kvs, a, b, c⟩ := x; ⟨kvs, a, b.le k, c.mono⟩
theorem CC.held {w : World} {B : Heap} {vc : Value} {pre Z : ObL} {rc} {j : Nat} {F S : NsL} {h : Heap} (x : CC w B vc pre rc j) (O : Own B F S (pre ++ Z) h) : Held w B (pre ++ Z) vc rc := by
  obtain ⟨kvs, ⟨rfl, rfl, rfl, rfl⟩ | ⟨T, oT, rfl, rfl, hd, hs⟩, tb, _⟩ := x
  · exact .none
  · obtain ⟨RR, rfl⟩ := Option.isSome_iff_exists.mp hs
    exact .some (O.notSysL (.head _)) (.inr (.head _)) hd tb
theorem CC.good {w : World} {B : Heap} {vc : Value} {pre : ObL} {rc} {j : Nat} (x : CC w B vc pre rc j) (h : j ≤ 100) : ∀ RR, rc = some RR → GoodR RR := by
  rintro RR rfl
  obtain ⟨_, _, _, g⟩ := x
  exact g.good h
theorem CC.look {w : World} {B : Heap} {vc : Value} {pre : ObL} {rc} {j : Nat} (x : CC w B vc pre rc j) (nm : Str) : ∃ kvs ikvs, ((vc = .none ∧ pre = [] ∧ kvs = []) ∨ ∃ T oT, vc = .ref T ∧ pre = [(T, oT)] ∧ oT.IsDictOf (strKind prog w) kvs) ∧
    kvs.length ≤ j ∧ InTabs w B kvs nm (toS ikvs) ∧ IRows w B ikvs (rowsIn (rc.getD []) nm) ∧ TabsOf w B kvs (rc.getD []) ∧ GJ (rc.getD []) j := by
  obtain ⟨kvs, a, tb, g⟩ := x
  have hl : kvs.length ≤ j := by rw [tb.length]; exact g.2.2
  have a' : ((vc = .none ∧ pre = [] ∧ kvs = []) ∨ ∃ T oT, vc = .ref T ∧ pre = [(T, oT)] ∧ oT.IsDictOf (strKind prog w) kvs) := by
    rcases a with ⟨a, b, c, _⟩ | ⟨T, oT, a, b, c, _⟩
    · exact .inl ⟨a, b, c⟩
    · exact .inr ⟨T, oT, a, b, c⟩
  rcases tb.look nm with ⟨h1, h2⟩ | ⟨a0, ikvs, rows, h1, h2, h3, h4, h5⟩
  · exact ⟨kvs, [], a', hl, .inl ⟨h1, rfl⟩, by unfold rowsIn; rw [h2]; exact .nil, tb, g⟩
  · exact ⟨kvs, ikvs, a', hl, .inr ⟨a0, h1, h3, h4⟩, by unfold rowsIn; rw [h2]; exact h5, tb, g⟩
theorem CC.store {w : World} {B B' : Heap} {kvs : List (Str × Value)} {R0 : List (Str × List (Int × Int))} {j : Nat} {nm : Str} {T a : Addr} {oT : Obj} {ikvs : List (Int × Value)} {rows : List (Int × Int)} (tb : TabsOf w B kvs R0) (g : GJ R0 j) (k : Le B B') (hd : oT.IsDictOf (strKind prog w) (stored kvs nm (.ref a)))
    (haS : (a == sysModules) = false) (ha : B'.DictOf (strKind prog w) a (toS ikvs)) (hi : IRows w B' ikvs rows) (hn : (rows.map (·.1)).Nodup) (hl : rows.length ≤ j + 1) : CC w B' (.ref T) [(T, oT)] (some (storeR R0 nm rows)) (j + 1) :=
  ⟨_, .inr ⟨T, oT, rfl, rfl, hd, rfl⟩, (tb.le k).store nm haS ha hi, g.store hn hl⟩
-- QA
/-- the law's values between the turns -/
structure St where
  (vc vm bv : Value)
  n : Int
  tn : Tok
  (rc rm : Option (List (Str × List (Int × Int))))
  pre : ObL
  (v1 v2 : Tv)
  (p1 p2 : Array Value)
  X : ObL
  (ok oF og : Obj)
  v0 : Option Value
abbrev stS (x : Fx) (y : St) : NsL := [(x.td1, tableNs x.c "t" x.tm1 x.q1 y.v1.nx), (x.td2, tableNs x.c "u" x.tm2 x.q2 y.v2.nx), (x.cd, cachedNs x.st y.vc y.n y.tn), (x.sd, memNs y.vm)]
abbrev stL (x : Fx) (y : St) (Lf : Addr) (Y : ObL) : ObL := y.pre ++ (x.dq1, y.v1.oq) :: (x.dq2, y.v2.oq) :: (298, tabObj y.p1) :: (364, tabObj y.p2) :: (y.X ++ (x.kl, y.ok) :: (x.fl, y.oF) :: (Lf + 1 + 1, y.og) :: Y)
structure Inv (w : World) (B : Heap) (y : St) (j : Nat) : Prop where
  vc : CC w B y.vc y.pre y.rc j
  vm : Held w B [] y.vm y.rm
  bv : BenOf B y.bv y.rm
  n0 : 0 ≤ y.n
  nj : y.n ≤ j
  nz : y.n = 0 → y.rm = y.rc
  none : y.rc = none → y.rm = none
  gm : ∀ RR, y.rm = some RR → GoodR RR
  p1 : TabOk B insPos insQual y.p1
  p2 : RemOk B y.p2 y.X
  ok : LsO y.ok #[.ref y.v1.k, .ref y.v2.k]
  oF : LsO y.oF #[.int y.v1.f y.v1.tf, .int y.v2.f y.v2.tf]
  og : y.og.data = .cell y.v0
  t1 : TvOk w B y.v1 (rowsIn (y.rc.getD []) "t") j
  t2 : TvOk w B y.v2 (rowsIn (y.rc.getD []) "u") j
theorem nm_ne1 : ("u" : Str) ≠ ("t" : Str) := by decide +kernel
theorem nm_ne2 : ("t" : Str) ≠ ("u" : Str) := by decide +kernel
section
variable {w : World} {A : Around} {E : Value → Shared → Prop} {s : Shared} {B : Heap} {F F' S S' : NsL} {L L' : ObL} {R : Result → Shared → Prop} {h h' : Heap} {env : Env}
theorem TvOk.next {v : Tv} {rows : List (Int × Int)} {j : Nat} {ikvs : List (Int × Value)} (y : TvOk w B v rows j) (hi : IRows w B ikvs rows) : (∃ ti, v.nx = .int v.f ti) ∨ (v.nx = .none ∧ v.f = 1 ∧ ikvs = []) := by
  rcases y.nx with ⟨a, b⟩ | h
  · refine .inr ⟨a, b, ?_⟩
    have hr : rows = [] := by
      cases rows with
      | nil => rfl
      | cons p r => have := y.ids p (.head _); omega
    have := hi.length
    rw [hr] at this
    exact List.length_eq_zero_iff.mp (by simpa using this)
  · exact .inl h
variable {x : Fx} {y : St} {Lf : Addr} {Y : ObL} {l : List (Str × Value)} {j sp : Nat} {cdl : Value} {m : Int} {tm ts : Tok} {Q : Flow → Shared → Prop}
set_option maxHeartbeats 4000000 in
theorem turn_ins (hsp2 : sp = 0 ∨ sp = 1) (O : Own B ((Lf, l) :: F) (stS x y) (stL x y Lf Y) s.heap) (W : Wd w B) (r : Room A 140) (Fo : Fro A (((Lf, l) :: F).map (·.1))) (fx : FxOk w B x Lf) (I : Inv w B y j) (hj : j ≤ 50)
    (ll : LL l x.sc x.c x.kl x.ml x.fl y.bv y.rc.isSome) (hnum : Loc l "number" (.int m tm)) (hsp : Loc l "spot" (.int (sp : Int) ts))
    (kk : ∀ B' h' tk gens' l' y', Le B B' → Inv w B' y' (j + 1) → LL l' x.sc x.c x.kl x.ml x.fl y'.bv y'.rc.isSome → Own B' ((Lf, l') :: F) (stS x y') (stL x y' Lf Y) h' → (AllBare s.gens → AllBare gens') → Q .next ⟨h', gens', s.drawn, tk, s.os⟩) :
    wpAny (model prog w) A (execs insBr (envLaw Lf cdl)) Q E s := by
  have hh := I.vc.held O
  have hn : y.n < 900 := by have := I.nj; omega
  rcases hsp2 with rfl | rfl
  · obtain ⟨kvs, ikvs, hC, hkl, hin, hir, tb, g⟩ := I.vc.look "t"
    have T := I.t1
    have hf1 := T.f1
    have hfj := T.fj
    refine br_insert (t := x.t1) (td := x.td1) (q := x.q1) (qd := x.qd1) (dq := x.dq1) (k := y.v1.k) (f := y.v1.f) (tf := y.v1.tf) (nx := y.v1.nx) (nm := "t") (oq := y.v1.oq) (S1 := [(x.td2, tableNs x.c "u" x.tm2 x.q2 y.v2.nx), (x.sd, memNs y.vm)]) (pre := y.pre)
      (Y := (x.dq2, y.v2.oq) :: (364, tabObj y.p2) :: (y.X ++ (Lf + 1 + 1, y.og) :: Y)) ((O.permS (by walk_at "perm")).permL (by walk_at "perm")) W (r.le (by decide)) Fo ll hnum hsp fx.ml rfl I.ok rfl rfl I.oF rfl rfl T.told (by have := T.len; omega)
      fx.t1 fx.c fx.q1 fx.qd1 hn (fun nx => held_read (n := y.n) (tn := y.tn) (vm := y.vm) fx.c (by simp) fx.st (sd := x.sd) (by simp) hh I.vm I.none) hC (by omega) hin hir.small (by have := hir.length; have := T.len; omega) T.oq I.p1 (T.next hir) (by omega) (by omega) (hir.fresh fun p hp => by have := (T.ids p hp).2; omega) ?_
    intro B' h' tk gens' l' T' oT' oq' ok' oF' v a ps' k' tf' tn' ti' kB ll' hv hT' haS ha hoq' tab' lok' lof' hrk' O' hg'
    have TI := T.insert (B' := B') (m := m) (ti := ti') (tf := tf') (k := k') hoq' hrk'
    have hrows : IRows w B' (ikvs ++ [(y.v1.f, v)]) (rowsIn (y.rc.getD []) "t" ++ [(y.v1.f, m)]) := (hir.le kB).snoc hv (by omega) (by omega)
    refine kk B' h' tk gens' l' { y with vc := .ref T', n := y.n + 1, tn := tn', rc := some (storeR (y.rc.getD []) "t" (rowsIn (y.rc.getD []) "t" ++ [(y.v1.f, m)])), pre := [(T', oT')], v1 := ⟨.int (y.v1.f + 1) ti', y.v1.f + 1, tf', k', oq'⟩, p1 := ps', ok := ok', oF := oF' } kB ?_ ll' ?_ hg'
    · refine ⟨CC.store tb g kB hT' haS ha hrows TI.nd (by have := T.len; simp; omega), I.vm.mono kB (fun p hp => hp), I.bv.le kB, ?_, ?_, ?_, ?_, I.gm, tab', I.p2.le kB, lok', lof', I.og, ?_, ?_⟩
      · have := I.n0; show 0 ≤ y.n + 1; omega
      · have := I.nj; show y.n + 1 ≤ ((j + 1 : Nat) : Int); omega
      · intro e; have := I.n0; have e : y.n + 1 = 0 := e; omega
      · intro e; cases e
      · show TvOk w B' _ (rowsIn (storeR (y.rc.getD []) "t" _) "t") (j + 1)
        rw [rowsIn_same]; exact TI
      · show TvOk w B' _ (rowsIn (storeR (y.rc.getD []) "t" _) "u") (j + 1)
        rw [rowsIn_other _ nm_ne1]; exact I.t2.mono kB
    · have O₂ : Own B' ((Lf, l') :: F) [(x.td1, tableNs x.c "t" x.tm1 x.q1 (.int (y.v1.f + 1) ti')), (x.td2, tableNs x.c "u" x.tm2 x.q2 y.v2.nx), (x.cd, cachedNs x.st (.ref T') (y.n + 1) tn'), (x.sd, memNs y.vm)]
          ([(T', oT')] ++ (x.dq1, oq') :: (x.dq2, y.v2.oq) :: (298, tabObj ps') :: (364, tabObj y.p2) :: (y.X ++ (x.kl, ok') :: (x.fl, oF') :: (Lf + 1 + 1, y.og) :: Y)) h' :=
        (O'.permS (by walk_at "perm")).permL (by show List.Perm _ ((T', oT') :: _); walk_at "perm")
      exact O₂
  · obtain ⟨kvs, ikvs, hC, hkl, hin, hir, tb, g⟩ := I.vc.look "u"
    have T := I.t2
    have hf1 := T.f1
    have hfj := T.fj
    refine br_insert (t := x.t2) (td := x.td2) (q := x.q2) (qd := x.qd2) (dq := x.dq2) (k := y.v2.k) (f := y.v2.f) (tf := y.v2.tf) (nx := y.v2.nx) (nm := "u") (oq := y.v2.oq) (S1 := [(x.td1, tableNs x.c "t" x.tm1 x.q1 y.v1.nx), (x.sd, memNs y.vm)]) (pre := y.pre)
      (Y := (x.dq1, y.v1.oq) :: (364, tabObj y.p2) :: (y.X ++ (Lf + 1 + 1, y.og) :: Y)) ((O.permS (by walk_at "perm")).permL (by walk_at "perm")) W (r.le (by decide)) Fo ll hnum hsp fx.ml rfl I.ok rfl rfl I.oF rfl rfl T.told (by have := T.len; omega)
      fx.t2 fx.c fx.q2 fx.qd2 hn (fun nx => held_read (n := y.n) (tn := y.tn) (vm := y.vm) fx.c (by simp) fx.st (sd := x.sd) (by simp) hh I.vm I.none) hC (by omega) hin hir.small (by have := hir.length; have := T.len; omega) T.oq I.p1 (T.next hir) (by omega) (by omega) (hir.fresh fun p hp => by have := (T.ids p hp).2; omega) ?_
    intro B' h' tk gens' l' T' oT' oq' ok' oF' v a ps' k' tf' tn' ti' kB ll' hv hT' haS ha hoq' tab' lok' lof' hrk' O' hg'
    have TI := T.insert (B' := B') (m := m) (ti := ti') (tf := tf') (k := k') hoq' hrk'
    have hrows : IRows w B' (ikvs ++ [(y.v2.f, v)]) (rowsIn (y.rc.getD []) "u" ++ [(y.v2.f, m)]) := (hir.le kB).snoc hv (by omega) (by omega)
    refine kk B' h' tk gens' l' { y with vc := .ref T', n := y.n + 1, tn := tn', rc := some (storeR (y.rc.getD []) "u" (rowsIn (y.rc.getD []) "u" ++ [(y.v2.f, m)])), pre := [(T', oT')], v2 := ⟨.int (y.v2.f + 1) ti', y.v2.f + 1, tf', k', oq'⟩, p1 := ps', ok := ok', oF := oF' } kB ?_ ll' ?_ hg'
    · refine ⟨CC.store tb g kB hT' haS ha hrows TI.nd (by have := T.len; simp; omega), I.vm.mono kB (fun p hp => hp), I.bv.le kB, ?_, ?_, ?_, ?_, I.gm, tab', I.p2.le kB, lok', lof', I.og, ?_, ?_⟩
      · have := I.n0; show 0 ≤ y.n + 1; omega
      · have := I.nj; show y.n + 1 ≤ ((j + 1 : Nat) : Int); omega
      · intro e; have := I.n0; have e : y.n + 1 = 0 := e; omega
      · intro e; cases e
      · show TvOk w B' _ (rowsIn (storeR (y.rc.getD []) "u" _) "t") (j + 1)
        rw [rowsIn_other _ nm_ne2]; exact I.t1.mono kB
      · show TvOk w B' _ (rowsIn (storeR (y.rc.getD []) "u" _) "u") (j + 1)
        rw [rowsIn_same]; exact TI
    · have O₂ : Own B' ((Lf, l') :: F) [(x.td1, tableNs x.c "t" x.tm1 x.q1 y.v1.nx), (x.td2, tableNs x.c "u" x.tm2 x.q2 (.int (y.v2.f + 1) ti')), (x.cd, cachedNs x.st (.ref T') (y.n + 1) tn'), (x.sd, memNs y.vm)]
          ([(T', oT')] ++ (x.dq1, y.v1.oq) :: (x.dq2, oq') :: (298, tabObj ps') :: (364, tabObj y.p2) :: (y.X ++ (x.kl, ok') :: (x.fl, oF') :: (Lf + 1 + 1, y.og) :: Y)) h' :=
        (O'.permS (by walk_at "perm")).permL (by show List.Perm _ ((T', oT') :: _); walk_at "perm")
      exact O₂
end
-- QB
section
variable {w : World} {A : Around} {E : Value → Shared → Prop} {s : Shared} {B : Heap} {F F' S S' : NsL} {L L' : ObL} {R : Result → Shared → Prop} {h h' : Heap} {env : Env}
variable {x : Fx} {y : St} {Lf : Addr} {Y : ObL} {l : List (Str × Value)} {j sp : Nat} {cdl : Value} {m : Int} {tm ts : Tok} {Q : Flow → Shared → Prop}
set_option maxHeartbeats 4000000 in
theorem turn_rem (hsp2 : sp = 0 ∨ sp = 1) (O : Own B ((Lf, l) :: F) (stS x y) (stL x y Lf Y) s.heap) (W : Wd w B) (r : Room A 140) (Fo : Fro A (((Lf, l) :: F).map (·.1))) (fx : FxOk w B x Lf) (I : Inv w B y j) (hj : j ≤ 50)
    (ll : LL l x.sc x.c x.kl x.ml x.fl y.bv y.rc.isSome) (hnum : Loc l "number" (.int m tm)) (hm0 : 0 ≤ m) (hm1 : m < 1000003) (hsp : Loc l "spot" (.int (sp : Int) ts))
    (kk : ∀ B' h' tk gens' l' y', Le B B' → Inv w B' y' (j + 1) → LL l' x.sc x.c x.kl x.ml x.fl y'.bv y'.rc.isSome → Own B' ((Lf, l') :: F) (stS x y') (stL x y' Lf Y) h' → (AllBare s.gens → AllBare gens') → Q .next ⟨h', gens', s.drawn, tk, s.os⟩) :
    wpAny (model prog w) A (execs remBr (envLaw Lf cdl)) Q E s := by
  have hh := I.vc.held O
  have hn : y.n < 900 := by have := I.nj; omega
  rcases hsp2 with rfl | rfl
  · obtain ⟨kvs, ikvs, hC, hkl, hin, hir, tb, g⟩ := I.vc.look "t"
    have T := I.t1
    refine br_remove (t := x.t1) (td := x.td1) (q := x.q1) (qd := x.qd1) (dq := x.dq1) (k := y.v1.k) (nx := y.v1.nx) (nm := "t") (oq := y.v1.oq) (S1 := [(x.td2, tableNs x.c "u" x.tm2 x.q2 y.v2.nx), (x.sd, memNs y.vm)]) (pre := y.pre) (X := y.X)
      (Y := (x.dq2, y.v2.oq) :: (298, tabObj y.p1) :: (x.fl, y.oF) :: Y) ((O.permS (by walk_at "perm")).permL (by walk_at "perm")) W (r.le (by decide)) Fo ll hnum hm0 hm1 hsp fx.ml rfl I.ok rfl rfl I.og T.told (by have := T.len; omega)
      fx.t1 fx.c fx.q1 fx.qd1 hn (held_read (n := y.n) (tn := y.tn) (vm := y.vm) fx.c (by simp) fx.st (sd := x.sd) (by simp) hh I.vm I.none) hC (by omega) hin hir.small (by have := hir.length; have := T.len; omega) T.oq I.p2 (fun g => hir.gone T.nd g) ?_
    intro B' h' tk gens' l' T' oT' oq' ok' og' v0' g' a ps' X' k' tn' kB ll' hT' haS ha hoq' tab' lok' hog' hrk' O' hg'
    have TI := T.remove (B' := B') (k := k') hoq' hrk'
    have hrows : IRows w B' (without ikvs g') ((rowsIn (y.rc.getD []) "t").filter fun p => decide (p.1 ≠ g')) := (hir.le kB).without g'
    refine kk B' h' tk gens' l' { y with vc := .ref T', n := y.n + 1, tn := tn', rc := some (storeR (y.rc.getD []) "t" ((rowsIn (y.rc.getD []) "t").filter fun p => decide (p.1 ≠ g'))), pre := [(T', oT')], v1 := ⟨y.v1.nx, y.v1.f, y.v1.tf, k', oq'⟩, p2 := ps', X := X', ok := ok', og := og', v0 := v0' } kB ?_ ll' ?_ hg'
    · refine ⟨CC.store tb g kB hT' haS ha hrows TI.nd TI.len, I.vm.mono kB (fun p hp => hp), I.bv.le kB, ?_, ?_, ?_, ?_, I.gm, I.p1.le kB, tab', lok', I.oF, hog', ?_, ?_⟩
      · have := I.n0; show 0 ≤ y.n + 1; omega
      · have := I.nj; show y.n + 1 ≤ ((j + 1 : Nat) : Int); omega
      · intro e; have := I.n0; have e : y.n + 1 = 0 := e; omega
      · intro e; cases e
      · show TvOk w B' _ (rowsIn (storeR (y.rc.getD []) "t" _) "t") (j + 1)
        rw [rowsIn_same]; exact TI
      · show TvOk w B' _ (rowsIn (storeR (y.rc.getD []) "t" _) "u") (j + 1)
        rw [rowsIn_other _ nm_ne1]; exact I.t2.mono kB
    · have O₂ : Own B' ((Lf, l') :: F) [(x.td1, tableNs x.c "t" x.tm1 x.q1 y.v1.nx), (x.td2, tableNs x.c "u" x.tm2 x.q2 y.v2.nx), (x.cd, cachedNs x.st (.ref T') (y.n + 1) tn'), (x.sd, memNs y.vm)]
          ([(T', oT')] ++ (x.dq1, oq') :: (x.dq2, y.v2.oq) :: (298, tabObj y.p1) :: (364, tabObj ps') :: (X' ++ (x.kl, ok') :: (x.fl, y.oF) :: (Lf + 1 + 1, og') :: Y)) h' :=
        (O'.permS (by walk_at "perm")).permL (by show List.Perm _ ((T', oT') :: _); walk_at "perm")
      exact O₂
  · obtain ⟨kvs, ikvs, hC, hkl, hin, hir, tb, g⟩ := I.vc.look "u"
    have T := I.t2
    refine br_remove (t := x.t2) (td := x.td2) (q := x.q2) (qd := x.qd2) (dq := x.dq2) (k := y.v2.k) (nx := y.v2.nx) (nm := "u") (oq := y.v2.oq) (S1 := [(x.td1, tableNs x.c "t" x.tm1 x.q1 y.v1.nx), (x.sd, memNs y.vm)]) (pre := y.pre) (X := y.X)
      (Y := (x.dq1, y.v1.oq) :: (298, tabObj y.p1) :: (x.fl, y.oF) :: Y) ((O.permS (by walk_at "perm")).permL (by walk_at "perm")) W (r.le (by decide)) Fo ll hnum hm0 hm1 hsp fx.ml rfl I.ok rfl rfl I.og T.told (by have := T.len; omega)
      fx.t2 fx.c fx.q2 fx.qd2 hn (held_read (n := y.n) (tn := y.tn) (vm := y.vm) fx.c (by simp) fx.st (sd := x.sd) (by simp) hh I.vm I.none) hC (by omega) hin hir.small (by have := hir.length; have := T.len; omega) T.oq I.p2 (fun g => hir.gone T.nd g) ?_
    intro B' h' tk gens' l' T' oT' oq' ok' og' v0' g' a ps' X' k' tn' kB ll' hT' haS ha hoq' tab' lok' hog' hrk' O' hg'
    have TI := T.remove (B' := B') (k := k') hoq' hrk'
    have hrows : IRows w B' (without ikvs g') ((rowsIn (y.rc.getD []) "u").filter fun p => decide (p.1 ≠ g')) := (hir.le kB).without g'
    refine kk B' h' tk gens' l' { y with vc := .ref T', n := y.n + 1, tn := tn', rc := some (storeR (y.rc.getD []) "u" ((rowsIn (y.rc.getD []) "u").filter fun p => decide (p.1 ≠ g'))), pre := [(T', oT')], v2 := ⟨y.v2.nx, y.v2.f, y.v2.tf, k', oq'⟩, p2 := ps', X := X', ok := ok', og := og', v0 := v0' } kB ?_ ll' ?_ hg'
    · refine ⟨CC.store tb g kB hT' haS ha hrows TI.nd TI.len, I.vm.mono kB (fun p hp => hp), I.bv.le kB, ?_, ?_, ?_, ?_, I.gm, I.p1.le kB, tab', lok', I.oF, hog', ?_, ?_⟩
      · have := I.n0; show 0 ≤ y.n + 1; omega
      · have := I.nj; show y.n + 1 ≤ ((j + 1 : Nat) : Int); omega
      · intro e; have := I.n0; have e : y.n + 1 = 0 := e; omega
      · intro e; cases e
      · show TvOk w B' _ (rowsIn (storeR (y.rc.getD []) "u" _) "t") (j + 1)
        rw [rowsIn_other _ nm_ne2]; exact I.t1.mono kB
      · show TvOk w B' _ (rowsIn (storeR (y.rc.getD []) "u" _) "u") (j + 1)
        rw [rowsIn_same]; exact TI
    · have O₂ : Own B' ((Lf, l') :: F) [(x.td1, tableNs x.c "t" x.tm1 x.q1 y.v1.nx), (x.td2, tableNs x.c "u" x.tm2 x.q2 y.v2.nx), (x.cd, cachedNs x.st (.ref T') (y.n + 1) tn'), (x.sd, memNs y.vm)]
          ([(T', oT')] ++ (x.dq1, y.v1.oq) :: (x.dq2, oq') :: (298, tabObj y.p1) :: (364, tabObj ps') :: (X' ++ (x.kl, ok') :: (x.fl, y.oF) :: (Lf + 1 + 1, og') :: Y)) h' :=
        (O'.permS (by walk_at "perm")).permL (by show List.Perm _ ((T', oT') :: _); walk_at "perm")
      exact O₂
theorem Inv.up (I : Inv w B y j) {B' : Heap} (k : Le B B') : Inv w B' y (j + 1) :=
  ⟨I.vc.mono k, I.vm.mono k (fun p hp => hp), I.bv.le k, I.n0, by have := I.nj; omega, I.nz, I.none, I.gm, I.p1.le k, I.p2.le k, I.ok, I.oF, I.og, I.t1.mono k, I.t2.mono k⟩
set_option maxHeartbeats 4000000 in
theorem turn_flu (O : Own B ((Lf, l) :: F) (stS x y) (stL x y Lf Y) s.heap) (W : Wd w B) (r : Room A 140) (Fo : Fro A (((Lf, l) :: F).map (·.1))) (fx : FxOk w B x Lf) (I : Inv w B y j) (hj : j ≤ 50)
    (ll : LL l x.sc x.c x.kl x.ml x.fl y.bv y.rc.isSome)
    (kk : ∀ B' h' tk gens' l' y', Le B B' → Inv w B' y' (j + 1) → LL l' x.sc x.c x.kl x.ml x.fl y'.bv y'.rc.isSome → Own B' ((Lf, l') :: F) (stS x y') (stL x y' Lf Y) h' → (AllBare s.gens → AllBare gens') → Q .next ⟨h', gens', s.drawn, tk, s.os⟩) :
    wpAny (model prog w) A (execs fluBr (envLaw Lf cdl)) Q E s := by
  have hh := I.vc.held O
  refine br_flush (n := y.n) (tn := y.tn) (vc := y.vc) (vm := y.vm) (rc := y.rc) (rm := y.rm) (S1 := [(x.td1, tableNs x.c "t" x.tm1 x.q1 y.v1.nx), (x.td2, tableNs x.c "u" x.tm2 x.q2 y.v2.nx)]) (ok := y.ok) (O.permS (by walk_at "perm")) W r Fo ll (by simp) I.ok I.t1.told I.t2.told fx.c fx.st fx.cs fx.csd hh (I.vm.mono (.refl B) (fun p hp => by cases hp)) I.bv I.n0 I.nz I.none rfl (I.vc.good (by omega)) ?_
  intro B' h' tk gens' l' bv' vm' tn' kB ll' hvm' hbv' O' hg'
  have U := I.up kB
  refine kk B' h' tk gens' l' { y with vm := vm', bv := bv', n := 0, tn := tn', rm := y.rc } kB ?_ ll' ?_ hg'
  · exact ⟨U.vc, hvm', hbv', Int.le_refl 0, by show (0 : Int) ≤ ((j + 1 : Nat) : Int); omega, fun _ => rfl, fun e => e, I.vc.good (by omega), U.p1, U.p2, U.ok, U.oF, U.og, U.t1, U.t2⟩
  · have O₂ : Own B' ((Lf, l') :: F) [(x.td1, tableNs x.c "t" x.tm1 x.q1 y.v1.nx), (x.td2, tableNs x.c "u" x.tm2 x.q2 y.v2.nx), (x.cd, cachedNs x.st y.vc 0 tn'), (x.sd, memNs vm')] (stL x y Lf Y) h' := O'.permS (by walk_at "perm")
    exact O₂
set_option maxHeartbeats 4000000 in
theorem turn_chk (O : Own B ((Lf, l) :: F) (stS x y) (stL x y Lf Y) s.heap) (W : Wd w B) (r : Room A 140) (Fo : Fro A (((Lf, l) :: F).map (·.1))) (fx : FxOk w B x Lf) (I : Inv w B y j) (hj : j ≤ 50)
    (ll : LL l x.sc x.c x.kl x.ml x.fl y.bv y.rc.isSome)
    (kk : ∀ B' h' tk gens', Le B B' → Own B' ((Lf, l) :: F) (stS x y) (stL x y Lf Y) h' → (AllBare s.gens → AllBare gens') → Q .next ⟨h', gens', s.drawn, tk, s.os⟩) :
    wpAny (model prog w) A (exec chkSt (envLaw Lf cdl)) Q E s :=
  br_check (n := y.n) (tn := y.tn) (vc := y.vc) (vm := y.vm) (rc := y.rc) (rm := y.rm) (ok := y.ok) (t1 := x.t1) (td1 := x.td1) (q1 := x.q1) (nx1 := y.v1.nx) (tm1 := x.tm1) (t2 := x.t2) (td2 := x.td2) (q2 := x.q2) (nx2 := y.v2.nx) (tm2 := x.tm2) O W r Fo ll (by simp) I.ok I.t1.told I.t2.told fx.ml fx.t1 fx.t2 (by simp) (by simp) (by simp) (by simp) fx.c fx.st fx.cs fx.csd (I.vc.held O) (I.vm.mono (.refl B) (fun p hp => by cases hp)) I.bv I.none (I.vc.good (by omega)) I.gm kk
end
-- QC
section
variable {w : World} {A : Around} {E : Value → Shared → Prop} {s : Shared} {B : Heap} {F F' S S' : NsL} {L L' : ObL} {R : Result → Shared → Prop} {h h' : Heap} {env : Env}
theorem swap_two {a b : Str} {t : Addr} {u v : Value} {Q : Unit → Shared → Prop} (hh : A.handled = none) (O : Own B F S L s.heap) (ht : s.heap.IsTuple t #[u, v])
    (k : ∀ h', Own B F S L h' → wpAny (model prog w) A (bindName env b v) (fun _ s₁ => wpAny (model prog w) A (bindName env a u) Q E s₁) E { s with heap := h' }) :
    wpAny (model prog w) A (unpackItems (.ref t) [a, b].length none) (fun items s₂ => wpAny (model prog w) A (assignInOrder ([a, b].reverse.map fun n => bindName env n) items.reverse) Q E s₂) E s := by
  refine wpAny_unpackItems_tuple (items := #[u, v]) hh ht fun h₃ hx₃ => ?_
  show wpAny _ _ (do holding [u] (bindName env b v); holding [] (bindName env a u); pure ()) _ _ _
  exact wpAny_bind (wpAny_holding (wpAny_mono (k _ (O.ext1 hx₃)) (fun _ s₁ h₁ => wpAny_bind (wpAny_holding (wpAny_mono h₁ (fun _ s₂ h₂ => wpAny_pure h₂) fun _ _ z => z))) fun _ _ z => z))
theorem swap_three {a b e : Str} {t : Addr} {u v x : Value} {Q : Unit → Shared → Prop} (hh : A.handled = none) (O : Own B F S L s.heap) (ht : s.heap.IsTuple t #[u, v, x])
    (k : ∀ h', Own B F S L h' → wpAny (model prog w) A (bindName env e x) (fun _ s₁ => wpAny (model prog w) A (bindName env b v) (fun _ s₂ => wpAny (model prog w) A (bindName env a u) Q E s₂) E s₁) E { s with heap := h' }) :
    wpAny (model prog w) A (unpackItems (.ref t) [a, b, e].length none) (fun items s₂ => wpAny (model prog w) A (assignInOrder ([a, b, e].reverse.map fun n => bindName env n) items.reverse) Q E s₂) E s := by
  refine wpAny_unpackItems_tuple (items := #[u, v, x]) hh ht fun h₃ hx₃ => ?_
  show wpAny _ _ (do holding [v, u] (bindName env e x); holding [u] (bindName env b v); holding [] (bindName env a u); pure ()) _ _ _
  exact wpAny_bind (wpAny_holding (wpAny_mono (k _ (O.ext1 hx₃)) (fun _ s₁ h₁ => wpAny_bind (wpAny_holding (wpAny_mono h₁ (fun _ s₂ h₂ => wpAny_bind (wpAny_holding (wpAny_mono h₂ (fun _ s₃ h₃ => wpAny_pure h₃) fun _ _ z => z))) fun _ _ z => z))) fun _ _ z => z))
variable {x : Fx} {y : St} {Lf : Addr} {Y : ObL} {l : List (Str × Value)} {j : Nat} {cdl : Value} {ta : Tok} {Q : Flow → Shared → Prop}
set_option maxHeartbeats 4000000 in
theorem turn (O : Own B ((Lf, l) :: F) (stS x y) (stL x y Lf Y) s.heap) (W : Wd w B) (r : Room A 140) (Fo : Fro A (((Lf, l) :: F).map (·.1))) (fx : FxOk w B x Lf) (I : Inv w B y j) (hj : j ≤ 40)
    (ll : LL l x.sc x.c x.kl x.ml x.fl y.bv y.rc.isSome) (hat : Loc l "at" (.int (j : Int) ta))
    (kk : ∀ B' h' tk gens' l' y', Le B B' → Inv w B' y' (j + 1) → LL l' x.sc x.c x.kl x.ml x.fl y'.bv y'.rc.isSome → Own B' ((Lf, l') :: F) (stS x y') (stL x y' Lf Y) h' → (AllBare s.gens → AllBare gens') → Q .next ⟨h', gens', s.drawn, tk, s.os⟩) :
    wpAny (model prog w) A (execs forBody (envLaw Lf cdl)) Q E s := by
  refine wpAny_execs_cons (wpAny_Assign_Name (Call_ ?_))
  walk_at "nm"
  walk_at "cw"
  walk_at "arg"
  refine nm_loc O (.head _) ll.script ?_
  walk_at "arg"
  refine nm_loc O (.head _) hat ?_
  walk_at "args0"
  refine wpAny_call (c_cell O W (r.le (by decide)) fx.sc fx.iar (by have := fx.len; omega) (by omega) (by omega) fun h₁ tk₁ m tm hm0 hm1 O₁ => ?_)
  obtain ⟨l₁, hl₁⟩ := Put.any (x := ("number" : Str)) (v := .int m tm) l
  refine st_loc (s := ⟨h₁, s.gens, s.drawn, tk₁, s.os⟩) O₁ hl₁ (fun h₂ O₂ => ?_) rfl rfl rfl
  have ll₁ := ll.put hl₁
  dsimp only
  refine wpAny_execs_cons (Assign_Tuple_swapped (names := ["spot", "way"]) (Tuple_ ?_))
  walk_at "arg"
  refine wpAny_BinOp (wpAny_BinOp ?_)
  refine nm_loc (s := ⟨h₂, s.gens, s.drawn, _, s.os⟩) O₂ (.head _) hl₁.loc ?_
  refine wpAny_Constant_int (floordiv_int (by decide) ?_ (Or.inl (PyProof.noPylong_small (by omega))))
  refine wpAny_Constant_int (mod_int' (by decide) ?_)
  walk_at "arg"
  refine wpAny_BinOp ?_
  refine nm_loc (s := ⟨h₂, s.gens, s.drawn, _, s.os⟩) O₂ (.head _) hl₁.loc ?_
  refine wpAny_Constant_int (mod_int' (by decide) ?_)
  have hspot : ∃ sp : Nat, (m.fdiv 4).fmod 2 = (sp : Int) ∧ (sp = 0 ∨ sp = 1) := by
    have e : (m.fdiv 4).fmod 2 = (m.fdiv 4) % 2 := Int.fmod_eq_emod_of_nonneg _ (by decide)
    have h1 := Int.emod_nonneg (m.fdiv 4) (show (2 : Int) ≠ 0 by decide)
    have h2 := Int.emod_lt_of_pos (m.fdiv 4) (show (0 : Int) < 2 by decide)
    rw [e]
    rcases (show (m.fdiv 4) % 2 = 0 ∨ (m.fdiv 4) % 2 = 1 by omega) with h | h
    · exact ⟨0, by omega, .inl rfl⟩
    · exact ⟨1, by omega, .inr rfl⟩
  obtain ⟨sp, esp, hsp⟩ := hspot
  rw [esp]
  generalize m.fmod 4 = way
  walk_at "args1"
  refine new_tuple (s := ⟨h₂, s.gens, s.drawn, _, s.os⟩) O₂ (by simp) fun h₃ t₃ _ O₃ => ?_
  obtain ⟨B₃, k₃, hb₃, O₄⟩ := O₃.freeze1
  have W₃ := W.le k₃
  refine swap_two (s := ⟨h₃, s.gens, s.drawn, _, s.os⟩) Fo.hd O₄ ⟨_, O₄.keep _ _ hb₃, rfl, _, rfl⟩ fun h₅ O₅ => ?_
  obtain ⟨l₂, hl₂⟩ := Put.any (x := ("way" : Str)) (v := .int way _) l₁
  refine bindName_ (st_loc (s := ⟨h₅, s.gens, s.drawn, _, s.os⟩) O₅ hl₂ (fun h₆ O₆ => ?_) rfl rfl rfl)
  obtain ⟨l₃, hl₃⟩ := Put.any (x := ("spot" : Str)) (v := .int (sp : Int) _) l₂
  refine bindName_ (st_loc (s := ⟨h₆, s.gens, s.drawn, _, s.os⟩) O₆ hl₃ (fun h₇ O₇ => ?_) rfl rfl rfl)
  have ll₃ := (ll₁.put hl₂).put hl₃
  have hnum := Loc.put hl₃ (Loc.put hl₂ hl₁.loc (by decide +kernel)) (by decide +kernel)
  have hspl := hl₃.loc
  have hway := Loc.put hl₃ hl₂.loc (by decide +kernel)
  have I₃ : Inv w B₃ y j := ⟨let ⟨kvs, a, b, c⟩ := I.vc; ⟨kvs, a, b.le k₃, c⟩, I.vm.mono k₃ (fun p hp => hp), I.bv.le k₃, I.n0, I.nj, I.nz, I.none, I.gm, I.p1.le k₃, I.p2.le k₃, I.ok, I.oF, I.og, ⟨I.t1.oq, I.t1.told.keep k₃, I.t1.ids, I.t1.nd, I.t1.f1, I.t1.fj, I.t1.len, I.t1.nx⟩, ⟨I.t2.oq, I.t2.told.keep k₃, I.t2.ids, I.t2.nd, I.t2.f1, I.t2.fj, I.t2.len, I.t2.nx⟩⟩
  have fx₃ := fx.le k₃
  have Fo₃ : Fro A (((Lf, l₃) :: F).map (·.1)) := Fo
  have fin : ∀ (B₈ : Heap) (h₈ : Heap) (tk₈ : Nat) (g₈ : Array GenState) (l₈ : List (Str × Value)) (y₈ : St), Le B₃ B₈ → Inv w B₈ y₈ (j + 1) → LL l₈ x.sc x.c x.kl x.ml x.fl y₈.bv y₈.rc.isSome → Own B₈ ((Lf, l₈) :: F) (stS x y₈) (stL x y₈ Lf Y) h₈ → (AllBare s.gens → AllBare g₈) →
      wpAny (model prog w) A (execs (forBody.drop 3) (envLaw Lf cdl)) Q E ⟨h₈, g₈, s.drawn, tk₈, s.os⟩ := by
    intro B₈ h₈ tk₈ g₈ l₈ y₈ k₈ I₈ ll₈ O₈ hg₈
    refine wpAny_execs_cons (turn_chk (s := ⟨h₈, g₈, s.drawn, tk₈, s.os⟩) (j := j + 1) O₈ (W₃.le k₈) r Fo (fx₃.le k₈) I₈ (by omega) ll₈ fun B₉ h₉ tk₉ g₉ k₉ O₉ hg₉ => ?_)
    dsimp only
    refine wpAny_execs_nil ?_
    have I₉ : Inv w B₉ y₈ (j + 1) := ⟨let ⟨kvs, a, b, c⟩ := I₈.vc; ⟨kvs, a, b.le k₉, c⟩, I₈.vm.mono k₉ (fun p hp => hp), I₈.bv.le k₉, I₈.n0, I₈.nj, I₈.nz, I₈.none, I₈.gm, I₈.p1.le k₉, I₈.p2.le k₉, I₈.ok, I₈.oF, I₈.og, ⟨I₈.t1.oq, I₈.t1.told.keep k₉, I₈.t1.ids, I₈.t1.nd, I₈.t1.f1, I₈.t1.fj, I₈.t1.len, I₈.t1.nx⟩, ⟨I₈.t2.oq, I₈.t2.told.keep k₉, I₈.t2.ids, I₈.t2.nd, I₈.t2.f1, I₈.t2.fj, I₈.t2.len, I₈.t2.nx⟩⟩
    exact kk B₉ h₉ tk₉ g₉ l₈ y₈ ((k₃.trans k₈).trans k₉) I₉ ll₈ O₉ fun z => hg₉ (hg₈ z)
  dsimp only
  refine wpAny_execs_cons (wpAny_If (wpAny_isTrue_Compare1 ?_))
  refine nm_loc (s := ⟨h₇, s.gens, s.drawn, _, s.os⟩) O₇ (.head _) hway ?_
  refine wpAny_Constant_int (PyProof.Rows.lt_int (wpAny_truthy_bool ?_))
  by_cases hw : way < 2
  · rw [decide_eq_true hw]
    refine turn_ins (s := ⟨h₇, s.gens, s.drawn, _, s.os⟩) hsp O₇ W₃ r Fo₃ fx₃ I₃ (by omega) ll₃ hnum hspl fun B₈ h₈ tk₈ g₈ l₈ y₈ k₈ I₈ ll₈ O₈ hg₈ => ?_
    exact fin B₈ h₈ tk₈ g₈ l₈ y₈ k₈ I₈ ll₈ O₈ hg₈
  · rw [decide_eq_false hw]
    refine wpAny_execs_cons (wpAny_If (wpAny_isTrue_Compare1 ?_))
    refine nm_loc (s := ⟨h₇, s.gens, s.drawn, _, s.os⟩) O₇ (.head _) hway ?_
    refine wpAny_Constant_int (PyProof.Rows.eq_int (wpAny_truthy_bool ?_))
    by_cases hw2 : way = 2
    · rw [show (way == 2) = true from by simpa using hw2]
      refine turn_rem (s := ⟨h₇, s.gens, s.drawn, _, s.os⟩) hsp O₇ W₃ r Fo₃ fx₃ I₃ (by omega) ll₃ hnum hm0 hm1 hspl fun B₈ h₈ tk₈ g₈ l₈ y₈ k₈ I₈ ll₈ O₈ hg₈ => ?_
      refine wpAny_execs_nil ?_
      exact fin B₈ h₈ tk₈ g₈ l₈ y₈ k₈ I₈ ll₈ O₈ hg₈
    · rw [show (way == 2) = false from by simpa using hw2]
      refine turn_flu (s := ⟨h₇, s.gens, s.drawn, _, s.os⟩) O₇ W₃ r Fo₃ fx₃ I₃ (by omega) ll₃ fun B₈ h₈ tk₈ g₈ l₈ y₈ k₈ I₈ ll₈ O₈ hg₈ => ?_
      refine wpAny_execs_nil ?_
      exact fin B₈ h₈ tk₈ g₈ l₈ y₈ k₈ I₈ ll₈ O₈ hg₈
end
-- QD
section
variable {w : World} {A : Around} {E : Value → Shared → Prop} {s : Shared} {B : Heap} {F F' S S' : NsL} {L L' : ObL} {R : Result → Shared → Prop} {h h' : Heap} {env : Env}
variable {x : Fx} {y : St} {Lf : Addr} {Y : ObL} {l : List (Str × Value)} {cdl : Value} {Q : Flow → Shared → Prop}
set_option maxHeartbeats 4000000 in
theorem law_loop {it : Addr} {N : Nat} (hN : N ≤ 8) (O : Own B ((Lf, l) :: F) (stS x y) (stL x y Lf ((it, riO 0 (N : Int)) :: Y)) s.heap) (W : Wd w B) (r : Room A 140) (Fo : Fro A (((Lf, l) :: F).map (·.1))) (fx : FxOk w B x Lf) (I : Inv w B y 0)
    (ll : LL l x.sc x.c x.kl x.ml x.fl y.bv y.rc.isSome)
    (kk : ∀ B' h' tk gens' l' y', Le B B' → Inv w B' y' N → LL l' x.sc x.c x.kl x.ml x.fl y'.bv y'.rc.isSome → Own B' ((Lf, l') :: F) (stS x y') (stL x y' Lf Y) h' → (AllBare s.gens → AllBare gens') → R (.ok .next) ⟨h', gens', s.drawn, tk, s.os⟩) :
    codeAny (model prog w) A (.forLoop forTarget (.ref it) forBody [] (envLaw Lf cdl)) R s := by
  refine codeAny_forLoop_any (fun m s' => ∃ j B' l y h' tk gens', j + m = N + 1 ∧ j ≤ N ∧ Le B B' ∧ s' = ⟨h', gens', s.drawn, tk, s.os⟩ ∧ Inv w B' y j ∧ LL l x.sc x.c x.kl x.ml x.fl y.bv y.rc.isSome ∧
      Own B' ((Lf, l) :: F) (stS x y) (stL x y Lf ((it, riO (j : Int) ((N : Int) - j)) :: Y)) h' ∧ (AllBare s.gens → AllBare gens')) (fun m s' hs' => ?_) (N + 1) ⟨0, B, l, y, s.heap, s.toks, s.gens, by omega, by omega, .refl B, rfl, I, ll, by simpa using O, id⟩
  obtain ⟨j, B', l', y', h', tk', g', hjm, hjN, kB, rfl, I', ll', O', hg'⟩ := hs'
  refine wpAny_mono (E := fun _ _ => False) ?_ (fun _ _ z => z) (fun _ _ z => z.elim)
  have W' := W.le kB
  have fx' := fx.le kB
  by_cases hlt : j < N
  · refine next_range (s := ⟨h', g', s.drawn, tk', s.os⟩) (O'.permL (L' := (it, riO (j : Int) ((N : Int) - j)) :: stL x y' Lf Y) (by walk_at "perm")) (by omega) fun h₁ tk₁ ta O₁ => ?_
    dsimp only
    refine wpAny_pure ?_
    refine wpAny_mono (E := fun _ _ => False) ?_ (fun _ _ z => z) (fun _ _ z => z.elim)
    obtain ⟨l₂, hl₂⟩ := Put.any (x := ("at" : Str)) (v := .int (j : Int) ta) l'
    refine wpAny_assign_Name (st_loc (s := ⟨h₁, g', s.drawn, tk₁, s.os⟩) O₁ hl₂ (fun h₂ O₂ => ?_) rfl rfl rfl)
    refine wpAny_mono (E := fun _ _ => False) ?_ (fun _ _ z => z) (fun _ _ z => z.elim)
    have O₃ : Own B' ((Lf, l₂) :: F) (stS x y') (stL x y' Lf ((it, riO ((j : Int) + 1) ((N : Int) - j - 1)) :: Y)) h₂ := O₂.permL (by walk_at "perm")
    refine turn (s := ⟨h₂, g', s.drawn, _, s.os⟩) O₃ W' r Fo fx' I' (by omega) (ll'.put hl₂) hl₂.loc fun B₄ h₄ tk₄ g₄ l₄ y₄ k₄ I₄ ll₄ O₄ hg₄ => ?_
    refine ⟨m - 1, by omega, j + 1, B₄, l₄, y₄, h₄, tk₄, g₄, by omega, by omega, kB.trans k₄, rfl, I₄, ll₄, ?_, fun z => hg₄ (hg' z)⟩
    rw [show ((j + 1 : Nat) : Int) = (j : Int) + 1 from by omega, show (N : Int) - ((j : Int) + 1) = (N : Int) - j - 1 from by omega]
    exact O₄
  · have hje : j = N := by omega
    subst hje
    refine last_range (s := ⟨h', g', s.drawn, tk', s.os⟩) Fo.hd (O'.permL (L' := (it, riO (j : Int) ((j : Int) - j)) :: stL x y' Lf Y) (by walk_at "perm")) (by omega) fun h₁ O₁ => ?_
    refine wpAny_execs_nil ?_
    exact kk B' h₁ _ g' l' y' kB I' ll' O₁ hg'
end
-- QE
section
variable {w : World} {A : Around} {E : Value → Shared → Prop} {s : Shared} {B : Heap} {F F' S S' : NsL} {L L' : ObL} {R : Result → Shared → Prop} {h h' : Heap} {env : Env}
theorem ite_int {p : Prop} [Decidable p] {a b : Int} {t u : Tok} : (if p then Value.int a t else Value.int b u) = .int (if p then a else b) (if p then t else u) := by split <;> rfl
theorem RowsAt.nil {k : Addr} (e : B.get? k = some (lsO #[] 0)) : RowsAt B k [] := ⟨[], .nil, _, e, rfl, _, rfl⟩
theorem law_start {w : World} {B : Heap} {F : NsL} {h : Heap} {sc Lf c cd st sd kl ml fl t1 td1 q1 qd1 dq1 t2 td2 q2 qd2 dq2 it k0 k1 : Addr} {tm1 tm2 tf1 tf2 tc1 tc2 tn : Tok} {N : Nat} {og ost : Obj} {lf : List (Str × Value)} {vs : List Value} {ns : List Int}
    (O : Own B ((Lf, lf) :: F) [(td2, tableNs c "u" tm2 q2 .none), (td1, tableNs c "t" tm1 q1 .none), (cd, cachedNs st .none 0 tn), (sd, memNs .none)]
      ((it, riO 0 (N : Int)) :: (fl, lsO #[.int 1 tf1, .int 1 tf2] 0) :: (dq2, emptyDict) :: (dq1, emptyDict) :: (kl, lsO #[.ref k0, .ref k1] 0) :: (Lf + 1 + 1, og) :: [(298, tabObj #[]), (364, tabObj #[])]) h)
    (hsc : B.IsList sc vs.toArray) (hi : IntsAre vs ns) (hz : vs.length ≤ 63) (hc : B.get? c = some (instObj 66 cd)) (hst : B.get? st = some (instObj 138 sd)) (hml : B.IsList ml #[.ref t1, .ref t2])
    (ht1 : B.get? t1 = some (instObj 426 td1)) (hq1 : B.get? q1 = some (instObj 238 qd1)) (hqd1 : NsB B qd1 (lruNs dq1 tc1)) (ht2 : B.get? t2 = some (instObj 426 td2)) (hq2 : B.get? q2 = some (instObj 238 qd2)) (hqd2 : NsB B qd2 (lruNs dq2 tc2))
    (hcs : B.get? (Lf + 1) = some ost) (hcsd : ost.data = .cell (some (.ref st))) (hog : og.data = .cell none) (hk0 : B.get? k0 = some (lsO #[] 0)) (hk1 : B.get? k1 = some (lsO #[] 0)) (ll : LL lf sc c kl ml fl .none false) :
    ∃ x y, FxOk w B x Lf ∧ Inv w B y 0 ∧ LL lf x.sc x.c x.kl x.ml x.fl y.bv y.rc.isSome ∧ Own B ((Lf, lf) :: F) (stS x y) (stL x y Lf [(it, riO 0 (N : Int))]) h := by
  have tv : ∀ {v : Tv} {a : Addr}, v.oq = emptyDict → v.k = a → v.f = 1 → v.nx = .none → B.get? a = some (lsO #[] 0) → TvOk w B v [] 0 := by
    rintro ⟨nx, f, tf, k, oq⟩ a rfl rfl rfl rfl e
    exact ⟨empty_of _, RowsAt.nil e, (fun p hp => by cases hp), List.nodup_nil, Int.le_refl 1, Int.le_refl 1, Nat.le_refl _, .inl ⟨rfl, rfl⟩⟩
  have OX : Own B ((Lf, lf) :: F) [(td1, tableNs c "t" tm1 q1 .none), (td2, tableNs c "u" tm2 q2 .none), (cd, cachedNs st .none 0 tn), (sd, memNs .none)]
      ((dq1, emptyDict) :: (dq2, emptyDict) :: (298, tabObj #[]) :: (364, tabObj #[]) :: (kl, lsO #[.ref k0, .ref k1] 0) :: (fl, lsO #[.int 1 tf1, .int 1 tf2] 0) :: (Lf + 1 + 1, og) :: [(it, riO 0 (N : Int))]) h := (O.permS (by walk_at "perm")).permL (by walk_at "perm")
  exact ⟨⟨sc, c, cd, st, sd, kl, ml, fl, t1, td1, q1, qd1, dq1, t2, td2, q2, qd2, dq2, tc1, tm1, tc2, tm2, ost, vs, ns⟩,
    ⟨.none, .none, .none, 0, tn, none, none, [], ⟨.none, 1, tf1, k0, emptyDict⟩, ⟨.none, 1, tf2, k1, emptyDict⟩, #[], #[], [], lsO #[.ref k0, .ref k1] 0, lsO #[.int 1 tf1, .int 1 tf2] 0, og, none⟩,
    ⟨hsc, hi, hz, hc, hst, hml, ht1, hq1, hqd1, ht2, hq2, hqd2, hcs, hcsd⟩,
    ⟨⟨[], .inl ⟨rfl, rfl, rfl, rfl⟩, .nil, (fun p hp => by cases hp), List.nodup_nil, Nat.le_refl _⟩, .none, .inl ⟨rfl, rfl⟩, Int.le_refl _, Int.le_refl _, fun _ => rfl, fun _ => rfl, (fun RR e => by cases e), ⟨trivial, .inl rfl⟩, .new trivial rfl, ⟨rfl, _, rfl⟩, ⟨rfl, _, rfl⟩, hog,
      tv rfl rfl rfl rfl hk0, tv rfl rfl rfl rfl hk1⟩, ll, OX⟩
variable {Lf : Addr} {cdl : Value} {Q : Flow → Shared → Prop}
set_option maxHeartbeats 1000000 in
theorem law_top {sc : Addr} {vs : List Value} {ns : List Int} {og ost : Obj} (O : Own B ((Lf, [("script", .ref sc)]) :: F) [] ((Lf + 1 + 1, og) :: (Lf + 1, ost) :: [(298, tabObj #[]), (364, tabObj #[])]) s.heap) (W : Wd w B) (r : Room A 199) (Fo : Fro A (Lf :: F.map (·.1))) (hsc : B.IsList sc vs.toArray) (hi : IntsAre vs ns) (hz : vs.length ≤ 63)
    (hog : og.data = .cell none) (host : ost.data = .cell none)
    (kk : ∀ B' h' tk x y (N : Nat) lf it, N ≤ 8 → Le B B' → FxOk w B' x Lf → Inv w B' y 0 → LL lf x.sc x.c x.kl x.ml x.fl y.bv y.rc.isSome → Own B' ((Lf, lf) :: F) (stS x y) (stL x y Lf [(it, riO 0 (N : Int))]) h' →
      codeAny (model prog w) A (.forLoop forTarget (.ref it) forBody [] (envLaw Lf cdl)) (fun r s' => match r with | .ok f => (match f with | .next => wpAny (model prog w) A (execs (lawBody.drop 5) (envLaw Lf cdl)) Q E s' | f => Q f s') | .error e => cameBackBy (model prog w) A (envLaw Lf cdl) E e s') ⟨h', s.gens, s.drawn, tk, s.os⟩) :
    wpAny (model prog w) A (execs lawBody (envLaw Lf cdl)) Q E s := by
  -- storage = MemoryStorage()
  refine wpAny_execs_cons (wpAny_Assign_Name (Call_ ?_))
  walk_at "nm"
  walk_at "cw0"
  refine wpAny_call (c_mem_new (s := ⟨s.heap, s.gens, s.drawn, s.toks, s.os⟩) O W (r.le (by decide)) Fo.hd fun B₂ h₂ tk₂ st sd k₂ hst O₂ => ?_)
  have W₂ := W.le k₂
  refine st_cell (s := ⟨h₂, s.gens, s.drawn, tk₂, s.os⟩) (O₂.permL (.swap ..)) rfl host fun h₃ ost' hostd O₃ => ?_
  dsimp only
  obtain ⟨B₄, k₄, hb₄, O₄⟩ := O₃.freeze1
  have W₄ := W₂.le k₄
  -- cached, kept, beneath = (CachingMiddleware(storage), [[], []], None)
  refine wpAny_execs_cons (Assign_Tuple_swapped (names := ["cached", "kept", "beneath"]) (Tuple_ ?_))
  walk_at "arg"
  refine Call_ ?_
  walk_at "nm"
  walk_at "cw"
  walk_at "arg"
  refine nm_cell (s := ⟨h₃, s.gens, s.drawn, _, s.os⟩) O₄ rfl (.inl hb₄) hostd ?_
  walk_at "args0"
  refine wpAny_call (c_cached_new (s := ⟨h₃, s.gens, s.drawn, _, s.os⟩) O₄ W₄ (r.le (by decide)) fun B₅ h₅ tk₅ c cd tn k₅ hc O₅ => ?_)
  have W₅ := W₄.le k₅
  walk_at "arg"
  refine List_ ?_
  walk_at "arg"
  refine List_ ?_
  walk_at "args1"
  refine new_list (s := ⟨h₅, s.gens, s.drawn, _, s.os⟩) O₅ (by simp) fun h₆ k0 O₆ => ?_
  obtain ⟨B₆, k₆, hb₆, O₇⟩ := O₆.freeze1
  walk_at "arg"
  refine List_ ?_
  walk_at "args1"
  refine new_list (s := ⟨h₆, s.gens, s.drawn, _, s.os⟩) O₇ (by simp) fun h₈ k1 O₈ => ?_
  obtain ⟨B₈, k₈, hb₈, O₉⟩ := O₈.freeze1
  walk_at "args1"
  refine new_list (s := ⟨h₈, s.gens, s.drawn, _, s.os⟩) O₉ (by simp) fun h₁₀ kl O₁₀ => ?_
  walk_at "arg"
  refine wpAny_Constant_none ?_
  walk_at "args1"
  refine new_tuple (s := ⟨h₁₀, s.gens, s.drawn, _, s.os⟩) O₁₀ (by simp) fun h₁₁ t₁₁ _ O₁₁ => ?_
  obtain ⟨B₁₁, k₁₁, hb₁₁, O₁₂⟩ := O₁₁.freeze1
  refine swap_three (s := ⟨h₁₁, s.gens, s.drawn, _, s.os⟩) Fo.hd O₁₂ ⟨_, O₁₂.keep _ _ hb₁₁, rfl, _, rfl⟩ fun h₁₃ O₁₃ => ?_
  refine bindName_ (st_loc (s := ⟨h₁₃, s.gens, s.drawn, _, s.os⟩) O₁₃ (by walk_at "put") (fun h₁₄ O₁₄ => ?_) rfl rfl rfl)
  refine bindName_ (st_loc (s := ⟨h₁₄, s.gens, s.drawn, _, s.os⟩) O₁₄ (by walk_at "put") (fun h₁₅ O₁₅ => ?_) rfl rfl rfl)
  refine bindName_ (st_loc (s := ⟨h₁₅, s.gens, s.drawn, _, s.os⟩) O₁₅ (by walk_at "put") (fun h₁₆ O₁₆ => ?_) rfl rfl rfl)
  dsimp only
  have kA := ((k₆.trans k₈).trans k₁₁)
  have W₁₆ := W₅.le kA
  -- made, free = ([Table(cached, 't'), Table(cached, 'u')], [1, 1])
  refine wpAny_execs_cons (Assign_Tuple_swapped (names := ["made", "free"]) (Tuple_ ?_))
  walk_at "arg"
  refine List_ ?_
  walk_at "arg"
  refine Call_ ?_
  walk_at "nm"
  walk_at "cw"
  walk_at "arg"
  refine nm_loc (s := ⟨h₁₆, s.gens, s.drawn, _, s.os⟩) O₁₆ (.head _) (by walk_at "loc") ?_
  walk_at "arg"
  refine wpAny_Constant_str ?_
  walk_at "args0"
  refine wpAny_call (c_table_new (s := ⟨h₁₆, s.gens, s.drawn, _, s.os⟩) O₁₆ W₁₆ (r.le (by decide)) fun B₁₇ h₁₇ tk₁₇ t1 td1 q1 qd1 dq1 tc1 k₁₇ ht1 hq1 hqd1 O₁₇ => ?_)
  have W₁₇ := W₁₆.le k₁₇
  walk_at "arg"
  refine Call_ ?_
  walk_at "nm"
  walk_at "cw"
  walk_at "arg"
  refine nm_loc (s := ⟨h₁₇, s.gens, s.drawn, _, s.os⟩) O₁₇ (.head _) (by walk_at "loc") ?_
  walk_at "arg"
  refine wpAny_Constant_str ?_
  walk_at "args0"
  refine wpAny_call (c_table_new (s := ⟨h₁₇, s.gens, s.drawn, _, s.os⟩) O₁₇ W₁₇ (r.le (by decide)) fun B₁₈ h₁₈ tk₁₈ t2 td2 q2 qd2 dq2 tc2 k₁₈ ht2 hq2 hqd2 O₁₈ => ?_)
  have W₁₈ := W₁₇.le k₁₈
  walk_at "args1"
  refine new_list (s := ⟨h₁₈, s.gens, s.drawn, _, s.os⟩) O₁₈ (by simp) fun h₁₉ ml O₁₉ => ?_
  obtain ⟨B₁₉, k₁₉, hb₁₉, O₂₀⟩ := O₁₉.freeze1
  walk_at "arg"
  refine List_ ?_
  walk_at "arg"
  refine wpAny_Constant_int ?_
  walk_at "arg"
  refine wpAny_Constant_int ?_
  walk_at "args1"
  refine new_list (s := ⟨h₁₉, s.gens, s.drawn, _, s.os⟩) O₂₀ (by simp) fun h₂₁ fl O₂₁ => ?_
  walk_at "args1"
  refine new_tuple (s := ⟨h₂₁, s.gens, s.drawn, _, s.os⟩) O₂₁ (by simp) fun h₂₂ t₂₂ _ O₂₂ => ?_
  obtain ⟨B₂₂, k₂₂, hb₂₂, O₂₃⟩ := O₂₂.freeze1
  refine swap_two (s := ⟨h₂₂, s.gens, s.drawn, _, s.os⟩) Fo.hd O₂₃ ⟨_, O₂₃.keep _ _ hb₂₂, rfl, _, rfl⟩ fun h₂₄ O₂₄ => ?_
  refine bindName_ (st_loc (s := ⟨h₂₄, s.gens, s.drawn, _, s.os⟩) O₂₄ (by walk_at "put") (fun h₂₅ O₂₅ => ?_) rfl rfl rfl)
  refine bindName_ (st_loc (s := ⟨h₂₅, s.gens, s.drawn, _, s.os⟩) O₂₅ (by walk_at "put") (fun h₂₆ O₂₆ => ?_) rfl rfl rfl)
  dsimp only
  -- is_written = False
  refine wpAny_execs_cons (wpAny_Assign_Name (wpAny_Constant_bool ?_))
  refine st_loc (s := ⟨h₂₆, s.gens, s.drawn, _, s.os⟩) O₂₆ (by walk_at "put") (fun h₂₇ O₂₇ => ?_) rfl rfl rfl
  dsimp only
  have kC := k₁₉.trans k₂₂
  have W₂₇ := W₁₈.le kC
  have kAll := ((((((k₂.trans k₄).trans k₅).trans kA).trans k₁₇).trans k₁₈).trans kC)
  -- the loop
  refine wpAny_execs_cons (wpAny_For (Call_ ?_))
  walk_at "nm"
  walk_at "cwT"
  walk_at "arg"
  refine Call_ ?_
  walk_at "nm"
  walk_at "cwB"
  walk_at "arg"
  refine wpAny_Constant_int ?_
  walk_at "arg"
  refine Call_ ?_
  walk_at "nm"
  walk_at "cwB"
  walk_at "arg"
  refine wpAny_Constant_int ?_
  walk_at "arg"
  refine Call_ ?_
  walk_at "nm"
  walk_at "cwB"
  walk_at "arg"
  refine nm_loc (s := ⟨h₂₇, s.gens, s.drawn, _, s.os⟩) O₂₇ (.head _) (by walk_at "loc") ?_
  walk_at "args1"
  refine PyProof.Rows.len_list (s := ⟨h₂₇, s.gens, s.drawn, _, s.os⟩) (IsList.keep hsc fun b o e => O₂₇.keep _ _ (kAll _ _ e)) (by simp; omega) ?_
  walk_at "args1"
  refine max_two_ints (s := ⟨h₂₇, s.gens, s.drawn, _, s.os⟩) (by exact Fo.hd) fun h₂₈ tk₂₈ k₂₈ => ?_
  have O₂₈ := O₂₇.keepF k₂₈
  rw [ite_int]
  have hM : (3 : Int) ≤ (if ((vs.toArray.size : Nat) : Int) > 3 then ((vs.toArray.size : Nat) : Int) else 3) := by split <;> omega
  generalize (if ((vs.toArray.size : Nat) : Int) > 3 then ((vs.toArray.size : Nat) : Int) else 3) = M at hM ⊢
  walk_at "args1"
  refine min_two_ints (s := ⟨h₂₈, s.gens, s.drawn, tk₂₈, s.os⟩) (by exact Fo.hd) fun h₂₉ tk₂₉ k₂₉ => ?_
  have O₂₉ := O₂₈.keepF k₂₉
  rw [ite_int]
  have hN : ∃ N : Nat, (if M < 8 then M else 8) = (N : Int) ∧ N ≤ 8 := by
    split
    · exact ⟨M.toNat, by omega, by omega⟩
    · exact ⟨8, rfl, by omega⟩
  obtain ⟨N, eN, hN⟩ := hN
  rw [eN]
  walk_at "args1"
  refine iter_range (s := ⟨h₂₉, s.gens, s.drawn, tk₂₉, s.os⟩) O₂₉ (by omega) (by omega) fun h₃₀ tk₃₀ it O₃₀ => ?_
  have kD := ((k₁₇.trans k₁₈).trans kC)
  have kE := kA.trans kD
  have kF := (k₄.trans k₅).trans kE
  obtain ⟨x, y, fx, I, ll, O₃₁⟩ := law_start O₃₀ (IsList.keep hsc kAll) hi hz (kE _ _ hc) (kF _ _ hst) ⟨_, k₂₂ _ _ hb₁₉, rfl, _, rfl⟩ ((k₁₈.trans kC) _ _ ht1) ((k₁₈.trans kC) _ _ hq1) (hqd1.keeps (k₁₈.trans kC)) (kC _ _ ht2) (kC _ _ hq2) (hqd2.keeps kC) ((k₅.trans kE) _ _ hb₄) hostd hog
    ((k₈.trans (k₁₁.trans kD)) _ _ hb₆) ((k₁₁.trans kD) _ _ hb₈) ⟨by walk_at "loc", by walk_at "loc", by walk_at "loc", by walk_at "loc", by walk_at "loc", by walk_at "loc", by walk_at "loc"⟩
  exact kk B₂₂ h₃₀ _ x y N _ it hN kAll fx I ll O₃₁
end
-- QF
section
variable {w : World} {A : Around} {E : Value → Shared → Prop} {s : Shared} {B : Heap} {F F' S S' : NsL} {L L' : ObL} {R : Result → Shared → Prop} {h h' : Heap} {env : Env}
variable {x : Fx} {y : St} {Lf : Addr} {Y : ObL} {l : List (Str × Value)} {j : Nat} {cdl : Value} {Q : Flow → Shared → Prop}
set_option maxHeartbeats 1000000 in
theorem law_end (O : Own B ((Lf, l) :: F) (stS x y) (stL x y Lf Y) s.heap) (W : Wd w B) (r : Room A 140) (Fo : Fro A (((Lf, l) :: F).map (·.1))) (fx : FxOk w B x Lf) (I : Inv w B y j) (hj : j ≤ 50)
    (ll : LL l x.sc x.c x.kl x.ml x.fl y.bv y.rc.isSome)
    (kk : ∀ B' h' tk gens' S', Le B B' → Own B' ((Lf, l) :: F) S' (stL x y Lf Y) h' → (AllBare s.gens → AllBare gens') → Q (.ret (.bool true)) ⟨h', gens', s.drawn, tk, s.os⟩) :
    wpAny (model prog w) A (execs (lawBody.drop 5) (envLaw Lf cdl)) Q E s := by
  have hh := I.vc.held O
  have O₁ : Own B ((Lf, l) :: F) ((x.cd, cachedNs x.st y.vc y.n y.tn) :: (x.sd, memNs y.vm) :: [(x.td1, tableNs x.c "t" x.tm1 x.q1 y.v1.nx), (x.td2, tableNs x.c "u" x.tm2 x.q2 y.v2.nx)]) (stL x y Lf Y) s.heap := O.permS (by walk_at "perm")
  refine wpAny_execs_cons (wpAny_Expr (MethodCall_ ?_))
  refine nm_loc O₁ (.head _) ll.cached ?_
  refine meth_at O₁ W fx.c (Own.nsAt O₁ (.head _)) (by walk_at "noloc") (by k_is) (by k_is) (by k_is) ?_
  walk_at "cw0"
  refine wpAny_call (c_close O₁ W (r.le (by decide)) fx.c fx.st hh.handed fun h₂ tk₂ tn₂ O₂ => ?_)
  generalize hvm1 : (if 0 < y.n then y.vc else y.vm) = vm₁ at O₂
  have hvm₁ : Held w B (stL x y Lf Y) vm₁ y.rc := by
    by_cases e : 0 < y.n
    · rw [if_pos e] at hvm1; rw [← hvm1]; exact hh
    · have := I.n0
      rw [if_neg e] at hvm1; rw [← hvm1, ← I.nz (by omega)]; exact I.vm.mono (.refl B) (fun p hp => by cases hp)
  dsimp only
  refine wpAny_execs_cons (wpAny_Return_some (wpAny_Compare1 ?_))
  refine own_LC (cl := [("storage", Lf + 1)]) (Tuple_ ?_)
  walk_at "arg"
  refine wpAny_Constant_str ?_
  walk_at "arg"
  refine wpAny_Constant_str ?_
  walk_at "args1"
  refine new_tuple (s := ⟨h₂, s.gens, s.drawn, _, s.os⟩) O₂ (by simp) fun h₃ tp _ O₃ => ?_
  obtain ⟨B₃, kB₃, hb₃, O₄⟩ := O₃.freeze1
  have htp : B₃.IsTuple tp _ := ⟨_, hb₃, rfl, _, rfl⟩
  refine iter_tuple (s := ⟨h₃, s.gens, s.drawn, _, s.os⟩) O₄ (IsTuple.keep htp O₄.keep) fun h₅ it o lo _ O₅ => ?_
  refine ⟨_, _, _, _, O₅, self_tuple (s₂ := ⟨h₅, s.gens, s.drawn, _, s.os⟩) O₅ lo, fun D C h₆ tk₆ O₆ => ?_⟩
  refine loop_two (s := ⟨h₆, s.gens, s.drawn, tk₆, s.os⟩) O₆ (W.le kB₃) (r.le (by decide)) Fo (.inl (kB₃ _ _ fx.cs)) fx.csd lo htp (kB₃ _ _ fx.st) (.tail _ (.head _)) hvm₁.handed (held_tabs (hvm₁.mono kB₃ fun p hp => hp) (I.vc.good (by omega))) fun B₇ l₇ h₇ tk₇ g₇ k₇ O₇ htw hg₇ => ?_
  refine ⟨rfl, B₇, l₇, _, _, _, O₇, fun h₈ O₈ => ?_⟩
  refine nm_loc (s := ⟨h₈, g₇, s.drawn, tk₇, s.os⟩) O₈ (.head _) ll.kept ?_
  have kZ := kB₃.trans k₇
  have hkt : TwoAt h₈ x.kl (rowsIn (y.rc.getD []) "t") (rowsIn (y.rc.getD []) "u") := ⟨y.v1.k, y.v2.k, LsO.list (O₈.ob (x.kl, y.ok) (by simp)).1 I.ok, I.t1.told.keep fun b o e => O₈.keep _ _ (kZ _ _ e), I.t2.told.keep fun b o e => O₈.keep _ _ (kZ _ _ e)⟩
  refine eq_two (s := ⟨h₈, g₇, s.drawn, tk₇, s.os⟩) (htw.keep O₈.keep) hkt (r.le (by decide)) ?_
  exact kk B₇ h₈ tk₇ g₇ _ kZ O₈ hg₇
theorem c_law {sc : Addr} {vs : List Value} {ns : List Int} (O : Own B F [] [(298, tabObj #[]), (364, tabObj #[])] s.heap) (W : Wd w B) (r : Room A 200) (Fo : Fro A (F.map (·.1))) (hsc : B.IsList sc vs.toArray) (hi : IntsAre vs ns) (hz : vs.length ≤ 63)
    (k : ∀ B' h' tk gens' S' p1 p2 Y', Le B B' → Own B' F S' ((298, tabObj p1) :: (364, tabObj p2) :: Y') h' → (AllBare s.gens → AllBare gens') → R (.ok (.ret (.bool true))) ⟨h', gens', s.drawn, tk, s.os⟩) :
    codeAny (model prog w) A (.call (.ref 457) ⟨[.ref sc], []⟩) R s := by
  refine call_cells (binds := [("script", .ref sc)]) (fl := [("script", .ref sc)]) O W (by k_is) (by k_is) r.depth (BindsTo.of_eq rfl) (fun n x hx => by
      rcases List.mem_cons.mp hx with rfl | hx
      · exact .inl rfl
      · cases hx) (by decide) (by intro Lf y; exact (lookup1 _ _ _).symm) fun Lf h₁ tk₁ cells hcells O₁ => ?_
  obtain ⟨og, ost, rfl, hog, host⟩ := CellsAre.two hcells
  replace hog : og.data = .cell none := hog
  replace host : ost.data = .cell none := host
  clear hcells
  show wpAny (model prog w) (A.deeper (envLaw Lf (.ref 456))) (execs lawBody (envLaw Lf (.ref 456))) _ _ _
  have r₁ : Room (A.deeper (envLaw Lf (.ref 456))) 199 := r.deeper
  have Fo₁ : Fro (A.deeper (envLaw Lf (.ref 456))) (Lf :: F.map (·.1)) := Fo.deeper (by intro q; cases q) rfl
  refine law_top (s := ⟨h₁, s.gens, s.drawn, tk₁, s.os⟩) O₁ W r₁ Fo₁ hsc hi hz hog host fun B₂ h₂ tk₂ x y N lf it hN kB fx I ll O₂ => ?_
  have W₂ := W.le kB
  refine law_loop (s := ⟨h₂, s.gens, s.drawn, tk₂, s.os⟩) (Y := []) hN O₂ W₂ (r₁.le (by decide)) Fo₁ fx I ll fun B₃ h₃ tk₃ g₃ l y' k₃ I' ll' O₃ hg₃ => ?_
  refine law_end (s := ⟨h₃, g₃, s.drawn, tk₃, s.os⟩) (Y := []) O₃ (W₂.le k₃) (r₁.le (by decide)) Fo₁ (fx.le k₃) I' (by omega) ll' fun B₄ h₄ tk₄ g₄ S' k₄ O₄ hg₄ => ?_
  refine k B₄ h₄ tk₄ g₄ S' y'.p1 y'.p2 (y'.pre ++ (x.dq1, y'.v1.oq) :: (x.dq2, y'.v2.oq) :: (y'.X ++ (x.kl, y'.ok) :: (x.fl, y'.oF) :: (Lf + 1 + 1, y'.og) :: [])) ((kB.trans k₃).trans k₄) ?_ fun z => hg₄ (hg₃ z)
  exact O₄.dropF.permL (by walk_at "perm")
end
-- QG
section
variable {w : World} {s₀ s₁ : Shared} {mg mb : Str → Option Value} {h : Heap}
theorem not_tab {P : Params} : List.lookup 298 (hd.heap_39 P) = none ∧ List.lookup 364 (hd.heap_39 P) = none := ⟨by kernel_rfl, by kernel_rfl⟩
theorem law_at {P : Params} : ∃ o, List.lookup 457 (hd.heap_39 P) = some o := ⟨_, by k_is⟩
theorem caller_room : Room callerA 200 := ⟨by decide, by decide⟩
theorem caller_fro : Fro callerA [] := ⟨⟨[], rfl, fun env h => by cases h⟩, rfl⟩
/-- the law's own start: what stands, the two tables of code apart -/
theorem law_stands (T : Top hd.view_39 (looseW hd.view_39 [Str.ofString "CachingMiddleware", Str.ofString "LRUCache", Str.ofString "Table"]) (ExcName.means s₀.heap) mg mb h) (KX : (hd.heap_39 w.params).In h)
    (t1 : h.get? 298 = some (tabObj #[])) (t2 : h.get? 364 = some (tabObj #[])) : Wd w (hideAll h [298, 364]) ∧ Own (hideAll h [298, 364]) [] [] [(298, tabObj #[]), (364, tabObj #[])] h := by
  have keep : ∀ b o, h.get? b = some o → b ≠ 298 → b ≠ 364 → (hideAll h [298, 364]).get? b = some o := fun b o e n1 n2 => hideAll_get _ e (by simp [n1, n2])
  have ns : ∀ {a : Addr} {m : Str → Option Value}, h.Ns a m → a ≠ 298 → a ≠ 364 → (hideAll h [298, 364]).Ns a m := fun x n1 n2 => x.at' fun o e => keep _ _ e n1 n2
  have bmk : ∀ bm ob, h.get? bm = some ob → ob.data = .plain → (hideAll h [298, 364]).get? bm = some ob := fun bm ob e d => keep _ _ e (fun q => by rw [q, t1] at e; cases e; cases d) (fun q => by rw [q, t2] at e; cases e; cases d)
  have seer := T.seer (by rfl)
  refine ⟨⟨fun a o e => keep _ _ (KX a o e) (fun q => by rw [q, not_tab.1] at e; cases e) (fun q => by rw [q, not_tab.2] at e; cases e), ⟨mg, mb, ns T.g (by decide) (by decide), ns T.b (by decide) (by decide), ?_, T.builtins, ?_⟩, ?_⟩, ?_⟩
  · obtain ⟨mc, a, b⟩ := T.nolimit
    exact ⟨mc, ns a (by decide) (by decide), b⟩
  · obtain ⟨bm, ob, a, b, c, d, e, f⟩ := T.bmain
    refine ⟨bm, ob, a, b, fun q => ?_, bmk _ _ c f, d, e, f⟩
    obtain ⟨o, es, ep, z1, z2, _⟩ := T.g
    rw [← q, c] at z1; cases z1
    rw [f] at z2; cases z2
  · obtain ⟨⟨mc, a1, a2⟩, ⟨mm, b1, b2⟩, ⟨mb', c1, c2⟩, ⟨mg', bm, ob, d1, d2, d3, d4, d5⟩⟩ := seer
    refine ⟨⟨mc, ns a1 (by decide) (by decide), a2⟩, ⟨mm, ns b1 (by decide) (by decide), b2⟩, ⟨mb', ns c1 (by decide) (by decide), c2⟩, ⟨mg', bm, ob, ns d1 (by decide) (by decide), d2, keep _ _ d3 (fun q => ?_) (fun q => ?_), d4, d5⟩⟩
    · rw [q, t1] at d3; cases d3; cases d4
    · rw [q, t2] at d3; cases d3; cases d4
  · refine ⟨fun b o e => of_hideAll _ e, (fun p hp => by cases hp), (fun p hp => by cases hp), fun p hp => ?_, by decide, fun x hx => ?_, ?_⟩
    · rcases List.mem_cons.mp hp with rfl | hp
      · exact ⟨t1, hideAll_none _ (by simp)⟩
      · rw [List.mem_singleton] at hp; subst hp; exact ⟨t2, hideAll_none _ (by simp)⟩
    · simp at hx; rcases hx with rfl | rfl <;> decide
    · obtain ⟨o, e⟩ := law_at (P := w.params)
      exact ⟨457, o, by decide, keep _ _ (KX _ _ e) (by decide) (by decide)⟩
theorem law_walks {c : ClaimW} {cl : Str → Option Addr} {mean : ExcName → Option Value} {args : List WData} {fa sc : Addr} {vs : List Value} {ns : List Int}
    (T : Top hd.view_39 (looseW hd.view_39 [Str.ofString "CachingMiddleware", Str.ofString "LRUCache", Str.ofString "Table"]) (ExcName.means s₀.heap) mg mb s₁.heap) (KX : (hd.heap_39 w.params).In s₁.heap) (hT8 : ∀ P ∈ [371, 364, 341, 298, 275], s₁.heap.get? P = some (tabObj #[])) (hg : s₁.gens = #[])
    (hmg : mg (Str.ofString "law") = some (.ref fa)) (hL : s₁.heap.IsList sc vs.toArray) (hI : IntsAre vs ns) (hz : ns.length ≤ 63) (hr : ∀ cls, c.raises args cls = false) (hp : c.post args (.bool true) args = true) :
    codeAny (model prog w) callerA (.call (.ref fa) ⟨[.ref sc], []⟩) (GoodWG c cl mean args s₁) s₁ := by
  have t1 : s₁.heap.get? 298 = some (tabObj #[]) := hT8 298 (by simp)
  have t2 : s₁.heap.get? 364 = some (tabObj #[]) := hT8 364 (by simp)
  obtain ⟨W, O⟩ := law_stands T KX t1 t2
  have hfa : mg (Str.ofString "law") = some (.ref 457) := mg_of KX T.g (by k_is)
  rw [hmg] at hfa
  cases hfa
  have hsc : (hideAll s₁.heap [298, 364]).IsList sc vs.toArray := by
    obtain ⟨o, e, c, n, d⟩ := hL
    exact ⟨o, hideAll_get _ e (by
      simp only [List.mem_cons, List.not_mem_nil, or_false, not_or]
      exact ⟨(fun q => by rw [q, t1] at e; cases e; cases d), (fun q => by rw [q, t2] at e; cases e; cases d)⟩), c, n, d⟩
  refine c_law O W caller_room caller_fro hsc hI (by rw [hI.length]; exact hz) fun B' h' tk gens' S' p1 p2 Y' kB O' hg' => ?_
  have ck1 : CodeHd s₁.heap 302 298 := codeHd_of_K KX (by kernel_rfl)
  have ck2 : CodeHd s₁.heap 368 364 := codeHd_of_K KX (by kernel_rfl)
  have old : ∀ b o, s₁.heap.get? b = some o → (b ≠ 298 ∧ b ≠ 364 ∧ h'.get? b = some o) ∨ (b = 298 ∧ h'.get? b = some (tabObj p1)) ∨ (b = 364 ∧ h'.get? b = some (tabObj p2)) := fun b o e => by
    by_cases n1 : b = 298
    · subst n1; exact .inr (.inl ⟨rfl, (O'.ob _ (.head _)).1⟩)
    · by_cases n2 : b = 364
      · subst n2; exact .inr (.inr ⟨rfl, (O'.ob _ (.tail _ (.head _))).1⟩)
      · exact .inl ⟨n1, n2, O'.keep _ _ (kB _ _ (hideAll_get _ e (by simp [n1, n2])))⟩
  refine ⟨.inl ⟨.bool true, .bool true, [], rfl, hr, .bool true, hp, unshared_nil⟩, ⟨fun b o e => ?_, fun b o e => ?_⟩, rfl, hg' (hg ▸ .of_eq rfl)⟩
  · rcases old b o e with ⟨_, _, z⟩ | ⟨rfl, z⟩ | ⟨rfl, z⟩
    · exact .inl z
    · rw [t1] at e; cases e
      exact .inr (.inl ⟨(ck1.tab t1).isCodeTable, rfl, #[], p1, rfl, by rw [Array.empty_append]; exact z⟩)
    · rw [t2] at e; cases e
      exact .inr (.inl ⟨(ck2.tab t2).isCodeTable, rfl, #[], p2, rfl, by rw [Array.empty_append]; exact z⟩)
  · rcases old b o e with ⟨_, _, z⟩ | ⟨_, z⟩ | ⟨_, z⟩ <;> exact ⟨_, z⟩
end
-- QH
set_option maxHeartbeats 4000000 in
theorem whole : PySem.Challenge.rw_fk5016_01.Holds := hd (by
  k_fill
  intro w s₀ s₁ mg mb G Y fa o pm cd doc dV kV ho hd' hcd hD hmg hg args vals as hpre hlay hrd hwl hlo
  have KX := km_in_of Y
  have hT8 := km_tabs_of Y
  refine Ground.open G ?_
  intro T Bt D TE TW
  wrow_args hpre hlay hrd hwl hlo
  rename_i hL ra w1 r0 hI hr hcond hc2
  clear D TE TW Bt hD hcd hd' ho
  refine enter_call ?_
  refine law_walks (w := w) T KX hT8 hg hmg hL hI (by omega) (fun _ => rfl) ?_
  first | kernel_rfl | (simp [OpenLaw.row]; done) | fail "post")
end Mine
theorem PySem.Challenge.cw_fk5016_01_holds : PySem.Challenge.rw_fk5016_01.Holds := by
  exact Mine.whole
