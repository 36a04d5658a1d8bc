import PyProof.Rows.All
import Wide.All
import OpenK.AllK
import Wide.FinOn
import PySem.Challenge.RW_il0010_01
set_option Elab.async false
set_option maxRecDepth 100000

namespace Mine
open PySem PySem.W PyProof.Rows
set_option maxRecDepth 100000 in
set_option maxHeartbeats 8000000 in
open_top hd for PySem.Challenge.rw_il0010_01
end Mine

namespace Mine
open PySem PySem.W PySem.Calls PySem.Spec PyProof.Rows

noncomputable def Gro (S : List Addr) (h h' : Heap) : Prop :=
  (∀ b o, b ∉ S → h.get? b = some o → h'.get? b = some o) ∧ ∀ b o, h.get? b = some o → ∃ sl, h'.get? b = some { o with slots := sl }

theorem Gro.of_keeps {S : List Addr} {h h' : Heap} (k : ∀ b o, h.get? b = some o → h'.get? b = some o) : Gro S h h' :=
  ⟨fun b o _ e => k b o e, fun b o e => ⟨o.slots, k b o e⟩⟩
theorem Gro.trans {S : List Addr} {h₁ h₂ h₃ : Heap} (x : Gro S h₁ h₂) (y : Gro S h₂ h₃) : Gro S h₁ h₃ :=
  ⟨fun b o hb e => y.1 b o hb (x.1 b o hb e), fun b o e => let ⟨_, e₁⟩ := x.2 b o e; let ⟨sl, e₂⟩ := y.2 b _ e₁; ⟨sl, e₂⟩⟩
theorem Gro.ns {S : List Addr} {h h' : Heap} (x : Gro S h h') {a : Addr} {m : Str → Option Value} (n : h.Ns a m) : h'.Ns a m := by
  obtain ⟨o, es, ep, e, hd, hk, hf⟩ := n
  obtain ⟨sl, e'⟩ := x.2 a o e
  exact ⟨_, es, ep, e', hd, hk, hf⟩

noncomputable def frs (l : List Env) : List Addr := l.filterMap (·.frame)

structure Act (B h : Heap) (fr : List Env) : Prop where
  stays : B.StaysIn h
  frames : h.FunFrames B fr

theorem Act.off {B h : Heap} {fr : List Env} (P : Act B h fr) {b : Addr} (hb : b ∈ frs fr) : B.get? b = none := (P.frames.mem hb).1
theorem Act.there {B h : Heap} {fr : List Env} (P : Act B h fr) {b : Addr} (hb : b ∈ frs fr) : ∃ o, h.get? b = some o := let ⟨_, o, e, _⟩ := P.frames.mem hb; ⟨o, e⟩
theorem Act.gro {B h h' : Heap} {fr : List Env} (P : Act B h fr) (g : Gro (frs fr) h h') : Act B h' fr :=
  ⟨fun b o e => g.1 b o (fun hb => by rw [P.off hb] at e; cases e) (P.stays b o e), P.frames.of_keeps fun b o e _ => let ⟨_, e'⟩ := g.2 b o e; ⟨_, e', rfl⟩⟩
theorem Act.keeps {B h h' : Heap} {fr : List Env} (P : Act B h fr) (g : ∀ b o, h.get? b = some o → h'.get? b = some o) : Act B h' fr := P.gro (.of_keeps g)

structure Room (A : Around) (fr : List Env) (d u : Nat) : Prop where
  frames : A.frames = some fr
  handled : A.handled = none
  depth : A.depth + d < recursionLimit
  units : A.units + u < cLine

theorem Room.deeper {A : Around} {fr : List Env} {d u : Nat} (R : Room A fr (d + 1) (u + 3)) (env : Env) : Room (A.deeper env) (env :: fr) d u :=
  ⟨Around.frames_deeper R.frames, R.handled, by have := R.depth; show A.depth + 1 + d < _; omega, by have := R.units; show A.units + 3 + u < _; omega⟩
theorem Room.in1 {A : Around} {fr : List Env} {d u : Nat} (R : Room A fr d (u + 1)) : Room A.in1 fr d u :=
  ⟨R.frames, R.handled, R.depth, by have := R.units; show A.units + 1 + u < _; omega⟩
theorem Room.less {A : Around} {fr : List Env} {d u d' u' : Nat} (R : Room A fr d u) (hd : d' ≤ d) (hu : u' ≤ u) : Room A fr d' u' :=
  ⟨R.frames, R.handled, by have := R.depth; omega, by have := R.units; omega⟩

theorem get?_fresh (h : Heap) : h.get? h.objs.size = none := by
  cases e : h.get? h.objs.size with
  | none => rfl
  | some o => exact absurd (Heap.lt_size e) (Nat.lt_irrefl _)

structure Cx (S : List Addr) (h₀ : Heap) (L : Addr) (m : Str → Option Value) (mu fz : List (Addr × Obj)) (h : Heap) : Prop where
  ns : h.Ns L m
  gro : Gro S h₀ h
  new : h₀.get? L = none
  above : h₀.objs.size ≤ L
  mus : ∀ p ∈ mu, h.get? p.1 = some p.2 ∧ h₀.get? p.1 = none ∧ p.1 ≠ L
  fzs : ∀ p ∈ fz, h.get? p.1 = some p.2 ∧ h₀.get? p.1 = none ∧ p.1 ≠ L
  sep : ∀ p ∈ mu, ∀ q ∈ fz, p.1 ≠ q.1
  nd : (mu.map (·.1)).Nodup

section
variable {S : List Addr} {h₀ h h' : Heap} {L : Addr} {m m' : Str → Option Value} {mu mu' fz fz' : List (Addr × Obj)}

theorem Cx.lt (C : Cx S h₀ L m mu fz h) : L < h.objs.size := C.ns.lt
theorem Cx.size (C : Cx S h₀ L m mu fz h) : h₀.get? h.objs.size = none := by
  cases e : h₀.get? h.objs.size with
  | none => rfl
  | some o => obtain ⟨_, e'⟩ := C.gro.2 _ _ e; exact absurd (Heap.lt_size e') (Nat.lt_irrefl _)

theorem Cx.keeps (C : Cx S h₀ L m mu fz h) (hk : ∀ b o, h.get? b = some o → h'.get? b = some o) : Cx S h₀ L m mu fz h' :=
  ⟨C.ns.keeps hk, C.gro.trans (.of_keeps hk), C.new, C.above, fun p hp => ⟨hk _ _ (C.mus p hp).1, (C.mus p hp).2⟩, fun p hp => ⟨hk _ _ (C.fzs p hp).1, (C.fzs p hp).2⟩, C.sep, C.nd⟩
theorem Cx.push (C : Cx S h₀ L m mu fz h) (o : Obj) : Cx S h₀ L m mu fz (h.push o) := C.keeps fun _ _ e => Heap.get?_push_of_some _ e

theorem Cx.addM (C : Cx S h₀ L m mu fz h) {a : Addr} {o : Obj} (e : h.get? a = some o) (e₀ : h₀.get? a = none) (hL : a ≠ L) (h1 : ∀ p ∈ mu, p.1 ≠ a) (h2 : ∀ q ∈ fz, q.1 ≠ a) : Cx S h₀ L m ((a, o) :: mu) fz h where
  ns := C.ns
  gro := C.gro
  new := C.new
  above := C.above
  mus := fun p hp => by
    rcases List.mem_cons.mp hp with rfl | hp
    · exact ⟨e, e₀, hL⟩
    · exact C.mus p hp
  fzs := C.fzs
  sep := fun p hp q hq => by
    rcases List.mem_cons.mp hp with rfl | hp
    · exact Ne.symm (h2 q hq)
    · exact C.sep p hp q hq
  nd := by
    rw [List.map_cons]
    refine List.nodup_cons.mpr ⟨fun hm => ?_, C.nd⟩
    obtain ⟨p, hp, e⟩ := List.mem_map.mp hm
    exact h1 p hp e
theorem Cx.addF (C : Cx S h₀ L m mu fz h) {a : Addr} {o : Obj} (e : h.get? a = some o) (e₀ : h₀.get? a = none) (hL : a ≠ L) (h1 : ∀ p ∈ mu, p.1 ≠ a) : Cx S h₀ L m mu ((a, o) :: fz) h where
  ns := C.ns
  gro := C.gro
  new := C.new
  above := C.above
  mus := C.mus
  fzs := fun p hp => by
    rcases List.mem_cons.mp hp with rfl | hp
    · exact ⟨e, e₀, hL⟩
    · exact C.fzs p hp
  sep := fun p hp q hq => by
    rcases List.mem_cons.mp hq with rfl | hq
    · exact h1 p hp
    · exact C.sep p hp q hq
  nd := C.nd
theorem Cx.pushM (C : Cx S h₀ L m mu fz h) {o : Obj} (hf : o.isFreed = false) : Cx S h₀ L m ((h.objs.size, o) :: mu) fz (h.push o) :=
  (C.push o).addM (Heap.get?_push_size _ hf) C.size (Nat.ne_of_gt C.lt) (fun p hp => Nat.ne_of_lt (Heap.lt_size (C.mus p hp).1)) fun q hq => Nat.ne_of_lt (Heap.lt_size (C.fzs q hq).1)
theorem Cx.pushF (C : Cx S h₀ L m mu fz h) {o : Obj} (hf : o.isFreed = false) : Cx S h₀ L m mu ((h.objs.size, o) :: fz) (h.push o) :=
  (C.push o).addF (Heap.get?_push_size _ hf) C.size (Nat.ne_of_gt C.lt) fun p hp => Nat.ne_of_lt (Heap.lt_size (C.mus p hp).1)

theorem Cx.set (C : Cx S h₀ L m mu fz h) (hn : h'.Ns L m') (hs : Heap.SameBut L h h') : Cx S h₀ L m' mu fz h' where
  ns := hn
  gro := by
    refine ⟨fun b o hb e => ?_, fun b o e => ?_⟩
    · have hbL : b ≠ L := fun q => by rw [q, C.new] at e; cases e
      exact (hs.2 b hbL).trans (C.gro.1 b o hb e)
    · have hbL : b ≠ L := fun q => by rw [q, C.new] at e; cases e
      obtain ⟨sl, e'⟩ := C.gro.2 b o e
      exact ⟨sl, (hs.2 b hbL).trans e'⟩
  new := C.new
  above := C.above
  mus := fun p hp => ⟨(hs.2 _ (C.mus p hp).2.2).trans (C.mus p hp).1, (C.mus p hp).2⟩
  fzs := fun p hp => ⟨(hs.2 _ (C.fzs p hp).2.2).trans (C.fzs p hp).1, (C.fzs p hp).2⟩
  sep := C.sep
  nd := C.nd

theorem Cx.turn {pre post : List (Addr × Obj)} {a : Addr} {o o' : Obj} (C : Cx S h₀ L m (pre ++ (a, o) :: post) fz h) (hx : Heap.ExtBut a h h') (e : h'.get? a = some o') : Cx S h₀ L m (pre ++ (a, o') :: post) fz h' where
  ns := C.ns.extBut hx (Ne.symm (C.mus (a, o) (by simp)).2.2)
  gro := by
    have ha := (C.mus (a, o) (by simp)).2.1
    refine ⟨fun b ob hb e₁ => hx b ob (fun q => by rw [q, ha] at e₁; cases e₁) (C.gro.1 b ob hb e₁), fun b ob e₁ => ?_⟩
    obtain ⟨sl, e₂⟩ := C.gro.2 b ob e₁
    exact ⟨sl, hx b _ (fun q => by rw [q, ha] at e₁; cases e₁) e₂⟩
  new := C.new
  above := C.above
  mus := fun p hp => by
    have nd := C.nd
    rw [List.map_append, List.map_cons] at nd
    have nd' := List.nodup_append.mp nd
    rcases List.mem_append.mp hp with hp | hp
    · have z := C.mus p (List.mem_append_left _ hp)
      have ne : p.1 ≠ a := fun q => nd'.2.2 p.1 (List.mem_map_of_mem hp) a (.head _) q
      exact ⟨hx p.1 p.2 ne z.1, z.2⟩
    · rcases List.mem_cons.mp hp with rfl | hp
      · exact ⟨e, (C.mus (a, o) (by simp)).2⟩
      · have z := C.mus p (List.mem_append_right _ (.tail _ hp))
        have ne : p.1 ≠ a := fun q => (List.nodup_cons.mp nd'.2.1).1 (List.mem_map.mpr ⟨p, hp, q⟩)
        exact ⟨hx p.1 p.2 ne z.1, z.2⟩
  fzs := fun q hq => ⟨hx q.1 q.2 (Ne.symm (C.sep (a, o) (by simp) q hq)) (C.fzs q hq).1, (C.fzs q hq).2⟩
  sep := fun p hp q hq => by
    rcases List.mem_append.mp hp with hp | hp
    · exact C.sep p (List.mem_append_left _ hp) q hq
    · rcases List.mem_cons.mp hp with rfl | hp
      · exact C.sep (a, o) (by simp) q hq
      · exact C.sep p (List.mem_append_right _ (.tail _ hp)) q hq
  nd := by have := C.nd; rw [List.map_append, List.map_cons] at this ⊢; exact this

theorem Cx.freeze {a : Addr} {o : Obj} (C : Cx S h₀ L m ((a, o) :: mu) fz h) : Cx S h₀ L m mu ((a, o) :: fz) h where
  ns := C.ns
  gro := C.gro
  new := C.new
  above := C.above
  mus := fun p hp => C.mus p (.tail _ hp)
  fzs := fun q hq => by
    rcases List.mem_cons.mp hq with rfl | hq
    · exact C.mus _ (.head _)
    · exact C.fzs q hq
  sep := fun p hp q hq => by
    have nd := C.nd
    rw [List.map_cons] at nd
    rcases List.mem_cons.mp hq with rfl | hq
    · exact fun e => (List.nodup_cons.mp nd).1 (List.mem_map.mpr ⟨p, hp, e⟩)
    · exact C.sep p (.tail _ hp) q hq
  nd := by have := C.nd; rw [List.map_cons] at this; exact (List.nodup_cons.mp this).2
theorem Cx.dropM {p : Addr × Obj} (C : Cx S h₀ L m (p :: mu) fz h) : Cx S h₀ L m mu fz h where
  ns := C.ns
  gro := C.gro
  new := C.new
  above := C.above
  mus := fun p hp => C.mus p (.tail _ hp)
  fzs := C.fzs
  sep := fun p hp q hq => C.sep p (.tail _ hp) q hq
  nd := by have := C.nd; rw [List.map_cons] at this; exact (List.nodup_cons.mp this).2
theorem Cx.but {a : Addr} {o : Obj} (C : Cx S h₀ L m ((a, o) :: mu) fz h) (hx : ∀ b ob, b ≠ a → h.get? b = some ob → h'.get? b = some ob) : Cx S h₀ L m mu fz h' where
  ns := C.ns.extBut hx (Ne.symm (C.mus (a, o) (.head _)).2.2)
  gro := by
    have ha := (C.mus (a, o) (.head _)).2.1
    refine ⟨fun b ob hb e₁ => hx b ob (fun q => by rw [q, ha] at e₁; cases e₁) (C.gro.1 b ob hb e₁), fun b ob e₁ => ?_⟩
    obtain ⟨sl, e₂⟩ := C.gro.2 b ob e₁
    exact ⟨sl, hx b _ (fun q => by rw [q, ha] at e₁; cases e₁) e₂⟩
  new := C.new
  above := C.above
  mus := fun p hp => by
    have nd := C.nd
    rw [List.map_cons] at nd
    have z := C.mus p (.tail _ hp)
    exact ⟨hx _ _ (fun q => (List.nodup_cons.mp nd).1 (List.mem_map.mpr ⟨p, hp, q⟩)) z.1, z.2⟩
  fzs := fun q hq => ⟨hx _ _ (Ne.symm (C.sep (a, o) (.head _) q hq)) (C.fzs q hq).1, (C.fzs q hq).2⟩
  sep := fun p hp q hq => C.sep p (.tail _ hp) q hq
  nd := by have := C.nd; rw [List.map_cons] at this; exact (List.nodup_cons.mp this).2
theorem Cx.swap {p q : Addr × Obj} (C : Cx S h₀ L m (p :: q :: mu) fz h) : Cx S h₀ L m (q :: p :: mu) fz h where
  ns := C.ns
  gro := C.gro
  new := C.new
  above := C.above
  mus := fun r hr => C.mus r (by simp only [List.mem_cons] at hr ⊢; rcases hr with h | h | h <;> simp [h])
  fzs := C.fzs
  sep := fun r hr => C.sep r (by simp only [List.mem_cons] at hr ⊢; rcases hr with h | h | h <;> simp [h])
  nd := by
    have := C.nd
    simp only [List.map_cons, List.nodup_cons, List.mem_cons, not_or] at this ⊢
    exact ⟨⟨fun e => this.1.1 e.symm, this.2.1⟩, this.1.2, this.2.2⟩
theorem Cx.sub (C : Cx S h₀ L m mu fz h) (hs : ∀ p ∈ fz', p ∈ fz) : Cx S h₀ L m mu fz' h :=
  ⟨C.ns, C.gro, C.new, C.above, C.mus, fun p hp => C.fzs p (hs p hp), fun p hp q hq => C.sep p hp q (hs q hq), C.nd⟩

theorem Cx.call {fr : List Env} {B : Heap} (P : Act B h₀ fr) (C : Cx (frs fr) h₀ L m mu fz h) (g : Gro (L :: frs fr) h h') {tl : List (Addr × Obj)} (ht : ∀ p ∈ tl, h'.get? p.1 = some p.2 ∧ h.get? p.1 = none) :
    Cx (frs fr) h₀ L m mu (tl ++ fz) h' := by
  have off : ∀ b, h₀.get? b = none → b ≠ L → b ∉ L :: frs fr := fun b e hb hm => by
    rcases List.mem_cons.mp hm with q | q
    · exact hb q
    · obtain ⟨o, eo⟩ := P.there q
      rw [e] at eo; cases eo
  have back : ∀ b, h.get? b = none → h₀.get? b = none := fun b e => by
    cases q : h₀.get? b with
    | none => rfl
    | some o => obtain ⟨_, e'⟩ := C.gro.2 b o q; rw [e] at e'; cases e'
  have lo : ∀ b, h.get? b = none → b ≠ L := fun b e q => by
    obtain ⟨o, _, _, eo, _⟩ := C.ns
    rw [q, eo] at e; cases e
  refine ⟨g.ns C.ns, ⟨fun b o hb e => g.1 b o (fun hm => ?_) (C.gro.1 b o hb e), fun b o e => ?_⟩, C.new, C.above, fun p hp => ?_, fun p hp => ?_, fun p hp q hq => ?_, C.nd⟩
  · rcases List.mem_cons.mp hm with q | q
    · rw [q, C.new] at e; cases e
    · exact hb q
  · obtain ⟨_, e₁⟩ := C.gro.2 b o e
    obtain ⟨sl, e₂⟩ := g.2 b _ e₁
    exact ⟨sl, e₂⟩
  · have z := C.mus p hp
    exact ⟨g.1 _ _ (off _ z.2.1 z.2.2) z.1, z.2⟩
  · rcases List.mem_append.mp hp with hp | hp
    · have z := ht p hp
      exact ⟨z.1, back _ z.2, lo _ z.2⟩
    · have z := C.fzs p hp
      exact ⟨g.1 _ _ (off _ z.2.1 z.2.2) z.1, z.2⟩
  · rcases List.mem_append.mp hq with hq | hq
    · intro e
      have := (ht q hq).2
      rw [← e, (C.mus p hp).1] at this; cases this
    · exact C.sep p hp q hq

theorem Cx.act {fr : List Env} {B : Heap} {env : Env} (P : Act B h₀ fr) (C : Cx (frs fr) h₀ L m mu fz h) (hf : env.frame = some L) (hk : env.scope.kind = .function) : Act B h (env :: fr) := by
  have P' := P.gro C.gro
  refine ⟨P'.stays, .cons (by rw [hk]; decide) hf C.ns ?_ P'.frames⟩
  cases q : B.get? L with
  | none => rfl
  | some o => have := P.stays L o q; rw [C.new] at this; cases this

theorem Cx.act' {fr : List Env} {B h₁ : Heap} {env : Env} (P : Act B h₀ fr) (_X : Act B h₁ (env :: fr)) (C : Cx (frs fr) h₀ L m mu fz h) (hf : env.frame = some L := by rfl) (hk : env.scope.kind = .function := by rfl) : Act B h (env :: fr) := C.act P hf hk
theorem Cx.old {fr : List Env} {B : Heap} (P : Act B h₀ fr) (C : Cx (frs fr) h₀ L m mu fz h) : B.StaysIn h := (P.gro C.gro).stays

theorem Cx.all {fz₀ : List (Addr × Obj)} (C : Cx S h₀ L m mu fz h) (Z : ∀ p ∈ fz₀, h₀.get? p.1 = some p.2 ∧ p.1 ∉ S) : ∀ p ∈ fz ++ fz₀, h.get? p.1 = some p.2 := fun p hp => by
  rcases List.mem_append.mp hp with hp | hp
  · exact (C.fzs p hp).1
  · exact C.gro.1 _ _ (Z p hp).2 (Z p hp).1
theorem Cx.fzOff {fr : List Env} {B : Heap} {fz₀ : List (Addr × Obj)} (P : Act B h₀ fr) (C : Cx (frs fr) h₀ L m mu fz h) (Z : ∀ p ∈ fz₀, h₀.get? p.1 = some p.2 ∧ p.1 ∉ frs fr) :
    ∀ p ∈ fz ++ fz₀, h.get? p.1 = some p.2 ∧ p.1 ∉ L :: frs fr := fun p hp => by
  refine ⟨C.all Z p hp, fun hm => ?_⟩
  rcases List.mem_append.mp hp with hp | hp
  · have z := C.fzs p hp
    rcases List.mem_cons.mp hm with q | q
    · exact z.2.2 q
    · obtain ⟨o, eo⟩ := P.there q
      rw [z.2.1] at eo; cases eo
  · rcases List.mem_cons.mp hm with q | q
    · have := (Z p hp).1; rw [q, C.new] at this; cases this
    · exact (Z p hp).2 q
end
end Mine

namespace Mine
open PySem PySem.W PySem.Calls PySem.Spec PyProof.Rows

structure Amb (K : Frag) (B : Heap) (mg mb : Str → Option Value) : Prop where
  K : K.In B
  g : B.Ns mainGlobals mg
  b : B.Ns builtinsNs mb
  nolimit : B.NoLimit
  builtins : ∀ x : Str, x ≠ "__name__" → mb x = bootBuiltins x

structure Same (s s' : Shared) : Prop where
  gens : s'.gens = s.gens
  drawn : s'.drawn = s.drawn
  os : s'.os = s.os
theorem Same.refl (s : Shared) : Same s s := ⟨rfl, rfl, rfl⟩
theorem Same.trans {a b c : Shared} (x : Same a b) (y : Same b c) : Same a c := ⟨y.gens.trans x.gens, y.drawn.trans x.drawn, y.os.trans x.os⟩

structure Stt (s₀ : Shared) (S : List Addr) (L : Addr) (m : Str → Option Value) (mu fz : List (Addr × Obj)) (h : Heap) (g : Array GenState) (d : Drawn) (o : OsState) : Prop where
  cx : Cx S s₀.heap L m mu fz h
  gens : g = s₀.gens
  drawn : d = s₀.drawn
  os : o = s₀.os
noncomputable abbrev St (s₀ : Shared) (S : List Addr) (L : Addr) (m : Str → Option Value) (mu fz : List (Addr × Obj)) (s : Shared) : Prop := Stt s₀ S L m mu fz s.heap s.gens s.drawn s.os

section
variable {s₀ s s' : Shared} {S : List Addr} {L : Addr} {m m' : Str → Option Value} {mu mu' fz fz' : List (Addr × Obj)}
theorem St.same (C : St s₀ S L m mu fz s) : Same s₀ s := ⟨C.gens, C.drawn, C.os⟩
theorem St.mk' (c : Cx S s₀.heap L m mu fz s.heap) (x : Same s₀ s) : St s₀ S L m mu fz s := ⟨c, x.gens, x.drawn, x.os⟩
theorem St.tok (C : St s₀ S L m mu fz s) (k : Nat) : St s₀ S L m mu fz { s with toks := k } := C
theorem St.heap (C : St s₀ S L m mu fz s) {h : Heap} (c : Cx S s₀.heap L m' mu' fz' h) (k : Nat) : St s₀ S L m' mu' fz' { s with heap := h, toks := k } := ⟨c, C.gens, C.drawn, C.os⟩
theorem St.heap' (C : St s₀ S L m mu fz s) {h : Heap} (c : Cx S s₀.heap L m' mu' fz' h) : St s₀ S L m' mu' fz' { s with heap := h } := ⟨c, C.gens, C.drawn, C.os⟩
theorem St.ns (C : St s₀ S L m mu fz s) : s.heap.Ns L m := C.cx.ns
theorem St.dropM {p : Addr × Obj} (C : St s₀ S L m (p :: mu) fz s) : St s₀ S L m mu fz s := .mk' C.cx.dropM C.same
theorem St.freeze {a : Addr} {o : Obj} (C : St s₀ S L m ((a, o) :: mu) fz s) : St s₀ S L m mu ((a, o) :: fz) s := .mk' C.cx.freeze C.same
theorem St.swap {p q : Addr × Obj} (C : St s₀ S L m (p :: q :: mu) fz s) : St s₀ S L m (q :: p :: mu) fz s := .mk' C.cx.swap C.same
theorem St.sub (C : St s₀ S L m mu fz s) (hs : ∀ p ∈ fz', p ∈ fz) : St s₀ S L m mu fz' s := .mk' (C.cx.sub hs) C.same
end

noncomputable abbrev Ret (fr : List Env) (s : Shared) (Q : Value → Shared → Prop) (P : Value → List (Addr × Obj) → Prop) : Prop :=
  ∀ v s' tl, Same s s' → Gro (frs fr) s.heap s'.heap → (∀ p ∈ tl, s'.heap.get? p.1 = some p.2 ∧ s.heap.get? p.1 = none) → P v tl → Q v s'

noncomputable def End (S : List Addr) (s : Shared) (L : Addr) (P : Value → List (Addr × Obj) → Prop) (fl : Flow) (s' : Shared) : Prop :=
  ∃ m mu tl, St s S L m mu tl s' ∧ P (match fl with | .ret v => v | _ => .none) tl

noncomputable abbrev Nay : Value → Shared → Prop := fun _ _ => False

section
variable {s₀ s s' : Shared} {S : List Addr} {L : Addr} {m m' : Str → Option Value} {mu mu' fz fz' : List (Addr × Obj)} {fr : List Env} {B : Heap}
theorem St.call (P : Act B s₀.heap fr) (C : St s₀ (frs fr) L m mu fz s) (sm : Same s s') (g : Gro (L :: frs fr) s.heap s'.heap) {tl : List (Addr × Obj)} (ht : ∀ p ∈ tl, s'.heap.get? p.1 = some p.2 ∧ s.heap.get? p.1 = none) :
    St s₀ (frs fr) L m mu (tl ++ fz) s' := .mk' (C.cx.call P g ht) (C.same.trans sm)
theorem St.act {h₁ : Heap} {env : Env} (P : Act B s₀.heap fr) (X : Act B h₁ (env :: fr)) (C : St s₀ (frs fr) L m mu fz s) (hf : env.frame = some L := by rfl) (hk : env.scope.kind = .function := by rfl) : Act B s.heap (env :: fr) := C.cx.act' P X hf hk
theorem St.old (P : Act B s₀.heap fr) (C : St s₀ (frs fr) L m mu fz s) : B.StaysIn s.heap := C.cx.old P
end

section
variable {prog : Program} {w : World} {K : Frag} {B : Heap} {mg mb : Str → Option Value} {A : Around} {E : Value → Shared → Prop} {s s₀ : Shared} {fr : List Env} {d u : Nat}

theorem enter {oc : Value} {od : Option Addr} {osl : Array (Option Value)} {f : Addr} {name qual : Str} {params : Arguments} {body : List Stmt} {scope : Scope} {dV kV doc pm cdv ct : Value} {an : Option Addr} {args : List Value} {binds : List (Str × Value)}
    {Q : Value → Shared → Prop} {P : Value → List (Addr × Obj) → Prop} (am : Amb K B mg mb)
    (ho : K.lookup f = some ⟨oc, od, .func (fnX name qual params body scope [] dV kV doc pm an cdv ct), osl⟩) (hcd : codeIn K cdv qual = true)
    (R : Room A fr (d + 1) (u + 3)) (X : Act B s.heap fr)
    (hbind : BindsTo s (fnX name qual params body scope [] dV kV doc pm an cdv ct) ⟨args, []⟩ binds)
    (h : ∀ L s₁, St s (frs fr) L (fun x => binds.reverse.lookup x) [] [] s₁ → Act B s₁.heap (envX qual scope L f cdv [] :: fr) → Room (A.deeper (envX qual scope L f cdv [])) (envX qual scope L f cdv [] :: fr) d u →
      wpAny (model prog w) (A.deeper (envX qual scope L f cdv [])) (execs body (envX qual scope L f cdv [])) (End (frs fr) s L P) Nay s₁)
    (k : Ret fr s Q P)
    (hcell : ∀ x ∈ scope.names, x.2 ≠ .cell := by decide) (hloc : (binds.all fun x => decide (scope.names.lookup x.1 = some .local)) = true := by rfl)
    (hco : scope.isCoroutine = false := by rfl) (hgen : scope.isGenerator = false := by rfl) (hk : scope.kind = .function := by rfl) :
    wpAny (model prog w) A (call (.ref f) args) Q E s := by
  refine wpAny_call (codeAny_call_def (fd := fnX name qual params body scope [] dV kV doc pm an cdv ct) (body := body) (binds := binds) (by have := R.depth; omega) (X.stays _ _ (am.K _ _ ho)) rfl (am.nolimit.keeps X.stays) (codeRec_of (fun a o e => X.stays _ _ (am.K a o e)) hcd) rfl hbind hcell (locs hloc) (fun h₁ hns hk₁ => ?_) hco hgen hk)
  have C : Cx (frs fr) s.heap s.heap.objs.size (fun x => binds.reverse.lookup x) [] [] h₁ := ⟨hns, .of_keeps hk₁, get?_fresh _, Nat.le_refl _, fun _ hp => (nomatch hp), fun _ hp => (nomatch hp), fun _ hp => (nomatch hp), List.nodup_nil⟩
  refine wpAny_mono (h s.heap.objs.size _ ⟨C, rfl, rfl, rfl⟩ (C.act X rfl hk) (R.deeper _)) (fun fl s' hl => ?_) fun _ _ e => e.elim
  obtain ⟨m, mu, tl, C', hP⟩ := hl
  exact k _ s' tl C'.same C'.cx.gro (fun p hp => ⟨(C'.cx.fzs p hp).1, (C'.cx.fzs p hp).2.1⟩) hP

theorem ev_local {env : Env} {x : Str} {pos : Pos} {m : Str → Option Value} {v : Value} {M : Model} {Q : Value → Shared → Prop} (hn : s.heap.Ns env.locals m) (hv : m x = some v) (h : Q v s)
    (hk : env.scope.kind = .function := by rfl) (hx : env.kindOf x = some .local := by rfl) (hd : (x == ("__debug__" : Str)) = false := by decide) :
    wpAny M A (eval (.Name x pos) env) Q E s := wpAny_Name (wpAny_loadName_local hk hx hn hv h) hd
theorem ev_L {S : List Addr} {mu fz : List (Addr × Obj)} {env : Env} {x : Str} {pos : Pos} {m : Str → Option Value} {v : Value} {M : Model} {Q : Value → Shared → Prop} (C : St s₀ S env.locals m mu fz s) (hv : m x = some v) (h : Q v s)
    (hk : env.scope.kind = .function := by rfl) (hx : env.kindOf x = some .local := by rfl) (hd : (x == ("__debug__" : Str)) = false := by decide) :
    wpAny M A (eval (.Name x pos) env) Q E s := ev_local C.ns hv h hk hx hd
theorem ev_G {env : Env} {x : Str} {pos : Pos} {v : Value} {M : Model} {Q : Value → Shared → Prop} (am : Amb K B mg mb) (st : B.StaysIn s.heap) (e : nsIn K mainGlobals x = some (some v)) (h : Q v s)
    (hg : env.globals = mainGlobals := by rfl) (hk : env.scope.kind = .function := by rfl) (hx : env.kindOf x = some .globalImplicit := by rfl) (hd : (x == ("__debug__" : Str)) = false := by decide) :
    wpAny M A (eval (.Name x pos) env) Q E s := Name_function_global hk hx (loadGlobal_global (by rw [hg]; exact am.g.keeps st) (mg_of am.K am.g e) h) hd
theorem ev_B {env : Env} {x : Str} {pos : Pos} {v : Value} {M : Model} {Q : Value → Shared → Prop} (am : Amb K B mg mb) (st : B.StaysIn s.heap) (e : nsIn K mainGlobals x = some none) (hv : bootBuiltins x = some v) (h : Q v s)
    (hn : x ≠ "__name__" := by decide) (hg : env.globals = mainGlobals := by rfl) (hb : env.builtins = builtinsNs := by rfl) (hk : env.scope.kind = .function := by rfl) (hx : env.kindOf x = some .globalImplicit := by rfl) (hd : (x == ("__debug__" : Str)) = false := by decide) :
    wpAny M A (eval (.Name x pos) env) Q E s := Name_function_global hk hx (loadGlobal_builtin (by rw [hg]; exact am.g.keeps st) (mg_none_of am.K am.g e) (by rw [hb]; exact am.b.keeps st) ((am.builtins x hn).trans hv) h) hd
theorem ev_C {env : Env} {x : Str} {pos : Pos} {v : Value} {c : Addr} {M : Model} {Q : Value → Shared → Prop} (hv : s.heap.IsCell c (some v)) (hc : env.cells.lookup x = some c) (h : Q v s)
    (hk : env.scope.kind = .function := by rfl) (hx : env.kindOf x = some .cell := by rfl) (hd : (x == ("__debug__" : Str)) = false := by decide) :
    wpAny M A (eval (.Name x pos) env) Q E s := wpAny_Name (wpAny_loadName_cell hk hx hc hv h) hd
section
variable {S : List Addr} {L : Addr} {m : Str → Option Value} {mu fz : List (Addr × Obj)} {M : Model} {env : Env}
theorem ev_int {i : Int} {k : Nat} {pos : Pos} {Q : Value → Shared → Prop} (C : St s₀ S L m mu fz s) (h : ∀ t s', St s₀ S L m mu fz s' → Q (.int i t) s') : wpAny M A (eval (.Constant (.int i) k pos) env) Q E s := wpAny_Constant_int (h _ _ (C.tok _))
theorem ev_str {x : Str} {k : Nat} {pos : Pos} {Q : Value → Shared → Prop} (C : St s₀ S L m mu fz s) (h : ∀ t s', St s₀ S L m mu fz s' → Q (.str x t) s') : wpAny M A (eval (.Constant (.str x) k pos) env) Q E s := Constant_str (h _ _ (C.tok _))
theorem ev_none {k : Nat} {pos : Pos} {Q : Value → Shared → Prop} (h : Q .none s) : wpAny M A (eval (.Constant .none k pos) env) Q E s := fun _ _ _ => h
theorem ev_bool {b : Bool} {k : Nat} {pos : Pos} {Q : Value → Shared → Prop} (h : Q (.bool b) s) : wpAny M A (eval (.Constant (.bool b) k pos) env) Q E s := fun _ _ _ => h

theorem st_L {x : Str} {v : Value} {Q : Unit → Shared → Prop} (C : St s₀ S env.locals m mu fz s)
    (h : ∀ s', St s₀ S env.locals (fun y => if y = x then some v else m y) mu fz s' → Q () s')
    (hx : env.kindOf x = some .local := by rfl) (hp : (env.scope.kind == .class || (env.scope.kind == .module && env.locals != env.globals)) = false := by rfl) :
    wpAny M A (storeName env x v) Q E s := wpAny_storeName_local hx C.ns (fun h' hn hs => h _ (C.heap (C.cx.set hn hs) _)) hp

theorem ev_call {f : Str} {args : List Expr} {np pos : Pos} {Q : Value → Shared → Prop}
    (h : wpAny M A (eval (.Name f np) env) (fun fv s₁ => wpAny M A (callWith pos fv [] (backTo pos (starEach args env)) []) Q E s₁) E s) : wpAny M A (eval (.Call (.Name f np) args [] pos) env) Q E s := wpAny_Call_Name_kw h
theorem cw_def {fa : Addr} {e : Expr} {rest : List Expr} {pos : Pos} {Q : Value → Shared → Prop} (am : Amb K B mg mb) (hk : keepIn K (.ref fa) = true)
    (h : wpAny M A (spliced (backTo pos (starEach (e :: rest) env))) (fun vs s₁ => B.StaysIn s₁.heap ∧ wpAny M A (call (.ref fa) vs) Q E s₁) E s)
    (he : starEach (e :: rest) env = (false, eval e env) :: starEach rest env := by rfl) (hplain : (backTo pos (starEach rest env)).any (·.1) = false := by rfl) :
    wpAny M A (callWith pos (.ref fa) [] (backTo pos (starEach (e :: rest) env)) []) Q E s :=
  callWith_K am.K hk (wpAny_mono h (fun vs s₁ hs => ⟨fun a o q => hs.1 a o (am.K a o q), by simpa using hs.2⟩) fun _ _ x => x) he hplain
theorem cw_bi {id : String} {first : List Value} {e : Expr} {rest : List Expr} {pos : Pos} {Q : Value → Shared → Prop}
    (h : wpAny M A (spliced (backTo pos (starEach (e :: rest) env))) (fun vs s₁ => wpAny M A (call (.builtin id) (first ++ vs)) Q E s₁) E s)
    (he : starEach (e :: rest) env = (false, eval e env) :: starEach rest env := by rfl) (hplain : (backTo pos (starEach rest env)).any (·.1) = false := by rfl) :
    wpAny M A (callWith pos (.builtin id) first (backTo pos (starEach (e :: rest) env)) []) Q E s := callWith_method1 h he hplain
theorem cw_ty {T : String} {e : Expr} {rest : List Expr} {pos : Pos} {Q : Value → Shared → Prop}
    (h : wpAny M A (spliced (backTo pos (starEach (e :: rest) env))) (fun vs s₁ => wpAny M A (call (.type T) vs) Q E s₁) E s)
    (he : starEach (e :: rest) env = (false, eval e env) :: starEach rest env := by rfl) (hplain : (backTo pos (starEach rest env)).any (·.1) = false := by rfl) :
    wpAny M A (callWith pos (.type T) [] (backTo pos (starEach (e :: rest) env)) []) Q E s := by
  rw [he] at h ⊢
  refine PySem.callWith_type (by show (false || (backTo pos (starEach rest env)).any (·.1)) = false; rw [hplain]; rfl) (evalArgs_plain (wpAny_mono h (fun vs s₁ hs => ?_) fun _ _ x => x))
  simpa using hs
theorem sp_cons {e : Expr} {rest : List Expr} {pos : Pos} {Q : List Value → Shared → Prop}
    (h : wpAny M A (eval e env) (fun v s₁ => wpAny M A (spliced (backTo pos (starEach rest env))) (fun vs s₂ => Q (v :: vs) s₂) E s₁) E s)
    (he : starEach (e :: rest) env = (false, eval e env) :: starEach rest env := by rfl) : wpAny M A (spliced (backTo pos (starEach (e :: rest) env))) Q E s := by
  rw [he]; exact spliced_cons h
theorem sp_nil {pos : Pos} {Q : List Value → Shared → Prop} (h : Q [] s) : wpAny M A (spliced (backTo pos (starEach [] env))) Q E s := spliced_nil h

theorem newTuple_F {vs : List Value} {Q : Value → Shared → Prop} (C : St s₀ S L m mu fz s) (hsz : vs.length ≤ 1000)
    (h : ∀ a s', St s₀ S L m mu ((a, { cls := .type "tuple", data := .seq vs.toArray 0 }) :: fz) s' → Q (.ref a) s') : wpAny M A (newTuple vs) Q E s :=
  wpAny_newObj_type (h _ _ (C.heap' (C.cx.pushF rfl))) (by show vs.toArray.size ≤ sizeLine; rw [List.size_toArray, sizeLine_eq]; omega)
theorem newList_F {vs : List Value} {Q : Value → Shared → Prop} (C : St s₀ S L m mu fz s) (hsz : vs.length ≤ 1000)
    (h : ∀ a s', St s₀ S L m mu ((a, W.listOf vs.toArray 0) :: fz) s' → Q (.ref a) s') : wpAny M A (newList vs) Q E s :=
  wpAny_newObj_type (h _ _ (C.heap' (C.cx.pushF rfl))) (by show vs.toArray.size ≤ sizeLine; rw [List.size_toArray, sizeLine_eq]; omega)
theorem newList_M {vs : List Value} {Q : Value → Shared → Prop} (C : St s₀ S L m mu fz s) (hsz : vs.length ≤ 1000)
    (h : ∀ a s', St s₀ S L m ((a, W.listOf vs.toArray 0) :: mu) fz s' → Q (.ref a) s') : wpAny M A (newList vs) Q E s :=
  wpAny_newObj_type (h _ _ (C.heap' (C.cx.pushM rfl))) (by show vs.toArray.size ≤ sizeLine; rw [List.size_toArray, sizeLine_eq]; omega)
end
end
end Mine

namespace Mine
open PySem PySem.W PySem.Calls PySem.Spec PyProof.Rows

section
variable {prog : Program} {w : World} {A : Around} {E : Value → Shared → Prop} {s : Shared}

theorem type_str {x : Str} {t : Tok} {Q : Value → Shared → Prop} (hq : Q (.type "str") s) : wpAny (model prog w) A (call (.type "type") [.str x t]) Q E s := by
  refine wpAny_call (codeAny_of_tree ?_)
  show wpAny _ _ (callAny (.type "type") ⟨[.str x t], []⟩) _ _ _
  show wpAny _ _ (again (.builtin "type.__call__" _)) _ _ _
  refine wpAny_pure ⟨Code.quiet_builtin _ (by decide +kernel), codeAny_builtin entry_type_call ?_⟩
  unfold Builtin.«type.__call__»
  dsimp only
  unfold shownTypeOf
  repeat wp_step
  exact hq

theorem subclass_nested {d : Int} {tk : Tok} {Q : Value → Shared → Prop} (hq : Q (.bool true) s) : wpAny (model prog w) A (call (.builtin "issubclass.nested") [.type "str", .type "str", .int d tk]) Q E s := by
  refine call_function_entry (b := Builtin.«issubclass.nested») (by decide +kernel) (by decide +kernel) F.entry_issubclass_nested (by unfold argsOk; kernel_rfl) ?_
  have hself : isSubtype (.type "str") (.type "str") = pure true := by rw [isSubtype_type]; kernel_rfl
  have hm : (typeOf (.type "str")) = pure (.type "type") := by kernel_rfl
  repeat (any_goals (first | assumption | (rw [hself]) | wp_step))
  exact ⟨_, rfl, hq⟩

theorem subclass_tuple {T : Addr} {o : Obj} {k : Nat} {Q : Value → Shared → Prop} (ho : s.heap.get? T = some o) (hc : o.cls = .type "tuple") (hd : o.data = .seq #[.type "str", .type "bytes"] k) (hq : Q (.bool true) s) :
    wpAny (model prog w) A (call (.builtin "issubclass") [.type "str", .ref T]) Q E s := by
  refine call_issubclass (S := fun _ R s => (s.heap.get? T = some o) ∧ R (.ok (.ret (.bool true))) s) (fun prog w A E s hs => issubclass_outer ?_) ⟨ho, hq⟩
  obtain ⟨ho, hR⟩ := hs
  have hT : s.TypeIs (.ref T) "tuple" := ⟨o, ho, hc⟩
  have hsub : isSubtype (.type "tuple") (.type "tuple") = pure true := by rw [isSubtype_type]; kernel_rfl
  unfold Builtin.«issubclass.nested»
  dsimp only
  refine wpAny_bind (wpAny_typeOf hT ?_)
  rw [if_neg (by decide)]
  refine wpAny_bind ?_
  unfold Builtin.Builtins.unionMembers
  refine wpAny_bind (wpAny_typeOf hT ?_)
  rw [if_neg (by decide)]
  refine wpAny_pure ?_
  refine wpAny_bind (wpAny_isInstance hT hsub ?_)
  rw [if_pos rfl, if_neg (by decide)]
  refine wpAny_bind (wpAny_seqItems ho hd ?_)
  refine wpAny_bind ?_
  show wpAny _ _ (forIn #[Value.type "str", Value.type "bytes"] _ _) _ _ _
  rw [← Array.forIn_toList, List.forIn_cons]
  refine wpAny_bind (wpAny_bind (subclass_nested ?_))
  refine wpAny_bind (wpAny_truthy_bool ?_)
  rw [if_pos rfl]
  exact wpAny_bind (wpAny_pure (wpAny_pure (wpAny_pure (wpAny_pure hR))))
end
theorem hideEnd {α : Type} {M : Model} {A : Around} {m : Sem α} {E : Value → Shared → Prop} {s : Shared} {Q : α → Shared → Prop} (h : ∀ EE : α → Shared → Prop, (∀ v s', Q v s' → EE v s') → wpAny M A m EE E s) : wpAny M A m Q E s := h Q fun _ _ x => x
end Mine

namespace Mine
open PySem PySem.W PySem.Calls PySem.Spec PyProof.Rows

section
variable {w : World} {B : Heap} {mg mb : Str → Option Value} {A : Around} {E : Value → Shared → Prop} {s : Shared} {fr : List Env} {d u : Nat}

theorem fspath_ok {x : Str} {t : Tok} {Q : Value → Shared → Prop} (am : Amb (hd.heap_39 w.params) B mg mb) (R : Room A fr (d + 1) (u + 3)) (X : Act B s.heap fr)
    (k : Ret fr s Q fun v _ => v = .str x t) : wpAny (model PySem.Challenge.rw_il0010_01.row.prog w) A (call (.ref 138) [.str x t]) Q E s := by
  refine enter (binds := [(Str.ofString "path", .str x t)]) am rfl rfl R X (BindsTo.of_eq rfl) (fun L s₁ C X' R' => ?_) k
  refine wpAny_execs_cons <| wpAny_Assign_Name <| ev_call <| ev_B am X'.stays rfl rfl <| cw_ty <| sp_cons <| ev_L C rfl <| sp_nil <| type_str <| st_L C fun s₂ C₂ => ?_
  have st₂ := C₂.old X
  refine wpAny_execs_cons <| wpAny_If <| isTrue_plain <| ev_call <| ev_B am st₂ rfl rfl <| cw_bi <| sp_cons <| ev_L C₂ rfl <| sp_cons <| Tuple_ <| sp_cons <| ev_B am st₂ rfl rfl <| sp_cons <| ev_B am st₂ rfl rfl <| sp_nil <| newTuple_F C₂ (by decide) fun a s₃ C₃ => sp_nil <| subclass_tuple (C₃.cx.fzs _ (.head _)).1 rfl rfl <| wpAny_truthy_bool ?_
  rw [if_pos rfl]
  exact wpAny_execs_cons <| wpAny_Return_some <| ev_L C₃ rfl ⟨_, _, _, C₃, rfl⟩
end
end Mine

namespace Mine
open PySem PySem.W PySem.Calls PySem.Spec PyProof.Rows

noncomputable def nA : Str := ⟨#[97]⟩
noncomputable def nAB : Str := ⟨#[97, 98]⟩
noncomputable def nB : Str := ⟨#[98]⟩
noncomputable def slash : Str := ⟨#[47]⟩
theorem ofA : Str.ofString "a" = nA := by decide +kernel
theorem ofAB : Str.ofString "ab" = nAB := by decide +kernel
theorem ofB : Str.ofString "b" = nB := by decide +kernel
theorem ofSlash : Str.ofString "/" = slash := by decide +kernel

noncomputable def nms : List Str := [nA, nAB, nB]
noncomputable def allP : List (List Str) := nms.map (fun a => [a]) ++ nms.flatMap (fun a => nms.map fun b => [a, b]) ++ nms.flatMap (fun a => nms.flatMap fun b => nms.map fun c => [a, b, c])
noncomputable def J (p : List Str) : Str := Txt.join slash p

theorem J_len : ∀ p ∈ allP, (J p).length ≤ 10 := by decide +kernel
noncomputable def dirS (x : Str) : Str :=
  let head := Txt.slice x none (some (Txt.rfind x slash + 1))
  if ((head.length : Int) != 0 && head.cps.toList != (Txt.mul slash head.length).cps.toList) = true then Txt.rstripChars head slash else head
theorem dirS_J : ∀ p ∈ allP, dirS (J p) = J p.dropLast := by decide +kernel
theorem split_J : ∀ p ∈ allP, Txt.split (J p) slash = p := by decide +kernel
end Mine

namespace Mine
open PySem PySem.W PySem.Calls PySem.Spec PyProof.Rows

theorem Cx.kept {S : List Addr} {h₀ : Heap} {L : Addr} {m : Str → Option Value} {mu fz : List (Addr × Obj)} : KeptH (Cx S h₀ L m mu fz) := fun _ ob C => C.push ob

section
variable {prog : Program} {w : World} {B : Heap} {mg mb : Str → Option Value} {A : Around} {E : Value → Shared → Prop} {s s₀ : Shared} {fr : List Env} {d u : Nat}

theorem sl_ns {S : List Addr} {L : Addr} {m : Str → Option Value} {mu fz : List (Addr × Obj)} {value slice : Expr} {x : Str} {t uj : Tok} {j : Int} {Q : Value → Shared → Prop} (C : St s₀ S L m mu fz s) (hsz : x.length ≤ sizeLine)
    (h : ∀ t' s', St s₀ S L m mu fz s' → Q (.str (Txt.slice x none (some j)) t') s')
    (hs : subscripted slice false (.str x t) (.ref s.heap.objs.size) = operate [.ref s.heap.objs.size, .str x t] (getItem (.str x t) (.ref s.heap.objs.size)) := by with_unfolding_all rfl)
    (ht : ∀ r, letTemporaryGo value (.str x t) r = pure () := by intro _; with_unfolding_all rfl) :
    wpAny (model prog w) A (subscriptTail value slice (.str x t) (.ref s.heap.objs.size)) Q E { s with heap := s.heap.push { cls := .type "slice", data := .fields #[.none, .int j uj, .none] } } :=
  tail_of_ItemOn (SBH.sliceItem_ns Cx.kept C.cx (fun _ t' k a => h t' _ (C.heap a k)) hsz) hs ht

theorem getsep_ok {x : Str} {t : Tok} {Q : Value → Shared → Prop} (am : Amb (hd.heap_39 w.params) B mg mb) (R : Room A fr (d + 1) (u + 3)) (X : Act B s.heap fr)
    (k : Ret fr s Q fun v _ => ∃ t', v = .str slash t') : wpAny (model PySem.Challenge.rw_il0010_01.row.prog w) A (call (.ref 152) [.str x t]) Q E s := by
  refine enter (binds := [(Str.ofString "path", .str x t)]) am rfl rfl R X (BindsTo.of_eq rfl) (fun L s₁ C X' R' => ?_) k
  refine wpAny_execs_cons <| wpAny_If <| isTrue_plain <| ev_call <| ev_B am X'.stays rfl rfl <| cw_bi <| sp_cons <| ev_L C rfl <| sp_cons <| ev_B am X'.stays rfl rfl <| sp_nil <| IsiPair.str_bytes <| wpAny_truthy_bool ?_
  rw [if_neg Bool.false_ne_true]
  exact wpAny_execs_cons <| wpAny_Return_some <| ev_str (C.tok _) fun t s₂ C₂ => ⟨_, _, _, C₂, _, congrArg (Value.str · _) ofSlash⟩

set_option maxHeartbeats 1000000 in
theorem dirname_ok {p : List Str} {t : Tok} {Q : Value → Shared → Prop} (am : Amb (hd.heap_39 w.params) B mg mb) (hp : p ∈ allP) (R : Room A fr (d + 2) (u + 6)) (X : Act B s.heap fr)
    (k : Ret fr s Q fun v _ => ∃ t', v = .str (J p.dropLast) t') : wpAny (model PySem.Challenge.rw_il0010_01.row.prog w) A (call (.ref 159) [.str (J p) t]) Q E s := by
  have hlen := J_len p hp
  have hsz : (J p).length ≤ sizeLine := by rw [sizeLine_eq]; omega
  have hdir := dirS_J p hp
  generalize J p = x at *
  refine enter (binds := [(Str.ofString "p", .str x t)]) am rfl rfl R X (BindsTo.of_eq rfl) (fun L s₁ C X' R' => hideEnd fun EE hEE => ?_) k
  refine wpAny_execs_cons (wpAny_Assign_Name (ev_call (ev_G am X'.stays rfl (cw_def am rfl (sp_cons (ev_L C rfl (sp_nil ⟨X'.stays, fspath_ok am R' X' fun v s₂ tl sm g ht hv => ?_⟩)))))))
  subst hv
  refine st_L (C.call X sm g ht) fun s₃ C₃ => ?_
  have X₃ := C₃.act X X'
  refine wpAny_execs_cons (wpAny_Assign_Name (ev_call (ev_G am X₃.stays rfl (cw_def am rfl (sp_cons (ev_L C₃ rfl (sp_nil ⟨X₃.stays, getsep_ok am R' X₃ fun v s₄ tl₄ sm₄ g₄ ht₄ hv₄ => ?_⟩)))))))
  obtain ⟨t₄, rfl⟩ := hv₄
  refine st_L (C₃.call X sm₄ g₄ ht₄) fun s₅ C₅ => ?_
  refine wpAny_execs_cons (wpAny_Assign_Name (wpAny_BinOp (Call_method1 rfl rfl rfl (ev_L C₅ rfl (SB.rfind (ev_L C₅ rfl ⟨_, _, rfl, ev_int (C₅.tok _) fun _ _ C₅ => wpAny_add_int (st_L (C₅.tok _) fun s₆ C₆ => ?_)⟩))))))
  refine wpAny_execs_cons (wpAny_Assign_Name (Subscript_ (ev_L C₆ rfl (wpAny_Slice (evalPart_none_step (evalPart_some_step (ev_L C₆ rfl (evalPart_none_step (sl_ns C₆ hsz fun t₇ s₇ C₇ => ?_)))))))))
  have hlen₂ : (Txt.slice x none (some (Txt.rfind x slash + 1))).length ≤ 10 := Nat.le_trans (Txt.slice_le x _ _) hlen
  unfold dirS at hdir
  generalize Txt.slice x none (some (Txt.rfind x slash + 1)) = hx at *
  dsimp only at hdir
  refine st_L C₇ fun s₈ C₈ => ?_
  have ok : MulOk slash hx.length := by
    have h1 : slash.length = 1 := rfl
    refine ⟨?_, fun h0 _ => ?_, fun _ _ => ?_⟩
    · rw [Bool.or_eq_false_iff]; exact ⟨decide_eq_false (by omega), decide_eq_false (by omega)⟩
    · rw [h1]
      have : ∀ n : Nat, n ≤ 10 → n = 0 ∨ n = 1 ∨ n = 2 ∨ n = 3 ∨ n = 4 ∨ n = 5 ∨ n = 6 ∨ n = 7 ∨ n = 8 ∨ n = 9 ∨ n = 10 := by decide
      have := this hx.length hlen₂
      rcases this with h | h | h | h | h | h | h | h | h | h | h <;> rw [h] at h0 ⊢ <;> first | exact absurd (by decide) h0 | decide
    · rw [h1]
      show decide _ = false
      exact decide_eq_false (by rw [sizeLine_eq]; simp; omega)
  have fit : ¬ ((hx.length : Int) ≥ 2 ^ 63) := by omega
  have hsz₂ : hx.length ≤ sizeLine := by rw [sizeLine_eq]; omega
  refine wpAny_execs_cons <| wpAny_If <| isTrue_and <| isTrue_plain <| ev_L C₈ rfl <| P.truthy_str fit <| split_bool (fun c1 => ?_) fun c1 => ?_
  · rw [c1, Bool.true_and] at hdir
    have X₈ := C₈.act X X'
    refine isTrue_and <| wpAny_isTrue_Compare1 <| ev_L C₈ rfl <| wpAny_BinOp <| ev_L C₈ rfl <| ev_call <| ev_B am X₈.stays rfl rfl <| cw_bi <| sp_cons <| ev_L C₈ rfl <| sp_nil <| P.len_str fit <| SB.mul ok fun t₉ k₉ => P.ne_str <| wpAny_truthy_bool <| split_bool (fun c2 => ?_) fun c2 => ?_
    · rw [c2, if_pos rfl] at hdir
      refine isTrue_and_nil ?_
      rw [if_pos rfl]
      refine wpAny_execs_cons <| wpAny_Assign_Name <| Call_method1 rfl rfl rfl <| ev_L C₈ rfl <| SB.rstripChars (ev_L C₈ rfl ⟨_, _, rfl, fun t₉ k₉ => st_L (C₈.tok _) fun s₉ C₉ => ?_⟩) hsz₂
      refine wpAny_execs_nil <| wpAny_execs_cons <| wpAny_Return_some <| ev_L C₉ rfl ?_
      exact hEE _ _ ⟨_, _, _, C₉, _, congrArg (Value.str · _) hdir⟩
    · rw [c2, if_neg Bool.false_ne_true] at hdir
      rw [if_neg Bool.false_ne_true]
      refine wpAny_execs_nil <| wpAny_execs_cons <| wpAny_Return_some <| ev_L C₈ rfl ?_
      exact hEE _ _ ⟨_, _, _, C₈, _, congrArg (Value.str · _) hdir⟩
  · rw [c1, Bool.false_and, if_neg Bool.false_ne_true] at hdir
    rw [if_neg Bool.false_ne_true]
    refine wpAny_execs_nil <| wpAny_execs_cons <| wpAny_Return_some <| ev_L C₈ rfl ?_
    exact hEE _ _ ⟨_, _, _, C₈, _, congrArg (Value.str · _) hdir⟩
end
end Mine

namespace Mine
open PySem PySem.W PySem.Calls PySem.Spec PyProof.Rows

section
variable {prog : Program} {w : World} {B : Heap} {A : Around} {E : Value → Shared → Prop} {s s₀ : Shared} {fr : List Env} {S : List Addr} {L : Addr} {m : Str → Option Value} {mu fz fz₀ : List (Addr × Obj)}

noncomputable abbrev itO (l : Addr) (i : Nat) : Obj := { cls := .type "list_iterator", data := .fields #[.ref l, .int i 0] }

noncomputable def TurnEnd (s₀ : Shared) (S : List Addr) (L : Addr) (it : Addr × Obj) (fz : List (Addr × Obj)) (J : (Str → Option Value) → List (Addr × Obj) → List (Addr × Obj) → Prop) (Q : Flow → Shared → Prop) (f : Flow) (s₃ : Shared) : Prop :=
  match f with
  | .ret v => Q (.ret v) s₃
  | .brk => Q .next s₃
  | _ => ∃ m' mu' tl', St s₀ S L m' (it :: mu') (tl' ++ fz) s₃ ∧ J m' mu' tl'

theorem listOf_is {h : Heap} {l : Addr} {vs : List Value} {n : Nat} (e : h.get? l = some (W.listOf vs.toArray n)) : h.IsList l vs.toArray := ⟨_, e, rfl, n, rfl⟩

noncomputable abbrev WalkInv (I : Addr) (n : Nat) (Sti : Nat → Heap → Prop) (s₀ : Shared) (S : List Addr) (L : Addr) (fz : List (Addr × Obj)) (J : Nat → (Str → Option Value) → List (Addr × Obj) → List (Addr × Obj) → Prop) (k : Nat) (s' : Shared) : Prop :=
  ∃ i oI m₁ mu₁ tl, i ≤ n ∧ k = n - i ∧ Sti i s'.heap ∧ St s₀ S L m₁ ((I, oI) :: mu₁) (tl ++ fz) s' ∧ J i m₁ mu₁ tl
theorem WalkInv.elim {I : Addr} {n : Nat} {Sti : Nat → Heap → Prop} {s₀ : Shared} {S : List Addr} {L : Addr} {fz : List (Addr × Obj)} {J : Nat → (Str → Option Value) → List (Addr × Obj) → List (Addr × Obj) → Prop} {k : Nat} {s' : Shared} {G : Prop} (h : WalkInv I n Sti s₀ S L fz J k s')
    (K : ∀ i oI m₁ mu₁ tl, i ≤ n → k = n - i → Sti i s'.heap → St s₀ S L m₁ ((I, oI) :: mu₁) (tl ++ fz) s' → J i m₁ mu₁ tl → G) : G := by
  obtain ⟨i, oI, m₁, mu₁, tl, h1, h2, h3, h4, h5⟩ := h
  exact K i oI m₁ mu₁ tl h1 h2 h3 h4 h5

theorem for_walks {target : Expr} {body : List Stmt} {env : Env} {I : Addr} {o : Obj} {fp : List Addr} {n : Nat} {P : Nat → Value → Prop} {Sti : Nat → Heap → Prop} {Q : Flow → Shared → Prop}
    (Wk : Walks prog w A I fp [I] n P Sti) (C : St s₀ S L m ((I, o) :: mu) fz s) (st : Sti 0 s.heap) (hobj : ∀ i h, Sti i h → ∃ o, h.get? I = some o)
    (Z : ∀ p ∈ fz₀, s₀.heap.get? p.1 = some p.2 ∧ p.1 ∉ S) (hfp : ∀ b ∈ fp, b = I ∨ ∃ o, (b, o) ∈ fz ++ fz₀)
    (hlet : ∀ (i : Nat) (v : Value) (s : Shared) (Q : Unit → Shared → Prop), P i v → Sti (i + 1) s.heap → Q () s → wpAny (model prog w) A (letOwnedTupleGo target (.ref I) v) Q Nay s)
    (J : Nat → (Str → Option Value) → List (Addr × Obj) → List (Addr × Obj) → Prop) (j0 : J 0 m mu [])
    (turn : ∀ i v it m₁ mu₁ tl s₁, i < n → P i v → J i m₁ mu₁ tl → St s₀ S L m₁ (it :: mu₁) (tl ++ fz) s₁ →
      wpAny (model prog w) A (assign target env v) (fun _ s₂ => wpAny (model prog w) A (execs body env) (TurnEnd s₀ S L it fz (J (i + 1)) Q) Nay s₂) Nay s₁)
    (done : ∀ m' mu' tl s₁, J n m' mu' tl → St s₀ S L m' mu' (tl ++ fz) s₁ → Q .next s₁) :
    codeAny (model prog w) A (.forLoop target (.ref I) body [] env) (fun r s' => match r with | .ok f => Q f s' | .error e => cameBackBy (model prog w) A env E e s') s := by
  refine codeAny_forLoop_any (WalkInv I n Sti s₀ S L fz J) ?_ n
    ⟨0, _, m, mu, [], Nat.zero_le _, rfl, st, C, j0⟩
  intro k s' hI
  refine WalkInv.elim hI fun i oI m₁ mu₁ tl hi hk hit C' hJ => ?_
  by_cases hlt : i < n
  · refine Wk.item i _ _ _ hlt hit fun v h₂ tk₂ hP hst hk₂ => ?_
    obtain ⟨oI', eI⟩ := hobj _ _ hst
    have C₂ : St s₀ S L m₁ ((I, oI') :: mu₁) (tl ++ fz) { s' with heap := h₂, toks := tk₂ } := C'.heap (Cx.turn (pre := []) C'.cx (fun b o hb e => hk₂ b o (by simpa using hb) e) eI) _
    refine wpAny_mono (hlet i v _ _ hP hst ?_) (fun _ _ x => x) fun _ _ e => e.elim
    refine wpAny_mono (turn i v _ m₁ mu₁ tl _ hlt hP hJ C₂) (fun _ s₂ hh₂ => wpAny_mono hh₂ (fun f s₃ hf => ?_) fun _ _ e => e.elim) fun _ _ e => e.elim
    have fin : (∃ m' mu' tl', St s₀ S L m' ((I, oI') :: mu') (tl' ++ fz) s₃ ∧ J (i + 1) m' mu' tl') →
        ∃ m, m < k ∧ WalkInv I n Sti s₀ S L fz J m s₃ := by
      rintro ⟨m', mu', tl', C₃, hJ'⟩
      refine ⟨n - (i + 1), hk ▸ Nat.sub_lt_sub_left hlt (Nat.lt_succ_self i), i + 1, oI', m', mu', tl', hlt, rfl, Wk.frame _ _ _ hst fun b hb o e => ?_, C₃, hJ'⟩
      rcases hfp b hb with rfl | ⟨ob, hm⟩
      · rw [eI] at e; rw [← e]; exact (C₃.cx.mus _ (.head _)).1
      · have z : ∀ tl' : List (Addr × Obj), (b, ob) ∈ (tl' ++ fz) ++ fz₀ := fun tl' => by
          rcases List.mem_append.mp hm with q | q
          · exact List.mem_append_left _ (List.mem_append_right _ q)
          · exact List.mem_append_right _ q
        have e₁ := C₂.cx.all Z _ (z tl)
        have e₂ := C₃.cx.all Z _ (z tl')
        rw [show h₂.get? b = some ob from e₁] at e
        rw [← e]; exact e₂
    cases f with
    | ret v => exact hf
    | brk => exact hf
    | next => exact fin hf
    | cont => exact fin hf
  · have hi' : i = n := by omega
    subst hi'
    refine Wk.done _ _ _ hit fun h₂ tk₂ hk₂ => ?_
    exact wpAny_execs_nil (done m₁ mu₁ tl _ hJ (C'.heap (C'.cx.but fun b o hb e => hk₂ b o (by simpa using hb) e) _))

theorem for_list {target : Expr} {body : List Stmt} {env : Env} {l : Addr} {vs : List Value} {n : Nat} {Q : Flow → Shared → Prop}
    (C : St s₀ S L m mu fz s) (hh : A.handled = none) (Z : ∀ p ∈ fz₀, s₀.heap.get? p.1 = some p.2 ∧ p.1 ∉ S) (hl : (l, W.listOf vs.toArray n) ∈ fz ++ fz₀)
    (hlet : ∀ (I : Addr) (i : Nat) (v : Value) (s : Shared) (Q : Unit → Shared → Prop), v ∈ vs → s.heap.IsListIter I l (i + 1) → Q () s → wpAny (model prog w) A (letOwnedTupleGo target (.ref I) v) Q Nay s)
    (J : Nat → (Str → Option Value) → List (Addr × Obj) → List (Addr × Obj) → Prop) (j0 : J 0 m mu [])
    (turn : ∀ i v it m₁ mu₁ tl s₁, vs[i]? = some v → J i m₁ mu₁ tl → St s₀ S L m₁ (it :: mu₁) (tl ++ fz) s₁ →
      wpAny (model prog w) A (assign target env v) (fun _ s₂ => wpAny (model prog w) A (execs body env) (TurnEnd s₀ S L it fz (J (i + 1)) Q) Nay s₂) Nay s₁)
    (done : ∀ m' mu' tl s₁, J vs.length m' mu' tl → St s₀ S L m' mu' (tl ++ fz) s₁ → Q .next s₁) :
    wpAny (model prog w) A (pyIter (.ref l)) (fun it s₂ => codeAny (model prog w) A (.forLoop target it body [] env) (fun r s' => match r with | .ok f => Q f s' | .error e => cameBackBy (model prog w) A env E e s') s₂) E s := by
  have hol : s.heap.get? l = some (W.listOf vs.toArray n) := C.cx.all Z _ hl
  have hne : l ≠ s.heap.objs.size := Nat.ne_of_lt (Heap.lt_size hol)
  refine wpAny_pyIter_list (listOf_is hol) ?_
  have Wk := Walks.list (prog := prog) (w := w) hh s.heap.objs.size l hne vs.toArray
  have C₁ : St s₀ S L m ((s.heap.objs.size, itO l 0) :: mu) fz { s with heap := s.heap.push (itO l 0) } := C.heap' (C.cx.pushM rfl)
  refine for_walks (fz₀ := fz₀) Wk C₁ ⟨⟨_, Heap.get?_push_size _ rfl, rfl, rfl⟩, (listOf_is hol).push _⟩ (fun i h hs => let ⟨o, e, _⟩ := hs.1; ⟨o, e⟩) Z (fun b hb => ?_) (fun i v s Q hP hs hq => hlet _ i v s Q (List.mem_of_getElem? (by simpa using hP)) hs.1 hq) J j0
    (fun i v it m₁ mu₁ tl s₁ hlt hP hJ C => turn i v it m₁ mu₁ tl s₁ (by simpa using hP) hJ C) (fun m' mu' tl s₁ hJ C => done m' mu' tl s₁ (by simpa using hJ) C)
  rcases List.mem_cons.mp hb with q | q
  · exact .inl q
  · exact .inr ⟨_, (by rw [List.mem_singleton.mp q]; exact hl)⟩

theorem for_range {target : Expr} {body : List Stmt} {env : Env} {r : Addr} {a b : Int} {n : Nat} {t u v : Tok} {Q : Flow → Shared → Prop}
    (C : St s₀ S L m mu fz s) (hh : A.handled = none) (Z : ∀ p ∈ fz₀, s₀.heap.get? p.1 = some p.2 ∧ p.1 ∉ S) (hr : IsRange s.heap r a b 1 t u v) (hbn : b = a + n) (ha : 0 ≤ a) (hb : a + n < 1000)
    (hlet : ∀ (I : Addr) (v : Value) (s : Shared) (Q : Unit → Shared → Prop), Q () s → wpAny (model prog w) A (letOwnedTupleGo target (.ref I) v) Q Nay s)
    (J : Nat → (Str → Option Value) → List (Addr × Obj) → List (Addr × Obj) → Prop) (j0 : J 0 m mu [])
    (turn : ∀ i t it m₁ mu₁ tl s₁, i < n → J i m₁ mu₁ tl → St s₀ S L m₁ (it :: mu₁) (tl ++ fz) s₁ →
      wpAny (model prog w) A (assign target env (.int (a + i) t)) (fun _ s₂ => wpAny (model prog w) A (execs body env) (TurnEnd s₀ S L it fz (J (i + 1)) Q) Nay s₂) Nay s₁)
    (done : ∀ m' mu' tl s₁, J n m' mu' tl → St s₀ S L m' mu' (tl ++ fz) s₁ → Q .next s₁) :
    wpAny (model prog w) A (pyIter (.ref r)) (fun it s₂ => codeAny (model prog w) A (.forLoop target it body [] env) (fun r s' => match r with | .ok f => Q f s' | .error e => cameBackBy (model prog w) A env E e s') s₂) E s := by
  subst hbn
  have hsz : Builtin.Range.rangeSize a (a + n) 1 = n := by
    unfold Builtin.Range.rangeSize
    simp
    omega
  refine wpAny_pyIter_range hr (by
    unfold Builtin.Range.small
    rw [hsz]
    unfold Builtin.Range.rangeFitsLong
    simp
    omega) ?_
  rw [hsz]
  have Wk := LCg.range_walks (prog := prog) (w := w) (I := s.heap.objs.size) hh a n
  refine for_walks (fz₀ := fz₀) (o := { cls := .type "range_iterator", data := .fields #[rawInt a, rawInt (n : Int), rawInt 1] }) Wk (C.heap' (C.cx.pushM rfl)) ?_ (fun i h hs => ⟨_, hs⟩) Z (fun b hb => .inl (List.mem_singleton.mp hb)) (fun i v s Q _ _ hq => hlet _ v s Q hq) J j0
    (fun i v it m₁ mu₁ tl s₁ hlt hP hJ C => ?_) done
  · show IsRangeIter _ _ _ _ _
    unfold IsRangeIter
    simp
    exact Heap.get?_push_size _ rfl
  · obtain ⟨t, rfl⟩ := hP
    exact turn i t it m₁ mu₁ tl s₁ hlt hJ C
end
end Mine

namespace Mine
open PySem PySem.W PySem.Calls PySem.Spec PyProof.Rows

section
variable {prog : Program} {w : World} {M : Model} {A : Around} {E : Value → Shared → Prop} {s s₀ : Shared} {S : List Addr} {L : Addr} {m : Str → Option Value} {mu fz fz₀ : List (Addr × Obj)}

theorem append_M {pre post : List (Addr × Obj)} {a : Addr} {us : List Value} {k : Nat} {x : Value} {Q : Value → Shared → Prop} (C : St s₀ S L m (pre ++ (a, W.listOf us.toArray k) :: post) fz s) (hsz : us.length ≤ 1000)
    (h : ∀ s', St s₀ S L m (pre ++ (a, W.listOf (us ++ [x]).toArray (k + 1)) :: post) fz s' → Q .none s') : wpAny (model prog w) A (call (.builtin "list.append") [.ref a, x]) Q E s := by
  have e0 : s.heap.get? a = some (W.listOf us.toArray k) := (C.cx.mus (a, W.listOf us.toArray k) (List.mem_append_right _ (.head _))).1
  refine append_at (hsz := by rw [List.size_toArray, sizeLine_eq]; omega) e0 fun h' hs e => h _ (C.heap' (C.cx.turn hs.extBut ?_))
  rw [e, List.push_toArray]

theorem ev_append {env : Env} {y : Str} {py apos pos : Pos} {elt : Expr} {pre post : List (Addr × Obj)} {a : Addr} {us : List Value} {k : Nat} {Q : Value → Shared → Prop}
    (C : St s₀ S env.locals m (pre ++ (a, W.listOf us.toArray k) :: post) fz s) (hy : m y = some (.ref a))
    (h : wpAny (model prog w) A (eval elt env) (fun v s₂ => wpAny (model prog w) A (call (.builtin "list.append") [.ref a, v]) Q E s₂) E s)
    (hk : env.scope.kind = .function := by rfl) (hx : env.kindOf y = some .local := by rfl) (hd : (y == ("__debug__" : Str)) = false := by decide)
    (hbase : attributeBase (.Name y py) "append" env (eval (.Name y py) env) = eval (.Name y py) env := by rfl)
    (hfew : ((backTo pos (starEach [elt] env)).all (fun x => !x.1) && (backToKw pos (keywordEach [] env)).all (fun x => x.1.isSome)
      && decide (([elt] : List Expr).length + ([] : List Keyword).length + (if ([] : List Keyword).isEmpty then 0 else 1) < 30)) = true := by rfl)
    (hline : (apos.endLine == pos.line) = true := by rfl) (htrees : backTo pos (starEach [elt] env) = [(false, eval elt env)] := by rfl) :
    wpAny (model prog w) A (eval (.Call (.Attribute (.Name y py) "append" apos) [elt] [] pos) env) Q E s := by
  have e0 : s.heap.get? a = some (W.listOf us.toArray k) := (C.cx.mus (a, W.listOf us.toArray k) (List.mem_append_right _ (.head _))).1
  exact wpAny_Call_append hbase hfew hline htrees (ev_L C hy ⟨a, us.toArray, rfl, ⟨_, k, e0, rfl, rfl, rfl⟩, h⟩ hk hx hd)

theorem sub_int {value slice : Expr} {l : Addr} {vs : List Value} {i : Int} {t : Tok} {v : Value} {Q : Value → Shared → Prop} (hl : s.heap.IsList l vs.toArray) (h0 : 0 ≤ i) (h1 : i < 1000) (hx : vs[i.toNat]? = some v) (h : Q v s)
    (hs : subscripted slice false (.ref l) (.int i t) = operate [.ref l, .int i t] (getItem (.ref l) (.int i t)) := by with_unfolding_all rfl) : wpAny (model prog w) A (subscriptTail value slice (.ref l) (.int i t)) Q E s :=
  tail_any hl.typeIs slot_list_getitem.lookup (wpAny_getItem_list hl h0 (by omega) (by simpa using hx) h) hs

theorem sub_slice {value slice : Expr} {l : Addr} {vs : List Value} {vl vu : Value} {lo hi : Option Int} {Q : Value → Shared → Prop} (C : St s₀ S L m mu fz s) (hl : s.heap.IsList l vs.toArray) (hsz : vs.length ≤ 1000) (pl : IsPart vl lo) (pu : IsPart vu hi)
    (h : ∀ a s', St s₀ S L m mu ((a, W.listOf (kms_pick vs lo hi).toArray 0) :: fz) s' → Q (.ref a) s')
    (hs : subscripted slice false (.ref l) (.ref s.heap.objs.size) = operate [.ref s.heap.objs.size, .ref l] (getItem (.ref l) (.ref s.heap.objs.size)) := by with_unfolding_all rfl) :
    wpAny (model prog w) A (subscriptTail value slice (.ref l) (.ref s.heap.objs.size)) Q E { s with heap := s.heap.push { cls := .type "slice", data := .fields #[vl, vu, .none] } } := by
  have hT : ({ s with heap := s.heap.push { cls := .type "slice", data := .fields #[vl, vu, .none] } } : Shared).TypeIs (.ref l) "list" := (hl.push _).typeIs
  refine tail_any hT slot_list_getitem.lookup (wpAny_getItem_list_slice (hl.push _) (Heap.IsSliceOf.new ..) pl pu .none (by simp) ?_ (by rw [List.size_toArray, sizeLine_eq]; omega)) hs
  rw [kms_pick_eq]
  exact h _ _ (C.heap' ((C.cx.push _).pushF rfl))

theorem add_ll {l b : Addr} {vs us : List Value} {n k : Nat} {Q : Value → Shared → Prop} (C : St s₀ S L m mu fz s) (hl : s.heap.get? l = some (W.listOf vs.toArray n)) (hb : s.heap.get? b = some (W.listOf us.toArray k)) (hsz : vs.length + us.length ≤ 1000)
    (h : ∀ a s', St s₀ S L m mu ((a, W.listOf (vs ++ us).toArray 0) :: fz) s' → Q (.ref a) s') : wpAny (model prog w) A (binaryOp .Add (.ref l) (.ref b)) Q E s := by
  refine PySem.P.add_list hl hb ?_ (by rw [List.size_toArray, List.size_toArray, sizeLine_eq]; omega)
  rw [List.append_toArray]
  exact h _ _ (C.heap' (C.cx.pushF rfl))

theorem noFrame {led : List (Addr × Obj)} {h : Heap} (hl : ∀ p ∈ led, h.get? p.1 = some p.2) : News {} h.objs.size h led :=
  fun p hp => ⟨hl p hp, Nat.ne_of_lt (Heap.lt_size (hl p hp)), by simp [Heap.get?]⟩

noncomputable def dP (p : List Str) : Dat := .list (p.map .str)
noncomputable def dPs (ps : List (List Str)) : Dat := .list (ps.map dP)
noncomputable def dSs (xs : List Str) : Dat := .list (xs.map .str)

theorem map_inj {α β : Type} {f : α → β} (hf : ∀ a b, f a = f b → a = b) : ∀ {xs ys : List α}, xs.map f = ys.map f → xs = ys
  | [], [], _ => rfl
  | [], _ :: _, h => by cases h
  | _ :: _, [], h => by cases h
  | x :: xs, y :: ys, h => by
    simp only [List.map_cons, List.cons.injEq] at h
    rw [hf _ _ h.1, map_inj hf h.2]
theorem dP_inj {p q : List Str} (h : dP p = dP q) : p = q := by
  unfold dP at h
  injection h with h
  exact map_inj (fun a b e => by injection e) h
end
end Mine

namespace Mine
open PySem PySem.W PySem.Calls PySem.Spec PyProof.Rows

theorem DatIn.up {n₁ : List (Addr × Obj)} {v : Value} {d : Dat} (tl : List (Addr × Obj)) (h : DatIn n₁ v d) : DatIn (tl ++ n₁) v d := h.mono fun _ hp => List.mem_append_right _ hp
theorem DatAll.up {n₁ : List (Addr × Obj)} {v : List Value} {d : List Dat} (tl : List (Addr × Obj)) (h : DatAll n₁ v d) : DatAll (tl ++ n₁) v d := h.mono fun _ hp => List.mem_append_right _ hp

theorem DatAll.take {led : List (Addr × Obj)} : ∀ {vs : List Value} {ds : List Dat} (k : Nat), DatAll led vs ds → DatAll led (vs.take k) (ds.take k)
  | _, _, 0, _ => by simp only [List.take_zero]; exact .nil
  | _, _, k + 1, .nil => by simp only [List.take_nil]; exact .nil
  | _, _, k + 1, .cons h t => by simp only [List.take_succ_cons]; exact .cons h (DatAll.take k t)
theorem DatAll.drop {led : List (Addr × Obj)} : ∀ {vs : List Value} {ds : List Dat} (k : Nat), DatAll led vs ds → DatAll led (vs.drop k) (ds.drop k)
  | _, _, 0, h => by simpa only [List.drop_zero] using h
  | _, _, k + 1, .nil => by simp only [List.drop_nil]; exact .nil
  | _, _, k + 1, .cons h t => by simp only [List.drop_succ_cons]; exact DatAll.drop k t
noncomputable def pk {α : Type} (l : List α) (lo hi : Option Int) : List α := (l.drop (kms_lo lo l.length)).take (kms_hi hi l.length - kms_lo lo l.length)
theorem DatAll.pick {led : List (Addr × Obj)} {vs : List Value} {ds : List Dat} (lo hi : Option Int) (h : DatAll led vs ds) : DatAll led (kms_pick vs lo hi) (pk ds lo hi) := by
  unfold kms_pick pk
  rw [h.length]
  exact DatAll.take _ (DatAll.drop _ h)
theorem pk_map {α β : Type} (f : α → β) (l : List α) (lo hi : Option Int) : pk (l.map f) lo hi = (pk l lo hi).map f := by
  unfold pk
  rw [List.length_map, List.map_take, List.map_drop]
theorem pk_hi {α : Type} (l : List α) {j : Int} (h : 0 ≤ j) : pk l none (some j) = l.take j.toNat := by
  unfold pk
  simp only [kms_lo, kms_hi]
  rw [if_neg (by omega), List.drop_zero, Nat.sub_zero, ← List.take_take, List.take_length]
theorem DatIn.str_inv {led : List (Addr × Obj)} {v : Value} {x : Str} (h : DatIn led v (.str x)) : ∃ t, v = .str x t := by cases h; exact ⟨_, rfl⟩
theorem DatIn.list_inv {led : List (Addr × Obj)} {v : Value} {ds : List Dat} (h : DatIn led v (.list ds)) : ∃ a vs n, v = .ref a ∧ (a, W.listOf vs.toArray n) ∈ led ∧ DatAll led vs ds := by cases h with | list h1 h2 => exact ⟨_, _, _, rfl, h1, h2⟩

section
variable {M : Model} {A : Around} {env : Env} {s₀ : Shared} {S : List Addr} {L : Addr} {m : Str → Option Value} {mu fz₀ : List (Addr × Obj)}

noncomputable def Evs (M : Model) (A : Around) (env : Env) (s₀ : Shared) (S : List Addr) (L : Addr) (m : Str → Option Value) (mu fz : List (Addr × Obj)) (e : Expr) (d : Dat) : Prop :=
  ∀ tl s (Q E : Value → Shared → Prop), St s₀ S L m mu (tl ++ fz) s → (∀ v tl' s', St s₀ S L m mu (tl' ++ fz) s' → (∀ p ∈ tl, p ∈ tl') → DatIn (tl' ++ fz) v d → Q v s') → wpAny M A (eval e env) Q E s
inductive EvsAll (M : Model) (A : Around) (env : Env) (s₀ : Shared) (S : List Addr) (L : Addr) (m : Str → Option Value) (mu fz : List (Addr × Obj)) : List Expr → List Dat → Prop
  | nil : EvsAll M A env s₀ S L m mu fz [] []
  | cons {e : Expr} {es : List Expr} {d : Dat} {ds : List Dat} : Evs M A env s₀ S L m mu fz e d → EvsAll M A env s₀ S L m mu fz es ds → starEach (e :: es) env = (false, eval e env) :: starEach es env → EvsAll M A env s₀ S L m mu fz (e :: es) (d :: ds)

variable {fz : List (Addr × Obj)}
theorem Evs.use {e : Expr} {d : Dat} {s : Shared} {Q E : Value → Shared → Prop} (x : Evs M A env s₀ S L m mu fz e d) (C : St s₀ S L m mu fz s) (h : ∀ v tl s', St s₀ S L m mu (tl ++ fz) s' → DatIn (tl ++ fz) v d → Q v s') : wpAny M A (eval e env) Q E s :=
  x [] s Q E C fun v tl s' C' _ dv => h v tl s' C' dv
theorem Evs.cast {e : Expr} {d d' : Dat} (x : Evs M A env s₀ S L m mu fz e d) (h : d = d') : Evs M A env s₀ S L m mu fz e d' := h ▸ x
theorem evs_int {i : Int} {k : Nat} {pos : Pos} : Evs M A env s₀ S L m mu fz (.Constant (.int i) k pos) (.int i) :=
  fun tl _ _ _ C h => ev_int C fun _ s' C' => h _ tl s' C' (fun _ x => x) (.int _ _)
theorem evs_str {x y : Str} {k : Nat} {pos : Pos} (e : x = y) : Evs M A env s₀ S L m mu fz (.Constant (.str x) k pos) (.str y) :=
  fun tl _ _ _ C h => ev_str C fun _ s' C' => h _ tl s' C' (fun _ x => x) (e ▸ .str _ _)
theorem evs_all {es : List Expr} {ds : List Dat} (x : EvsAll M A env s₀ S L m mu fz es ds) {pos : Pos} : ∀ {tl : List (Addr × Obj)} {s : Shared} {Q : List Value → Shared → Prop} {E : Value → Shared → Prop}, St s₀ S L m mu (tl ++ fz) s →
    (∀ vs tl' s', St s₀ S L m mu (tl' ++ fz) s' → (∀ p ∈ tl, p ∈ tl') → DatAll (tl' ++ fz) vs ds → Q vs s') → wpAny M A (spliced (backTo pos (starEach es env))) Q E s := by
  induction x with
  | nil => exact fun C h => sp_nil (h _ _ _ C (fun _ x => x) .nil)
  | cons he _ st ih =>
    intro tl s Q E C h
    refine sp_cons (he _ _ _ _ C fun v tl₁ s₁ C₁ hs dv => ih C₁ fun vs tl₂ s₂ C₂ hs₂ dvs => h _ _ _ C₂ (fun p hp => hs₂ p (hs p hp)) (.cons (dv.mono fun p hp => ?_) dvs)) st
    rcases List.mem_append.mp hp with q | q
    · exact List.mem_append_left _ (hs₂ p q)
    · exact List.mem_append_right _ q
theorem evs_list {es : List Expr} {ds : List Dat} {pos : Pos} (x : EvsAll M A env s₀ S L m mu fz es ds) (hn : ds.length ≤ 1000) : Evs M A env s₀ S L m mu fz (.List es pos) (.list ds) :=
  fun tl _ _ _ C h => List_ <| evs_all x C fun vs tl₁ s₁ C₁ hs dv => newList_F C₁ (Nat.le_trans (Nat.le_of_eq dv.length) hn) fun a s' C' => h _ ((a, _) :: tl₁) _ C' (fun p hp => .tail _ (hs p hp)) (.list (.head _) (DatAll.up [_] dv))
theorem evs_strs {es : List Expr} {xs : List Str} {pos : Pos} (x : EvsAll M A env s₀ S L m mu fz es (xs.map .str)) (hn : xs.length ≤ 1000) : Evs M A env s₀ S L m mu fz (.List es pos) (dP xs) :=
  evs_list x (by rw [List.length_map]; exact hn)
variable {prog : Program} {w : World}
theorem evs_slice {value : Expr} {lo hi : Option Expr} {pl pos : Pos} {vlo vhi : Option Int} {ds : List Dat}
    (x : Evs (model prog w) A env s₀ S L m mu fz value (.list ds)) (hn : ds.length ≤ 1000)
    (hlo : ∀ tl s (Q E : Value → Shared → Prop), St s₀ S L m mu (tl ++ fz) s → (∀ v s', St s₀ S L m mu (tl ++ fz) s' → IsPart v vlo → Q v s') → wpAny (model prog w) A (evalPart lo env) Q E s)
    (hhi : ∀ tl s (Q E : Value → Shared → Prop), St s₀ S L m mu (tl ++ fz) s → (∀ v s', St s₀ S L m mu (tl ++ fz) s' → IsPart v vhi → Q v s') → wpAny (model prog w) A (evalPart hi env) Q E s)
    (hs : ∀ o i : Addr, subscripted (.Slice lo hi none pl) false (.ref o) (.ref i) = operate [.ref i, .ref o] (getItem (.ref o) (.ref i)) := by intros; with_unfolding_all rfl) :
    Evs (model prog w) A env s₀ S L m mu fz (.Subscript value (.Slice lo hi none pl) pos) (.list (pk ds vlo vhi)) :=
  fun tl s Q E C h => Subscript_ <| x _ _ _ _ C fun v tl₁ s₁ C₁ hs₁ dv => by
    obtain ⟨a, vs, n, rfl, hm, dvs⟩ := DatIn.list_inv dv
    refine wpAny_Slice <| hlo _ _ _ _ C₁ fun vl s₂ C₂ pl => hhi _ _ _ _ C₂ fun vh s₃ C₃ ph => evalPart_none_step ?_
    refine sub_slice C₃ (listOf_is (C₃.cx.fzs _ hm).1) (by rw [dvs.length]; exact hn) pl ph (fun b s' C₄ => ?_) (hs _ _)
    exact h _ ((b, _) :: tl₁) _ C₄ (fun p hp => .tail _ (hs₁ p hp)) (.list (.head _) (DatAll.up [_] (DatAll.pick _ _ dvs)))
theorem part_none {tl : List (Addr × Obj)} {s : Shared} {Q E : Value → Shared → Prop} (C : St s₀ S L m mu (tl ++ fz) s) (h : ∀ v s', St s₀ S L m mu (tl ++ fz) s' → IsPart v none → Q v s') : wpAny (model prog w) A (evalPart none env) Q E s := evalPart_none_step (h _ _ C .none)
end
theorem iteT {a b : Prop} (x : a) : if (true : Bool) = true then a else b := by rw [if_pos rfl]; exact x
theorem iteF {a b : Prop} (x : b) : if (false : Bool) = true then a else b := by rw [if_neg Bool.false_ne_true]; exact x
section
variable {s s₀ : Shared} {S : List Addr} {L : Addr} {m : Str → Option Value} {mu fz : List (Addr × Obj)} {G : Prop}
theorem St.gen1 {x : Str} {v : Value} (C : St s₀ S L m mu fz s) (h : m x = some v) (k : ∀ m' : Str → Option Value, m' x = some v → St s₀ S L m' mu fz s → G) : G := k m h C
theorem St.gen2 {x y : Str} {v u : Value} (C : St s₀ S L m mu fz s) (h : m x = some v) (h2 : m y = some u) (k : ∀ m' : Str → Option Value, m' x = some v → m' y = some u → St s₀ S L m' mu fz s → G) : G := k m h h2 C
theorem St.gen3 {x y z : Str} {v u t : Value} (C : St s₀ S L m mu fz s) (h : m x = some v) (h2 : m y = some u) (h3 : m z = some t) (k : ∀ m' : Str → Option Value, m' x = some v → m' y = some u → m' z = some t → St s₀ S L m' mu fz s → G) : G := k m h h2 h3 C
theorem St.gen4 {x y z q : Str} {v u t r : Value} (C : St s₀ S L m mu fz s) (h : m x = some v) (h2 : m y = some u) (h3 : m z = some t) (h4 : m q = some r) (k : ∀ m' : Str → Option Value, m' x = some v → m' y = some u → m' z = some t → m' q = some r → St s₀ S L m' mu fz s → G) : G := k m h h2 h3 h4 C
theorem St.genF {p : Addr × Obj} (C : St s₀ S L m mu fz s) (h : p ∈ fz) (k : ∀ F, p ∈ F → St s₀ S L m mu F s → G) : G := k fz h C
end
theorem list_elim {led : List (Addr × Obj)} {v : Value} {ds : List Dat} {G : Prop} (h : DatIn led v (.list ds)) (k : ∀ a vs n, v = .ref a → (a, W.listOf vs.toArray n) ∈ led → DatAll led vs ds → G) : G := by
  obtain ⟨a, vs, n, e, hm, d⟩ := DatIn.list_inv h
  exact k a vs n e hm d
theorem mem_in {α : Type} {a b c : List α} {p : α} (h : p ∈ b ++ c) : p ∈ a ++ b ++ c := by
  rw [List.append_assoc]; exact List.mem_append_right _ h

end Mine

namespace Mine
open PySem PySem.W PySem.Calls PySem.Spec PyProof.Rows

noncomputable def pick (k : Int) : Str := nms.getD (Int.fmod k 3).toNat nA
noncomputable def rowOf (n : Int) : Int × List Str := (Int.fmod n 3, [pick (Int.fdiv n 9), pick (Int.fdiv n 27), pick (Int.fdiv n 81)].take (Int.fmod (Int.fdiv n 3) 3 + 1).toNat)
noncomputable def rows0 : List (Int × List Str) := [(1, [nAB, nA]), (0, [nB]), (2, [nA, nAB]), (1, [nA, nA]), (1, [nA, nB, nAB])]
noncomputable def dR (r : Int × List Str) : Dat := .list [.int r.1, dP r.2]
noncomputable def dRs (rs : List (Int × List Str)) : Dat := .list (rs.map dR)

theorem three {z : Int} (h0 : 0 ≤ z) (h1 : z < 3) : z.toNat = 0 ∨ z.toNat = 1 ∨ z.toNat = 2 := by
  obtain ⟨n, rfl⟩ := Int.eq_ofNat_of_zero_le h0
  match n, Int.ofNat_lt.mp h1 with
  | 0, _ => exact .inl rfl
  | 1, _ => exact .inr (.inl rfl)
  | 2, _ => exact .inr (.inr rfl)
theorem pick_eq (k : Int) : (nms.map Dat.str)[(Int.fmod k 3).toNat]? = some (.str (pick k)) := by
  unfold pick
  rcases three (Int.fmod_nonneg_of_pos k (b := 3) (by decide)) (Int.fmod_lt_of_pos k (b := 3) (by decide)) with h | h | h <;> rw [h] <;> rfl
theorem DatAll.get? {led : List (Addr × Obj)} {vs : List Value} {ds : List Dat} (h : DatAll led vs ds) {k : Nat} {d : Dat} (hd : ds[k]? = some d) : ∃ v, vs[k]? = some v ∧ DatIn led v d := by
  obtain ⟨hk, e⟩ := List.getElem?_eq_some_iff.mp hd
  obtain ⟨v, h1, h2⟩ := h.get hk
  exact ⟨v, h1, e ▸ h2⟩

section
variable {prog : Program} {w : World} {env : Env} {A : Around} {s₀ : Shared} {S : List Addr} {m : Str → Option Value} {mu fz : List (Addr × Obj)}

theorem evs_pick {nm : Addr} {i K : Int} {ti : Tok} {k1 k2 : Nat} {p1 p2 p3 p4 p5 p6 p7 : Pos} {xn xk : Str} (hn : m xn = some (.ref nm)) (hd : DatIn fz (.ref nm) (dP nms)) (hi : m xk = some (.int i ti)) (hK : K ≠ 0) (hp : Builtin.divisionGoesByPylong i K = false)
    (hk : env.scope.kind = .function := by rfl) (hx : env.kindOf xn = some .local := by rfl) (hdb : (xn == ("__debug__" : Str)) = false := by decide) (hx' : env.kindOf xk = some .local := by rfl) (hdb' : (xk == ("__debug__" : Str)) = false := by decide) :
    Evs (model prog w) A env s₀ S env.locals m mu fz (.Subscript (.Name xn p1) (.BinOp (.BinOp (.Name xk p2) .FloorDiv (.Constant (.int K) k1 p3) p4) .Mod (.Constant (.int 3) k2 p5) p6) p7) (.str (pick (Int.fdiv i K))) :=
  fun tl s Q E C h => Subscript_ <| ev_L C hn (hk := hk) (hx := hx) (hd := hdb) <| wpAny_BinOp <| wpAny_BinOp <| ev_L C hi (hk := hk) (hx := hx') (hd := hdb') <| ev_int C fun t s₁ C => floordiv_int hK (hp := .inl hp) <| ev_int (C.tok _) fun t s₂ C => mod_int' (by decide) <| by
    obtain ⟨a, vs, n, e, hm, dvs⟩ := DatIn.list_inv hd
    obtain rfl : nm = a := by injection e
    obtain ⟨v, hv, dv⟩ := DatAll.get? dvs (pick_eq (Int.fdiv i K))
    have h0 := Int.fmod_nonneg_of_pos (Int.fdiv i K) (b := 3) (by decide)
    have h1 := Int.fmod_lt_of_pos (Int.fdiv i K) (b := 3) (by decide)
    refine sub_int (listOf_is (C.cx.fzs _ (List.mem_append_right _ hm)).1) h0 (by omega) hv (h _ tl _ (C.tok _) (fun _ x => x) (dv.mono fun _ hp => List.mem_append_right _ hp))
theorem evs_mod {i : Int} {ti : Tok} {k2 : Nat} {p2 p5 p6 : Pos} {xk : Str} (hi : m xk = some (.int i ti)) (hk : env.scope.kind = .function := by rfl) (hx' : env.kindOf xk = some .local := by rfl) (hdb' : (xk == ("__debug__" : Str)) = false := by decide) :
    Evs (model prog w) A env s₀ S env.locals m mu fz (.BinOp (.Name xk p2) .Mod (.Constant (.int 3) k2 p5) p6) (.int (Int.fmod i 3)) :=
  fun tl s Q E C h => wpAny_BinOp <| ev_L C hi (hk := hk) (hx := hx') (hd := hdb') <| ev_int C fun t s₂ C => mod_int' (by decide) <| h _ tl _ (C.tok _) (fun _ x => x) (.int _ _)
theorem part_count {i : Int} {ti : Tok} {k1 k2 k3 : Nat} {p2 p3 p4 p5 p6 p7 p8 : Pos} {xk : Str} (hi : m xk = some (.int i ti)) {tl : List (Addr × Obj)} {s : Shared} {Q E : Value → Shared → Prop} (C : St s₀ S env.locals m mu (tl ++ fz) s)
    (h : ∀ v s', St s₀ S env.locals m mu (tl ++ fz) s' → IsPart v (some (Int.fmod (Int.fdiv i 3) 3 + 1)) → Q v s') (hk : env.scope.kind = .function := by rfl) (hx' : env.kindOf xk = some .local := by rfl) (hdb' : (xk == ("__debug__" : Str)) = false := by decide) :
    wpAny (model prog w) A (evalPart (some (.BinOp (.BinOp (.BinOp (.Name xk p2) .FloorDiv (.Constant (.int 3) k1 p3) p4) .Mod (.Constant (.int 3) k2 p5) p6) .Add (.Constant (.int 1) k3 p7) p8)) env) Q E s :=
  evalPart_some_step <| wpAny_BinOp <| wpAny_BinOp <| wpAny_BinOp <| ev_L C hi (hk := hk) (hx := hx') (hd := hdb') <| ev_int C fun t s₁ C => floordiv_int (by decide) (hp := .inl (PyProof.noPylong_of_log2 (by decide +kernel))) <| ev_int (C.tok _) fun t s₂ C => mod_int' (by decide) <| ev_int (C.tok _) fun t s₂ C => wpAny_add_int <| h _ _ (C.tok _) (.int _ _)
end

section
variable {w : World} {B : Heap} {mg mb : Str → Option Value} {A : Around} {E : Value → Shared → Prop} {s s₀ : Shared} {fr : List Env} {d u : Nat} {fz₀ : List (Addr × Obj)}

noncomputable abbrev rowsJ (ns : List Int) (nm rw : Addr) (F : List (Addr × Obj)) (i : Nat) (m : Str → Option Value) (mu tl' : List (Addr × Obj)) : Prop :=
  ∃ us k, m (Str.ofString "names") = some (.ref nm) ∧ m (Str.ofString "rows") = some (.ref rw) ∧ mu = [(rw, W.listOf us.toArray k)] ∧ DatAll (tl' ++ F) us ((rows0 ++ (ns.take i).map rowOf).map dR)
theorem rowsJ.elim {ns : List Int} {nm rw : Addr} {F fz : List (Addr × Obj)} {i : Nat} {m : Str → Option Value} {mu tl' : List (Addr × Obj)} {s s₀ : Shared} {S : List Addr} {L : Addr} {G : Prop} (pre : List (Addr × Obj)) (h : rowsJ ns nm rw F i m mu tl') (C : St s₀ S L m (pre ++ mu) fz s)
    (K : ∀ us k, m (Str.ofString "names") = some (.ref nm) → m (Str.ofString "rows") = some (.ref rw) → DatAll (tl' ++ F) us ((rows0 ++ (ns.take i).map rowOf).map dR) → St s₀ S L m (pre ++ [(rw, W.listOf us.toArray k)]) fz s → G) : G := by
  obtain ⟨us, k, e1, e2, rfl, du⟩ := h
  exact K us k e1 e2 du C

set_option maxHeartbeats 1000000 in
theorem rows_ok {l : Addr} {vs : List Value} {ns : List Int} {n : Nat} {Q : Value → Shared → Prop} (am : Amb (hd.heap_39 w.params) B mg mb) (R : Room A fr (d + 1) (u + 3)) (X : Act B s.heap fr)
    (Z : ∀ p ∈ fz₀, s.heap.get? p.1 = some p.2 ∧ p.1 ∉ frs fr) (hl : (l, W.listOf vs.toArray n) ∈ fz₀) (hi : IntsAre vs ns) (h63 : ns.length ≤ 63)
    (k : Ret fr s Q fun v tl => DatIn (tl ++ fz₀) v (dRs (rows0 ++ ns.map rowOf))) : wpAny (model PySem.Challenge.rw_il0010_01.row.prog w) A (call (.ref 171) [.ref l]) Q E s := by
  refine enter (binds := [(Str.ofString "script", .ref l)]) am rfl rfl R X (BindsTo.of_eq rfl) (fun L s₁ C X' R' => ?_) k
  refine wpAny_execs_cons <| wpAny_Assign_Name <| List_ <| ?_
  refine @evs_all _ _ _ _ _ _ _ _ _ _ (nms.map Dat.str) (.cons (evs_str ofA) (.cons (evs_str ofAB) (.cons (evs_str ofB) .nil rfl) rfl) rfl) _ [] _ _ _ C ?_
  refine fun nvs tn s₂ C _ dn => newList_F C (by rw [dn.length]; decide) fun nm s₂ C => st_L C fun s₃ C => ?_
  have dnm : DatIn ((nm, W.listOf nvs.toArray 0) :: (tn ++ [])) (.ref nm) (dP nms) := .list (.head _) (DatAll.up [_] dn)
  generalize (nm, W.listOf nvs.toArray 0) :: (tn ++ []) = fn at C dnm
  refine wpAny_execs_cons ?_
  refine wpAny_Assign_Name ?_
  refine List_ ?_
  refine @evs_all _ _ _ _ _ _ _ _ _ _ (rows0.map dR) ?_ _ [] _ _ _ C ?_
  · exact (.cons (evs_list (.cons evs_int (.cons (evs_strs (.cons (evs_str ofAB) (.cons (evs_str ofA) .nil rfl) rfl) (by decide)) .nil rfl) rfl) (by decide)) (.cons (evs_list (.cons evs_int (.cons (evs_strs (.cons (evs_str ofB) .nil rfl) (by decide)) .nil rfl) rfl) (by decide)) (.cons (evs_list (.cons evs_int (.cons (evs_strs (.cons (evs_str ofA) (.cons (evs_str ofAB) .nil rfl) rfl) (by decide)) .nil rfl) rfl) (by decide)) (.cons (evs_list (.cons evs_int (.cons (evs_strs (.cons (evs_str ofA) (.cons (evs_str ofA) .nil rfl) rfl) (by decide)) .nil rfl) rfl) (by decide)) (.cons (evs_list (.cons evs_int (.cons (evs_strs (.cons (evs_str ofA) (.cons (evs_str ofB) (.cons (evs_str ofAB) .nil rfl) rfl) rfl) (by decide)) .nil rfl) rfl) (by decide)) .nil rfl) rfl) rfl) rfl) rfl)
  refine fun vs' tl s₄ C hs dv => newList_M C (by rw [dv.length]; decide) fun rw s₅ C => ?_
  refine st_L C fun s₆ C => ?_
  refine wpAny_execs_cons ?_
  refine wpAny_For ?_
  refine ev_L C rfl ?_
  refine for_list (fz₀ := fz₀) C R'.handled Z (List.mem_append_right _ hl) (fun I i v s Q _ _ hq => ?_)
    (rowsJ ns nm rw (tl ++ _))
    ⟨vs', 0, rfl, rfl, rfl, by simpa using dv⟩ ?_ ?_
  · exact wpAny_pure hq
  · intro i v it m₁ mu₁ tl₁ s₇ hv hJ C
    refine rowsJ.elim [it] hJ C fun us k e1 e2 du C => ?_
    clear hJ
    obtain ⟨x, t, rfl, hx⟩ := hi.at i v hv
    have hil : i < ns.length := (List.getElem?_eq_some_iff.mp hx).1
    refine wpAny_assign_Name <| st_L C fun s₈ C => ?_
    have ul : us.length ≤ 1000 := by
      rw [du.length, List.length_map, List.length_append, List.length_map, List.length_take]
      have : rows0.length = 5 := rfl
      omega
    refine wpAny_execs_cons <| wpAny_Expr ?_
    refine ev_append (pre := [it]) (post := []) C (by rw [if_neg (by decide)]; exact e2) ?_
    refine Evs.use (d := dR (rowOf x)) ?_ C ?_
    · have hnm : (if Str.ofString "names" = Str.ofString "n" then some (Value.int x t) else m₁ (Str.ofString "names")) = some (.ref nm) := by rw [if_neg (by decide)]; exact e1
      have hn : (if Str.ofString "n" = Str.ofString "n" then some (Value.int x t) else m₁ (Str.ofString "n")) = some (.int x t) := if_pos rfl
      have dn' := DatIn.up tl₁ (DatIn.up tl dnm)
      refine evs_list (.cons (evs_mod hn) (.cons (Evs.cast (evs_slice (evs_list (.cons (evs_pick hnm dn' hn (by decide) (PyProof.noPylong_of_log2 (by decide +kernel))) (.cons (evs_pick hnm dn' hn (by decide) (PyProof.noPylong_of_log2 (by decide +kernel))) (.cons (evs_pick hnm dn' hn (by decide) (PyProof.noPylong_of_log2 (by decide +kernel))) .nil rfl) rfl) rfl) (by simp)) (by simp) (fun tl s Q E C h => part_none C h) (fun tl s Q E C h => part_count hn C h)) ?_) .nil rfl) rfl) (by simp)
      have h0 := Int.fmod_nonneg_of_pos (Int.fdiv x 3) (b := 3) (by decide)
      rw [pk_hi _ (by omega)]
      unfold rowOf dP
      rw [List.map_take]; rfl
    · refine fun v tl₂ s₉ C dv => append_M (pre := [it]) (post := []) C ul fun s₁₀ C => ?_
      refine wpAny_execs_nil ⟨_, _, tl₂ ++ tl₁, by rw [List.append_assoc]; exact C, _, _, ?_, ?_, rfl, ?_⟩
      · rw [if_neg (by decide)]; exact e1
      · rw [if_neg (by decide)]; exact e2
      · have e : (rows0 ++ (ns.take (i + 1)).map rowOf).map dR = (rows0 ++ (ns.take i).map rowOf).map dR ++ [dR (rowOf x)] := by
          rw [show ns.take (i + 1) = ns.take i ++ [x] by rw [List.take_add_one, hx]; rfl]
          simp only [List.map_append, List.map_cons, List.map_nil, List.append_assoc]
        rw [e, List.append_assoc]
        exact DatAll.append (DatAll.up _ du) (.one dv)
  · intro m' mu' tl' s₇ hJ C
    refine rowsJ.elim [] hJ C fun us k' e1 e2 du C => ?_
    have C := C.freeze
    have hvl : vs.length = ns.length := hi.length
    rw [hvl, List.take_length] at du
    refine wpAny_execs_cons <| wpAny_Return_some <| ev_L C e2 ?_
    exact ⟨_, _, _, C, DatIn.list (.head _) (DatAll.mono (fun p hp => List.mem_append_left _ (.tail _ hp)) du)⟩
end
end Mine

namespace Mine
open PySem PySem.W PySem.Calls PySem.Spec PyProof.Rows

theorem skip {x k : Str} {v r : Option Value} {m : Str → Option Value} (h : m x = r) (hne : x ≠ k := by decide) : (fun y => if y = k then v else m y) x = r := (if_neg hne).trans h
theorem DatAll.mem_of {led : List (Addr × Obj)} : ∀ {vs : List Value} {ds : List Dat} {v : Value}, DatAll led vs ds → v ∈ vs → ∃ d, d ∈ ds ∧ DatIn led v d := by
  intro vs
  induction vs with
  | nil => exact fun _ hm => nomatch hm
  | cons u us ih =>
    intro ds v h hm
    cases h with | cons h t =>
    rcases List.mem_cons.mp hm with rfl | hm
    · exact ⟨_, .head _, h⟩
    · exact (ih t hm).imp fun d h => ⟨.tail _ h.1, h.2⟩
theorem DatAll.at_map {α : Type} {f : α → Dat} {led : List (Addr × Obj)} {vs : List Value} {xs : List α} {i : Nat} {v : Value} (h : DatAll led vs (xs.map f)) (hv : vs[i]? = some v) : ∃ x, xs[i]? = some x ∧ DatIn led v (f x) := by
  have hl := h.length
  obtain ⟨hi, _⟩ := List.getElem?_eq_some_iff.mp hv
  rw [List.length_map] at hl
  obtain ⟨v', h1, h2⟩ := DatAll.get? h (k := i) (d := f (xs[i]'(by omega))) (by rw [List.getElem?_map, List.getElem?_eq_getElem (by omega)]; rfl)
  rw [hv] at h1; cases h1
  exact ⟨_, List.getElem?_eq_getElem (by omega), h2⟩
theorem DatAll.two {led : List (Addr × Obj)} {vs : List Value} {d e : Dat} (h : DatAll led vs [d, e]) : ∃ v w, vs = [v, w] ∧ DatIn led v d ∧ DatIn led w e := by
  cases h with | cons h1 t => cases t with | cons h2 t => cases t; exact ⟨_, _, rfl, h1, h2⟩

section
variable {prog : Program} {w : World} {A : Around} {E : Value → Shared → Prop} {s s₀ : Shared} {S : List Addr} {L : Addr} {m : Str → Option Value} {mu fz : List (Addr × Obj)}

theorem in_dat {led : List (Addr × Obj)} {v b : Value} {d : Dat} {ds : List Dat} {Q : Value → Shared → Prop} (hl : ∀ p ∈ led, s.heap.get? p.1 = some p.2) (dv : DatIn led v d) (db : DatIn led b (.list ds))
    (ha : ∀ d ∈ ds, kqdOk 8 d = true) (hd : kqdOk 8 d = true) (hu : A.units + 64 < cLine) (h : ∀ c : Bool, (c = true ↔ d ∈ ds) → Q (.bool c) s) : wpAny (model prog w) A (compareOp .In v b) Q E s := by
  obtain ⟨a, vs, n, rfl, hm, dvs⟩ := DatIn.list_inv db
  exact kqd_isIn (noFrame hl) hm rfl rfl dvs (fun _ x => x) dv (fun _ x => x) ha hd hu (h _ (by simp))
theorem notIn_dat {led : List (Addr × Obj)} {v b : Value} {d : Dat} {ds : List Dat} {Q : Value → Shared → Prop} (hl : ∀ p ∈ led, s.heap.get? p.1 = some p.2) (dv : DatIn led v d) (db : DatIn led b (.list ds))
    (ha : ∀ d ∈ ds, kqdOk 8 d = true) (hd : kqdOk 8 d = true) (hu : A.units + 64 < cLine) (h : ∀ c : Bool, (c = true ↔ d ∉ ds) → Q (.bool c) s) : wpAny (model prog w) A (compareOp .NotIn v b) Q E s := by
  obtain ⟨a, vs, n, rfl, hm, dvs⟩ := DatIn.list_inv db
  exact kqd_notIn (noFrame hl) hm rfl rfl dvs (fun _ x => x) dv (fun _ x => x) ha hd hu (h _ (by simp))
theorem eq_dat {led : List (Addr × Obj)} {v b : Value} {es ds : List Dat} {Q : Value → Shared → Prop} (hl : ∀ p ∈ led, s.heap.get? p.1 = some p.2) (dv : DatIn led v (.list es)) (db : DatIn led b (.list ds))
    (ha : ∀ d ∈ es, kqdOk 8 d = true) (hb : ∀ d ∈ ds, kqdOk 8 d = true) (hu : A.units + 64 < cLine) (h : ∀ c : Bool, (c = true ↔ es = ds) → Q (.bool c) s) : wpAny (model prog w) A (compareOp .Eq v b) Q E s := by
  obtain ⟨a, vs, n, rfl, hm, dvs⟩ := DatIn.list_inv db
  obtain ⟨a', vs', n', rfl, hm', dvs'⟩ := DatIn.list_inv dv
  exact kqd_eq (noFrame hl) hm' rfl rfl dvs' (fun _ x => x) hm rfl rfl dvs (fun _ x => x) ha hb hu (h _ (by simp))

theorem St.led {fz₀ : List (Addr × Obj)} (C : St s₀ S L m mu fz s) (Z : ∀ p ∈ fz₀, s₀.heap.get? p.1 = some p.2 ∧ p.1 ∉ S) : ∀ p ∈ mu ++ (fz ++ fz₀), s.heap.get? p.1 = some p.2 := fun p hp => by
  rcases List.mem_append.mp hp with q | q
  · exact (C.cx.mus p q).1
  · exact C.cx.all Z p q
theorem St.extNew (C : St s₀ S L m mu fz s) {h : Heap} (hk : ∀ b o, s.heap.get? b = some o → h.get? b = some o) : St s₀ S L m mu fz { s with heap := h } := C.heap' (C.cx.keeps hk)

theorem unpack_two {t : Addr} {x y : Value} {n : Nat} {Q : List Value → Shared → Prop} (C : St s₀ S L m mu fz s) (hh : A.handled = none) (ht : s.heap.get? t = some (W.listOf #[x, y] n))
    (h : ∀ s', St s₀ S L m mu fz s' → Q [x, y] s') : wpAny (model prog w) A (unpackItems (.ref t) 2 none) Q E s := by
  have hL : s.heap.IsList t #[x, y] := ⟨_, ht, rfl, n, rfl⟩
  have hlt : t ≠ s.heap.objs.size := Nat.ne_of_lt (Heap.lt_size ht)
  unfold unpackItems
  refine wpAny_bind ?_
  unfold notIterableAtAll
  refine wpAny_bind (wpAny_specialOf hL.typeIs slot_list_iter.lookup ?_)
  refine wpAny_pure ?_
  simp only [Bool.false_eq_true, if_false]
  refine wpAny_bind (wpAny_holding (wpAny_pyIter_list hL ?_))
  refine wpAny_bind (wpAny_holding ?_)
  show wpAny _ _ (pyNext (.ref s.heap.objs.size) >>= _) _ _ _
  refine wpAny_bind (wpAny_pyNext_list_item (x := x) ⟨_, Heap.get?_push_size _ rfl, rfl, rfl⟩ (hL.push _) rfl fun h₁ hi₁ hs₁ => ?_)
  refine wpAny_bind (wpAny_holding ?_)
  have hL₁ := (hL.push _).extBut hs₁.extBut hlt
  show wpAny _ _ (pyNext (.ref s.heap.objs.size) >>= _) _ _ _
  refine wpAny_bind (wpAny_pyNext_list_item (x := y) hi₁ hL₁ rfl fun h₂ hi₂ hs₂ => ?_)
  have hL₂ := hL₁.extBut hs₂.extBut hlt
  refine wpAny_bind (wpAny_holding (wpAny_pure (wpAny_pure (wpAny_pure ?_))))
  rw [if_neg (by simp)]
  refine wpAny_bind (wpAny_holding (wpAny_pyNext_list_end hh hi₂ hL₂ rfl fun h₃ hs₃ => ?_))
  simp only [Option.isSome_none, Bool.false_eq_true, if_false]
  refine wpAny_pure (h _ (C.extNew fun b o e => ?_))
  have hb : b ≠ s.heap.objs.size := Nat.ne_of_lt (Heap.lt_size e)
  exact hs₃ _ _ hb (hs₂.extBut _ _ hb (hs₁.extBut _ _ hb (Heap.get?_push_of_some _ e)))

theorem assign_two {env : Env} {xa xb : Str} {k : Nat} {p1 p2 pos : Pos} {t : Addr} {x y : Value} {n : Nat} {Q : Unit → Shared → Prop} (C : St s₀ S env.locals m mu fz s) (hh : A.handled = none) (ht : s.heap.get? t = some (W.listOf #[x, y] n))
    (h : ∀ s', St s₀ S env.locals (fun z => if z = xb then some y else if z = xa then some x else m z) mu fz s' → Q () s')
    (hxa : env.kindOf xa = some .local := by rfl) (hxb : env.kindOf xb = some .local := by rfl) (hp : (env.scope.kind == .class || (env.scope.kind == .module && env.locals != env.globals)) = false := by rfl) :
    wpAny (model prog w) A (assign (.Tuple [.Name xa p1, .Name xb p2] k pos) env (.ref t)) Q E s := by
  rw [assign_Tuple]
  refine wpAny_bind (wpAny_standAt ?_)
  unfold unpack
  refine wpAny_bind (wpAny_holding (unpack_two C hh ht fun s₁ C₁ => ?_))
  refine assignInOrder_cons (wpAny_assign_Name (st_L C₁ (fun s₂ C₂ => ?_) hxa hp))
  refine assignInOrder_cons (wpAny_assign_Name (st_L C₂ (fun s₃ C₃ => ?_) hxb hp))
  exact assignInOrder_nil (h _ C₃)
end
end Mine

namespace Mine
open PySem PySem.W PySem.Calls PySem.Spec PyProof.Rows

noncomputable def sideIn (side o : Int) (p : List Str) (t : List (List Str)) (j : Nat) : List (List Str) := if side ≠ o ∧ p.take (j + 1) ∉ t then t ++ [p.take (j + 1)] else t
noncomputable def sideStep (o : Int) (t : List (List Str)) (r : Int × List Str) : List (List Str) := (List.range r.2.length).foldl (sideIn r.1 o r.2) t
noncomputable def side (rows : List (Int × List Str)) (o : Int) : List (List Str) := rows.foldl (sideStep o) []

theorem okP : ∀ p ∈ allP, kqdOk 8 (dP p) = true := by decide +kernel
theorem okJ : ∀ p ∈ allP, kqdOk 8 (.str (J p)) = true := by decide +kernel
theorem take_allP : ∀ p ∈ allP, ∀ j < p.length, p.take (j + 1) ∈ allP := by decide +kernel
theorem len_allP : ∀ p ∈ allP, p.length ≤ 3 ∧ 1 ≤ p.length := by decide +kernel

theorem fold_range {β : Type} (f : β → Nat → β) (t : β) (n : Nat) : (List.range (n + 1)).foldl f t = f ((List.range n).foldl f t) n := by
  rw [List.range_succ, List.foldl_append]; rfl
theorem fold_take {α β : Type} (f : β → α → β) (t : β) (xs : List α) {i : Nat} {x : α} (h : xs[i]? = some x) : (xs.take (i + 1)).foldl f t = f ((xs.take i).foldl f t) x := by
  rw [List.take_add_one, h, List.foldl_append]; rfl

theorem sideIn_P {side o : Int} {p : List Str} {t : List (List Str)} {j : Nat} (hp : p ∈ allP) (hj : j < p.length) (ht : ∀ q ∈ t, q ∈ allP) : (∀ q ∈ sideIn side o p t j, q ∈ allP) ∧ (sideIn side o p t j).length ≤ t.length + 1 := by
  unfold sideIn
  split
  · refine ⟨fun q hq => ?_, by simp⟩
    rcases List.mem_append.mp hq with h | h
    · exact ht q h
    · rw [List.mem_singleton.mp h]; exact take_allP p hp j hj
  · exact ⟨ht, by omega⟩
theorem sideIns_P {side o : Int} {p : List Str} (hp : p ∈ allP) {t : List (List Str)} (ht : ∀ q ∈ t, q ∈ allP) : ∀ n, n ≤ p.length → (∀ q ∈ (List.range n).foldl (sideIn side o p) t, q ∈ allP) ∧ ((List.range n).foldl (sideIn side o p) t).length ≤ t.length + n
  | 0, _ => ⟨ht, by simp⟩
  | n + 1, h => by
    obtain ⟨h1, h2⟩ := sideIns_P hp ht n (by omega)
    rw [fold_range]
    obtain ⟨h3, h4⟩ := sideIn_P (side := side) (o := o) hp (show n < p.length by omega) h1
    exact ⟨h3, by omega⟩
theorem side_P {o : Int} : ∀ (rows : List (Int × List Str)) (t : List (List Str)), (∀ r ∈ rows, r.2 ∈ allP) → (∀ q ∈ t, q ∈ allP) → (∀ q ∈ rows.foldl (sideStep o) t, q ∈ allP) ∧ (rows.foldl (sideStep o) t).length ≤ t.length + 3 * rows.length
  | [], t, _, ht => ⟨ht, by simp⟩
  | r :: rows, t, hr, ht => by
    have hp := hr r (.head _)
    obtain ⟨h1, h2⟩ := sideIns_P (side := r.1) (o := o) hp ht r.2.length (Nat.le_refl _)
    obtain ⟨h3, h4⟩ := side_P (o := o) rows (sideStep o t r) (fun x hx => hr x (.tail _ hx)) h1
    refine ⟨h3, ?_⟩
    have := (len_allP _ hp).1
    have h2' : (sideStep o t r).length ≤ t.length + r.2.length := h2
    show (rows.foldl (sideStep o) (sideStep o t r)).length ≤ _
    rw [List.length_cons]
    omega

theorem mem_dP {p : List Str} {ps : List (List Str)} : dP p ∈ ps.map dP ↔ p ∈ ps :=
  ⟨fun h => by obtain ⟨q, hq, e⟩ := List.mem_map.mp h; rw [← dP_inj e]; exact hq, fun h => List.mem_map_of_mem h⟩

section
variable {w : World} {B : Heap} {mg mb : Str → Option Value} {A : Around} {E : Value → Shared → Prop} {s s₀ : Shared} {fr : List Env} {d u : Nat} {fz₀ : List (Addr × Obj)}

noncomputable abbrev sideJ1 (rows : List (Int × List Str)) (o : Int) (ot : Tok) (tr : Addr) (fz₀ : List (Addr × Obj)) (i : Nat) (m : Str → Option Value) (mu tl' : List (Addr × Obj)) : Prop :=
  ∃ us k, m (Str.ofString "tree") = some (.ref tr) ∧ m (Str.ofString "other") = some (.int o ot) ∧ mu = [(tr, W.listOf us.toArray k)] ∧ DatAll (tl' ++ [] ++ fz₀) us ((side (rows.take i) o).map dP)
noncomputable abbrev sideJ2 (T : List (List Str)) (r : Int × List Str) (o : Int) (ts ot : Tok) (tr b : Addr) (it : Addr × Obj) (tl₁ fz₀ : List (Addr × Obj)) (j : Nat) (m : Str → Option Value) (mu tl' : List (Addr × Obj)) : Prop :=
  ∃ us k, m (Str.ofString "tree") = some (.ref tr) ∧ m (Str.ofString "other") = some (.int o ot) ∧ m (Str.ofString "side") = some (.int r.1 ts) ∧ m (Str.ofString "names") = some (.ref b) ∧ mu = [it, (tr, W.listOf us.toArray k)] ∧
        DatAll (tl' ++ (tl₁ ++ []) ++ fz₀) us (((List.range j).foldl (sideIn r.1 o r.2) T).map dP)

theorem sideJ1.elim {rows : List (Int × List Str)} {o : Int} {ot : Tok} {tr : Addr} {fz₀ fz : List (Addr × Obj)} {i : Nat} {m : Str → Option Value} {mu tl' : List (Addr × Obj)} {s s₀ : Shared} {S : List Addr} {L : Addr} {G : Prop} (pre : List (Addr × Obj)) (h : sideJ1 rows o ot tr fz₀ i m mu tl') (C : St s₀ S L m (pre ++ mu) fz s)
    (K : ∀ us k, m (Str.ofString "tree") = some (.ref tr) → m (Str.ofString "other") = some (.int o ot) → DatAll (tl' ++ [] ++ fz₀) us ((side (rows.take i) o).map dP) → St s₀ S L m (pre ++ [(tr, W.listOf us.toArray k)]) fz s → G) : G := by
  obtain ⟨us, k, e1, e2, rfl, du⟩ := h
  exact K us k e1 e2 du C
theorem sideJ2.elim {T : List (List Str)} {r : Int × List Str} {o : Int} {ts ot : Tok} {tr b : Addr} {it : Addr × Obj} {tl₁ fz₀ fz : List (Addr × Obj)} {j : Nat} {m : Str → Option Value} {mu tl' : List (Addr × Obj)} {s s₀ : Shared} {S : List Addr} {L : Addr} {G : Prop} (pre : List (Addr × Obj)) (h : sideJ2 T r o ts ot tr b it tl₁ fz₀ j m mu tl') (C : St s₀ S L m (pre ++ mu) fz s)
    (K : ∀ us k, m (Str.ofString "tree") = some (.ref tr) → m (Str.ofString "other") = some (.int o ot) → m (Str.ofString "side") = some (.int r.1 ts) → m (Str.ofString "names") = some (.ref b) → DatAll (tl' ++ (tl₁ ++ []) ++ fz₀) us (((List.range j).foldl (sideIn r.1 o r.2) T).map dP) →
      St s₀ S L m (pre ++ [it, (tr, W.listOf us.toArray k)]) fz s → G) : G := by
  obtain ⟨us, k, e1, e2, e3, e4, rfl, du⟩ := h
  exact K us k e1 e2 e3 e4 du C

set_option maxHeartbeats 1000000 in
theorem side_ok {v : Value} {rows : List (Int × List Str)} {o : Int} {ot : Tok} {Q : Value → Shared → Prop} (am : Amb (hd.heap_39 w.params) B mg mb) (R : Room A fr (d + 1) (u + 67)) (X : Act B s.heap fr)
    (Z : ∀ p ∈ fz₀, s.heap.get? p.1 = some p.2 ∧ p.1 ∉ frs fr) (hv : DatIn fz₀ v (dRs rows)) (hr : ∀ r ∈ rows, r.2 ∈ allP) (hn : rows.length ≤ 100)
    (k : Ret fr s Q fun v tl => DatIn (tl ++ fz₀) v (dPs (side rows o))) : wpAny (model PySem.Challenge.rw_il0010_01.row.prog w) A (call (.ref 178) [v, .int o ot]) Q E s := by
  obtain ⟨l, vs, n, rfl, hl, dl⟩ := DatIn.list_inv hv
  refine enter (u := u + 64) (binds := [(Str.ofString "rows", .ref l), (Str.ofString "other", .int o ot)]) am rfl rfl R X (BindsTo.of_eq rfl) (fun L s₁ C X' R' => ?_) k
  refine hideEnd fun EE hEE => wpAny_execs_cons <| wpAny_Assign_Name <| List_ <| sp_nil <| newList_M C (by simp) fun tr s₂ C => st_L C fun s₃ C => ?_
  refine wpAny_execs_cons <| wpAny_For <| ev_L C rfl <| for_list (fz₀ := fz₀) C R'.handled Z (List.mem_append_right _ hl) (fun I i v s Q hm hs hq => ?_)
    (sideJ1 rows o ot tr fz₀)
    ⟨[], 0, rfl, rfl, rfl, .nil⟩ ?_ ?_
  · obtain ⟨d, hd⟩ := DatAll.mem_of dl hm
    obtain ⟨r, _, rfl⟩ := List.mem_map.mp hd.1
    obtain ⟨a, xs, n, rfl, _⟩ := DatIn.list_inv hd.2
    exact wpAny_letOwnedTupleGo_listiter hs hq
  · intro i v it m₁ mu₁ tl₁ s₄ hv hJ C
    refine sideJ1.elim [it] hJ C fun us k e1 e2 du C => ?_
    clear hJ
    obtain ⟨r, hr', dr⟩ := DatAll.at_map dl hv
    have hrP := hr r (List.mem_of_getElem? hr')
    obtain ⟨a, xs, n', rfl, ha, da⟩ := DatIn.list_inv dr
    obtain ⟨side, names, rfl, dsd, dnm⟩ := DatAll.two da
    obtain ⟨ts, rfl⟩ : ∃ ts, side = .int r.1 ts := by cases dsd; exact ⟨_, rfl⟩
    refine assign_two C R'.handled (C.cx.all Z _ (List.mem_append_right _ ha)) fun s₅ C => ?_
    refine list_elim dnm fun b ys n₂ hnmv hb dy => ?_
    refine C.gen4 (x := Str.ofString "tree") (y := Str.ofString "other") (z := Str.ofString "side") (q := Str.ofString "names") (v := .ref tr) (u := .int o ot) (t := .int r.1 ts) (r := names) e1 e2 rfl (if_pos rfl) fun m f1 f2 f3 f4 C => ?_
    rw [hnmv] at f4
    have hyl : ys.length = r.2.length := by rw [dy.length, List.length_map]
    have hl3 := (len_allP _ hrP).1
    have X₅ := C.act X X'
    have hT := side_P (o := o) (rows.take i) [] (fun x hx => hr x (List.mem_of_mem_take hx)) (fun _ h => nomatch h)
    have hTl : ((rows.take i).foldl (sideStep o) []).length ≤ 3 * 100 := Nat.le_trans hT.2 (by rw [List.length_take]; simp; omega)
    refine wpAny_execs_cons <| wpAny_For <| ev_call <| ev_B am X₅.stays rfl rfl <| cw_ty <| sp_cons <| ev_int C fun t₁ s₆ C => sp_cons <| wpAny_BinOp <| ev_call <| ev_B am (C.old X) rfl rfl <| cw_bi <| sp_cons <| ev_L C f4 <| sp_nil <|
      len_list (listOf_is (C.cx.all Z _ (List.mem_append_right _ hb))) (by rw [List.size_toArray]; omega) <| ev_int (C.tok _) fun t₂ s₇ C => wpAny_add_int <| sp_nil <| call_range_2 ?_
    refine for_range (fz₀ := fz₀) (n := r.2.length) (C.heap (C.cx.push _) _) R'.handled Z (IsRange.new ..) (by rw [List.size_toArray, hyl]; omega) (by decide) (by omega) (fun I v s Q hq => wpAny_pure hq)
      (sideJ2 (side (rows.take i) o) r o ts ot tr b it tl₁ fz₀)
      ⟨us, k, f1, f2, f3, f4, rfl, du⟩ ?_ ?_
    · intro j t₃ it₂ m₂ mu₂ tl₂ s₈ hj hJ C
      refine sideJ2.elim [it₂] hJ C fun us k e1 e2 e3 e4 du C => ?_
      clear hJ
      refine wpAny_assign_Name <| st_L C fun s₉ C => ?_
      refine wpAny_execs_cons <| wpAny_If <| isTrue_and <| wpAny_isTrue_Compare1 <| ev_L C (skip e3) <| ev_L C (skip e2) <| P.ne_int <| wpAny_truthy_bool <| split_bool (fun c1 => ?_) fun c1 => ?_
      · have hpk : pk (r.2.map Dat.str) none (some (1 + (j : Int))) = (r.2.take (j + 1)).map .str := by
          rw [pk_hi _ (by omega), List.map_take]
          congr 1
          omega
        have hTj := sideIns_P (side := r.1) (o := o) hrP hT.1 j (by omega)
        have hTd : ∀ d ∈ ((List.range j).foldl (sideIn r.1 o r.2) (side (rows.take i) o)).map dP, kqdOk 8 d = true := fun d hd => by
          obtain ⟨p, hp, rfl⟩ := List.mem_map.mp hd
          exact okP p (hTj.1 p hp)
        have hul : us.length ≤ 1000 := by
          rw [du.length, List.length_map]
          have := hTj.2
          show ((List.range j).foldl (sideIn r.1 o r.2) ((rows.take i).foldl (sideStep o) [])).length ≤ 1000
          omega
        refine isTrue_and <| wpAny_isTrue_Compare1 <| Subscript_ <| ev_L C (skip e4) <| wpAny_Slice <| evalPart_none_step <| evalPart_some_step <| ev_L C (if_pos rfl) <| evalPart_none_step <|
          sub_slice C (listOf_is (C.cx.all Z _ (List.mem_append_right _ hb))) (by omega) .none (.int _ _) fun sl s₁₀ C => ev_L C (skip e1) <|
          notIn_dat (ds := ((List.range j).foldl (sideIn r.1 o r.2) (side (rows.take i) o)).map dP) (d := dP (r.2.take (j + 1))) (C.led Z)
            (DatIn.list (n := 0) (List.mem_append_right [it₂, it, (tr, W.listOf us.toArray k)] (.head _)) (hpk ▸ DatAll.pick _ _ (dy.mono fun p hp => List.mem_append_right _ (List.mem_append_right _ hp))))
            (DatIn.list (n := k) (List.mem_append_left _ (.tail _ (.tail _ (.head _)))) (du.mono fun p hp => List.mem_append_right _ (.tail _ hp)))
            hTd (okP _ (take_allP _ hrP j hj)) (Nat.lt_of_le_of_lt (Nat.add_le_add_left (by omega) _) R'.units) fun c hc => wpAny_truthy_bool ?_
        have hne : r.1 ≠ o := by simpa using c1
        cases c with
        | true =>
          refine iteT <| isTrue_and_nil ?_
          have hc' : r.2.take (j + 1) ∉ (List.range j).foldl (sideIn r.1 o r.2) (side (rows.take i) o) := fun h => hc.mp rfl (mem_dP.mpr h)
          refine wpAny_execs_cons <| wpAny_Expr <| ev_append (pre := [it₂, it]) (post := []) C (skip e1) <| Subscript_ <| ev_L C (skip e4) <| wpAny_Slice <| evalPart_none_step <| evalPart_some_step <| ev_L C (if_pos rfl) <| evalPart_none_step <|
            sub_slice C (listOf_is (C.cx.all Z _ (List.mem_append_right _ hb))) (by omega) .none (.int _ _) fun sl₂ s₁₁ C => append_M (pre := [it₂, it]) (post := []) C hul fun s₁₂ C => wpAny_execs_nil <| wpAny_execs_nil ?_
          refine ⟨_, _, (sl₂, _) :: (sl, _) :: tl₂, C, _, _, (skip e1), (skip e2), (skip e3), (skip e4), rfl, ?_⟩
          rw [fold_range, show sideIn r.1 o r.2 ((List.range j).foldl (sideIn r.1 o r.2) (side (rows.take i) o)) j = _ from if_pos ⟨hne, hc'⟩, List.map_append]
          refine DatAll.append (DatAll.up [_, _] du) (.one ?_)
          exact DatIn.list (n := 0) (.head _) (hpk ▸ DatAll.pick _ _ (dy.mono fun p hp => List.mem_append_right _ hp))
        | false =>
          refine iteF ?_
          have hc' : ¬ (r.1 ≠ o ∧ r.2.take (j + 1) ∉ (List.range j).foldl (sideIn r.1 o r.2) (side (rows.take i) o)) := fun h => Bool.false_ne_true (hc.mpr fun h' => h.2 (mem_dP.mp h'))
          refine wpAny_execs_nil <| wpAny_execs_nil ⟨_, _, (sl, _) :: tl₂, C, _, _, (skip e1), (skip e2), (skip e3), (skip e4), rfl, ?_⟩
          rw [fold_range, show sideIn r.1 o r.2 ((List.range j).foldl (sideIn r.1 o r.2) (side (rows.take i) o)) j = _ from if_neg hc']
          exact DatAll.up [_] du
      · rw [if_neg Bool.false_ne_true]
        have hne : ¬ r.1 ≠ o := by simpa using c1
        refine wpAny_execs_nil <| wpAny_execs_nil ⟨_, _, tl₂, C, _, _, (skip e1), (skip e2), (skip e3), (skip e4), rfl, ?_⟩
        rw [fold_range, show sideIn r.1 o r.2 ((List.range j).foldl (sideIn r.1 o r.2) (side (rows.take i) o)) j = _ from if_neg fun h => hne h.1]
        exact du
    · intro m₂ mu₂ tl₂ s₈ hJ C
      refine sideJ2.elim [] hJ C fun us k e1 e2 e3 e4 du C => ?_
      clear hJ
      refine wpAny_execs_nil ⟨_, _, tl₂ ++ tl₁, by rw [List.append_assoc]; exact C, us, k, e1, e2, rfl, ?_⟩
      rw [List.append_assoc tl₂ tl₁]
      rw [show side (rows.take (i + 1)) o = _ from fold_take _ _ rows hr']
      exact du
  · rintro m' mu' tl' s₇ ⟨us, k', e1, e2, rfl, du⟩ C
    have C := C.freeze
    rw [dl.length, List.length_map, List.take_length] at du
    refine wpAny_execs_cons <| wpAny_Return_some <| ev_L C e1 ?_
    exact hEE _ _ ⟨_, _, _, C, DatIn.list (.head _) (DatAll.up [_] du)⟩
end
end Mine

namespace Mine
open PySem PySem.W PySem.Calls PySem.Spec PyProof.Rows

noncomputable def hide (n : Nat) (l : List Addr) (h : Heap) : Heap := ⟨Array.ofFn (n := min n h.objs.size) fun i => if i.1 ∈ l then { cls := .none, data := .freed } else h.objs[i.1]'(by have := i.2; omega), h.life⟩

theorem hide_size (n : Nat) (l : List Addr) (h : Heap) : (hide n l h).objs.size = min n h.objs.size := by simp [hide]
theorem hide_at (n : Nat) (l : List Addr) (h : Heap) (b : Nat) : (hide n l h).objs[b]? = if b < n then (if b ∈ l then (h.objs[b]?).map (fun _ => { cls := .none, data := .freed }) else h.objs[b]?) else none := by
  unfold hide
  rw [Array.getElem?_ofFn]
  by_cases hs : b < min n h.objs.size
  · have h1 : b < n := Nat.lt_of_lt_of_le hs (Nat.min_le_left _ _)
    have h2 : b < h.objs.size := Nat.lt_of_lt_of_le hs (Nat.min_le_right _ _)
    rw [dif_pos hs, if_pos h1, Array.getElem?_eq_getElem h2]
    split <;> rfl
  · rw [dif_neg hs]
    by_cases h1 : b < n
    · have h2 : ¬ b < h.objs.size := fun h2 => hs (Nat.lt_min.mpr ⟨h1, h2⟩)
      rw [if_pos h1, Array.getElem?_eq_none (by omega)]
      simp
    · rw [if_neg h1]
theorem hide_in {n : Nat} {l : List Addr} {h : Heap} {b : Addr} (hn : b < n) (hl : b ∉ l) : (hide n l h).get? b = h.get? b := by
  unfold Heap.get?
  rw [hide_at, if_pos hn, if_neg hl]
theorem hide_out {n : Nat} {l : List Addr} {h : Heap} {b : Addr} (hb : n ≤ b ∨ b ∈ l) : (hide n l h).get? b = none := by
  unfold Heap.get?
  rw [hide_at]
  by_cases hn : b < n
  · rcases hb with hb | hb
    · exact absurd hn (Nat.not_lt.mpr hb)
    · rw [if_pos hn, if_pos hb]
      cases h.objs[b]? <;> rfl
  · rw [if_neg hn]
theorem hide_some {n : Nat} {l : List Addr} {h : Heap} {b : Addr} {o : Obj} (e : (hide n l h).get? b = some o) : h.get? b = some o ∧ b < n ∧ b ∉ l := by
  by_cases hb : b < n ∧ b ∉ l
  · rw [hide_in hb.1 hb.2] at e; exact ⟨e, hb⟩
  · have : n ≤ b ∨ b ∈ l := by
      by_cases h1 : b < n
      · exact .inr (Classical.not_not.mp fun h2 => hb ⟨h1, h2⟩)
      · exact .inl (Nat.not_lt.mp h1)
    rw [hide_out this] at e; cases e

section
variable {s₀ s : Shared} {S : List Addr} {L : Addr} {m : Str → Option Value} {mu fz : List (Addr × Obj)}

theorem St.out (C : St s₀ S L m mu fz s) : ∃ g : Heap, Fr g L s.heap m ∧ News g L s.heap (mu ++ fz) ∧ (∀ b o, s₀.heap.get? b = some o → ∃ sl, g.get? b = some { o with slots := sl }) ∧ (∀ b o, b ∉ S → s₀.heap.get? b = some o → g.get? b = some o) ∧
    ∀ h' m' mu' fz', Fr g L h' m' → News g L h' (mu' ++ fz') → (∀ p ∈ mu', ∀ q ∈ fz', p.1 ≠ q.1) → (mu'.map (·.1)).Nodup → Cx S s₀.heap L m' mu' fz' h' := by
  have off : ∀ b o, s₀.heap.get? b = some o → b < L ∧ b ∉ (mu ++ fz).map (·.1) := fun b o e => ⟨Nat.lt_of_lt_of_le (Heap.lt_size e) C.cx.above, fun hm => by
    obtain ⟨p, hp, rfl⟩ := List.mem_map.mp hm
    rcases List.mem_append.mp hp with q | q
    · rw [(C.cx.mus p q).2.1] at e; cases e
    · rw [(C.cx.fzs p q).2.1] at e; cases e⟩
  have some₀ : ∀ b o, s₀.heap.get? b = some o → ∃ sl, (hide L ((mu ++ fz).map (·.1)) s.heap).get? b = some { o with slots := sl } := fun b o e => by
    obtain ⟨sl, e'⟩ := C.cx.gro.2 b o e
    exact ⟨sl, (hide_in (off b o e).1 (off b o e).2).trans e'⟩
  refine ⟨hide L ((mu ++ fz).map (·.1)) s.heap, ⟨C.ns, fun b o e => (hide_some e).1, by rw [hide_size]; omega⟩, fun p hp => ?_, some₀, fun b o hb e => (hide_in (off b o e).1 (off b o e).2).trans (C.cx.gro.1 b o hb e), fun h' m' mu' fz' F N hsep hnd => ?_⟩
  · rcases List.mem_append.mp hp with q | q
    · exact ⟨(C.cx.mus p q).1, (C.cx.mus p q).2.2, hide_out (.inr (List.mem_map_of_mem hp))⟩
    · exact ⟨(C.cx.fzs p q).1, (C.cx.fzs p q).2.2, hide_out (.inr (List.mem_map_of_mem hp))⟩
  · have nn : ∀ b, (hide L ((mu ++ fz).map (·.1)) s.heap).get? b = none → s₀.heap.get? b = none := fun b e => by
      cases q : s₀.heap.get? b with
      | none => rfl
      | some o => obtain ⟨_, e'⟩ := some₀ b o q; rw [e] at e'; cases e'
    refine ⟨F.ns, ⟨fun b o hb e => F.keep _ _ ((hide_in (off b o e).1 (off b o e).2).trans (C.cx.gro.1 b o hb e)), fun b o e => ?_⟩, C.cx.new, C.cx.above, fun p hp => ?_, fun p hp => ?_, hsep, hnd⟩
    · obtain ⟨sl, e'⟩ := some₀ b o e
      exact ⟨sl, F.keep _ _ e'⟩
    · have z := N p (List.mem_append_left _ hp)
      exact ⟨z.1, nn _ z.2.2, z.2.1⟩
    · have z := N p (List.mem_append_right _ hp)
      exact ⟨z.1, nn _ z.2.2, z.2.1⟩

noncomputable def EndM (S : List Addr) (s : Shared) (L : Addr) (P : Value → List (Addr × Obj) → List (Addr × Obj) → Prop) (fl : Flow) (s' : Shared) : Prop :=
  ∃ m mu tl, St s S L m mu tl s' ∧ P (match fl with | .ret v => v | _ => .none) mu tl

noncomputable abbrev hid (H : List (Addr × Obj)) (s : Shared) : Shared := { s with heap := hide s.heap.objs.size (H.map (·.1)) s.heap }

theorem hid_in {H : List (Addr × Obj)} {b : Addr} {o : Obj} (e : s.heap.get? b = some o) (hb : b ∉ H.map (·.1)) : (hid H s).heap.get? b = some o := (hide_in (Heap.lt_size e) hb).trans e
theorem hid_some {H : List (Addr × Obj)} {b : Addr} {o : Obj} (e : (hid H s).heap.get? b = some o) : s.heap.get? b = some o ∧ b ∉ H.map (·.1) := ⟨(hide_some e).1, (hide_some e).2.2⟩
theorem hid_none {H : List (Addr × Obj)} {p : Addr × Obj} (hp : p ∈ H) : (hid H s).heap.get? p.1 = none := hide_out (.inr (List.mem_map_of_mem hp))

theorem Act.hid {B : Heap} {fr : List Env} {H : List (Addr × Obj)} (X : Act B s.heap fr) (hB : ∀ p ∈ H, B.get? p.1 = none ∧ p.1 ∉ frs fr) : Act B (hid H s).heap fr :=
  ⟨fun b o e => hid_in (X.stays b o e) fun hm => (by obtain ⟨p, hp, rfl⟩ := List.mem_map.mp hm; rw [(hB p hp).1] at e; cases e), (by
    have : ∀ l : List Env, (∀ b ∈ frs l, b ∉ H.map (·.1)) → s.heap.FunFrames B l → (Mine.hid H s).heap.FunFrames B l := by
      intro l
      induction l with
      | nil => intro _ _; trivial
      | cons env rest ih =>
        intro hb hl
        obtain ⟨hk, ⟨L, o, hf, hn, ho, hd⟩, hr⟩ := hl
        have hfs : frs (env :: rest) = L :: frs rest := by unfold frs; rw [List.filterMap_cons, hf]
        rw [hfs] at hb
        exact ⟨hk, ⟨L, o, hf, hn, hid_in ho (hb L (.head _)), hd⟩, ih (fun b h => hb b (.tail _ h)) hr⟩
    exact this fr (fun b hb hm => by obtain ⟨p, hp, rfl⟩ := List.mem_map.mp hm; exact (hB p hp).2 hb) X.frames)⟩
end
end Mine

namespace Mine
open PySem PySem.W PySem.Calls PySem.Spec PyProof.Rows

section
variable {prog : Program} {w : World} {A : Around} {E : Value → Shared → Prop} {s : Shared}

theorem iter_list {l : Addr} {items : Array Value} {Q : Value → Shared → Prop} (hl : s.heap.IsList l items)
    (h : Q (.ref s.heap.objs.size) { s with heap := s.heap.push { cls := .type "list_iterator", data := .fields #[.ref l, .int 0 0] } }) : wpAny (model prog w) A (call (.builtin "iter") [.ref l]) Q E s := by
  refine call_function_entry (by decide +kernel) (by decide +kernel) kdk_entry_iter (kdk_args_iter _) ?_
  unfold Builtin.«iter»
  refine wpAny_bind (m := someArgs "iter" 1 2 _) (wpAny_of_eq (a := [Value.ref l]) (by first | rfl | kernel_rfl!) ?_)
  show wpAny _ _ (pyIter (.ref l) >>= _) _ _ _
  exact wpAny_bind (wpAny_pyIter_list hl (wpAny_pure ⟨_, rfl, h⟩))

theorem next_item {it l : Addr} {i : Nat} {items : Array Value} {x : Value} {Q : Value → Shared → Prop} (hit : s.heap.IsListIter it l i) (hl : s.heap.IsList l items) (hx : items[i]? = some x)
    (hQ : ∀ h', h'.IsListIter it l (i + 1) → Heap.SameBut it s.heap h' → Q x { s with heap := h' }) : wpAny (model prog w) A (call (.builtin "next") [.ref it]) Q E s := by
  obtain ⟨o, ho, hc, hd⟩ := id hit
  obtain ⟨ol, hol, _, nl, hdl⟩ := hl
  refine call_function_entry (by decide +kernel) (by decide +kernel) kdk_entry_next (kdk_args_next _) ?_
  unfold Builtin.«next»
  refine wpAny_bind (m := someArgs "next" 1 2 _) (wpAny_of_eq (a := [Value.ref it]) (by first | rfl | kernel_rfl!) ?_)
  dsimp only
  refine wpAny_bind (wpAny_specialOf (name := Str.ofString "__next__") hit.typeIs slot_listiter_next.lookup ?_)
  refine wpAny_ite_split (fun hab => absurd hab (by decide)) (fun _ => ?_)
  refine wpAny_bind (wpAny_callSpecial?_slot (name := Str.ofString "__next__") hit.typeIs slot_listiter_next (wpAny_call_entry slot_listiter_next hit.typeIs entry_listiter_next ?_ (args_listiter_next _)))
  show wpAny _ _ (field (.ref it) 0 >>= _) _ _ s
  refine wpAny_bind (wpAny_field ho hd (x := .ref l) rfl ?_)
  show wpAny _ _ (if (Value.ref l == Value.none) = true then _ else _) _ _ s
  rw [if_neg (show ¬ ((Value.ref l == Value.none) = true) from Bool.false_ne_true)]
  show wpAny _ _ (field (.ref it) 1 >>= _) _ _ s
  refine wpAny_bind (wpAny_field ho hd (x := .int i 0) rfl ?_)
  show wpAny _ _ (seqItems? (.ref l) >>= _) _ _ s
  refine wpAny_bind (wpAny_seqItems hol hdl ?_)
  simp only [Int.toNat_natCast, hx]
  refine wpAny_bind (wpAny_setField ho hd (by simp) (wpAny_pure ⟨x, rfl, wpAny_pure ⟨_, rfl, hQ _ ?_ (Heap.SameBut.update ..)⟩⟩))
  exact ⟨_, Heap.get?_update_self _ ho (Obj.isFreed_of_fields (Obj.data_mapFields hd _)), (Obj.cls_mapFields ..).trans hc, by rw [Obj.data_mapFields hd]; simp [rawInt]⟩

theorem next_end {it l : Addr} {i : Nat} {items : Array Value} {Q : Value → Shared → Prop} (hh : A.handled = none) (hit : s.heap.IsListIter it l i) (hl : s.heap.IsList l items) (hx : items[i]? = none)
    (hE : ∀ h₁ h' e, (∃ o, h₁.get? it = some o) → Heap.SameBut it s.heap h₁ → Heap.NewExc h₁ h' e "StopIteration" → E (.ref e) { s with heap := h' }) : wpAny (model prog w) A (call (.builtin "next") [.ref it]) Q E s := by
  obtain ⟨o, ho, hc, hd⟩ := id hit
  obtain ⟨ol, hol, _, nl, hdl⟩ := hl
  refine call_function_entry (by decide +kernel) (by decide +kernel) kdk_entry_next (kdk_args_next _) ?_
  unfold Builtin.«next»
  refine wpAny_bind (m := someArgs "next" 1 2 _) (wpAny_of_eq (a := [Value.ref it]) (by first | rfl | kernel_rfl!) ?_)
  dsimp only
  refine wpAny_bind (wpAny_specialOf (name := Str.ofString "__next__") hit.typeIs slot_listiter_next.lookup ?_)
  refine wpAny_ite_split (fun hab => absurd hab (by decide)) (fun _ => ?_)
  refine wpAny_bind (wpAny_callSpecial?_slot (name := Str.ofString "__next__") hit.typeIs slot_listiter_next (wpAny_call_entry slot_listiter_next hit.typeIs entry_listiter_next ?_ (args_listiter_next _)))
  show wpAny _ _ (field (.ref it) 0 >>= _) _ _ s
  refine wpAny_bind (wpAny_field ho hd (x := .ref l) rfl ?_)
  show wpAny _ _ (if (Value.ref l == Value.none) = true then _ else _) _ _ s
  rw [if_neg (show ¬ ((Value.ref l == Value.none) = true) from Bool.false_ne_true)]
  show wpAny _ _ (field (.ref it) 1 >>= _) _ _ s
  refine wpAny_bind (wpAny_field ho hd (x := .int i 0) rfl ?_)
  show wpAny _ _ (seqItems? (.ref l) >>= _) _ _ s
  refine wpAny_bind (wpAny_seqItems hol hdl ?_)
  simp only [Int.toNat_natCast, hx]
  refine wpAny_bind (wpAny_rule (wpAny_bind (wpAny_setField ho hd (by simp) ?_)))
  show wpAny _ _ (newExc (.type "StopIteration") [] >>= _) _ _ _
  refine wpAny_bind ?_
  simp only [newExc, newTuple]
  refine wpAny_bind (wpAny_newObj_type ?_ (by size_fits))
  refine wpAny_bind (m := firstArgMember _ _) (wpAny_of_eq (a := Value.none) (by first | rfl | (simp only [firstArgMember]; rfl)) ?_)
  refine wpAny_newObj_type ?_ (by size_fits)
  unfold raiseNew
  show wpAny _ _ (handled >>= _) _ _ _
  refine wpAny_bind (wpAny_handled ?_)
  rw [show A.in1.in1.handled = none from hh]
  refine wpAny_bind (wpAny_pure (wpAny_throw ?_))
  refine hE _ _ _ ⟨_, Heap.get?_update_self _ ho (Obj.isFreed_of_fields (Obj.data_mapFields hd _))⟩ (Heap.SameBut.update ..) ⟨fun b o e => Heap.get?_push_of_some _ (Heap.get?_push_of_some _ e), ?_, ?_⟩
  · rw [Heap.size_push]
    cases q : (s.heap.update it (Obj.mapFields fun x => x.setIfInBounds 0 Value.none)).get? ((s.heap.update it (Obj.mapFields fun x => x.setIfInBounds 0 Value.none)).objs.size + 1) with
    | none => rfl
    | some o' => exact absurd (Heap.lt_size q) (Nat.not_lt.mpr (Nat.le_succ _))
  · exact ⟨_, _, Heap.get?_push_size _ rfl, rfl, rfl⟩
end

section
variable {M : Model} {A : Around} {E : Value → Shared → Prop} {s : Shared}

theorem rebase {B B' h h' : Heap} : ∀ {l : List Env}, (∀ b o, b ∈ frs l → h.get? b = some o → h'.get? b = some o) → (∀ b ∈ frs l, B'.get? b = none) → h.FunFrames B l → h'.FunFrames B' l := by
  intro l
  induction l with
  | nil => exact fun _ _ _ => trivial
  | cons env rest ih =>
    intro k hb hl
    obtain ⟨hk, ⟨L, o, hf, hn, ho, hd⟩, hr⟩ := hl
    have hfs : frs (env :: rest) = L :: frs rest := by unfold frs; rw [List.filterMap_cons, hf]
    rw [hfs] at hb k
    exact ⟨hk, ⟨L, o, hf, hb L (.head _), k _ _ (.head _) ho, hd⟩, ih (fun b o h => k b o (.tail _ h)) (fun b h => hb b (.tail _ h)) hr⟩

theorem leave_new {B h : Heap} {env : Env} {outer : List Env} {L e : Addr} {cls : String} {Q : Unit → Shared → Prop} (hfr : A.frames = some (env :: outer)) (hf : env.frame = some L) (hl : h.FunFrames B (env :: outer))
    (hx : Heap.NewExc h s.heap e cls) (hQ : ∀ h', Gro (frs (env :: outer)) h h' → (∃ ob, h'.get? e = some ob ∧ ob.cls = .type cls) → Q () { s with heap := h' }) : wpAny M A (leaving env (.ref e)) Q E s := by
  obtain ⟨ob, t, he, hcls, hd⟩ := hx.there
  have hb : (hide h.objs.size (frs (env :: outer)) h).StaysIn s.heap := fun b o e => hx.keeps b o (hide_some e).1
  refine wpAny_leaving_firstW (base := hide h.objs.size (frs (env :: outer)) h) (a0 := t) hfr (rebase (fun b o _ e => hx.keeps b o e) (fun b hm => hide_out (.inr hm)) hl) hf he hb ?_ hd rfl rfl fun h' hL => ?_
  · cases q : (hide h.objs.size (frs (env :: outer)) h).get? e with
    | none => rfl
    | some o => have := (hide_some q).1; rw [hx.new] at this; cases this
  · obtain ⟨k1, _, k3, k4⟩ := hL
    have keep : ∀ b o, b ∉ frs (env :: outer) → h.get? b = some o → h'.get? b = some o := fun b o hb e => k1 b o ((hide_in (Heap.lt_size e) hb).trans e)
    refine hQ h' ⟨keep, fun b o e => ?_⟩ ?_
    · by_cases hm : b ∈ frs (env :: outer)
      · obtain ⟨_, o', ho', hnf⟩ := hl.mem hm
        rw [e] at ho'; cases ho'
        exact k4 b o (hx.keeps b o e) hnf
      · exact ⟨o.slots, keep b o hm e⟩
    · obtain ⟨oe, _, _, _, _, he', hc', _⟩ := k3
      exact ⟨oe, he', hc'.1.trans hcls⟩
end
end Mine

namespace Mine
open PySem PySem.W PySem.Calls PySem.Spec PyProof.Rows

section
variable {prog : Program} {w : World} {K : Frag} {B : Heap} {mg mb : Str → Option Value} {A : Around} {s s₀ : Shared} {fr : List Env} {d u : Nat} {R : Result → Shared → Prop}

theorem enterC {oc : Value} {od : Option Addr} {osl : Array (Option Value)} {f : Addr} {name qual : Str} {params : Arguments} {body : List Stmt} {scope : Scope} {dV kV doc pm cdv ct : Value} {an : Option Addr} {args : List Value} {binds : List (Str × Value)}
    {P : Value → List (Addr × Obj) → List (Addr × Obj) → Prop} {H : List (Addr × Obj)} (am : Amb K B mg mb)
    (ho : K.lookup f = some ⟨oc, od, .func (fnX name qual params body scope [] dV kV doc pm an cdv ct), osl⟩) (hcd : codeIn K cdv qual = true)
    (Rm : Room A fr (d + 1) (u + 3)) (X : Act B s.heap fr)
    (hH : ∀ p ∈ H, s.heap.get? p.1 = some p.2) (hHB : ∀ p ∈ H, B.get? p.1 = none ∧ p.1 ∉ frs fr) (hnd : (H.map (·.1)).Nodup)
    (hbind : BindsTo s (fnX name qual params body scope [] dV kV doc pm an cdv ct) ⟨args, []⟩ binds)
    (h : ∀ L s₁, St (hid H s) (frs fr) L (fun x => binds.reverse.lookup x) H [] s₁ → Act B s₁.heap (envX qual scope L f cdv [] :: fr) → Room (A.deeper (envX qual scope L f cdv [])) (envX qual scope L f cdv [] :: fr) d u →
      wpAny (model prog w) (A.deeper (envX qual scope L f cdv [])) (execs body (envX qual scope L f cdv [])) (EndM (frs fr) (hid H s) L P)
        (fun e s' => wpAny (model prog w) (A.deeper (envX qual scope L f cdv [])) (leaving (envX qual scope L f cdv []) e) (fun _ s'' => R (.error e) s'') (fun e' s'' => R (.error e') s'') s') s₁)
    (k : ∀ v s' mu tl, Same s s' → Gro (frs fr) (hid H s).heap s'.heap → (∀ p ∈ mu, s'.heap.get? p.1 = some p.2 ∧ (hid H s).heap.get? p.1 = none) → (∀ p ∈ tl, s'.heap.get? p.1 = some p.2 ∧ (hid H s).heap.get? p.1 = none) → P v mu tl → R (.ok (.ret v)) s')
    (hcell : ∀ x ∈ scope.names, x.2 ≠ .cell := by decide) (hloc : (binds.all fun x => decide (scope.names.lookup x.1 = some .local)) = true := by rfl)
    (hco : scope.isCoroutine = false := by rfl) (hgen : scope.isGenerator = false := by rfl) (hk : scope.kind = .function := by rfl) :
    codeAny (model prog w) A (.call (.ref f) ⟨args, []⟩) R s := by
  refine codeAny_call_def (fd := fnX name qual params body scope [] dV kV doc pm an cdv ct) (body := body) (binds := binds) (by have := Rm.depth; omega) (X.stays _ _ (am.K _ _ ho)) rfl (am.nolimit.keeps X.stays) (codeRec_of (fun a o e => X.stays _ _ (am.K a o e)) hcd) rfl hbind hcell (locs hloc) (fun h₁ hns hk₁ => ?_) hco hgen hk
  have hlt : ∀ p ∈ H, p.1 < s.heap.objs.size := fun p hp => Heap.lt_size (hH p hp)
  have C : Cx (frs fr) (hid H s).heap s.heap.objs.size (fun x => binds.reverse.lookup x) H [] h₁ :=
    ⟨hns, .of_keeps fun b o e => hk₁ b o (hid_some e).1, hide_out (.inl (Nat.le_refl _)), by show (hide _ _ _).objs.size ≤ _; rw [hide_size]; exact Nat.min_le_left _ _,
      fun p hp => ⟨hk₁ _ _ (hH p hp), hid_none hp, Nat.ne_of_lt (hlt p hp)⟩, fun _ hp => (nomatch hp), fun _ _ _ hq => (nomatch hq), hnd⟩
  refine wpAny_mono (h s.heap.objs.size _ ⟨C, rfl, rfl, rfl⟩ (C.act (X.hid hHB) rfl hk) (Rm.deeper _)) (fun fl s' hl => ?_) fun _ _ e => e
  obtain ⟨m, mu, tl, C', hP⟩ := hl
  exact k _ s' mu tl ⟨C'.gens, C'.drawn, C'.os⟩ C'.cx.gro (fun p hp => ⟨(C'.cx.mus p hp).1, (C'.cx.mus p hp).2.1⟩) (fun p hp => ⟨(C'.cx.fzs p hp).1, (C'.cx.fzs p hp).2.1⟩) hP
end
end Mine

namespace Mine
open PySem PySem.W PySem.Calls PySem.Spec PyProof.Rows

section
variable {w : World} {B : Heap} {mg mb : Str → Option Value} {A : Around} {E : Value → Shared → Prop} {s s₀ : Shared} {fr : List Env} {d u : Nat} {L x dx : Addr} {m : Str → Option Value} {mu fz : List (Addr × Obj)}

theorem St.kin {g : Heap} {K : Frag} (am : Amb K B mg mb) (X : Act B s₀.heap fr) (hg : ∀ b o, b ∉ frs fr → s₀.heap.get? b = some o → g.get? b = some o) : K.In g := fun a o e => by
  have e' := am.K a o e
  exact hg a o (fun hm => by rw [X.off hm] at e'; cases e') (X.stays a o e')

theorem setslot {ox ox' od : Obj} {name : Str} {p i : Nat} {v : Value} {Q : Unit → Shared → Prop} (am : Amb (hd.heap_39 w.params) B mg mb) (X : Act B s₀.heap fr) (C : St s₀ (frs fr) L m ((x, ox) :: mu) fz s) (hcl : ox.cls = .ref 54) (hno : notCls ox = true) (hdx : ox.dict = some dx) (hd' : s.heap.get? dx = some od)
    (ht : takerIn (hd.heap_39 w.params) 54 name = some (some (.ref p))) (hT : typeIn (hd.heap_39 w.params) (.ref p) = some (.type "member_descriptor")) (hi : slotIn (hd.heap_39 w.params) p 54 = some i) (hz : i < 1000)
    (e : { ox with slots := (ox.slots ++ Array.replicate (i + 1 - ox.slots.size) none).setIfInBounds i (some v) } = ox') (hf : ox'.isFreed = false)
    (h : ∀ s', St s₀ (frs fr) L m ((x, ox') :: mu) fz s' → Q () s') : wpAny (model PySem.Challenge.rw_il0010_01.row.prog w) A (setAttr (.ref x) name v) Q E s := by
  obtain ⟨g, F, N, _, hg, back⟩ := C.out
  have hx := C.cx.mus (x, ox) (.head _)
  refine set_slot F (St.kin am X hg) N ⟨hx.1, hcl, hno, by rw [hdx]; exact hd'⟩ (by rfl) (by rfl) ht hT hi hz e hf (Upd.head fun q hq hqx => ?_) fun h' F' N' => h _ (C.heap (back h' m ((x, ox') :: mu) fz F' N' (fun q hq r hr => ?_) ?_) _)
  · have nd := C.cx.nd
    rw [List.map_cons] at nd
    rcases List.mem_append.mp hq with z | z
    · exact (List.nodup_cons.mp nd).1 (List.mem_map.mpr ⟨q, z, hqx⟩)
    · exact C.cx.sep (x, ox) (.head _) q z hqx.symm
  · rcases List.mem_cons.mp hq with rfl | hq
    · exact C.cx.sep (x, ox) (.head _) r hr
    · exact C.cx.sep q (.tail _ hq) r hr
  · have := C.cx.nd; rw [List.map_cons] at this ⊢; exact this

theorem getslot {ox od : Obj} {name : Str} {p i : Nat} {v : Value} {expr : Bool} {Q : Value → Shared → Prop} (am : Amb (hd.heap_39 w.params) B mg mb) (X : Act B s₀.heap fr) (C : St s₀ (frs fr) L m mu fz s) (hx : s.heap.get? x = some ox) (hcl : ox.cls = .ref 54) (hno : notCls ox = true) (hdx : ox.dict = some dx) (hd' : s.heap.get? dx = some od)
    (ha : findIn (hd.heap_39 w.params) (.ref 54) name = some (some (.ref p))) (hn : specialIn (hd.heap_39 w.params) (.ref p) "__get__" = some (some (.builtin "member_descriptor.__get__"))) (ht : takesIn (hd.heap_39 w.params) (.ref p) = some true) (hp : slotIn (hd.heap_39 w.params) p 54 = some i)
    (hv : (ox.slots[i]?).join = some v) (hh : handedIn v = true) (h : ∀ s', St s₀ (frs fr) L m mu fz s' → s'.heap = s.heap → Q v s') : wpAny (model PySem.Challenge.rw_il0010_01.row.prog w) A (getAttr (.ref x) name expr) Q E s := by
  obtain ⟨g, F, N, _, hg, back⟩ := C.out
  exact get_slot F (St.kin am X hg) ⟨hx, hcl, hno, by rw [hdx]; exact hd'⟩ (by rfl) (by rfl) ha hn ht hp hv hh (h _ (C.tok _) rfl)

noncomputable abbrev ffO (dx : Addr) (sl : Array (Option Value)) : Obj := { cls := .ref 54, dict := some dx, data := .plain, slots := sl }

set_option maxHeartbeats 2000000 in
theorem ff_init {l : Addr} {vs : List Value} {n : Nat} {mw : Value} {R : Result → Shared → Prop} (am : Amb (hd.heap_39 w.params) B mg mb) (Rm : Room A fr (d + 1) (u + 3)) (X : Act B s.heap fr)
    (hx : s.heap.get? x = some (instObj 54 dx)) (hxB : B.get? x = none ∧ x ∉ frs fr) (hdx : s.heap.get? dx = some emptyDict) (hne : dx ≠ x) (hdf : dx ∉ frs fr) (hl : s.heap.get? l = some (W.listOf vs.toArray n)) (hlx : l ≠ x) (hlf : l ∉ frs fr)
    (k : ∀ s' it, Same s s' → Gro (frs fr) (hid [(x, instObj 54 dx)] s).heap s'.heap → s'.heap.get? x = some (ffO dx #[some mw, some (.ref it)]) → s'.heap.IsListIter it l 0 → s.heap.get? it = none → R (.ok (.ret .none)) s') :
    codeAny (model PySem.Challenge.rw_il0010_01.row.prog w) A (.call (.ref 36) ⟨[.ref x, mw, .ref l], []⟩) R s := by
  have hdx₀ : (hid [(x, instObj 54 dx)] s).heap.get? dx = some emptyDict := hid_in hdx (by simpa using hne)
  have hl₀ : (hid [(x, instObj 54 dx)] s).heap.get? l = some (W.listOf vs.toArray n) := hid_in hl (by simpa using hlx)
  refine enterC (H := [(x, instObj 54 dx)]) (binds := [(Str.ofString "self", .ref x), (Str.ofString "function", mw), (Str.ofString "iterable", .ref l)]) (P := fun v mu tl => v = .none ∧ ∃ it, it ≠ x ∧ mu = [(x, ffO dx #[some mw, some (.ref it)]), (it, itO l 0)]) am rfl rfl Rm X
    (fun p hp => by rw [List.mem_singleton.mp hp]; exact hx) (fun p hp => by rw [List.mem_singleton.mp hp]; exact hxB) (by simp) (BindsTo.of_eq rfl) (fun L s₁ C X' R' => ?_) ?_
  · have X₀ : Act B (hid [(x, instObj 54 dx)] s).heap fr := X.hid fun p hp => by rw [List.mem_singleton.mp hp]; exact hxB
    refine wpAny_execs_cons <| plainObj_wpAny_Assign_Attribute <| ev_call <| ev_B am X'.stays rfl rfl <| cw_bi <| sp_cons <| ev_L C rfl <| sp_nil <| iter_list (listOf_is (C.cx.gro.1 _ _ hlf hl₀)) ?_
    have C := (C.heap' (C.cx.pushM (o := itO l 0) rfl))
    have hne' : s₁.heap.objs.size ≠ x := fun e => by have := C.cx.nd; simp only [List.map_cons, List.nodup_cons, List.mem_cons] at this; exact this.1 (.inl e)
    have C := C.swap
    refine ev_L C rfl <| setslot am X₀ C rfl rfl rfl (C.cx.gro.1 _ _ hdf hdx₀) (by rfl) (by rfl) (p := 56) (i := 1) (by rfl) (by decide) rfl rfl fun s₂ C => ?_
    refine wpAny_execs_cons <| plainObj_wpAny_Assign_Attribute <| ev_L C rfl <| ev_L C rfl <| setslot am X₀ C rfl rfl rfl (C.cx.gro.1 _ _ hdf hdx₀) (by rfl) (by rfl) (p := 55) (i := 0) (by rfl) (by decide) rfl rfl fun s₂ C => ?_
    exact wpAny_execs_nil ⟨_, _, _, C, rfl, _, hne', rfl⟩
  · rintro v s' mu tl sm g hmu htl ⟨rfl, it, hne', rfl⟩
    refine k s' it sm g (hmu _ (.head _)).1 ⟨_, (hmu _ (.tail _ (.head _))).1, rfl, rfl⟩ ?_
    cases q : s.heap.get? it with
    | none => rfl
    | some o =>
      have := hid_in (H := [(x, instObj 54 dx)]) q (by simpa using hne')
      rw [(hmu _ (.tail _ (.head _))).2] at this; cases this
end
end Mine

namespace Mine
open PySem PySem.W PySem.Calls PySem.Spec PyProof.Rows

noncomputable abbrev mwO (sk : Addr) : Obj := { cls := .type "method-wrapper", data := .fields #[.builtin "list.__contains__", .ref sk] }

section
variable {prog : Program} {w : World} {A : Around} {E : Value → Shared → Prop} {s : Shared}

theorem call_mw {mw sk : Addr} {x : Value} {n : Nat} {items : Array Value} {Q : Value → Shared → Prop} (hm : s.heap.get? mw = some (mwO sk)) (hl : s.heap.get? sk = some (W.listOf items n))
    (e : Value → Bool) (he : ∀ y, y ∈ items → PySem.SeqAt.EqAt A.in1 s y x (e y)) (h : Q (.bool (items.any e)) s) : wpAny (model prog w) A (call (.ref mw) [x]) Q E s := by
  refine wpAny_call (codeAny_of_tree ?_)
  show wpAny _ _ (callAny (.ref mw) _) _ _ _
  refine nd_load hm ?_
  show wpAny _ _ (checkBoundCall "list.__contains__" ⟨[.ref sk, x], []⟩ >>= fun _ => pure (Fin.again (.builtin "list.__contains__" ⟨[.ref sk, x], []⟩))) _ _ _
  have hc : checkBoundCall "list.__contains__" ⟨[.ref sk, x], []⟩ = pure () := by
    have := F.args_list_contains_2 (.ref sk) x
    have hk : builtinKind "list.__contains__" = some .slot := by decide +kernel
    unfold argsOk at this
    unfold checkBoundCall
    cases hs : Manifest.signature? "list.__contains__" with
    | none => rfl
    | some sig =>
      rw [hs] at this
      rw [hk]
      exact this
  rw [hc]
  refine wpAny_bind (wpAny_pure (wpAny_pure ⟨Code.quiet_builtin _ (by decide +kernel), codeAny_builtin F.entry_list_contains ?_⟩))
  rw [Around.under_plainId F.slot_list_contains.plain _]
  exact SeqAt.list_containsAt sk items n none #[] x e prog w A _ s ⟨hl, he, h⟩

theorem call_mw_dat {mw sk : Addr} {x : Value} {d : Dat} {n : Nat} {us : List Value} {es : List Dat} {led : List (Addr × Obj)} {Q : Value → Shared → Prop} (hm : s.heap.get? mw = some (mwO sk)) (hl : ∀ p ∈ led, s.heap.get? p.1 = some p.2)
    (hs : (sk, W.listOf us.toArray n) ∈ led) (du : DatAll led us es) (dx : DatIn led x d) (ha : ∀ d ∈ es, kqdOk 8 d = true) (hd : kqdOk 8 d = true) (hu : A.units + 64 < cLine) (h : ∀ c : Bool, (c = true ↔ d ∈ es) → Q (.bool c) s) :
    wpAny (model prog w) A (call (.ref mw) [x]) Q E s := by
  obtain ⟨as, ra⟩ := kqd_all (noFrame hl) 8 du ha
  obtain ⟨bs, rx⟩ := kqd_in (noFrame hl) 8 dx hd
  have l := kqd_layL ha
  have ld := kqd_lay 8 d hd
  have ra' : ReadsAll s.heap us.toArray.toList (kqdPs es) as := by simpa using ra
  refine call_mw hm (hl _ hs) _ (SeqAt.items_eqAt ra' rx l.1 ld.1 ?_) ?_
  · have l2 := ld.2
    have := Nat.min_le_right (PyData.depthAll (kqdPs es)) (kqdP d).depth
    omega
  · rw [SeqAt.any_by_data ra' l.1]
    exact h _ (kqd_any es d ha hd)

theorem cw_mw {env : Env} {mw sk : Addr} {e : Expr} {rest : List Expr} {pos : Pos} {Q : Value → Shared → Prop}
    (h : wpAny (model prog w) A (spliced (backTo pos (starEach (e :: rest) env))) (fun vs s₁ => s₁.heap.get? mw = some (mwO sk) ∧ wpAny (model prog w) A (call (.ref mw) vs) Q E s₁) E s)
    (he : starEach (e :: rest) env = (false, eval e env) :: starEach rest env := by rfl) (hplain : (backTo pos (starEach rest env)).any (·.1) = false := by rfl) :
    wpAny (model prog w) A (callWith pos (.ref mw) [] (backTo pos (starEach (e :: rest) env)) []) Q E s := by
  rw [he] at h ⊢
  exact callWith_of (P := fun h => h.get? mw = some (mwO sk)) (by show ((false || (backTo pos (starEach rest env)).any (·.1)) || false) = false; rw [hplain]; rfl)
    (fun h e => ⟨.machine, .inr (.inl rfl), (Looks.ld (part := none) e).andThen .now⟩) (evalArgs_plain (wpAny_mono h (fun vs s₁ hs => by simpa using hs) fun _ _ x => x))
end
end Mine

namespace Mine
open PySem PySem.W PySem.Calls PySem.Spec PyProof.Rows

section
variable {w : World} {B : Heap} {mg mb : Str → Option Value} {A : Around} {s s₀ : Shared} {fr : List Env} {d u : Nat} {x dx it l mw sk : Addr}

structure FfAt (B : Heap) (fr : List Env) (x dx it l mw sk : Addr) (vs us : List Value) (n n' : Nat) (h : Heap) : Prop where
  x : h.get? x = some (ffO dx #[some (.ref mw), some (.ref it)])
  dx : h.get? dx = some emptyDict
  mw : h.get? mw = some (mwO sk)
  l : h.get? l = some (W.listOf vs.toArray n)
  sk : h.get? sk = some (W.listOf us.toArray n')

noncomputable abbrev ffP (vs : List Value) (ds es : List Dat) (j : Nat) (l it : Addr) (v : Value) (mu _ : List (Addr × Obj)) : Prop :=
  ∃ i dd io', j ≤ i ∧ vs[i]? = some v ∧ ds[i]? = some dd ∧ dd ∉ es ∧ (∀ k dk, j ≤ k → k < i → ds[k]? = some dk → dk ∈ es) ∧ mu = [(it, io')] ∧ io'.cls = .type "list_iterator" ∧ io'.data = .fields #[.ref l, .int (i + 1 : Nat) 0]
noncomputable abbrev ffInv (vs : List Value) (ds es : List Dat) (j : Nat) (l x mw it L : Addr) (S : List Addr) (s₀ : Shared) (k : Nat) (s' : Shared) : Prop :=
  ∃ i m io', k = vs.length - i ∧ j ≤ i ∧ i ≤ vs.length ∧ St s₀ S L m [(it, io')] [] s' ∧ m (Str.ofString "self") = some (.ref x) ∧ m (Str.ofString "func") = some (.ref mw) ∧ (∀ k dk, j ≤ k → k < i → ds[k]? = some dk → dk ∈ es) ∧ io'.cls = .type "list_iterator" ∧ io'.data = .fields #[.ref l, .int (i : Nat) 0]

theorem ffInv.elim {vs : List Value} {ds es : List Dat} {j : Nat} {l x mw it L : Addr} {S : List Addr} {s₀ : Shared} {k : Nat} {s' : Shared} {G : Prop} (h : ffInv vs ds es j l x mw it L S s₀ k s')
    (K : ∀ i m io', k = vs.length - i → j ≤ i → i ≤ vs.length → St s₀ S L m [(it, io')] [] s' → m (Str.ofString "self") = some (.ref x) → m (Str.ofString "func") = some (.ref mw) → (∀ k dk, j ≤ k → k < i → ds[k]? = some dk → dk ∈ es) →
      io'.cls = .type "list_iterator" → io'.data = .fields #[.ref l, .int (i : Nat) 0] → G) : G := by
  obtain ⟨i, m, io', h1, h2, h3, h4, h5, h6, h7, h8, h9⟩ := h
  exact K i m io' h1 h2 h3 h4 h5 h6 h7 h8 h9

set_option maxHeartbeats 2000000 in
theorem ff_next {vs us : List Value} {ds es : List Dat} {n n' j : Nat} {io : Obj} {led : List (Addr × Obj)} {R : Result → Shared → Prop} (am : Amb (hd.heap_39 w.params) B mg mb) (Rm : Room A fr (d + 1) (u + 67)) (X : Act B s.heap fr)
    (F : FfAt B fr x dx it l mw sk vs us n n' s.heap) (off : ∀ b, b = x ∨ b = dx ∨ b = mw → b ≠ it ∧ b ∉ frs fr) (hio : s.heap.get? it = some io) (hic : io.cls = .type "list_iterator") (hid' : io.data = .fields #[.ref l, .int j 0]) (hitB : B.get? it = none ∧ it ∉ frs fr)
    (Z : ∀ p ∈ led, s.heap.get? p.1 = some p.2 ∧ p.1 ≠ it ∧ p.1 ∉ frs fr) (hl : (l, W.listOf vs.toArray n) ∈ led) (hs : (sk, W.listOf us.toArray n') ∈ led) (dv : DatAll led vs ds) (du : DatAll led us es) (okd : ∀ d ∈ ds, kqdOk 8 d = true) (oke : ∀ d ∈ es, kqdOk 8 d = true) (hj : j ≤ vs.length)
    (kret : ∀ i v dd s', j ≤ i → vs[i]? = some v → ds[i]? = some dd → dd ∉ es → (∀ k dk, j ≤ k → k < i → ds[k]? = some dk → dk ∈ es) → Same s s' → Gro (frs fr) (hid [(it, io)] s).heap s'.heap → (∃ io', s'.heap.get? it = some io' ∧ io'.cls = .type "list_iterator" ∧ io'.data = .fields #[.ref l, .int (i + 1 : Nat) 0]) → R (.ok (.ret v)) s')
    (kend : ∀ e s', (∀ k dk, j ≤ k → ds[k]? = some dk → dk ∈ es) → Same s s' → Gro (frs fr) (hid [(it, io)] s).heap s'.heap → (∃ ob, s'.heap.get? e = some ob ∧ ob.cls = .type "StopIteration") → R (.error (.ref e)) s') :
    codeAny (model PySem.Challenge.rw_il0010_01.row.prog w) A (.call (.ref 50) ⟨[.ref x], []⟩) R s := by
  have up : ∀ b o, s.heap.get? b = some o → b ≠ it → (hid [(it, io)] s).heap.get? b = some o := fun b o e hb => hid_in e (by simpa using hb)
  have X₀ : Act B (hid [(it, io)] s).heap fr := X.hid fun p hp => by rw [List.mem_singleton.mp hp]; exact hitB
  refine enterC (u := u + 64) (H := [(it, io)]) (binds := [(Str.ofString "self", .ref x)]) (P := ffP vs ds es j l it) am rfl rfl Rm X
    (fun p hp => by rw [List.mem_singleton.mp hp]; exact hio) (fun p hp => by rw [List.mem_singleton.mp hp]; exact hitB) (by simp) (BindsTo.of_eq rfl) (fun L s₁ C X' R' => ?_) ?_
  · have hx := C.cx.gro.1 _ _ (off x (.inl rfl)).2 (up _ _ F.x (off x (.inl rfl)).1)
    have hdx := C.cx.gro.1 _ _ (off dx (.inr (.inl rfl))).2 (up _ _ F.dx (off dx (.inr (.inl rfl))).1)
    refine hideEnd fun EE hEE => wpAny_execs_cons <| wpAny_Assign_Name <| Attribute_any_ <| ev_L C rfl <| getslot am X₀ C hx rfl rfl rfl hdx (p := 55) (i := 0) (by rfl) (by rfl) (by rfl) (by rfl) rfl rfl fun s₂ C _ => st_L C fun s₃ C => ?_
    refine wpAny_execs_cons <| wpAny_While <| codeAny_whileLoop (ffInv vs ds es j l x mw it L (frs fr) (hid [(it, io)] s)) ?_ (vs.length - j)
      ⟨j, _, io, rfl, Nat.le_refl _, hj, C, rfl, rfl, fun k dk h1 h2 => by omega, hic, hid'⟩
    intro k s₄ hI
    refine ffInv.elim hI fun i m io' hk hji hil C e1 e2 hsk hc' hd' => ?_
    clear hI
    refine isTrue_plain <| ev_bool <| wpAny_truthy_bool ?_
    rw [if_pos rfl]
    refine wpAny_mono ?_ (fun _ _ x => x) PassesOwn.leaving
    have keepO : ∀ {b o} {m mu fz s'}, St (hid [(it, io)] s) (frs fr) L m mu fz s' → s.heap.get? b = some o → b ≠ it → b ∉ frs fr → s'.heap.get? b = some o := fun C e h1 h2 => C.cx.gro.1 _ _ h2 (up _ _ e h1)
    have hx := keepO C F.x (off x (.inl rfl)).1 (off x (.inl rfl)).2
    have hdx := keepO C F.dx (off dx (.inr (.inl rfl))).1 (off dx (.inr (.inl rfl))).2
    refine wpAny_execs_cons <| wpAny_Assign_Name <| ev_call <| ev_B am (C.old X₀) rfl rfl <| cw_bi <| sp_cons <| Attribute_any_ <| ev_L C e1 <| getslot am X₀ C hx rfl rfl rfl hdx (p := 56) (i := 1) (by rfl) (by rfl) (by rfl) (by rfl) rfl rfl fun s₅ C _ => sp_nil ?_
    have hll := keepO C F.l (Z _ hl).2.1 (Z _ hl).2.2
    by_cases hlt : i < vs.length
    · obtain ⟨dd, hdd⟩ : ∃ dd, ds[i]? = some dd := ⟨_, List.getElem?_eq_getElem (by rw [← dv.length]; exact hlt)⟩
      obtain ⟨v, hv, dvi⟩ := DatAll.get? dv hdd
      refine next_item ⟨_, (C.cx.mus _ (.head _)).1, hc', hd'⟩ (listOf_is hll) (by simpa using hv) fun h' hit' hsb => ?_
      obtain ⟨io₂, ei, hc₂, hd₂⟩ := hit'
      have C := C.heap' (Cx.turn (pre := []) C.cx hsb.extBut ei)
      refine st_L C fun s₆ C => ?_
      refine wpAny_execs_cons <| wpAny_If <| isTrue_or <| wpAny_isTrue_Compare1 <| ev_L C (skip e2) <| ev_none <| is_ref_none <| wpAny_truthy_bool <| iteF ?_
      refine isTrue_or <| wpAny_isTrue_Compare1 <| ev_L C (skip e2) <| ev_B am (C.old X₀) rfl rfl <| wpAny_is_other rfl (by intro h; cases h) <| wpAny_truthy_bool <| iteF <| isTrue_or_nil ?_
      rw [if_neg Bool.false_ne_true]
      have hmw := keepO C F.mw (off mw (.inr (.inr rfl))).1 (off mw (.inr (.inr rfl))).2
      refine wpAny_execs_cons <| wpAny_If <| isTrue_not <| isTrue_plain <| ev_call <| ev_L C (skip e2) <| cw_mw (sk := sk) <| sp_cons <| ev_L C (if_pos rfl) <| sp_nil ⟨hmw, call_mw_dat hmw (fun p hp => keepO C (Z p hp).1 (Z p hp).2.1 (Z p hp).2.2) hs du dvi oke (okd _ (List.mem_of_getElem? hdd)) (Nat.lt_of_le_of_lt (Nat.add_le_add_left (by omega) _) R'.units) fun c hc => wpAny_truthy_bool ?_⟩
      cases c with
      | false =>
        rw [if_pos (show (!false) = true from rfl)]
        refine wpAny_execs_cons <| wpAny_Return_some <| ev_L C (if_pos rfl) ?_
        exact hEE _ _ ⟨_, _, _, C, i, dd, io₂, hji, hv, hdd, fun h => Bool.false_ne_true (hc.mpr h), hsk, rfl, hc₂, hd₂⟩
      | true =>
        rw [if_neg (show ¬ ((!true) = true) by decide)]
        refine wpAny_execs_nil <| wpAny_execs_nil <| wpAny_execs_nil ⟨vs.length - (i + 1), by rw [hk]; omega, i + 1, _, io₂, rfl, by omega, hlt, C, skip e1, skip e2, fun k dk h1 h2 h3 => ?_, hc₂, hd₂⟩
        by_cases hk : k = i
        · subst hk; rw [hdd] at h3; cases h3; exact hc.mp rfl
        · exact hsk k dk h1 (by omega) h3
    · have hie : i = vs.length := by omega
      have X₅ := C.act X₀ X'
      have hitL : it ∉ L :: frs fr := fun hm => by
        rcases List.mem_cons.mp hm with q | q
        · exact (C.cx.mus _ (.head _)).2.2 q
        · exact hitB.2 q
      refine next_end R'.handled ⟨_, (C.cx.mus _ (.head _)).1, hc', hd'⟩ (listOf_is hll) (by simp [hie]) fun h₁ h' e hex hsb hnx => ?_
      refine leave_new (B := B) (h := h₁) R'.frames rfl (rebase (fun b o hm e => (hsb.2 b (fun q => hitL (q ▸ hm))).trans e) (fun b hm => X₅.off hm) X₅.frames) hnx fun h₂ g₂ hob => ?_
      refine kend e _ (fun k dk h1 h2 => hsk k dk h1 (by have := (List.getElem?_eq_some_iff.mp h2).1; rw [← dv.length] at this; omega) h2) ⟨C.gens, C.drawn, C.os⟩ ⟨fun b o hb e => ?_, fun b o e => ?_⟩ hob
      · have hbi : b ≠ it := fun q => by rw [q, hid_none (.head _)] at e; cases e
        have hbL : b ∉ L :: frs fr := fun hm => by
          rcases List.mem_cons.mp hm with q | q
          · rw [q, C.cx.new] at e; cases e
          · exact hb q
        exact g₂.1 b o hbL ((hsb.2 b hbi).trans (C.cx.gro.1 b o hb e))
      · have hbi : b ≠ it := fun q => by rw [q, hid_none (.head _)] at e; cases e
        obtain ⟨sl, e'⟩ := C.cx.gro.2 b o e
        obtain ⟨sl', e''⟩ := g₂.2 b _ ((hsb.2 b hbi).trans e')
        exact ⟨sl', e''⟩
  · rintro v s' mu tl sm g hmu htl ⟨i, dd, io', h1, h2, h3, h4, h5, rfl, h6, h7⟩
    exact kret i v dd s' h1 h2 h3 h4 h5 sm g ⟨io', (hmu _ (.head _)).1, h6, h7⟩
end
end Mine

namespace Mine
open PySem PySem.W PySem.Calls PySem.Spec PyProof.Rows

open Classical in
noncomputable def flt (ds es : List Dat) : List Dat := ds.filter fun d => decide (d ∉ es)
theorem flt_same {ds es : List Dat} {j : Nat} : ∀ i, j ≤ i → (∀ k dk, j ≤ k → k < i → ds[k]? = some dk → dk ∈ es) → flt (ds.take i) es = flt (ds.take j) es := by
  intro i h
  induction h with
  | refl => exact fun _ => rfl
  | @step i hi ih =>
    intro hs
    rw [← ih fun k dk h1 h2 => hs k dk h1 (Nat.lt_succ_of_lt h2), List.take_add_one]
    unfold flt
    rw [List.filter_append]
    cases hd : ds[i]? with
    | none => exact List.append_nil _
    | some d => simp [hs i d hi (Nat.lt_succ_self i) hd]
theorem flt_snoc {ds es : List Dat} {i j : Nat} {d : Dat} (h : j ≤ i) (hs : ∀ k dk, j ≤ k → k < i → ds[k]? = some dk → dk ∈ es) (hd : ds[i]? = some d) (hn : d ∉ es) : flt (ds.take (i + 1)) es = flt (ds.take j) es ++ [d] := by
  rw [← flt_same i h hs, List.take_add_one, hd]
  unfold flt
  rw [List.filter_append]
  simp [hn]

section
variable {B : Heap} {s₀ s s' : Shared} {fr : List Env} {S : List Addr} {L : Addr} {m : Str → Option Value} {mu fz : List (Addr × Obj)}

theorem St.callH {it : Addr} {io io' : Obj} (P : Act B s₀.heap fr) (C : St s₀ (frs fr) L m ((it, io) :: mu) fz s) (sm : Same s s') (g : Gro (L :: frs fr) (hid [(it, io)] s).heap s'.heap) (hi : s'.heap.get? it = some io') :
    St s₀ (frs fr) L m ((it, io') :: mu) fz s' := by
  have z := C.cx.mus (it, io) (.head _)
  have nd := C.cx.nd
  rw [List.map_cons] at nd
  have c₁ : Cx (frs fr) s₀.heap L m mu fz (hid [(it, io)] s).heap := C.cx.but fun b ob hb e => hid_in e (by simpa using hb)
  have c₂ : Cx (frs fr) s₀.heap L m ([] ++ mu) ([] ++ fz) s'.heap := c₁.call P g (tl := []) (fun _ h => nomatch h)
  exact .mk' (c₂.addM hi z.2.1 z.2.2 (fun p hp q => (List.nodup_cons.mp nd).1 (List.mem_map.mpr ⟨p, hp, q⟩)) fun q hq e => C.cx.sep (it, io) (.head _) q hq e.symm) (C.same.trans sm)
end

section
variable {w : World} {B : Heap} {mg mb : Str → Option Value} {A : Around} {s s₀ : Shared} {fr : List Env} {d u : Nat} {x : Addr}

theorem ff_iter {R : Value → Shared → Prop} {E : Value → Shared → Prop} (am : Amb (hd.heap_39 w.params) B mg mb) (Rm : Room A fr (d + 1) (u + 3)) (X : Act B s.heap fr)
    (k : Ret fr s R fun v tl => v = .ref x) : wpAny (model PySem.Challenge.rw_il0010_01.row.prog w) A (call (.ref 43) [.ref x]) R E s := by
  refine enter (binds := [(Str.ofString "self", .ref x)]) am rfl rfl Rm X (BindsTo.of_eq rfl) (fun L s₁ C X' R' => ?_) k
  exact wpAny_execs_cons <| wpAny_Return_some <| ev_L C rfl ⟨_, _, _, C, rfl⟩
end
end Mine

namespace Mine
open PySem PySem.W PySem.Calls PySem.Spec PyProof.Rows

section
variable {w : World} {B : Heap} {mg mb : Str → Option Value} {A : Around} {s s₀ : Shared} {fr fs : List Env} {d u : Nat} {x dx it l mw sk L S : Addr} {m : Str → Option Value} {mu fz fz₀ : List (Addr × Obj)} {vs us : List Value} {ds es : List Dat} {n n' : Nat}

structure Fil (s₀ : Shared) (fr : List Env) (fz fz₀ : List (Addr × Obj)) (x dx it l mw sk : Addr) (vs us : List Value) (ds es : List Dat) (n n' : Nat) : Prop where
  Z : ∀ p ∈ fz₀, s₀.heap.get? p.1 = some p.2 ∧ p.1 ∉ frs fr
  x : (x, ffO dx #[some (.ref mw), some (.ref it)]) ∈ fz
  dx : (dx, emptyDict) ∈ fz
  mw : (mw, mwO sk) ∈ fz
  l : (l, W.listOf vs.toArray n) ∈ fz₀
  sk : (sk, W.listOf us.toArray n') ∈ fz₀
  dv : DatAll fz₀ vs ds
  du : DatAll fz₀ us es
  okd : ∀ d ∈ ds, kqdOk 8 d = true
  oke : ∀ d ∈ es, kqdOk 8 d = true
  few : ds.length ≤ 1000

theorem ff_pyNext {Q : Option Value → Shared → Prop} {E : Value → Shared → Prop} {j : Nat} {io : Obj} (am : Amb (hd.heap_39 w.params) B mg mb) (P : Act B s₀.heap fr) (hF : frs fs = L :: frs fr) (XF : Act B s.heap fs) (Rm : Room A fs (d + 1) (u + 67)) (G : Fil s₀ fr fz fz₀ x dx it l mw sk vs us ds es n n')
    (C : St s₀ (frs fr) L m ((it, io) :: mu) fz s) (hic : io.cls = .type "list_iterator") (hid' : io.data = .fields #[.ref l, .int j 0]) (hj : j ≤ vs.length)
    (kitem : ∀ i v dd io' s', j ≤ i → vs[i]? = some v → ds[i]? = some dd → dd ∉ es → (∀ k dk, j ≤ k → k < i → ds[k]? = some dk → dk ∈ es) → io'.cls = .type "list_iterator" → io'.data = .fields #[.ref l, .int (i + 1 : Nat) 0] → St s₀ (frs fr) L m ((it, io') :: mu) fz s' → Q (some v) s')
    (kend : ∀ s', (∀ k dk, j ≤ k → ds[k]? = some dk → dk ∈ es) → St s₀ (frs fr) L m mu fz s' → Q none s') :
    wpAny (model PySem.Challenge.rw_il0010_01.row.prog w) A (pyNext (.ref x)) Q E s := by
  obtain ⟨g, Fg, N, _, hg, _⟩ := C.out
  have hit := C.cx.mus (it, io) (.head _)
  have hitF : it ∉ frs fs := fun hm => by
    rw [hF] at hm
    rcases List.mem_cons.mp hm with q | q
    · exact hit.2.2 q
    · obtain ⟨o, eo⟩ := P.there q
      rw [hit.2.1] at eo; cases eo
  have off := C.cx.fzOff P G.Z
  have offF : ∀ p ∈ fz ++ fz₀, s.heap.get? p.1 = some p.2 ∧ p.1 ≠ it ∧ p.1 ∉ frs fs := fun p hp => by
    refine ⟨(off p hp).1, fun e => ?_, by rw [hF]; exact (off p hp).2⟩
    rcases List.mem_append.mp hp with q | q
    · exact C.cx.sep (it, io) (.head _) p q e.symm
    · have := (G.Z p q).1; rw [e, hit.2.1] at this; cases this
  have hx := offF _ (List.mem_append_left _ G.x)
  have hdx := offF _ (List.mem_append_left _ G.dx)
  have hmw := offF _ (List.mem_append_left _ G.mw)
  have hBit : B.get? it = none := by
    cases q : B.get? it with
    | none => rfl
    | some o => have := P.stays it o q; rw [hit.2.1] at this; cases this
  refine owit_next (C := 54) (f := 50) (od := some emptyDict) Fg (St.kin am P hg) ⟨hx.1, rfl, rfl, hdx.1⟩ (by rfl) (by rfl) (wpAny_call (ff_next (led := fz₀) am Rm XF ⟨hx.1, hdx.1, hmw.1, (offF _ (List.mem_append_right _ G.l)).1, (offF _ (List.mem_append_right _ G.sk)).1⟩ (fun b hb => by
    rcases hb with rfl | rfl | rfl
    · exact hx.2
    · exact hdx.2
    · exact hmw.2) hit.1 hic hid' ⟨hBit, hitF⟩ (fun p hp => offF p (List.mem_append_right _ hp)) G.l G.sk G.dv G.du G.okd G.oke hj ?_ ?_))
  · intro i v dd s' h1 h2 h3 h4 h5 sm gr hio
    obtain ⟨io', e', hc', hd'⟩ := hio
    exact kitem i v dd io' s' h1 h2 h3 h4 h5 hc' hd' (C.callH P sm (hF ▸ gr) e')
  · intro e s' h1 sm gr hob
    obtain ⟨ob, ho, hc⟩ := hob
    have C' : St s₀ (frs fr) L m mu fz s' := by
      have c₁ : Cx (frs fr) s₀.heap L m mu fz (hid [(it, io)] s).heap := C.cx.but fun b ob hb e => hid_in e (by simpa using hb)
      exact .mk' (c₁.call P (hF ▸ gr) (tl := []) (fun _ h => nomatch h)) (C.same.trans sm)
    show OwitStop _ _ _ _ _ _
    unfold OwitStop
    refine wpAny_isInstance (T := "StopIteration") (b := true) ⟨ob, ho, hc⟩ isSubtype_stop ?_
    show (if true = true then Q none s' else E (.ref e) s')
    rw [if_pos rfl]
    exact kend s' h1 C'

theorem upd_M {s₀ s : Shared} {S : List Addr} {L a : Addr} {m : Str → Option Value} {pre post fz : List (Addr × Obj)} {o : Obj} {f : Obj → Obj} (C : St s₀ S L m (pre ++ (a, o) :: post) fz s) (hf : (f o).isFreed = false) :
    St s₀ S L m (pre ++ (a, f o) :: post) fz { s with heap := s.heap.update a f } :=
  C.heap' (C.cx.turn (Heap.SameBut.update ..).extBut (Heap.get?_update_self _ (C.cx.mus (a, o) (by simp)).1 hf))

theorem ff_loop {R : Result → Shared → Prop} (am : Amb (hd.heap_39 w.params) B mg mb) (P : Act B s₀.heap fr) (hF : frs fs = L :: frs fr) (XF : ∀ {m mu s}, St s₀ (frs fr) L m mu fz s → Act B s.heap fs) (Rm : Room A fs (d + 1) (u + 68)) (G : Fil s₀ fr fz fz₀ x dx it l mw sk vs us ds es n n')
    (k : ∀ acc c s', St s₀ (frs fr) L m ((S, W.listOf acc.toArray c) :: mu) fz s' → DatAll fz₀ acc (flt ds es) → R (.ok (.ret .none)) s') :
    ∀ (q j : Nat) (acc : List Value) (c : Nat) (io : Obj) (s : Shared), q = vs.length - j → j ≤ vs.length → St s₀ (frs fr) L m ((it, io) :: (S, W.listOf acc.toArray c) :: mu) fz s → io.cls = .type "list_iterator" → io.data = .fields #[.ref l, .int j 0] → DatAll fz₀ acc (flt (ds.take j) es) →
      codeAny (model PySem.Challenge.rw_il0010_01.row.prog w) A (.builtin "list.extend.loop" ⟨[.ref S, .ref x, .none], []⟩) R s := by
  intro q
  induction q using Nat.strongRecOn with
  | _ q ih =>
    intro j acc c io s hq hj C hic hid' da
    refine codeAny_builtin F.entry_extend_loop ?_
    rw [Around.under_plainId F.plain_extend_loop _]
    show wpAny _ _ (pyNext (.ref x) >>= _) _ _ _
    refine wpAny_bind (ff_pyNext am P hF (XF C) Rm.in1 G C hic hid' hj (fun i v dd io' s' h1 h2 h3 h4 h5 hc' hd' C' => ?_) fun s' h1 C' => ?_)
    · show wpAny _ _ (updateSeq S (·.push v) >>= _) _ _ _
      have C' := C'.swap
      have hil : i < vs.length := (List.getElem?_eq_some_iff.mp h2).1
      have hS := (C'.cx.mus _ (.head _)).1
      have hal : acc.length ≤ 1000 := by
        rw [da.length]
        unfold flt
        exact Nat.le_trans (List.length_filter_le _ _) (by rw [List.length_take]; have := G.few; omega)
      obtain ⟨v', hv', dv'⟩ := DatAll.get? G.dv h3
      rw [h2] at hv'; cases hv'
      obtain ⟨c', ec⟩ : ∃ c', Obj.mapSeq (·.push v) (W.listOf acc.toArray c) = W.listOf (acc ++ [v]).toArray c' := ⟨_, by
        show W.listOf (acc.toArray.push v) _ = _
        rw [List.push_toArray]⟩
      refine wpAny_bind (wpAny_updateSeq hS rfl (wpAny_pure ⟨plainId_quiet F.plain_extend_loop _, ih (vs.length - (i + 1)) (by omega) (i + 1) (acc ++ [v]) c' io' _ rfl hil ?_ hc' hd' ?_⟩) ?_ ?_)
      · have := (upd_M (pre := []) (f := Obj.mapSeq (·.push v)) C' (by rw [ec]; rfl)).swap
        rw [ec] at this
        exact this
      · rw [flt_snoc h1 h5 h3 h4]
        exact da.append (.one dv')
      · rw [List.size_toArray, sizeLine_eq]; omega
      · rw [Array.size_push, List.size_toArray, sizeLine_eq]; omega
    · refine wpAny_pure ?_
      refine k acc c s' C' ?_
      have e : flt ds es = flt (ds.take j) es := by
        have := flt_same (ds := ds) (es := es) (j := j) ds.length (by rw [← G.dv.length]; exact hj) fun k dk h2 _ h3 => h1 k dk h2 h3
        rwa [List.take_length] at this
      rw [e]; exact da
end
end Mine

namespace Mine
open PySem PySem.W PySem.Calls PySem.Spec PyProof.Rows

section
variable {w : World} {B : Heap} {mg mb : Str → Option Value} {A : Around} {E : Value → Shared → Prop} {s s₀ : Shared} {fr fs : List Env} {d u : Nat} {x dx it l mw sk L S : Addr} {m : Str → Option Value} {mu fz fz₀ : List (Addr × Obj)} {vs us : List Value} {ds es : List Dat} {n n' : Nat}

theorem mapSeq_ex (f : Array Value → Array Value) (xs : Array Value) (c : Nat) : ∃ c', Obj.mapSeq f (W.listOf xs c) = W.listOf (f xs) c' := ⟨_, rfl⟩

theorem upd_L {xs : Array Value} {c : Nat} {f : Array Value → Array Value} {M : Model} {Q : Unit → Shared → Prop} (C : St s₀ (frs fr) L m ((S, W.listOf xs c) :: mu) fz s) (h1 : xs.size ≤ 1000) (h2 : (f xs).size ≤ 1001)
    (h : ∀ c' s', St s₀ (frs fr) L m ((S, W.listOf (f xs) c') :: mu) fz s' → Q () s') : wpAny M A (updateSeq S f) Q E s := by
  obtain ⟨c', ec⟩ := mapSeq_ex f xs c
  refine wpAny_updateSeq (C.cx.mus _ (.head _)).1 rfl (h c' _ ?_) (by rw [sizeLine_eq]; omega) (by rw [sizeLine_eq]; omega)
  have := upd_M (pre := []) (f := Obj.mapSeq f) C (by rw [ec]; rfl)
  rw [ec] at this
  exact this

set_option maxHeartbeats 1000000 in
theorem ff_list {Q : Value → Shared → Prop} (am : Amb (hd.heap_39 w.params) B mg mb) (P : Act B s₀.heap fr) (hF : frs fs = L :: frs fr) (XF : ∀ {m mu s}, St s₀ (frs fr) L m mu fz s → Act B s.heap fs) (Rm : Room A fs (d + 1) (u + 72)) (G : Fil s₀ fr fz fz₀ x dx it l mw sk vs us ds es n n')
    {io : Obj} (hic : io.cls = .type "list_iterator") (hio : io.data = .fields #[.ref l, .int (0 : Nat) 0]) (C : St s₀ (frs fr) L m ((it, io) :: mu) fz s)
    (k : ∀ a acc c s', St s₀ (frs fr) L m ((a, W.listOf acc.toArray c) :: mu) fz s' → DatAll fz₀ acc (flt ds es) → Q (.ref a) s') :
    wpAny (model PySem.Challenge.rw_il0010_01.row.prog w) A (call (.type "list") [.ref x]) Q E s := by
  refine callType_codes (Q₁ := fun obj s₁ => obj = .ref s.heap.objs.size ∧ s₁ = { s with heap := s.heap.push { cls := .type "list", data := .seq #[] } }) F.called_list (F.typeCall_list_1 _) F.entry_list_init
    (code_list_new _ ⟨rfl, rfl⟩) fun obj s₁ h₁ => ?_
  obtain ⟨rfl, rfl⟩ := h₁
  have hS : (s.heap.push { cls := .type "list", data := .seq #[] }).get? s.heap.objs.size = some { cls := .type "list", data := .seq #[] } := Heap.get?_push_size _ rfl
  refine ⟨⟨_, hS, rfl⟩, F.args_list_init_2 _ _, ?_⟩
  have C : St s₀ (frs fr) L m ((s.heap.objs.size, W.listOf #[] 0) :: (it, io) :: mu) fz { s with heap := s.heap.push (W.listOf #[] 0) } := C.heap' (C.cx.pushM rfl)
  generalize s.heap.objs.size = S at *
  show wpAny _ _ (do let old ← Builtin.List.listItems (.ref S); Builtin.List.listUpdate (.ref S) (fun _ => #[]); letGo old.toList.reverse; Builtin.List.listExtendWith (.ref S) (.ref x) .none) _ _ _
  refine wpAny_bind ?_
  unfold Builtin.List.listItems
  refine wpAny_bind (wpAny_seqItems hS rfl (wpAny_pure ?_))
  show wpAny _ _ (updateSeq S (fun _ => #[]) >>= fun _ => letGo (#[] : Array Value).toList.reverse >>= fun _ => Builtin.List.listExtendWith (.ref S) (.ref x) .none) _ _ _
  refine wpAny_bind (upd_L C (by simp) (by simp) fun c₁ s₁ C => ?_)
  refine wpAny_bind (wpAny_letGo ?_)
  unfold Builtin.List.listExtendWith
  have inst : ∀ {s : Shared} {m : Str → Option Value} {mu : List (Addr × Obj)}, St s₀ (frs fr) L m mu fz s → InstAt s.heap x (ffO dx #[some (.ref mw), some (.ref it)]) 54 (some emptyDict) := fun C => ⟨(C.cx.fzs _ G.x).1, rfl, rfl, (C.cx.fzs _ G.dx).1⟩
  have hxS : S ≠ x := (C.cx.sep (S, _) (.head _) (x, _) G.x)
  have kin : ∀ {s : Shared} {m : Str → Option Value} {mu : List (Addr × Obj)}, St s₀ (frs fr) L m mu fz s → (hd.heap_39 w.params).In s.heap := fun C a o e => C.old P a o (am.K a o e)
  refine wpAny_bind ((inst C).type.here ?_)
  have h1 : Builtin.List.listSameRef (.ref S) (.ref x) = false := by simp [Builtin.List.listSameRef, hxS]
  have h2 : (Value.ref 54 == Value.type "list") = false := by decide
  have h3 : (Value.ref 54 == Value.type "tuple") = false := by decide
  simp only [h1, h2, h3, Bool.or_false, Bool.false_eq_true, if_false]
  obtain ⟨g, Fg, N, _, hg, _⟩ := C.out
  refine wpAny_bind (owit_iter (C := 54) (f := 43) (od := some emptyDict) Fg (St.kin am P hg) (inst C) (by rfl) (by rfl) (ff_iter am (Rm.less (u' := u + 3 + 1 + 1) (d' := d + 1) (Nat.le_refl _) (by omega)).in1.in1 (XF C) fun v s₂ tl sm gr ht hv => ?_))
  subst hv
  have C := (C.call P sm (hF ▸ gr) ht).sub (fz' := fz) fun p hp => List.mem_append_right _ hp
  obtain ⟨g, Fg, N, _, hg, _⟩ := C.out
  refine owit_it (C := 54) (od := some emptyDict) Fg (St.kin am P hg) (inst C) (g := .ref 50) (by rfl) ?_
  refine wpAny_bind (wpAny_holding ?_)
  unfold Builtin.List.listLengthHint
  have len : findIn (hd.heap_39 w.params) (.ref 54) "__len__" = some none := by rfl
  have hint : findIn (hd.heap_39 w.params) (.ref 54) "__length_hint__" = some none := by rfl
  refine wpAny_bind (wpAny_bind ((inst C).type.here ((looks_findIn (kin C) len).here ?_)))
  show wpAny _ _ (specialOf (Value.ref x) (Str.ofString "__length_hint__") >>= _) _ _ _
  refine wpAny_bind (wpAny_bind ((inst C).type.here ((looks_findIn (kin C) hint).here ?_)))
  refine wpAny_pure ?_
  show wpAny _ _ (rule "list.extend.makes-room" >>= fun _ => Builtin.List.listTouch (.ref S) >>= fun _ => again (.builtin "list.extend.loop" ⟨[.ref S, .ref x, .none], []⟩)) _ _ _
  refine wpAny_bind (wpAny_rule ?_)
  refine wpAny_bind ?_
  show wpAny _ _ (updateSeq S (·.push .none) >>= fun _ => updateSeq S (·.pop)) _ _ _
  refine wpAny_bind (upd_L C (by simp) (by simp) fun c₂ s₃ C => ?_)
  refine upd_L C (by simp) (by simp) fun c₃ s₄ C => ?_
  refine wpAny_pure ⟨plainId_quiet F.plain_extend_loop _, ff_loop (S := S) am P hF XF (Rm.less (u' := u + 68 + 1) (d' := d + 1) (Nat.le_refl _) (by omega)).in1 G ?_ vs.length 0 [] c₃ _ _ rfl (Nat.zero_le _) C.swap hic hio .nil⟩
  exact fun acc c s' C da => ⟨rfl, k S acc c s' C da⟩
end
end Mine

namespace Mine
open PySem PySem.W PySem.Calls PySem.Spec PyProof.Rows

theorem kd_contains : builtinKind "list.__contains__" = some .slot := by decide +kernel
theorem lk_get : typeLookup (.type "wrapper_descriptor") (Str.ofString "__get__") = pure (some (.builtin "wrapper_descriptor.__get__")) := by rw [typeLookup_type, builtinLookup_eq_fast]; kernel_rfl
theorem lk_set : typeLookup (.type "wrapper_descriptor") (Str.ofString "__set__") = pure none := by rw [typeLookup_type, builtinLookup_eq_fast]; kernel_rfl
theorem lk_del : typeLookup (.type "wrapper_descriptor") (Str.ofString "__delete__") = pure none := by rw [typeLookup_type, builtinLookup_eq_fast]; kernel_rfl
theorem ty_contains : typeOf (Value.builtin "list.__contains__") = pure (.type "wrapper_descriptor") := by kernel_rfl

theorem find_mw {prog : Program} {w : World} {A : Around} {E : Value → Shared → Prop} {s : Shared} {a : Addr} {xs : Array Value} {k : Nat} {name : Str} {Q : Builtin.ObjectAttr.Found → Shared → Prop} (hx : s.heap.get? a = some (W.listOf xs k))
    (hl : typeLookup (.type "list") name = pure (some (.builtin "list.__contains__"))) (hname : (["__module__", "__name__", "__qualname__", "__doc__", "__annotations__"] : List Str).contains name = false)
    (h : Q (.bind (.builtin "wrapper_descriptor.__get__") (.builtin "list.__contains__")) s) : wpAny (model prog w) A (Builtin.ObjectAttr.find (.ref a) (.type "list") name) Q E s := by
  obtain ⟨hp, g, d, tk, os⟩ := s
  have hT : (⟨hp, g, d, tk, os⟩ : Shared).TypeIs (.ref a) "list" := ⟨_, hx, rfl⟩
  have f4 := lk_get
  have f5 := lk_set
  have f6 := lk_del
  have f7 := ty_contains
  have f8 := kd_contains
  have hx : hp.get? a = some { cls := .type "list", dict := none, data := .seq xs k, slots := #[] } := hx
  unfold Builtin.ObjectAttr.find
  iterate 35 (any_goals (first | assumption | wp_step))
  show wpAny _ _ (if (["__module__", "__name__", "__qualname__", "__doc__", "__annotations__"] : List Str).contains name = true then _ else pure ()) _ _ _
  rw [if_neg (by rw [hname]; exact Bool.false_ne_true)]
  refine wpAny_pure ?_
  show wpAny _ _ (do rule "getattr.non-data-descriptor"; pure (Builtin.ObjectAttr.Found.bind (.builtin "wrapper_descriptor.__get__") (.builtin "list.__contains__"))) _ _ _
  exact wpAny_bind (wpAny_rule (wpAny_pure h))

theorem slot_wget : Slot "wrapper_descriptor" "__get__" "wrapper_descriptor.__get__" :=
  Slot.of (T := "wrapper_descriptor") (name := "__get__") (owner := "wrapper_descriptor") (n := "__get__") lk_get (by decide +kernel) (by decide +kernel) (by decide +kernel)
    (.inl (by decide +kernel)) (by rw [isSubtype_type]; kernel_rfl)
theorem entry_wget : entryFor table "wrapper_descriptor.__get__" = some Builtin.«wrapper_descriptor.__get__» := entryFor_of_tree (by kernel_rfl)
theorem args_wget (a b c : Value) : argsOk "wrapper_descriptor.__get__" ⟨[a, b, c], []⟩ := by unfold argsOk; kernel_rfl

theorem bind_mw {prog : Program} {w : World} {A : Around} {E : Value → Shared → Prop} {s : Shared} {a : Addr} {xs : Array Value} {k : Nat} {Q : Value → Shared → Prop} (hx : s.heap.get? a = some (W.listOf xs k))
    (h : Q (.ref s.heap.objs.size) { s with heap := s.heap.push (mwO a) }) : wpAny (model prog w) A (call (.builtin "wrapper_descriptor.__get__") [.builtin "list.__contains__", .ref a, .type "list"]) Q E s := by
  refine wpAny_call_entry slot_wget (self := .builtin "list.__contains__") ?_ entry_wget ?_ (args_wget _ _ _)
  · exact ty_contains
  · have hx' : s.heap.get? a = some { cls := .type "list", dict := none, data := .seq xs k, slots := #[] } := hx
    have hT : s.TypeIs (.ref a) "list" := ⟨_, hx, rfl⟩
    have hsub : isSubtype (.type "list") (.type "list") = pure true := by rw [isSubtype_type]; kernel_rfl
    unfold Builtin.«wrapper_descriptor.__get__»
    refine wpAny_bind (wpAny_of_eq (a := (Value.builtin "list.__contains__", some (Value.ref a), some (Value.type "list"))) (by kernel_rfl) ?_)
    dsimp only
    refine wpAny_bind ?_
    refine wpAny_bind (wpAny_of_eq (a := (Str.ofString "__contains__", Value.type "list")) (by kernel_rfl) ?_)
    refine wpAny_bind (wpAny_isInstance hT hsub ?_)
    refine wpAny_pure ?_
    show wpAny _ _ (newFields "method-wrapper" [.builtin "list.__contains__", .ref a] >>= ret) _ _ _
    exact wpAny_bind (wpAny_newObj_type (wpAny_pure ⟨_, rfl, h⟩))
theorem lk_contains : typeLookup (.type "list") (Str.ofString "__contains__") = pure (some (.builtin "list.__contains__")) := F.slot_list_contains.lookup

theorem meets_mw (a : Addr) (xs : Array Value) (k : Nat) (name : Str) (u : Tok) (hl : typeLookup (.type "list") name = pure (some (.builtin "list.__contains__"))) (hname : (["__module__", "__name__", "__qualname__", "__doc__", "__annotations__"] : List Str).contains name = false) :
    Meets (Builtin.«object.__getattribute__» ⟨[.ref a, .str name u], []⟩) (fun _ R s => s.heap.get? a = some (W.listOf xs k) ∧ R (.ok (.ret (.ref s.heap.objs.size))) { s with heap := s.heap.push (mwO a) }) :=
  Meets.of_wp fun prog w A R s hs => by
    obtain ⟨hx, hs⟩ := hs
    have hT : s.TypeIs (.ref a) "list" := ⟨_, hx, rfl⟩
    unfold Builtin.«object.__getattribute__»
    refine wpAny_bind (wpAny_of_eq (a := (Value.ref a, [Value.str name u])) (by kernel_rfl) ?_)
    dsimp only
    refine wpAny_bind (wpAny_of_eq (a := name) (by rfl) ?_)
    refine wpAny_bind (wpAny_typeOf hT ?_)
    refine wpAny_bind (find_mw hx hl hname ?_)
    dsimp only
    show wpAny _ _ (holding [.builtin "list.__contains__"] (call (.builtin "wrapper_descriptor.__get__") [.builtin "list.__contains__", .ref a, .type "list"]) >>= ret) _ _ _
    exact wpAny_bind (wpAny_holding (bind_mw hx (wpAny_pure ⟨_, rfl, hs⟩)))

theorem am_list_getattribute : entryFor table "list.__getattribute__" = some Builtin.«object.__getattribute__» := PySem.am_entry_list_getattribute

theorem get_mw {prog : Program} {w : World} {A : Around} {E : Value → Shared → Prop} {s : Shared} {a : Addr} {xs : Array Value} {k : Nat} {Q : Value → Shared → Prop} (hx : s.heap.get? a = some (W.listOf xs k))
    (h : Q (.ref s.heap.objs.size) { s with heap := s.heap.push (mwO a), toks := s.toks + 1 }) : wpAny (model prog w) A (getAttr (.ref a) (Str.ofString "__contains__") true) Q E s := by
  have hname : (["__module__", "__name__", "__qualname__", "__doc__", "__annotations__"] : List Str).contains (Str.ofString "__contains__") = false := by decide +kernel
  have hl := lk_contains
  generalize Str.ofString "__contains__" = name at hname hl
  have hT : ∀ tk', ({ s with toks := tk' } : Shared).TypeIs (.ref a) "list" := fun _ => ⟨_, hx, rfl⟩
  unfold getAttr getAttrBy
  refine wpAny_bind (wpAny_mkText (wpAny_holding (wpAny_bind (wpAny_typeOf (hT _) ?_))))
  refine wpAny_bind (wpAny_of_eq F.slot_list_getattribute.lookup ?_)
  show wpAny _ _ (getAttrByItsOwn (.ref a) (.str name s.toks) (.type "list") (.builtin "list.__getattribute__") true true) _ _ _
  unfold getAttrByItsOwn
  refine wpAny_bind (wpAny_of_eq (a := (none : Option Value)) (by rfl) ?_)
  refine wpAny_bind (wpAny_attempt (wpAny_holding ?_))
  show wpAny _ _ (bindSpecial (.builtin "list.__getattribute__") (.ref a) >>= fun x => call x.1 (x.2 ++ [.str name s.toks])) _ _ _
  refine wpAny_bind (wpAny_of_eq (F.slot_list_getattribute.bind (.ref a)) ?_)
  exact call_meets F.slot_list_getattribute (hT _) am_list_getattribute (F.args_list_getattribute_2 _ _) (meets_mw a xs k name _ hl hname) ⟨hx, handed_on rfl h⟩
end Mine

namespace Mine
open PySem PySem.W PySem.Calls PySem.Spec PyProof.Rows

theorem Room.made {A : Around} {fr : List Env} {d u : Nat} (R : Room A fr (d + 1) (u + 8)) (C : Addr) (rest : List Value) (kw : List (Str × Value)) : Room (A.under (.builtin "type.__call__" ⟨.ref C :: rest, kw⟩)) fr d u := by
  refine ⟨?_, R.handled, ?_, ?_⟩
  · have e : (A.under (.builtin "type.__call__" ⟨.ref C :: rest, kw⟩)).frames = pushEnvs (Code.builtin "type.__call__" ⟨.ref C :: rest, kw⟩).envs A.frames := rfl
    have e2 : (Code.builtin "type.__call__" ⟨.ref C :: rest, kw⟩).envs = [] := by kernel_rfl
    rw [e, e2]; exact R.frames
  · have := R.depth
    have e : (A.under (.builtin "type.__call__" ⟨.ref C :: rest, kw⟩)).depth = A.depth + 1 := rfl
    omega
  · have := R.units
    have e : (Code.builtin "type.__call__" ⟨.ref C :: rest, kw⟩).cUnits ≤ 8 := by
      have : (Code.builtin "type.__call__" ⟨.ref C :: rest, kw⟩).cUnits = 1 := by kernel_rfl
      omega
    have e' : (A.under (.builtin "type.__call__" ⟨.ref C :: rest, kw⟩)).units = A.units + (Code.builtin "type.__call__" ⟨.ref C :: rest, kw⟩).cUnits := rfl
    omega

theorem Cx.muOff {S : List Addr} {h₀ h : Heap} {L : Addr} {m : Str → Option Value} {mu fz : List (Addr × Obj)} {fr : List Env} {B : Heap} (P : Act B h₀ fr) (C : Cx S h₀ L m mu fz h) : ∀ p ∈ mu, B.get? p.1 = none ∧ p.1 ∉ L :: frs fr := fun p hp => by
  have z := C.mus p hp
  refine ⟨?_, fun hm => ?_⟩
  · cases q : B.get? p.1 with
    | none => rfl
    | some o => have := P.stays p.1 o q; rw [z.2.1] at this; cases this
  · rcases List.mem_cons.mp hm with q | q
    · exact z.2.2 q
    · obtain ⟨o, eo⟩ := P.there q
      rw [z.2.1] at eo; cases eo

section
variable {w : World} {B : Heap} {mg mb : Str → Option Value} {A : Around} {E : Value → Shared → Prop} {s s₀ : Shared} {fr : List Env} {d u : Nat} {fz₀ : List (Addr × Obj)}

set_option maxHeartbeats 1000000 in
theorem filter_ok {lv skv : Value} {ds es : List Dat} {Q : Value → Shared → Prop} (am : Amb (hd.heap_39 w.params) B mg mb) (Rm : Room A fr (d + 4) (u + 100)) (X : Act B s.heap fr) (Z : ∀ p ∈ fz₀, s.heap.get? p.1 = some p.2 ∧ p.1 ∉ frs fr)
    (hl : DatIn fz₀ lv (.list ds)) (hs : DatIn fz₀ skv (.list es)) (okd : ∀ d ∈ ds, kqdOk 8 d = true) (oke : ∀ d ∈ es, kqdOk 8 d = true) (few : ds.length ≤ 1000)
    (k : Ret fr s Q fun v tl => DatIn (tl ++ fz₀) v (.list (flt ds es))) : wpAny (model PySem.Challenge.rw_il0010_01.row.prog w) A (call (.ref 65) [lv, skv]) Q E s := by
  obtain ⟨l, vs, n, rfl, hlm, dv⟩ := DatIn.list_inv hl
  obtain ⟨sk, us, n', rfl, hsm, du⟩ := DatIn.list_inv hs
  refine enter (d := d + 3) (u := u + 97) (binds := [(Str.ofString "flist", .ref l), (Str.ofString "skip", .ref sk)]) am rfl rfl Rm X (BindsTo.of_eq rfl) (fun L s₁ C X' R' => ?_) k
  refine wpAny_execs_cons <| wpAny_Return_some <| ev_call <| ev_B am X'.stays rfl rfl <| cw_ty <| sp_cons <| ev_call <| ev_G am X'.stays rfl <| cw_def am rfl <| sp_cons <| Attribute_any_ <| ev_L C rfl <| get_mw (C.cx.all Z _ hsm) ?_
  have C : St s (frs fr) L _ [] ((s₁.heap.objs.size, mwO sk) :: []) { s₁ with heap := s₁.heap.push (mwO sk), toks := s₁.toks + 1 } := C.heap (C.cx.pushF rfl) _
  refine sp_cons <| ev_L C rfl <| sp_nil ⟨C.old X, wpAny_call ?_⟩
  obtain ⟨g, Fg, N, _, hg, back⟩ := C.out
  refine make_K (C := 54) (fI := 36) Fg N (fun a o e => C.old X a o (am.K a o e)) (by rfl) (by rfl) (by rfl) fun x dx h' F' N' l1 l2 => ?_
  have C₂ := C.heap' (back h' _ [(x, instObj 54 dx)] ((dx, emptyDict) :: (s₁.heap.objs.size, mwO sk) :: []) F' N' (fun p hp q hq => ?_) (by simp))
  · have X₂ := C₂.act X X'
    have hx := C₂.cx.mus _ (.head _)
    have off := C₂.cx.fzOff X Z
    have hdx := off (dx, emptyDict) (.head _)
    have hll := off _ (List.mem_append_right _ hlm)
    have hlx : l ≠ x := fun e => by have := (Z _ hlm).1; rw [show (l, W.listOf vs.toArray n).1 = x from e, hx.2.1] at this; cases this
    refine ff_init am ((R'.less (d' := d + 2 + 1) (u' := u + 3 + 8) (Nat.le_refl _) (by omega)).made _ _ _) X₂ hx.1 (C₂.cx.muOff X _ (.head _)) hdx.1 (Nat.ne_of_lt l2) hdx.2 hll.1 hlx hll.2 fun s' it sm gr hx' hit hnew => ⟨rfl, ?_⟩
    obtain ⟨io, hio, hic, hid'⟩ := hit
    have gr' : Gro (L :: frs fr) (hid [(x, instObj 54 dx)] { s₁ with heap := h', toks := s₁.toks + 1 }).heap s'.heap := gr
    have C₃ := (C₂.callH X ⟨sm.gens, sm.drawn, sm.os⟩ gr' hx').freeze
    have none₀ : s.heap.get? it = none := by
      cases q : s.heap.get? it with
      | none => rfl
      | some o => obtain ⟨_, e'⟩ := C₂.cx.gro.2 it o q; rw [show h'.get? it = none from hnew] at e'; cases e'
    have neL : it ≠ L := fun e => by
      obtain ⟨o, _, _, eo, _⟩ := C₂.cx.ns
      rw [← e, show h'.get? it = none from hnew] at eo; cases eo
    have C₄ : St s (frs fr) L _ [(it, io)] _ s' := C₃.heap' (C₃.cx.addM hio none₀ neL (fun _ h => nomatch h) fun q hq e => ?_)
    · exact sp_nil <| ff_list (fz₀ := fz₀) am X rfl (fun C => C.act X X') ((R'.less (d' := d + 1) (u' := u + 72) (by omega) (by omega))) ⟨Z, .head _, .tail _ (.head _), .tail _ (.tail _ (.head _)), hlm, hsm, dv, du, okd, oke, few⟩ hic hid' C₄ fun a acc c s'' C da => ⟨_, _, _, C.freeze, DatIn.list (.head _) (DatAll.mono (fun p hp => List.mem_append_right _ hp) da)⟩
    · have there : ∃ o, h'.get? q.1 = some o := by
        rcases List.mem_cons.mp hq with rfl | hq
        · exact ⟨_, hx.1⟩
        · exact ⟨_, (off q (List.mem_append_left _ hq)).1⟩
      obtain ⟨o, eo⟩ := there
      rw [e, show h'.get? it = none from hnew] at eo; cases eo
  · have ep := List.mem_singleton.mp hp
    subst ep
    rcases List.mem_cons.mp hq with rfl | hq
    · exact Ne.symm (Nat.ne_of_lt l2)
    · have eq := List.mem_singleton.mp hq
      subst eq
      exact Ne.symm (Nat.ne_of_lt (Nat.lt_trans (l1 _ (List.mem_append_right _ (.head _))) l2))
end
end Mine

namespace Mine
open PySem PySem.W PySem.Calls PySem.Spec PyProof.Rows
open LCg (NsObj ns_obj)

section
variable {prog : Program} {w : World} {B : Heap} {A : Around} {E : Value → Shared → Prop} {s s₀ : Shared} {fr : List Env} {S : List Addr} {L : Addr} {m : Str → Option Value} {mu fz fz₀ : List (Addr × Obj)} {env : Env}

theorem St.swap3 {p q r : Addr × Obj} (C : St s₀ S L m (p :: q :: r :: mu) fz s) : St s₀ S L m (q :: r :: p :: mu) fz s := by
  have c := C.cx
  refine .mk' ⟨c.ns, c.gro, c.new, c.above, fun x hx => c.mus x ?_, c.fzs, fun x hx => c.sep x ?_, ?_⟩ C.same
  · simp only [List.mem_cons] at hx ⊢; rcases hx with h | h | h | h <;> simp [h]
  · simp only [List.mem_cons] at hx ⊢; rcases hx with h | h | h | h <;> simp [h]
  · have := c.nd
    simp only [List.map_cons, List.nodup_cons, List.mem_cons, not_or] at this ⊢
    exact ⟨⟨this.2.1.1, fun e => this.1.1 e.symm, this.2.1.2⟩, ⟨fun e => this.1.2.1 e.symm, this.2.2.1⟩, this.1.2.2, this.2.2.2⟩

theorem ev_K {oC : Obj} {mc : Str → Option Value} {x : Str} {pos : Pos} {v : Value} {M : Model} {Q : Value → Shared → Prop} (St' : St s₀ S L m mu fz s) (hm : (env.locals, oC) ∈ mu) (hC : NsObj oC mc) (hx : mc x = some v) (h : Q v s)
    (hk : env.scope.kind = .function := by rfl) (hl : env.kindOf x = some .local := by rfl) (hd : (x == ("__debug__" : Str)) = false := by decide) : wpAny M A (eval (.Name x pos) env) Q E s :=
  ev_local (hC.ns (St'.cx.mus _ hm).1) hx h hk hl hd

noncomputable abbrev CompY (s₀ : Shared) (S : List Addr) (L : Addr) (m : Str → Option Value) (mus fz fz₀ tl' : List (Addr × Obj)) (r r' : List Dat) (y : Value) (s₄ : Shared) : Prop :=
  ∃ tl'' d, St s₀ S L m mus (tl'' ++ fz) s₄ ∧ (∀ p ∈ tl', p ∈ tl'') ∧ DatIn (tl'' ++ fz ++ fz₀) y d ∧ r' = r ++ [d]
noncomputable abbrev CompOk (prog : Program) (w : World) (A : Around) (elt : Expr) (env : Env) (s₀ : Shared) (S : List Addr) (L : Addr) (m : Str → Option Value) (mus fz fz₀ tl : List (Addr × Obj)) (r r' : List Dat) (ok : Bool) (s₃ : Shared) : Prop :=
  ∃ tl', St s₀ S L m mus (tl' ++ fz) s₃ ∧ (∀ p ∈ tl, p ∈ tl') ∧ if ok = true then wpAny (model prog w) A (eval elt env) (CompY s₀ S L m mus fz fz₀ tl' r r') Nay s₃ else r' = r

noncomputable abbrev CompInv (n : Nat) (Sti : Nat → Heap → Prop) (Own : Option Value → List (Addr × Obj) → Prop) (s₀ : Shared) (S : List Addr) (L : Addr) (m : Str → Option Value) (I D : Addr) (mu fz fz₀ : List (Addr × Obj)) (res : Nat → List Dat) (k : Nat) (s' : Shared) : Prop :=
  ∃ i oI ow ov us k' tl, i ≤ n ∧ k = n - i ∧ Sti i s'.heap ∧ Own ov ow ∧ St s₀ S L m ((I, oI) :: (ow ++ (D, W.listOf us.toArray k') :: mu)) (tl ++ fz) s' ∧ DatAll (tl ++ fz ++ fz₀) us (res i) ∧ us.length ≤ i

theorem comp_gen {elt iter : Expr} {x : Str} {px : Pos} {ifs : List Expr} {scope : Scope} {pos : Pos} {envC : Env} {I D : Addr} {fp : List Addr} {n : Nat} {P : Nat → Value → Prop} {Sti : Nat → Heap → Prop} {Own : Option Value → List (Addr × Obj) → Prop} {RR : Result → Shared → Prop}
    (Wk : Walks prog w A I fp [I] n P Sti) (hobj : ∀ i h, Sti i h → ∃ o, h.get? I = some o) (hn : n ≤ 1000)
    (Z : ∀ p ∈ fz₀, s₀.heap.get? p.1 = some p.2 ∧ p.1 ∉ S) (hfp : ∀ b ∈ fp, b = I ∨ ∃ o, (b, o) ∈ fz ++ fz₀)
    (res : Nat → List Dat) (r0 : res 0 = [])
    (hass : ∀ (v : Value) (ov : Option Value) (ow : List (Addr × Obj)) (oI : Obj) (us : List Value) (k : Nat) (tl : List (Addr × Obj)) (s : Shared) (Q : Unit → Shared → Prop), Own ov ow → St s₀ S L m ((I, oI) :: (ow ++ (D, W.listOf us.toArray k) :: mu)) (tl ++ fz) s → (∀ ow' s', Own (some v) ow' → St s₀ S L m ((I, oI) :: (ow' ++ (D, W.listOf us.toArray k) :: mu)) (tl ++ fz) s' → Q () s') → wpAny (model prog w) A (assign (.Name x px) envC v) Q Nay s)
    (turn : ∀ i v oI ow (us : List Value) (k : Nat) tl s₁, i < n → P i v → Own (some v) ow → DatAll (tl ++ fz ++ fz₀) us (res i) → St s₀ S L m ((I, oI) :: (ow ++ (D, W.listOf us.toArray k) :: mu)) (tl ++ fz) s₁ →
      wpAny (model prog w) A (forIn ifs true fun c r => if r = true then do let ok ← isTrue c envC (eval c envC); pure (ForInStep.yield ok) else pure (ForInStep.yield r))
        (CompOk prog w A elt envC s₀ S L m ((I, oI) :: (ow ++ (D, W.listOf us.toArray k) :: mu)) fz fz₀ tl (res i) (res (i + 1))) Nay s₁)
    (fin : ∀ ov ow (us : List Value) (k : Nat) tl s', Own ov ow → St s₀ S L m (ow ++ (D, W.listOf us.toArray k) :: mu) (tl ++ fz) s' → DatAll (tl ++ fz ++ fz₀) us (res n) → RR (.ok .next) s')
    {o : Obj} {ov : Option Value} {ow : List (Addr × Obj)} (st : Sti 0 s.heap) (ho : Own ov ow) (C : St s₀ S L m ((I, o) :: (ow ++ (D, W.listOf ([] : List Value).toArray 0) :: mu)) fz s) :
    codeAny (model prog w) A (.compLoop (.ListComp elt [⟨.Name x px, iter, ifs, 0⟩] scope pos) 0 (.ref I) (.ref D) envC) RR s := by
  refine codeAny_compLoop_tests (CompInv n Sti Own s₀ S L m I D mu fz fz₀ res) ?_ n
    ⟨0, o, ow, ov, [], 0, [], Nat.zero_le _, rfl, st, ho, C, r0 ▸ .nil, Nat.le_refl _⟩
  clear C st ho
  rintro k s' ⟨i, oI, ow, ov, us, k', tl, hi, rfl, hst, ho, C, du, hul⟩
  by_cases hlt : i < n
  · refine Wk.item i _ _ _ hlt hst fun v h₂ tk₂ hP hst₂ hk₂ => ?_
    obtain ⟨oI', eI⟩ := hobj _ _ hst₂
    have C₂ := C.heap (Cx.turn (pre := []) C.cx (fun b o hb e => hk₂ b o (by simpa using hb) e) eI) tk₂
    refine wpAny_mono (E := Nay) ?_ (fun _ _ x => x) fun _ _ e => e.elim
    refine hass v ov ow oI' us k' tl _ _ ho C₂ fun ow' s₃ ho' C₃ => ?_
    refine wpAny_mono (turn i v oI' ow' us k' tl _ hlt hP ho' du C₃) (fun ok s₃ hok => ?_) fun _ _ e => e.elim
    obtain ⟨tl', C₄, hs, hok⟩ := hok
    have again : ∀ {s' : Shared} {us' : List Value} {k'' : Nat} {tl'' : List (Addr × Obj)}, St s₀ S L m ((I, oI') :: (ow' ++ (D, W.listOf us'.toArray k'') :: mu)) (tl'' ++ fz) s' → DatAll (tl'' ++ fz ++ fz₀) us' (res (i + 1)) → us'.length ≤ i + 1 →
        ∃ m', m' < n - i ∧ CompInv n Sti Own s₀ S L m I D mu fz fz₀ res m' s' := fun {s'} {us'} {k''} {tl''} C' du' hl' => by
      refine ⟨n - (i + 1), by omega, i + 1, oI', ow', _, us', k'', tl'', hlt, rfl, Wk.frame _ _ _ hst₂ fun b hb o' e => ?_, ho', C', du', hl'⟩
      rcases hfp b hb with rfl | ⟨ob, hm⟩
      · rw [eI] at e; rw [← e]; exact (C'.cx.mus _ (.head _)).1
      · have e₁ := C₂.cx.all Z _ (mem_in (a := tl) hm)
        rw [show h₂.get? b = some ob from e₁] at e
        rw [← e]; exact C'.cx.all Z _ (mem_in (a := tl'') hm)
    have lift : ∀ {a b : List (Addr × Obj)}, (∀ p ∈ a, p ∈ b) → ∀ p ∈ a ++ fz ++ fz₀, p ∈ b ++ fz ++ fz₀ := fun h p hp => by
      simp only [List.mem_append] at hp ⊢
      rcases hp with (q | q) | q
      · exact .inl (.inl (h p q))
      · exact .inl (.inr q)
      · exact .inr q
    cases ok with
    | false =>
      rw [if_neg Bool.false_ne_true] at hok ⊢
      exact again C₄ (hok ▸ du.mono (lift hs)) (by omega)
    | true =>
      rw [if_pos rfl] at hok ⊢
      refine wpAny_mono hok (fun y s₄ h₄ => ?_) fun _ _ e => e.elim
      obtain ⟨tl'', d, C₅, hs', dy, er⟩ := h₄
      have ul : us.length ≤ 1000 := by omega
      refine append_M (pre := (I, oI') :: ow') (post := mu) C₅ ul fun s₅ C₆ => again C₆ ?_ (by rw [List.length_append, List.length_singleton]; omega)
      rw [er]
      exact (du.mono (lift fun p hp => hs' p (hs p hp))).append (.one dy)
  · have hi' : i = n := by omega
    subst hi'
    refine Wk.done _ _ _ hst fun h₂ tk₂ hk₂ => ?_
    exact fin ov ow us k' tl _ ho (C.heap (C.cx.but fun b o hb e => hk₂ b o (by simpa using hb) e) _) du

noncomputable def OwnL (x : Str) (Ca : Addr) (ov : Option Value) (ow : List (Addr × Obj)) : Prop := ∃ oC mc, ow = [(Ca, oC)] ∧ NsObj oC mc ∧ ∀ v, ov = some v → mc x = some v

theorem comp_core {elt iter : Expr} {x : Str} {px : Pos} {ifs : List Expr} {scope : Scope} {cl : List (Str × Addr)} {pos : Pos} {I : Addr} {o : Obj} {fp : List Addr} {n : Nat} {P : Nat → Value → Prop} {Sti : Nat → Heap → Prop} {use : Option (Value → Sem Unit)} {Q : Value → Shared → Prop}
    (Wk : Walks prog w A I fp [I] n P Sti) (C : St s₀ S L m ((I, o) :: mu) fz s) (st : Sti 0 s.heap) (hobj : ∀ i h, Sti i h → ∃ o, h.get? I = some o) (hn : n ≤ 1000)
    (Z : ∀ p ∈ fz₀, s₀.heap.get? p.1 = some p.2 ∧ p.1 ∉ S) (hfp : ∀ b ∈ fp, b = I ∨ ∃ o, (b, o) ∈ fz ++ fz₀)
    (hcell : ∀ y ∈ scope.names, y.2 ≠ .cell) (hkind : scope.kind = .function) (hx : scope.names.lookup x = some .local)
    (res : Nat → List Dat) (r0 : res 0 = [])
    (turn : ∀ i v oI Ca oC mc D us k tl s₁, i < n → P i v → NsObj oC mc → mc x = some v → DatAll (tl ++ fz ++ fz₀) us (res i) → St s₀ S L m ((I, oI) :: (Ca, oC) :: (D, W.listOf us.toArray k) :: mu) (tl ++ fz) s₁ →
      wpAny (model prog w) A (forIn ifs true fun c r => if r = true then do let ok ← isTrue c (compEnvC scope cl Ca env) (eval c (compEnvC scope cl Ca env)); pure (ForInStep.yield ok) else pure (ForInStep.yield r))
        (CompOk prog w A elt (compEnvC scope cl Ca env) s₀ S L m ((I, oI) :: (Ca, oC) :: (D, W.listOf us.toArray k) :: mu) fz fz₀ tl (res i) (res (i + 1))) Nay s₁)
    (fin : ∀ Ca oC mc D us k tl s', St s₀ S L m ((Ca, oC) :: (D, W.listOf us.toArray k) :: mu) (tl ++ fz) s' → NsObj oC mc → DatAll (tl ++ fz ++ fz₀) us (res n) → compPost (model prog w) A E use Q (.ref D) Ca (.ok .next) s') :
    wpAny (model prog w) A (newList []) (fun acc s₃ => wpAny (model prog w) A (newFunctionEnv scope env.globals cl [] env.qual none .none (some env)) (fun cenv s₄ =>
      codeAny (model prog w) A (.compStart (.ListComp elt [⟨.Name x px, iter, ifs, 0⟩] scope pos) 0 (.ref I) acc { cenv with scope := relabel scope env }) (compPost (model prog w) A E use Q acc cenv.locals) s₄) E s₃) E s := by
  refine newList_M C (by simp) fun D s₁ C => ?_
  refine wpAny_newFunctionEnv hcell (by intro y hy; simp at hy) (fun h₁ hns₁ hsb₁ => ?_) hkind
  have hk₁ : ∀ b o, s₁.heap.get? b = some o → h₁.get? b = some o := fun b o e => hsb₁.extBut b o (Nat.ne_of_lt (Heap.lt_size e)) (Heap.get?_push_of_some _ e)
  obtain ⟨oC, heC, hoC⟩ := ns_obj hns₁
  have fresh : ∀ p, s₁.heap.get? p = none → s₀.heap.get? p = none := fun p e => by
    cases q : s₀.heap.get? p with
    | none => rfl
    | some o => obtain ⟨_, e'⟩ := C.cx.gro.2 p o q; rw [e] at e'; cases e'
  have C₁ : St s₀ S L m ((s₁.heap.objs.size, oC) :: (D, W.listOf ([] : List Value).toArray 0) :: (I, o) :: mu) fz { s₁ with heap := h₁, toks := s₁.toks + ([] : List (Str × Value)).length } :=
    C.heap ((C.cx.keeps hk₁).addM heC (fresh _ (get?_fresh _)) (Nat.ne_of_gt C.cx.lt) (fun p hp => Nat.ne_of_lt (Heap.lt_size (C.cx.mus p hp).1)) fun q hq => Nat.ne_of_lt (Heap.lt_size (C.cx.fzs q hq).1)) _
  have C₁ : St s₀ S L m ((I, o) :: (s₁.heap.objs.size, oC) :: (D, W.listOf ([] : List Value).toArray 0) :: mu) fz { s₁ with heap := h₁, toks := s₁.toks + ([] : List (Str × Value)).length } := by
    have := C₁.swap3.swap3
    exact this
  have hst₁ : Sti 0 h₁ := Wk.frame _ _ _ st fun b hb o' e => by
    rcases hfp b hb with rfl | ⟨ob, hm⟩
    · obtain ⟨o₁, e₁⟩ := hobj _ _ st
      have := (C₁.cx.mus _ (.head _)).1
      have e₀ := (‹St s₀ S L m ((b, o) :: mu) fz s›.cx.mus _ (.head _)).1
      rw [e₀] at e; rw [← e]; exact this
    · have e₀ := (‹St s₀ S L m ((I, o) :: mu) fz s›.cx.all Z _ hm)
      rw [show s.heap.get? b = some ob from e₀] at e; rw [← e]; exact C₁.cx.all Z _ hm
  refine (fun loop => codeAny_compStart_list loop (Wk.self 0 _ _ _ hst₁ loop)) (?_ : codeAny (model prog w) A (.compLoop (.ListComp elt [⟨.Name x px, iter, ifs, 0⟩] scope pos) 0 (.ref I) (.ref D) (compEnvC scope cl s₁.heap.objs.size env)) (compPost (model prog w) A E use Q (.ref D) s₁.heap.objs.size) { s₁ with heap := h₁, toks := s₁.toks + ([] : List (Str × Value)).length })
  generalize s₁.heap.objs.size = Ca at hoC C₁ ⊢
  refine comp_gen (Own := OwnL x Ca) (ov := none) (ow := [(Ca, oC)]) Wk hobj hn Z hfp res r0 (fun v ov ow oI us k tl s Q ho C k' => ?_) (fun i v oI ow us k tl s₁ hi hP ho du C => ?_) (fun ov ow us k tl s' ho C du => ?_) hst₁ ⟨oC, _, rfl, hoC, fun v e => nomatch e⟩ C₁
  · obtain ⟨oC, mc, rfl, hoC, _⟩ := ho
    refine wpAny_assign_Name (wpAny_storeName_local (lookup_relabel_local hx) (hoC.ns (C.cx.mus _ (.tail _ (.head _))).1) (fun h₃ hn₃ hs₃ => ?_) (by simp [compEnvC, relabel, hkind]))
    obtain ⟨oC', eC', hoC'⟩ := ns_obj hn₃
    exact k' [(Ca, oC')] _ ⟨oC', _, rfl, hoC', fun v' e => by cases e; simp⟩ (C.heap (Cx.turn (pre := [(I, oI)]) C.cx hs₃.extBut eC') _)
  · obtain ⟨oC, mc, rfl, hoC, hv⟩ := ho
    exact turn i v oI Ca oC mc D us k tl s₁ hi hP hoC (hv v rfl) du C
  · obtain ⟨oC, mc, rfl, hoC, _⟩ := ho
    exact fin Ca oC mc D us k tl s' C hoC du

noncomputable def CompTurn (s₀ : Shared) (S : List Addr) (L : Addr) (m : Str → Option Value) (fz₀ : List (Addr × Obj)) (prog : Program) (w : World) (A : Around) (env : Env) (elt : Expr) (ifs : List Expr) (scope : Scope) (cl : List (Str × Addr)) (x : Str) (mu fz : List (Addr × Obj)) (vs : List Value) (res : Nat → List Dat) : Prop :=
  ∀ i v oI Ca oC mc D I us k tl s₁, vs[i]? = some v → NsObj oC mc → mc x = some v → DatAll (tl ++ fz ++ fz₀) us (res i) → St s₀ S L m ((I, oI) :: (Ca, oC) :: (D, W.listOf us.toArray k) :: mu) (tl ++ fz) s₁ →
    wpAny (model prog w) A (forIn ifs true fun c r => if r = true then do let ok ← isTrue c (compEnvC scope cl Ca env) (eval c (compEnvC scope cl Ca env)); pure (ForInStep.yield ok) else pure (ForInStep.yield r))
      (CompOk prog w A elt (compEnvC scope cl Ca env) s₀ S L m ((I, oI) :: (Ca, oC) :: (D, W.listOf us.toArray k) :: mu) fz fz₀ tl (res i) (res (i + 1))) Nay s₁
noncomputable def CompAt (s₀ : Shared) (S : List Addr) (L : Addr) (m : Str → Option Value) (fz₀ : List (Addr × Obj)) (prog : Program) (w : World) (A : Around) (env : Env) (elt : Expr) (ifs : List Expr) (scope : Scope) (cl : List (Str × Addr)) (x : Str) (Fin : List (Addr × Obj) → List (Addr × Obj) → List Dat → Prop) (v : Value) (s₁ : Shared) : Prop :=
  ∃ (l : Addr) (vs : List Value) (nn : Nat) (mu fz : List (Addr × Obj)) (res : Nat → List Dat), v = .ref l ∧ vs.length ≤ 1000 ∧ St s₀ S L m mu fz s₁ ∧ ((l, W.listOf vs.toArray nn) ∈ fz ++ fz₀ ∨ (l, ({ cls := .type "tuple", data := .seq vs.toArray nn } : Obj)) ∈ fz ++ fz₀) ∧ res 0 = [] ∧
    CompTurn s₀ S L m fz₀ prog w A env elt ifs scope cl x mu fz vs res ∧ Fin mu fz (res vs.length)
noncomputable def FinE (s₀ : Shared) (S : List Addr) (L : Addr) (m : Str → Option Value) (fz₀ : List (Addr × Obj)) (Q : Value → Shared → Prop) (mu fz : List (Addr × Obj)) (ds : List Dat) : Prop :=
  ∀ D us k tl s', St s₀ S L m ((D, W.listOf us.toArray k) :: mu) (tl ++ fz) s' → DatAll (tl ++ fz ++ fz₀) us ds → Q (.ref D) s'
noncomputable def FinA (s₀ : Shared) (S : List Addr) (L : Addr) (m : Str → Option Value) (fz₀ : List (Addr × Obj)) (y : Str) (Q : Flow → Shared → Prop) (mu fz : List (Addr × Obj)) (ds : List Dat) : Prop :=
  ∀ D us k tl s', St s₀ S L (fun z => if z = y then some (.ref D) else m z) ((D, W.listOf us.toArray k) :: mu) (tl ++ fz) s' → DatAll (tl ++ fz ++ fz₀) us ds → Q .next s'

theorem ev_listcomp {elt iter : Expr} {x : Str} {px : Pos} {ifs : List Expr} {scope : Scope} {cl : List (Str × Addr)} {pos : Pos} {Q : Value → Shared → Prop}
    (hh : A.handled = none) (Z : ∀ p ∈ fz₀, s₀.heap.get? p.1 = some p.2 ∧ p.1 ∉ S)
    (h : wpAny (model prog w) A (eval iter env) (CompAt s₀ S L m fz₀ prog w A env elt ifs scope cl x (FinE s₀ S L m fz₀ Q)) E s)
    (hclos : closureFor scope env = pure cl := by rfl) (hcell : ∀ y ∈ scope.names, y.2 ≠ .cell := by decide) (hkind : scope.kind = .function := by rfl)
    (hnames : ∀ y ∈ scope.names, y.2 = .local → scope.names.lookup y.1 = some .local := by decide) (hx : scope.names.lookup x = some .local := by rfl)
    (hs : ∀ x, foldedSetIterable iter env x = pure x := by intro _; rfl) :
    wpAny (model prog w) A (eval (.ListComp elt [⟨.Name x px, iter, ifs, 0⟩] scope pos) env) Q E s := by
  rw [eval_ListComp]
  refine wpAny_comprehension_free (use := none) rfl hs hclos hkind hnames (wpAny_mono h (fun xv s₁ h₁ => ?_) fun _ _ e => e)
  obtain ⟨l, vs, nn, mu, fz, res, rfl, hlen, C, hl | hl, r0, turn, fin⟩ := h₁
  · have hol := C.cx.all Z _ hl
    have hne : l ≠ s₁.heap.objs.size := Nat.ne_of_lt (Heap.lt_size hol)
    refine wpAny_pyIter_list (listOf_is hol) ?_
    refine comp_core (fz₀ := fz₀) (Walks.list hh s₁.heap.objs.size l hne vs.toArray) (C.heap' (C.cx.pushM (o := itO l 0) rfl)) ⟨⟨_, Heap.get?_push_size _ rfl, rfl, rfl⟩, (listOf_is hol).push _⟩ (fun i h hs => let ⟨o, e, _⟩ := hs.1; ⟨o, e⟩) (by rw [List.size_toArray]; exact hlen) Z (fun b hb => ?_) hcell hkind hx res r0
      (fun i v oI Ca oC mc D us k tl s₂ _ hP h1 h2 h3 h4 => turn i v oI Ca oC mc D _ us k tl s₂ (by simpa using hP) h1 h2 h3 h4) (fun Ca oC mc D us k tl s' C hoC du => ⟨mc, hoC.ns (C.cx.mus _ (.head _)).1, fun h' hs' => fin D us k tl _ (C.heap' (C.cx.but fun b o hb e => hs'.extBut b o hb e)) (by simpa using du)⟩)
    rcases List.mem_cons.mp hb with q | q
    · exact .inl q
    · exact .inr ⟨_, (by rw [List.mem_singleton.mp q]; exact hl)⟩
  · have hol := C.cx.all Z _ hl
    have hT : s₁.heap.IsTuple l vs.toArray := ⟨_, hol, rfl, nn, rfl⟩
    have hne : l ≠ s₁.heap.objs.size := Nat.ne_of_lt (Heap.lt_size hol)
    refine wpAny_pyIter_tuple hT ?_
    refine comp_core (fz₀ := fz₀) (Walks.tuple hh s₁.heap.objs.size l hne vs.toArray) (C.heap' (C.cx.pushM (o := _) rfl)) ⟨⟨_, Heap.get?_push_size _ rfl, rfl, rfl⟩, hT.push _⟩ (fun i h hs => let ⟨o, e, _⟩ := hs.1; ⟨o, e⟩) (by rw [List.size_toArray]; exact hlen) Z (fun b hb => ?_) hcell hkind hx res r0
      (fun i v oI Ca oC mc D us k tl s₂ _ hP h1 h2 h3 h4 => turn i v oI Ca oC mc D _ us k tl s₂ (by simpa using hP) h1 h2 h3 h4) (fun Ca oC mc D us k tl s' C hoC du => ⟨mc, hoC.ns (C.cx.mus _ (.head _)).1, fun h' hs' => fin D us k tl _ (C.heap' (C.cx.but fun b o hb e => hs'.extBut b o hb e)) (by simpa using du)⟩)
    rcases List.mem_cons.mp hb with q | q
    · exact .inl q
    · exact .inr ⟨_, (by rw [List.mem_singleton.mp q]; exact hl)⟩

theorem as_listcomp {elt iter : Expr} {x y : Str} {px py : Pos} {ifs : List Expr} {scope : Scope} {cl : List (Str × Addr)} {pos spos : Pos} {Q : Flow → Shared → Prop}
    (hh : A.handled = none) (Z : ∀ p ∈ fz₀, s₀.heap.get? p.1 = some p.2 ∧ p.1 ∉ S)
    (h : wpAny (model prog w) A (eval iter env) (CompAt s₀ S env.locals m fz₀ prog w A env elt ifs scope cl x (FinA s₀ S env.locals m fz₀ y Q)) E s)
    (hsw : swapsWith (.ListComp elt [⟨.Name x px, iter, ifs, 0⟩] scope pos) (some (.Name y py)) spos.line env = pure true := by with_unfolding_all rfl)
    (hclos : closureFor scope env = pure cl := by rfl) (hcell : ∀ y ∈ scope.names, y.2 ≠ .cell := by decide) (hkind : scope.kind = .function := by rfl)
    (hnames : ∀ y ∈ scope.names, y.2 = .local → scope.names.lookup y.1 = some .local := by decide) (hx : scope.names.lookup x = some .local := by rfl)
    (hy : env.kindOf y = some .local := by rfl) (hp : (env.scope.kind == .class || (env.scope.kind == .module && env.locals != env.globals)) = false := by rfl)
    (hs : ∀ x, foldedSetIterable iter env x = pure x := by intro _; rfl) :
    wpAny (model prog w) A (exec (.Assign [.Name y py] (.ListComp elt [⟨.Name x px, iter, ifs, 0⟩] scope pos) spos) env) Q E s := by
  rw [exec_Assign_Name_used _ _ _ _ hsw]
  refine wpAny_bind (wpAny_standAt (wpAny_bind ?_))
  show wpAny _ A (do let _ ← comprehension (.ListComp elt [⟨.Name x px, iter, ifs, 0⟩] scope pos) scope env _ (newList []) false (eval iter env) (some (assign (.Name y py) env))) _ _ s
  refine wpAny_bind (wpAny_mono (wpAny_comprehension_free (use := some (assign (.Name y py) env)) (Q := fun _ s' => Q .next s') rfl hs hclos hkind hnames
    (wpAny_mono h (fun xv s₁ h₁ => ?_) fun _ _ e => e)) (fun _ s' hq => wpAny_pure (wpAny_pure hq)) fun _ _ e => e)
  obtain ⟨l, vs, nn, mu, fz, res, rfl, hlen, C, hl | hl, r0, turn, fin⟩ := h₁
  · have hol := C.cx.all Z _ hl
    have hne : l ≠ s₁.heap.objs.size := Nat.ne_of_lt (Heap.lt_size hol)
    refine wpAny_pyIter_list (listOf_is hol) ?_
    refine comp_core (fz₀ := fz₀) (Walks.list hh s₁.heap.objs.size l hne vs.toArray) (C.heap' (C.cx.pushM (o := itO l 0) rfl)) ⟨⟨_, Heap.get?_push_size _ rfl, rfl, rfl⟩, (listOf_is hol).push _⟩ (fun i h hs => let ⟨o, e, _⟩ := hs.1; ⟨o, e⟩) (by rw [List.size_toArray]; exact hlen) Z (fun b hb => ?_) hcell hkind hx res r0
      (fun i v oI Ca oC mc D us k tl s₂ _ hP h1 h2 h3 h4 => turn i v oI Ca oC mc D _ us k tl s₂ (by simpa using hP) h1 h2 h3 h4) (fun Ca oC mc D us k tl s' C hoC du => by
        show wpAny _ A (assign (.Name y py) env (.ref D)) _ _ _
        refine wpAny_assign_Name (st_L C (fun s₂ C => ?_) hy hp)
        exact ⟨mc, hoC.ns (C.cx.mus _ (.head _)).1, fun h' hs' => fin D us k tl _ (C.heap' (C.cx.but fun b o hb e => hs'.extBut b o hb e)) (by simpa using du)⟩)
    rcases List.mem_cons.mp hb with q | q
    · exact .inl q
    · exact .inr ⟨_, (by rw [List.mem_singleton.mp q]; exact hl)⟩
  · have hol := C.cx.all Z _ hl
    have hT : s₁.heap.IsTuple l vs.toArray := ⟨_, hol, rfl, nn, rfl⟩
    have hne : l ≠ s₁.heap.objs.size := Nat.ne_of_lt (Heap.lt_size hol)
    refine wpAny_pyIter_tuple hT ?_
    refine comp_core (fz₀ := fz₀) (Walks.tuple hh s₁.heap.objs.size l hne vs.toArray) (C.heap' (C.cx.pushM (o := _) rfl)) ⟨⟨_, Heap.get?_push_size _ rfl, rfl, rfl⟩, hT.push _⟩ (fun i h hs => let ⟨o, e, _⟩ := hs.1; ⟨o, e⟩) (by rw [List.size_toArray]; exact hlen) Z (fun b hb => ?_) hcell hkind hx res r0
      (fun i v oI Ca oC mc D us k tl s₂ _ hP h1 h2 h3 h4 => turn i v oI Ca oC mc D _ us k tl s₂ (by simpa using hP) h1 h2 h3 h4) (fun Ca oC mc D us k tl s' C hoC du => by
        show wpAny _ A (assign (.Name y py) env (.ref D)) _ _ _
        refine wpAny_assign_Name (st_L C (fun s₂ C => ?_) hy hp)
        exact ⟨mc, hoC.ns (C.cx.mus _ (.head _)).1, fun h' hs' => fin D us k tl _ (C.heap' (C.cx.but fun b o hb e => hs'.extBut b o hb e)) (by simpa using du)⟩)
    rcases List.mem_cons.mp hb with q | q
    · exact .inl q
    · exact .inr ⟨_, (by rw [List.mem_singleton.mp q]; exact hl)⟩
end
end Mine

namespace Mine
open PySem PySem.W PySem.Calls PySem.Spec PyProof.Rows
open LCg (NsObj ns_obj)

theorem cellsAre_addrs {cm : Str → Option Value} : ∀ {cs : List (Str × Addr)} {cells : List (Addr × Obj)}, CellsAre cm cs cells → cells.map (·.1) = cs.map (·.2) := by
  intro cs cells h
  induction h with
  | nil => rfl
  | cons _ _ ih => exact congrArg _ ih

section
variable {prog : Program} {w : World} {K : Frag} {B : Heap} {mg mb : Str → Option Value} {A : Around} {E : Value → Shared → Prop} {s s₀ : Shared} {fr : List Env} {d u : Nat}

theorem enterX {oc : Value} {od : Option Addr} {osl : Array (Option Value)} {f : Addr} {name qual : Str} {params : Arguments} {body : List Stmt} {scope : Scope} {dV kV doc pm cdv ct : Value} {an : Option Addr} {args : List Value} {binds : List (Str × Value)}
    {Q : Value → Shared → Prop} {P : Value → List (Addr × Obj) → Prop} (am : Amb K B mg mb)
    (ho : K.lookup f = some ⟨oc, od, .func (fnX name qual params body scope [] dV kV doc pm an cdv ct), osl⟩) (hcd : codeIn K cdv qual = true)
    (R : Room A fr (d + 1) (u + 3)) (X : Act B s.heap fr)
    (hbind : BindsTo s (fnX name qual params body scope [] dV kV doc pm an cdv ct) ⟨args, []⟩ binds)
    (h : ∀ L cells s₁, St s (frs fr) L (bindL (envOfC qual scope L f cdv).kindOf binds fun _ => none) cells [] s₁ → CellsAre (bindC (envOfC qual scope L f cdv).kindOf binds fun _ => none) (cellsFrom (L + 1) scope.names []) cells →
      Act B s₁.heap (envOfC qual scope L f cdv :: fr) → Room (A.deeper (envOfC qual scope L f cdv)) (envOfC qual scope L f cdv :: fr) d u →
      wpAny (model prog w) (A.deeper (envOfC qual scope L f cdv)) (execs body (envOfC qual scope L f cdv)) (End (frs fr) s L P) Nay s₁)
    (k : Ret fr s Q P)
    (hkind : ∀ n, ∀ x ∈ binds, scope.names.lookup x.1 = some .local ∨ (scope.names.lookup x.1 = some .cell ∧ ((cellsFrom n scope.names []).lookup x.1).isSome = true))
    (hnd : ((cellsFrom 0 scope.names []).map (·.1)).Nodup := by decide)
    (hco : scope.isCoroutine = false := by rfl) (hgen : scope.isGenerator = false := by rfl) (hk : scope.kind = .function := by rfl) :
    wpAny (model prog w) A (call (.ref f) args) Q E s := by
  refine wpAny_call (codeAny_call_function (by have := R.depth; omega) (X.stays _ _ (am.K _ _ ho)) rfl hco hgen rfl (codeRec_of (fun a o e => X.stays _ _ (am.K a o e)) hcd) (hbind _ _ _ _ ?_))
  refine wpAny_newFunctionEnv_cells hk (hkind _) fun env' he s' x => ?_
  subst he
  refine ⟨(am.nolimit.keeps X.stays).keeps x.toInCall.keep, codeAny_func ?_⟩
  obtain ⟨h₁, tk, rfl, _⟩ := x.done
  have hk₁ := x.toInCall.keep
  obtain ⟨cells, NC, Y⟩ := Cl.news (h₀ := s.heap) (L := s.heap.objs.size) (Nat.le_refl _) fun n c hm => ⟨x.cell n c (lookup_of_mem_nodup (cellsFrom_names scope.names 0 (s.heap.objs.size + 1) [] [] rfl ▸ hnd) hm), x.above n c hm⟩
  have C : Cx (frs fr) s.heap s.heap.objs.size (bindL (envOfC qual scope s.heap.objs.size f cdv).kindOf binds fun _ => none) cells [] h₁ :=
    ⟨x.toInCall.ns, .of_keeps hk₁, get?_fresh _, Nat.le_refl _, fun p hp => ⟨(NC p hp).1, (NC p hp).2.2, (NC p hp).2.1⟩, fun _ hp => (nomatch hp), fun _ _ _ hq => (nomatch hq), by
      rw [cellsAre_addrs Y]
      exact List.pairwise_map.mpr x.apart⟩
  refine wpAny_mono (h s.heap.objs.size cells _ ⟨C, rfl, rfl, rfl⟩ Y (C.act X rfl hk) (R.deeper _)) (fun fl s' hl => ?_) fun _ _ e => e.elim
  obtain ⟨m, mu, tl, C', hP⟩ := hl
  exact k _ s' tl C'.same C'.cx.gro (fun p hp => ⟨(C'.cx.fzs p hp).1, (C'.cx.fzs p hp).2.1⟩) hP

section
variable {S : List Addr} {L : Addr} {m : Str → Option Value} {mu fz pre post : List (Addr × Obj)} {M : Model} {env : Env}
theorem ev_cell {x : Str} {pos : Pos} {v : Value} {c : Addr} {o : Obj} {Q : Value → Shared → Prop} (C : St s₀ S L m mu fz s) (hm : (c, o) ∈ mu) (hc : env.cells.lookup x = some c) (hd : o.data = .cell (some v)) (h : Q v s)
    (hk : env.scope.kind = .function := by rfl) (hx : env.kindOf x = some .cell := by rfl) (hb : (x == ("__debug__" : Str)) = false := by decide) : wpAny M A (eval (.Name x pos) env) Q E s :=
  ev_C ⟨o, (C.cx.mus _ hm).1, hd⟩ hc h hk hx hb
theorem st_cell {x : Str} {v : Value} {c : Addr} {o : Obj} {ov : Option Value} {Q : Unit → Shared → Prop} (C : St s₀ S L m (pre ++ (c, o) :: post) fz s) (hc : env.cells.lookup x = some c) (hd : o.data = .cell ov)
    (h : ∀ o' s', o'.data = .cell (some v) → St s₀ S L m (pre ++ (c, o') :: post) fz s' → Q () s') (hk : env.scope.kind = .function := by rfl) (hx : env.kindOf x = some .cell := by rfl) : wpAny M A (storeName env x v) Q E s := by
  refine wpAny_storeName_cell hk hx hc ⟨o, (C.cx.mus (c, o) (by simp)).1, hd⟩ fun h' hv hs => ?_
  obtain ⟨o', ho', hd'⟩ := hv
  exact h o' _ hd' (C.heap' (C.cx.turn hs.extBut ho'))
end
end
end Mine

namespace Mine
open PySem PySem.W PySem.Calls PySem.Spec PyProof.Rows
open PySem.SeqAt (EqAt)

noncomputable def slt : List Str → List Str → Bool
  | [], [] => false
  | [], _ :: _ => true
  | _ :: _, [] => false
  | x :: xs, y :: ys => if x = y then slt xs ys else decide (x.cps.toList < y.cps.toList)

theorem slt_cons (x y : Str) (xs ys : List Str) : slt (x :: xs) (y :: ys) = if x = y then slt xs ys else decide (x.cps.toList < y.cps.toList) := rfl
theorem end_eq {a b i : Nat} (ha : i ≤ a) (hb : i ≤ b) (h : a ≤ i ∨ b ≤ i) : decide (a < b) = decide (a ≤ i ∧ i < b) :=
  decide_eq_decide.mpr ⟨fun q => ⟨h.elim id fun e => absurd (Nat.lt_of_lt_of_le q (Nat.le_trans e ha)) (Nat.lt_irrefl _), Nat.lt_of_le_of_lt ha q⟩, fun q => Nat.lt_of_le_of_lt q.1 q.2⟩
theorem strs_get {led : List (Addr × Obj)} {vs : List Value} {xs : List Str} (h : DatAll led vs (xs.map .str)) (i : Nat) : (∃ x t, xs[i]? = some x ∧ vs[i]? = some (.str x t)) ∨ (xs[i]? = none ∧ vs[i]? = none) := by
  cases hx : xs[i]? with
  | none =>
    refine .inr ⟨rfl, ?_⟩
    have := h.length
    rw [List.length_map] at this
    rw [List.getElem?_eq_none_iff] at hx ⊢
    rw [this]; exact hx
  | some x =>
    obtain ⟨v, hv, dv⟩ := DatAll.get? h (k := i) (d := .str x) (by rw [List.getElem?_map, hx]; rfl)
    obtain ⟨t, rfl⟩ := DatIn.str_inv dv
    exact .inl ⟨x, t, rfl, hv⟩
theorem slt_drop_cons {xs ys : List Str} {i : Nat} {x y : Str} (hx : xs[i]? = some x) (hy : ys[i]? = some y) : slt (xs.drop i) (ys.drop i) = if x = y then slt (xs.drop (i + 1)) (ys.drop (i + 1)) else decide (x.cps.toList < y.cps.toList) := by
  obtain ⟨h1, e1⟩ := List.getElem?_eq_some_iff.mp hx
  obtain ⟨h2, e2⟩ := List.getElem?_eq_some_iff.mp hy
  rw [List.drop_eq_getElem_cons h1, List.drop_eq_getElem_cons h2, e1, e2, slt_cons]
theorem slt_drop_end {xs ys : List Str} {i : Nat} (h : xs[i]? = none ∨ ys[i]? = none) : slt (xs.drop i) (ys.drop i) = (decide (xs.length ≤ i ∧ i < ys.length)) := by
  by_cases h1 : xs.length ≤ i
  · rw [List.drop_eq_nil_of_le h1]
    by_cases h2 : i < ys.length
    · rw [List.drop_eq_getElem_cons h2]; exact (decide_eq_true ⟨h1, h2⟩).symm
    · rw [List.drop_eq_nil_of_le (by omega)]; exact (decide_eq_false fun h => h2 h.2).symm
  · have h2 : ys.length ≤ i := by
      rcases h with h | h
      · rw [List.getElem?_eq_none_iff] at h; omega
      · rwa [List.getElem?_eq_none_iff] at h
    rw [List.drop_eq_nil_of_le h2, List.drop_eq_getElem_cons (by omega : i < xs.length)]
    exact (decide_eq_false fun h => h1 h.1).symm

section
variable {prog : Program} {w : World} {A : Around} {E : Value → Shared → Prop} {s : Shared}

theorem listItems_at {l : Addr} {items : Array Value} {n : Nat} {M : Model} {Q : Array Value → Shared → Prop} (hl : s.heap.get? l = some (W.listOf items n)) (h : Q items s) : wpAny M A (Builtin.List.listItems (.ref l)) Q E s := by
  unfold Builtin.List.listItems
  exact wpAny_bind (wpAny_seqItems hl rfl (wpAny_pure h))

theorem lt_loop {led : List (Addr × Obj)} {l b : Addr} {vs us : List Value} {n n' : Nat} {xs ys : List Str} {R : Result → Shared → Prop} (hl : s.heap.get? l = some (W.listOf vs.toArray n)) (hb : s.heap.get? b = some (W.listOf us.toArray n')) (dx : DatAll led vs (xs.map .str)) (dy : DatAll led us (ys.map .str)) :
    ∀ k i, xs.length - i = k → i ≤ xs.length → i ≤ ys.length → R (.ok (.ret (.bool (slt (xs.drop i) (ys.drop i))))) s → codeAny (model prog w) A (.builtin "list.__eq__.loop" ⟨[.ref l, .ref b, rawInt i, rawInt 0], []⟩) R s := by
  have lx : vs.length = xs.length := by rw [dx.length, List.length_map]
  have ly : us.length = ys.length := by rw [dy.length, List.length_map]
  intro k
  induction k with
  | zero =>
    intro i hk hix hiy h
    refine codeAny_builtin MeetsSeq3.entry_eq_loop ?_
    rw [Around.under_plainId MeetsSeq3.plain_eq_loop _]
    show wpAny _ _ (Builtin.List.listItems (.ref l) >>= _) _ _ _
    refine wpAny_bind (listItems_at hl (wpAny_bind (listItems_at hb ?_)))
    have hx : xs[i]? = none := List.getElem?_eq_none_iff.mpr (Nat.le_of_sub_eq_zero hk)
    have hv : vs.toArray[((i : Nat) : Int).toNat]? = none := by rw [List.getElem?_toArray]; exact List.getElem?_eq_none_iff.mpr (lx ▸ Nat.le_of_sub_eq_zero hk)
    rw [hv]
    refine wpAny_bind (listItems_at hl (wpAny_bind (listItems_at hb (wpAny_pure ?_))))
    rw [slt_drop_end (.inl hx)] at h
    have e1 : vs.toArray.size = xs.length := by rw [List.size_toArray, lx]
    have e2 : us.toArray.size = ys.length := by rw [List.size_toArray, ly]
    show R (.ok (.ret (.bool (decide (vs.toArray.size < us.toArray.size))))) s
    rw [e1, e2]
    rw [end_eq hix hiy (.inl (Nat.le_of_sub_eq_zero hk))]; exact h
  | succ k ih =>
    intro i hk hix hiy h
    refine codeAny_builtin MeetsSeq3.entry_eq_loop ?_
    rw [Around.under_plainId MeetsSeq3.plain_eq_loop _]
    show wpAny _ _ (Builtin.List.listItems (.ref l) >>= _) _ _ _
    refine wpAny_bind (listItems_at hl (wpAny_bind (listItems_at hb ?_)))
    rcases strs_get dx i with ⟨x, tx, hx, hv⟩ | ⟨hx, hv⟩
    · have hv' : vs.toArray[((i : Nat) : Int).toNat]? = some (.str x tx) := by simpa using hv
      rw [hv']
      rcases strs_get dy i with ⟨y, ty, hy, hu⟩ | ⟨hy, hu⟩
      · have hu' : us.toArray[((i : Nat) : Int).toNat]? = some (.str y ty) := by simpa using hu
        rw [hu']
        rw [slt_drop_cons hx hy] at h
        refine wpAny_bind (wpAny_eqBool_str ?_)
        by_cases hxy : x = y
        · rw [decide_eq_true hxy, if_pos rfl]
          rw [if_pos hxy] at h
          refine wpAny_pure ⟨plainId_quiet MeetsSeq3.plain_eq_loop _, ?_⟩
          have hc : ((i : Int) + 1) = ((i + 1 : Nat) : Int) := by push_cast; rfl
          rw [hc]
          exact ih (i + 1) (by rw [Nat.sub_succ, hk]; rfl) (List.getElem?_eq_some_iff.mp hx).1 (List.getElem?_eq_some_iff.mp hy).1 h
        · rw [decide_eq_false hxy, if_neg Bool.false_ne_true]
          rw [if_neg hxy] at h
          refine wpAny_bind (listItems_at hl (wpAny_bind (listItems_at hb ?_)))
          rw [hv', hu']
          show wpAny _ _ (richCompare .Lt (.str x tx) (.str y ty) >>= ret) _ _ _
          refine wpAny_bind ?_
          exact lt_str (prog := prog) (wpAny_pure h)
      · have hu' : us.toArray[((i : Nat) : Int).toNat]? = none := by
          rw [List.getElem?_toArray]; simpa using hu
        rw [hu']
        refine wpAny_bind (listItems_at hl (wpAny_bind (listItems_at hb (wpAny_pure ?_))))
        rw [slt_drop_end (.inr hy)] at h
        have e1 : vs.toArray.size = xs.length := by rw [List.size_toArray, lx]
        have e2 : us.toArray.size = ys.length := by rw [List.size_toArray, ly]
        have hyl : ys.length ≤ i := by rwa [List.getElem?_eq_none_iff] at hy
        show R (.ok (.ret (.bool (decide (vs.toArray.size < us.toArray.size))))) s
        rw [e1, e2]
        rw [end_eq hix hiy (.inr hyl)]; exact h
    · rw [Nat.sub_eq_zero_of_le (List.getElem?_eq_none_iff.mp hx)] at hk
      cases hk

theorem gt_loop {led : List (Addr × Obj)} {l b : Addr} {vs us : List Value} {n n' : Nat} {xs ys : List Str} {R : Result → Shared → Prop} (hl : s.heap.get? l = some (W.listOf vs.toArray n)) (hb : s.heap.get? b = some (W.listOf us.toArray n')) (dx : DatAll led vs (xs.map .str)) (dy : DatAll led us (ys.map .str)) :
    ∀ k i, xs.length - i = k → i ≤ xs.length → i ≤ ys.length → R (.ok (.ret (.bool (slt (ys.drop i) (xs.drop i))))) s → codeAny (model prog w) A (.builtin "list.__eq__.loop" ⟨[.ref l, .ref b, rawInt i, rawInt 4], []⟩) R s := by
  have lx : vs.length = xs.length := by rw [dx.length, List.length_map]
  have ly : us.length = ys.length := by rw [dy.length, List.length_map]
  intro k
  induction k with
  | zero =>
    intro i hk hix hiy h
    refine codeAny_builtin MeetsSeq3.entry_eq_loop ?_
    rw [Around.under_plainId MeetsSeq3.plain_eq_loop _]
    show wpAny _ _ (Builtin.List.listItems (.ref l) >>= _) _ _ _
    refine wpAny_bind (listItems_at hl (wpAny_bind (listItems_at hb ?_)))
    have hx : xs[i]? = none := List.getElem?_eq_none_iff.mpr (Nat.le_of_sub_eq_zero hk)
    have hv : vs.toArray[((i : Nat) : Int).toNat]? = none := by rw [List.getElem?_toArray]; exact List.getElem?_eq_none_iff.mpr (lx ▸ Nat.le_of_sub_eq_zero hk)
    rw [hv]
    refine wpAny_bind (listItems_at hl (wpAny_bind (listItems_at hb (wpAny_pure ?_))))
    rw [slt_drop_end (.inr hx)] at h
    have e1 : vs.toArray.size = xs.length := by rw [List.size_toArray, lx]
    have e2 : us.toArray.size = ys.length := by rw [List.size_toArray, ly]
    show R (.ok (.ret (.bool (decide (vs.toArray.size > us.toArray.size))))) s
    rw [e1, e2]
    show R (.ok (.ret (.bool (decide (ys.length < xs.length))))) s
    rw [end_eq hiy hix (.inr (Nat.le_of_sub_eq_zero hk))]; exact h
  | succ k ih =>
    intro i hk hix hiy h
    refine codeAny_builtin MeetsSeq3.entry_eq_loop ?_
    rw [Around.under_plainId MeetsSeq3.plain_eq_loop _]
    show wpAny _ _ (Builtin.List.listItems (.ref l) >>= _) _ _ _
    refine wpAny_bind (listItems_at hl (wpAny_bind (listItems_at hb ?_)))
    rcases strs_get dx i with ⟨x, tx, hx, hv⟩ | ⟨hx, hv⟩
    · have hv' : vs.toArray[((i : Nat) : Int).toNat]? = some (.str x tx) := by simpa using hv
      rw [hv']
      rcases strs_get dy i with ⟨y, ty, hy, hu⟩ | ⟨hy, hu⟩
      · have hu' : us.toArray[((i : Nat) : Int).toNat]? = some (.str y ty) := by simpa using hu
        rw [hu']
        rw [slt_drop_cons hy hx] at h
        refine wpAny_bind (wpAny_eqBool_str ?_)
        by_cases hxy : x = y
        · rw [decide_eq_true hxy, if_pos rfl]
          rw [if_pos hxy.symm] at h
          refine wpAny_pure ⟨plainId_quiet MeetsSeq3.plain_eq_loop _, ?_⟩
          have hc : ((i : Int) + 1) = ((i + 1 : Nat) : Int) := by push_cast; rfl
          rw [hc]
          exact ih (i + 1) (by rw [Nat.sub_succ, hk]; rfl) (List.getElem?_eq_some_iff.mp hx).1 (List.getElem?_eq_some_iff.mp hy).1 h
        · rw [decide_eq_false hxy, if_neg Bool.false_ne_true]
          rw [if_neg (fun e => hxy e.symm)] at h
          refine wpAny_bind (listItems_at hl (wpAny_bind (listItems_at hb ?_)))
          rw [hv', hu']
          show wpAny _ _ (richCompare .Gt (.str x tx) (.str y ty) >>= ret) _ _ _
          refine wpAny_bind ?_
          exact P.gt_str (prog := prog) (wpAny_pure h)
      · have hu' : us.toArray[((i : Nat) : Int).toNat]? = none := by
          rw [List.getElem?_toArray]; simpa using hu
        rw [hu']
        refine wpAny_bind (listItems_at hl (wpAny_bind (listItems_at hb (wpAny_pure ?_))))
        rw [slt_drop_end (.inl hy)] at h
        have e1 : vs.toArray.size = xs.length := by rw [List.size_toArray, lx]
        have e2 : us.toArray.size = ys.length := by rw [List.size_toArray, ly]
        have hyl : ys.length ≤ i := by rwa [List.getElem?_eq_none_iff] at hy
        show R (.ok (.ret (.bool (decide (vs.toArray.size > us.toArray.size))))) s
        rw [e1, e2]
        show R (.ok (.ret (.bool (decide (ys.length < xs.length))))) s
        rw [end_eq hiy hix (.inl hyl)]; exact h
    · rw [Nat.sub_eq_zero_of_le (List.getElem?_eq_none_iff.mp hx)] at hk
      cases hk


theorem sub_ll : isSubtype (.type "list") (.type "list") = pure true := by rw [isSubtype_type]; kernel_rfl

theorem lt_lists {led : List (Addr × Obj)} {l b : Addr} {vs us : List Value} {n n' : Nat} {xs ys : List Str} {Q : Value → Shared → Prop} (hl : s.heap.get? l = some (W.listOf vs.toArray n)) (hb : s.heap.get? b = some (W.listOf us.toArray n')) (dx : DatAll led vs (xs.map .str)) (dy : DatAll led us (ys.map .str)) (hu : A.units < cLine)
    (h : Q (.bool (slt xs ys)) s) : wpAny (model prog w) A (richCompare .Lt (.ref l) (.ref b)) Q E s := by
  refine wpAny_richCompare_same_or (op := .Lt) (T := "list") ⟨_, hl, rfl⟩ ⟨_, hb, rfl⟩ F.slot_list_lt (wpAny_call (codeAny_call_builtin F.slot_list_lt.plain F.entry_list_lt (F.slot_list_lt.check _ _ _ _ _ _ _ _ ⟨_, hl, rfl⟩ (F.args_list_lt_2 _ _) ?_))) (.inr hu)
  unfold Builtin.«list.__lt__»
  refine wpAny_bind (wpAny_of_eq (a := (Value.ref l, [Value.ref b])) (by kernel_rfl) ?_)
  refine wpAny_bind (wpAny_isInstance ⟨_, hb, rfl⟩ sub_ll ?_)
  refine wpAny_pure ⟨plainId_quiet MeetsSeq3.plain_eq_loop _, ?_⟩
  refine lt_loop hl hb dx dy _ 0 rfl (Nat.zero_le _) (Nat.zero_le _) ⟨(fun h => by cases h), h⟩

theorem gt_lists {led : List (Addr × Obj)} {l b : Addr} {vs us : List Value} {n n' : Nat} {xs ys : List Str} {Q : Value → Shared → Prop} (hl : s.heap.get? l = some (W.listOf vs.toArray n)) (hb : s.heap.get? b = some (W.listOf us.toArray n')) (dx : DatAll led vs (xs.map .str)) (dy : DatAll led us (ys.map .str)) (hu : A.units < cLine)
    (h : Q (.bool (slt ys xs)) s) : wpAny (model prog w) A (richCompare .Gt (.ref l) (.ref b)) Q E s := by
  refine wpAny_richCompare_same_or (op := .Gt) (T := "list") ⟨_, hl, rfl⟩ ⟨_, hb, rfl⟩ F.slot_list_gt (wpAny_call (codeAny_call_builtin F.slot_list_gt.plain F.entry_list_gt (F.slot_list_gt.check _ _ _ _ _ _ _ _ ⟨_, hl, rfl⟩ (F.args_list_gt_2 _ _) ?_))) (.inr hu)
  unfold Builtin.«list.__gt__»
  refine wpAny_bind (wpAny_of_eq (a := (Value.ref l, [Value.ref b])) (by kernel_rfl) ?_)
  refine wpAny_bind (wpAny_isInstance ⟨_, hb, rfl⟩ sub_ll ?_)
  refine wpAny_pure ⟨plainId_quiet MeetsSeq3.plain_eq_loop _, ?_⟩
  refine gt_loop hl hb dx dy _ 0 rfl (Nat.zero_le _) (Nat.zero_le _) ⟨(fun h => by cases h), h⟩

end
end Mine

namespace Mine
open PySem PySem.W PySem.Calls PySem.Spec PyProof.Rows

section
variable {prog : Program} {w : World} {B : Heap} {A : Around} {E : Value → Shared → Prop} {s s₀ : Shared} {fr : List Env} {S : List Addr} {L : Addr} {m : Str → Option Value} {mu fz fz₀ : List (Addr × Obj)}

theorem next_M {I l : Addr} {i : Nat} {oI : Obj} {items : Array Value} {x : Value} {Q : Option Value → Shared → Prop} (C : St s₀ S L m ((I, oI) :: mu) fz s) (hc : oI.cls = .type "list_iterator") (hd : oI.data = .fields #[.ref l, .int i 0]) (hl : s.heap.IsList l items) (hx : items[i]? = some x)
    (h : ∀ oI' s', oI'.cls = .type "list_iterator" → oI'.data = .fields #[.ref l, .int (i + 1 : Nat) 0] → St s₀ S L m ((I, oI') :: mu) fz s' → Q (some x) s') : wpAny (model prog w) A (pyNext (.ref I)) Q E s := by
  refine wpAny_pyNext_list_item ⟨oI, (C.cx.mus _ (.head _)).1, hc, hd⟩ hl hx fun h' hit hs => ?_
  obtain ⟨o', e', hc', hd'⟩ := hit
  exact h o' _ hc' hd' (C.heap' (Cx.turn (pre := []) C.cx hs.extBut e'))
theorem next_E {I l : Addr} {i : Nat} {oI : Obj} {items : Array Value} {Q : Option Value → Shared → Prop} (hh : A.handled = none) (C : St s₀ S L m ((I, oI) :: mu) fz s) (hc : oI.cls = .type "list_iterator") (hd : oI.data = .fields #[.ref l, .int i 0]) (hl : s.heap.IsList l items) (hx : items[i]? = none)
    (h : ∀ s', St s₀ S L m mu fz s' → Q none s') : wpAny (model prog w) A (pyNext (.ref I)) Q E s :=
  wpAny_pyNext_list_end hh ⟨oI, (C.cx.mus _ (.head _)).1, hc, hd⟩ hl hx fun h' hs => h _ (C.heap' (C.cx.but fun b o hb e => hs b o hb e))

theorem min_two {l a1 a2 : Addr} {us1 us2 : List Value} {n n1 n2 : Nat} {xs ys : List Str} {Q : Value → Shared → Prop} (hh : A.handled = none) (hu : A.units + 8 < cLine) (C : St s₀ (frs fr) L m mu fz s) (Z : ∀ p ∈ fz₀, s₀.heap.get? p.1 = some p.2 ∧ p.1 ∉ frs fr)
    (hl : (l, W.listOf [Value.ref a1, Value.ref a2].toArray n) ∈ fz ++ fz₀) (h1 : (a1, W.listOf us1.toArray n1) ∈ fz ++ fz₀) (h2 : (a2, W.listOf us2.toArray n2) ∈ fz ++ fz₀) (dx : DatAll (fz ++ fz₀) us1 (xs.map .str)) (dy : DatAll (fz ++ fz₀) us2 (ys.map .str))
    (h : ∀ s', St s₀ (frs fr) L m mu fz s' → Q (.ref (if slt ys xs = true then a2 else a1)) s') : wpAny (model prog w) A (call (.builtin "min") [.ref l]) Q E s := by
  have hname : (toString "min" ++ toString ".loop" : String) = "min.loop" := by decide
  have at_ : ∀ {s' : Shared} {mu' : List (Addr × Obj)} {p : Addr × Obj}, St s₀ (frs fr) L m mu' fz s' → p ∈ fz ++ fz₀ → s'.heap.get? p.1 = some p.2 := fun C hp => C.cx.all Z _ hp
  refine call_function_tree F.kind_min F.plain_min F.entry_min (F.args_min1 _) ?_
  show wpAny _ A.in1 (Builtin.Builtins.bindParams "min" ["key", "default"] 0 ⟨[], []⟩ >>= _) _ _ s
  refine wpAny_bind (wpAny_of_eq (show Builtin.Builtins.bindParams "min" ["key", "default"] 0 ⟨[], []⟩ = pure [none, none] from rfl) ?_)
  refine wpAny_bind (wpAny_pure ?_)
  refine wpAny_bind (wpAny_pyIter_list (listOf_is (at_ C hl)) ?_)
  have C := C.heap' (C.cx.pushM (o := itO l 0) rfl)
  generalize s.heap.objs.size = I at *
  refine wpAny_bind (newList_M C (by simp) fun Sb s₁ C => ?_)
  rw [hname]
  refine wpAny_pure ⟨plainId_quiet F.plain_min_loop _, codeAny_builtin F.entry_min_loop ?_⟩
  rw [Around.under_plainId F.plain_min_loop _]
  show wpAny _ A.in1 (seqItems? (.ref Sb) >>= _) _ _ _
  refine wpAny_bind (wpAny_seqItems (C.cx.mus _ (.head _)).1 rfl ?_)
  show wpAny _ A.in1 (tryCatch (pyNext (.ref I)) _ >>= _) _ _ _
  refine wpAny_bind (wpAny_tryCatch (next_M (i := 0) C.swap rfl rfl (listOf_is (at_ C hl)) (x := .ref a1) (by rfl) fun oI s₂ hc hd C => ?_))
  have C := C.swap
  show wpAny _ A.in1 (updateSeq Sb (fun _ => #[.ref a1, .ref a1]) >>= _) _ _ _
  refine wpAny_bind (upd_L C (by simp) (by simp) fun c₁ s₃ C => ?_)
  rw [hname]
  refine wpAny_pure ⟨plainId_quiet F.plain_min_loop _, codeAny_builtin F.entry_min_loop ?_⟩
  rw [Around.under_plainId F.plain_min_loop _]
  show wpAny _ A.in1 (seqItems? (.ref Sb) >>= _) _ _ _
  refine wpAny_bind (wpAny_seqItems (C.cx.mus _ (.head _)).1 rfl ?_)
  show wpAny _ A.in1 (tryCatch (pyNext (.ref I)) _ >>= _) _ _ _
  refine wpAny_bind (wpAny_tryCatch (next_M C.swap hc hd (listOf_is (at_ C hl)) (x := .ref a2) (by rfl) fun oI s₄ hc hd C => ?_))
  have C := C.swap
  show wpAny _ A.in1 (tryCatch (holding [.ref a2, .ref a2] (richCompare .Lt (.ref a2) (.ref a1) >>= _)) _ >>= _) _ _ _
  refine wpAny_bind (wpAny_tryCatch (wpAny_holding (wpAny_bind (lt_lists (at_ C h2) (at_ C h1) dy dx (by show A.units + 1 < cLine; omega) ?_))))
  refine wpAny_bind (wpAny_holding (wpAny_truthy_bool ?_))
  refine wpAny_bind (wpAny_letGo (wpAny_pure ?_))
  have last : ∀ {a : Addr} {c : Nat} {s' : Shared}, St s₀ (frs fr) L m ((Sb, W.listOf #[Value.ref a, Value.ref a] c) :: (I, oI) :: mu) fz s' → Q (.ref (if slt ys xs = true then a2 else a1)) = Q (.ref a) →
      codeAny (model prog w) A (.builtin "min.loop" ⟨[.ref I, .none, .ref Sb], []⟩) (fun r s' => match r with | .ok (.ret v) => Q v s' | .ok _ => False | .error e => E e s') s' := fun {a c s'} C e => by
    refine codeAny_builtin F.entry_min_loop ?_
    rw [Around.under_plainId F.plain_min_loop _]
    show wpAny _ A.in1 (seqItems? (.ref Sb) >>= _) _ _ _
    refine wpAny_bind (wpAny_seqItems (C.cx.mus _ (.head _)).1 rfl ?_)
    show wpAny _ A.in1 (tryCatch (pyNext (.ref I)) _ >>= _) _ _ _
    refine wpAny_bind (wpAny_tryCatch (next_E hh C.swap hc hd (listOf_is (at_ C hl)) (by rfl) fun s₅ C => ?_))
    show wpAny _ A.in1 (updateSeq Sb (fun _ => #[]) >>= _) _ _ _
    refine wpAny_bind (upd_L C (by simp) (by simp) fun c₁ s₃ C => wpAny_bind (wpAny_letGo (wpAny_pure ?_)))
    have := h s₃ C.dropM
    rw [e] at this
    exact this
  cases hb : slt ys xs with
  | true =>
    rw [if_pos rfl]
    refine wpAny_bind ?_
    refine upd_L C (by simp) (by simp) fun c₂ s₅ C => wpAny_bind (wpAny_letGo ?_)
    rw [hname]
    exact wpAny_pure ⟨plainId_quiet F.plain_min_loop _, last C (by rw [hb, if_pos rfl])⟩
  | false =>
    rw [if_neg Bool.false_ne_true]
    refine wpAny_bind (wpAny_letGo ?_)
    rw [hname]
    exact wpAny_pure ⟨plainId_quiet F.plain_min_loop _, last C (by rw [hb, if_neg Bool.false_ne_true])⟩

theorem max_two {l a1 a2 : Addr} {us1 us2 : List Value} {n n1 n2 : Nat} {xs ys : List Str} {Q : Value → Shared → Prop} (hh : A.handled = none) (hu : A.units + 8 < cLine) (C : St s₀ (frs fr) L m mu fz s) (Z : ∀ p ∈ fz₀, s₀.heap.get? p.1 = some p.2 ∧ p.1 ∉ frs fr)
    (hl : (l, W.listOf [Value.ref a1, Value.ref a2].toArray n) ∈ fz ++ fz₀) (h1 : (a1, W.listOf us1.toArray n1) ∈ fz ++ fz₀) (h2 : (a2, W.listOf us2.toArray n2) ∈ fz ++ fz₀) (dx : DatAll (fz ++ fz₀) us1 (xs.map .str)) (dy : DatAll (fz ++ fz₀) us2 (ys.map .str))
    (h : ∀ s', St s₀ (frs fr) L m mu fz s' → Q (.ref (if slt xs ys = true then a2 else a1)) s') : wpAny (model prog w) A (call (.builtin "max") [.ref l]) Q E s := by
  have hname : (toString "max" ++ toString ".loop" : String) = "max.loop" := by decide
  have at_ : ∀ {s' : Shared} {mu' : List (Addr × Obj)} {p : Addr × Obj}, St s₀ (frs fr) L m mu' fz s' → p ∈ fz ++ fz₀ → s'.heap.get? p.1 = some p.2 := fun C hp => C.cx.all Z _ hp
  refine call_function_tree F.kind_max F.plain_max F.entry_max (F.args_max1 _) ?_
  show wpAny _ A.in1 (Builtin.Builtins.bindParams "max" ["key", "default"] 0 ⟨[], []⟩ >>= _) _ _ s
  refine wpAny_bind (wpAny_of_eq (show Builtin.Builtins.bindParams "max" ["key", "default"] 0 ⟨[], []⟩ = pure [none, none] from rfl) ?_)
  refine wpAny_bind (wpAny_pure ?_)
  refine wpAny_bind (wpAny_pyIter_list (listOf_is (at_ C hl)) ?_)
  have C := C.heap' (C.cx.pushM (o := itO l 0) rfl)
  generalize s.heap.objs.size = I at *
  refine wpAny_bind (newList_M C (by simp) fun Sb s₁ C => ?_)
  rw [hname]
  refine wpAny_pure ⟨plainId_quiet F.plain_max_loop _, codeAny_builtin F.entry_max_loop ?_⟩
  rw [Around.under_plainId F.plain_max_loop _]
  show wpAny _ A.in1 (seqItems? (.ref Sb) >>= _) _ _ _
  refine wpAny_bind (wpAny_seqItems (C.cx.mus _ (.head _)).1 rfl ?_)
  show wpAny _ A.in1 (tryCatch (pyNext (.ref I)) _ >>= _) _ _ _
  refine wpAny_bind (wpAny_tryCatch (next_M (i := 0) C.swap rfl rfl (listOf_is (at_ C hl)) (x := .ref a1) (by rfl) fun oI s₂ hc hd C => ?_))
  have C := C.swap
  show wpAny _ A.in1 (updateSeq Sb (fun _ => #[.ref a1, .ref a1]) >>= _) _ _ _
  refine wpAny_bind (upd_L C (by simp) (by simp) fun c₁ s₃ C => ?_)
  rw [hname]
  refine wpAny_pure ⟨plainId_quiet F.plain_max_loop _, codeAny_builtin F.entry_max_loop ?_⟩
  rw [Around.under_plainId F.plain_max_loop _]
  show wpAny _ A.in1 (seqItems? (.ref Sb) >>= _) _ _ _
  refine wpAny_bind (wpAny_seqItems (C.cx.mus _ (.head _)).1 rfl ?_)
  show wpAny _ A.in1 (tryCatch (pyNext (.ref I)) _ >>= _) _ _ _
  refine wpAny_bind (wpAny_tryCatch (next_M C.swap hc hd (listOf_is (at_ C hl)) (x := .ref a2) (by rfl) fun oI s₄ hc hd C => ?_))
  have C := C.swap
  show wpAny _ A.in1 (tryCatch (holding [.ref a2, .ref a2] (richCompare .Gt (.ref a2) (.ref a1) >>= _)) _ >>= _) _ _ _
  refine wpAny_bind (wpAny_tryCatch (wpAny_holding (wpAny_bind (gt_lists (at_ C h2) (at_ C h1) dy dx (by show A.units + 1 < cLine; omega) ?_))))
  refine wpAny_bind (wpAny_holding (wpAny_truthy_bool ?_))
  refine wpAny_bind (wpAny_letGo (wpAny_pure ?_))
  have last : ∀ {a : Addr} {c : Nat} {s' : Shared}, St s₀ (frs fr) L m ((Sb, W.listOf #[Value.ref a, Value.ref a] c) :: (I, oI) :: mu) fz s' → Q (.ref (if slt xs ys = true then a2 else a1)) = Q (.ref a) →
      codeAny (model prog w) A (.builtin "max.loop" ⟨[.ref I, .none, .ref Sb], []⟩) (fun r s' => match r with | .ok (.ret v) => Q v s' | .ok _ => False | .error e => E e s') s' := fun {a c s'} C e => by
    refine codeAny_builtin F.entry_max_loop ?_
    rw [Around.under_plainId F.plain_max_loop _]
    show wpAny _ A.in1 (seqItems? (.ref Sb) >>= _) _ _ _
    refine wpAny_bind (wpAny_seqItems (C.cx.mus _ (.head _)).1 rfl ?_)
    show wpAny _ A.in1 (tryCatch (pyNext (.ref I)) _ >>= _) _ _ _
    refine wpAny_bind (wpAny_tryCatch (next_E hh C.swap hc hd (listOf_is (at_ C hl)) (by rfl) fun s₅ C => ?_))
    show wpAny _ A.in1 (updateSeq Sb (fun _ => #[]) >>= _) _ _ _
    refine wpAny_bind (upd_L C (by simp) (by simp) fun c₁ s₃ C => wpAny_bind (wpAny_letGo (wpAny_pure ?_)))
    have := h s₃ C.dropM
    rw [e] at this
    exact this
  cases hb : slt xs ys with
  | true =>
    rw [if_pos rfl]
    refine wpAny_bind ?_
    refine upd_L C (by simp) (by simp) fun c₂ s₅ C => wpAny_bind (wpAny_letGo ?_)
    rw [hname]
    exact wpAny_pure ⟨plainId_quiet F.plain_max_loop _, last C (by rw [hb, if_pos rfl])⟩
  | false =>
    rw [if_neg Bool.false_ne_true]
    refine wpAny_bind (wpAny_letGo ?_)
    rw [hname]
    exact wpAny_pure ⟨plainId_quiet F.plain_max_loop _, last C (by rw [hb, if_neg Bool.false_ne_true])⟩
end
end Mine

namespace Mine
open PySem PySem.W PySem.Calls PySem.Spec PyProof.Rows

theorem mro_map : mroOf (.type "map") = pure [.type "map", .type "object"] := by rw [mroOf_type]; kernel_rfl
theorem lookup_map_new : typeLookup (.type "map") "__new__" = pure (some (.builtin "map.__new__")) := by rw [typeLookup_type, builtinLookup_eq_fast]; kernel_rfl
theorem slot_map_init : Slot "map" "__init__" "object.__init__" :=
  .of (owner := "object") (n := "__init__") (by rw [typeLookup_type, builtinLookup_eq_fast]; kernel_rfl) (by decide +kernel) (by decide +kernel) (by decide +kernel)
    (by first | exact .inl (by decide +kernel) | exact .inr (by decide +kernel)) (by rw [isSubtype_type]; kernel_rfl)
theorem slot_map_next : Slot "map" "__next__" "map.__next__" :=
  .of (owner := "map") (n := "__next__") (by rw [typeLookup_type, builtinLookup_eq_fast]; kernel_rfl) (by decide +kernel) (by decide +kernel) (by decide +kernel)
    (by first | exact .inl (by decide +kernel) | exact .inr (by decide +kernel)) (by rw [isSubtype_type]; kernel_rfl)
theorem called_map : TypeCalled "map" "map.__new__" "object.__init__" :=
  ⟨by decide +kernel, by decide +kernel, ⟨_, _, mro_map⟩, madeBy_type mro_map lookup_map_new (by decide +kernel), by decide +kernel, by rw [isSubtype_type]; kernel_rfl, slot_map_init⟩
theorem typeCall_map (a b : Value) : checkTypeCall "map" ⟨[a, b], []⟩ = pure () := by kernel_rfl
theorem newCall_map (a b : Value) : checkBuiltinCall "map.__new__" ⟨[.type "map", a, b], []⟩ = pure () := by kernel_rfl
theorem entry_map_new : entryFor table "map.__new__" = some Builtin.«map.__new__» := entryFor_of_tree (by kernel_rfl)
theorem entry_map_next : entryFor table "map.__next__" = some Builtin.«map.__next__» := entryFor_of_tree (by kernel_rfl)
theorem args_map_next (a : Value) : argsOk "map.__next__" ⟨[a], []⟩ := by unfold argsOk; kernel_rfl

noncomputable abbrev tupO (vs : List Value) : Obj := { cls := .type "tuple", data := .seq vs.toArray 0 }
noncomputable abbrev mapO (tp : Addr) (f : Value) : Obj := { cls := .type "map", data := .fields #[.ref tp, f] }

theorem meets_map_new (f : Value) (l : Addr) (items : Array Value) :
    Meets (Builtin.«map.__new__» ⟨[.type "map", f, .ref l], []⟩) (fun _ R s => s.heap.IsList l items ∧
      R (.ok (.ret (.ref (s.heap.objs.size + 1 + 1)))) { s with heap := ((s.heap.push (itO l 0)).push (tupO [.ref s.heap.objs.size])).push (mapO (s.heap.objs.size + 1) f) }) :=
  .of_wp fun prog w A R s h => by
    obtain ⟨hl, h⟩ := h
    unfold Builtin.«map.__new__»
    refine wpAny_bind (wpAny_of_eq (a := (Value.type "map", [f, Value.ref l])) (by kernel_rfl) ?_)
    dsimp only
    refine wpAny_bind (wpAny_of_eq (a := ()) (by rfl) ?_)
    rw [if_neg (by simp)]
    refine wpAny_bind ?_
    unfold Builtin.SmallTypes.iterAll
    show wpAny _ _ (forIn [Value.ref l] (#[] : Array Value) _ >>= _) _ _ _
    rw [List.forIn_cons]
    refine wpAny_bind (wpAny_bind (wpAny_bind (wpAny_holding (wpAny_pyIter_list hl (wpAny_pure ?_)))))
    dsimp only
    rw [List.forIn_nil]
    refine wpAny_pure (wpAny_pure ?_)
    show wpAny _ _ (newTuple [Value.ref s.heap.objs.size] >>= _) _ _ _
    refine wpAny_bind (wpAny_newObj_type ?_)
    show wpAny _ _ (newObj (.type "map") (.fields #[_, f]) >>= _) _ _ _
    refine wpAny_bind (wpAny_newObj_type (wpAny_pure ⟨_, rfl, ?_⟩))
    simp only [Heap.size_push]
    exact h

section
variable {prog : Program} {w : World} {B : Heap} {A : Around} {E : Value → Shared → Prop} {s s₀ : Shared} {fr : List Env} {S : List Addr} {L : Addr} {m : Str → Option Value} {mu fz fz₀ : List (Addr × Obj)}

theorem map_make {f : Value} {l : Addr} {vs : List Value} {n : Nat} {Q : Value → Shared → Prop} (C : St s₀ S L m mu fz s) (hl : s.heap.get? l = some (W.listOf vs.toArray n))
    (h : ∀ I tp mo s', St s₀ S L m ((I, itO l 0) :: mu) ((mo, mapO tp f) :: (tp, tupO [.ref I]) :: fz) s' → Q (.ref mo) s') : wpAny (model prog w) A (call (.type "map") [f, .ref l]) Q E s := by
  refine callType_new called_map (by decide) (typeCall_map _ _) (newCall_map _ _) (fun obj => F.initArgs_range_2 obj _ _) entry_map_new (meets_map_new f l vs.toArray) ⟨listOf_is hl, ?_⟩
  have C₁ := C.heap' (C.cx.pushM (o := itO l 0) rfl)
  have C₂ := C₁.heap' (C₁.cx.pushF (o := tupO [.ref s.heap.objs.size]) rfl)
  have C₃ := C₂.heap' (C₂.cx.pushF (o := mapO (s.heap.objs.size + 1) f) rfl)
  have e1 : (s.heap.push (itO l 0)).objs.size = s.heap.objs.size + 1 := Heap.size_push ..
  have e2 : ((s.heap.push (itO l 0)).push (tupO [.ref s.heap.objs.size])).objs.size = s.heap.objs.size + 1 + 1 := by rw [Heap.size_push, e1]
  simp only [e1, e2] at C₃
  exact ⟨⟨_, (C₃.cx.fzs _ (.head _)).1, rfl⟩, h _ _ _ _ C₃⟩
end
end Mine

namespace Mine
open PySem PySem.W PySem.Calls PySem.Spec PyProof.Rows

theorem slot_map_iter : Slot "map" "__iter__" "map.__iter__" :=
  .of (owner := "map") (n := "__iter__") (by rw [typeLookup_type, builtinLookup_eq_fast]; kernel_rfl) (by decide +kernel) (by decide +kernel) (by decide +kernel)
    (by first | exact .inl (by decide +kernel) | exact .inr (by decide +kernel)) (by rw [isSubtype_type]; kernel_rfl)
theorem no_map_len : typeLookup (.type "map") "__len__" = pure none := by rw [typeLookup_type, builtinLookup_eq_fast]; kernel_rfl
theorem no_map_hint : typeLookup (.type "map") "__length_hint__" = pure none := by rw [typeLookup_type, builtinLookup_eq_fast]; kernel_rfl

section
variable {prog : Program} {w : World} {B : Heap} {A : Around} {E : Value → Shared → Prop} {s s₀ : Shared} {fr : List Env} {S : List Addr} {L mo tp I l : Addr} {m : Str → Option Value} {mu fz fz₀ : List (Addr × Obj)} {f : Value} {i : Nat} {oI : Obj}

theorem map_item {vs : List Value} {n : Nat} {v : Value} {Q : Option Value → Shared → Prop} (C : St s₀ S L m ((I, oI) :: mu) fz s) (hc : oI.cls = .type "list_iterator") (hd : oI.data = .fields #[.ref l, .int i 0]) (hmo : (mo, mapO tp f) ∈ fz) (htp : (tp, tupO [.ref I]) ∈ fz) (hl : s.heap.get? l = some (W.listOf vs.toArray n)) (hv : vs[i]? = some v)
    (h : ∀ oI' s', oI'.cls = .type "list_iterator" → oI'.data = .fields #[.ref l, .int (i + 1 : Nat) 0] → St s₀ S L m ((I, oI') :: mu) fz s' → wpAny (model prog w) A.in1 (call f [v]) (fun r s'' => Q (some r) s'') Nay s') : wpAny (model prog w) A (pyNext (.ref mo)) Q E s := by
  have hm := (C.cx.fzs _ hmo).1
  have hT : s.TypeIs (.ref mo) "map" := ⟨_, hm, rfl⟩
  unfold pyNext
  refine wpAny_bind (wpAny_attempt (wpAny_callSpecial?_slot (name := Str.ofString "__next__") hT slot_map_next (wpAny_call_entry slot_map_next hT entry_map_next ?_ (args_map_next _))))
  unfold Builtin.«map.__next__»
  refine wpAny_bind (wpAny_of_eq (a := (Value.ref mo, [])) (by kernel_rfl) ?_)
  dsimp only
  refine wpAny_bind (wpAny_field hm rfl (x := .ref tp) rfl ?_)
  refine wpAny_bind (wpAny_seqItems (C.cx.fzs _ htp).1 rfl ?_)
  dsimp only
  refine wpAny_bind ?_
  show wpAny _ _ (forIn #[Value.ref I] _ _) _ _ _
  rw [← Array.forIn_toList, List.forIn_cons]
  refine wpAny_bind (wpAny_bind (wpAny_holding (wpAny_nextOf_list_item ⟨oI, (C.cx.mus _ (.head _)).1, hc, hd⟩ (listOf_is hl) (by simpa using hv) fun h' hit hs => wpAny_pure ?_)))
  dsimp only
  rw [List.forIn_nil]
  refine wpAny_pure ?_
  obtain ⟨oI', e', hc', hd'⟩ := hit
  have C' := C.heap' (Cx.turn (pre := []) C.cx hs.extBut e')
  have hm' := (C'.cx.fzs _ hmo).1
  show wpAny _ _ (field (.ref mo) 1 >>= _) _ _ _
  refine wpAny_bind (wpAny_field hm' rfl (x := f) rfl ?_)
  refine wpAny_bind (wpAny_holding (wpAny_mono (h oI' _ hc' hd' C') (fun r s'' hq => ?_) fun _ _ e => e.elim))
  refine wpAny_bind (wpAny_letGo ?_)
  exact wpAny_pure ⟨_, rfl, wpAny_pure hq⟩

theorem map_end {vs : List Value} {n : Nat} {Q : Option Value → Shared → Prop} (hh : A.handled = none) (C : St s₀ S L m ((I, oI) :: mu) fz s) (hc : oI.cls = .type "list_iterator") (hd : oI.data = .fields #[.ref l, .int i 0]) (hmo : (mo, mapO tp f) ∈ fz) (htp : (tp, tupO [.ref I]) ∈ fz) (hl : s.heap.get? l = some (W.listOf vs.toArray n)) (hv : vs[i]? = none)
    (h : ∀ s', St s₀ S L m mu fz s' → Q none s') : wpAny (model prog w) A (pyNext (.ref mo)) Q E s := by
  have hm := (C.cx.fzs _ hmo).1
  have hT : s.TypeIs (.ref mo) "map" := ⟨_, hm, rfl⟩
  unfold pyNext
  refine wpAny_bind (wpAny_attempt (wpAny_callSpecial?_slot (name := Str.ofString "__next__") hT slot_map_next (wpAny_call_entry slot_map_next hT entry_map_next ?_ (args_map_next _))))
  unfold Builtin.«map.__next__»
  refine wpAny_bind (wpAny_of_eq (a := (Value.ref mo, [])) (by kernel_rfl) ?_)
  dsimp only
  refine wpAny_bind (wpAny_field hm rfl (x := .ref tp) rfl ?_)
  refine wpAny_bind (wpAny_seqItems (C.cx.fzs _ htp).1 rfl ?_)
  dsimp only
  refine wpAny_bind ?_
  show wpAny _ _ (forIn #[Value.ref I] _ _) _ _ _
  rw [← Array.forIn_toList, List.forIn_cons]
  refine wpAny_bind (wpAny_bind (wpAny_holding (wpAny_nextOf_list_end hh ⟨oI, (C.cx.mus _ (.head _)).1, hc, hd⟩ (listOf_is hl) (by simpa using hv) fun h' e hs hob => ?_)))
  obtain ⟨ob, ho, hcl⟩ := hob
  refine wpAny_bind (wpAny_isInstance (T := "StopIteration") (b := true) ⟨ob, ho, hcl⟩ isSubtype_stop ?_)
  exact wpAny_pure (h _ (C.heap' (C.cx.but fun b o hb e => hs b o hb e)))
end
end Mine

namespace Mine
open PySem PySem.W PySem.Calls PySem.Spec PyProof.Rows

theorem entry_map_iter : entryFor table "map.__iter__" = some Builtin.«dict_keyiterator.__iter__» :=
  entryFor_alias (id' := "dict_keyiterator.__iter__") (by kernel_rfl) (by decide +kernel) (by decide +kernel) (by kernel_rfl)
theorem args_map_iter (a : Value) : argsOk "map.__iter__" ⟨[a], []⟩ := by unfold argsOk; kernel_rfl

section
variable {w : World} {B : Heap} {mg mb : Str → Option Value} {A : Around} {E : Value → Shared → Prop} {s s₀ : Shared} {fr fs : List Env} {d u : Nat} {L mo tp I l Sx : Addr} {m : Str → Option Value} {mu fz fz₀ : List (Addr × Obj)} {oI : Obj}

theorem strs_at {led : List (Addr × Obj)} {vs : List Value} {xs : List Str} {v : Value} {i : Nat} (h : DatAll led vs (xs.map .str)) (hv : vs[i]? = some v) : ∃ x t, v = .str x t := by
  obtain ⟨x, _, dv⟩ := DatAll.at_map h hv
  obtain ⟨t, rfl⟩ := DatIn.str_inv dv
  exact ⟨x, t, rfl⟩

theorem tm_loop {vs : List Value} {n : Nat} {led : List (Addr × Obj)} {xs : List Str} {res : Value} {R : Result → Shared → Prop} (am : Amb (hd.heap_39 w.params) B mg mb) (P : Act B s₀.heap fr) (hF : frs fs = L :: frs fr) (XF : ∀ {mu s}, St s₀ (frs fr) L m mu fz s → Act B s.heap fs) (Rm : Room A fs (d + 1) (u + 6))
    (hmo : (mo, mapO tp (.ref 138)) ∈ fz) (htp : (tp, tupO [.ref I]) ∈ fz) (hl : ∀ {mu s}, St s₀ (frs fr) L m mu fz s → s.heap.get? l = some (W.listOf vs.toArray n)) (dv : DatAll led vs (xs.map .str)) (few : vs.length ≤ 1000)
    (k : ∀ c s', St s₀ (frs fr) L m ((Sx, W.listOf vs.toArray c) :: mu) fz s' → R (.ok (.ret res)) s') :
    ∀ (q i c : Nat) (oI : Obj) (s : Shared), q = vs.length - i → i ≤ vs.length → St s₀ (frs fr) L m ((I, oI) :: (Sx, W.listOf (vs.take i).toArray c) :: mu) fz s → oI.cls = .type "list_iterator" → oI.data = .fields #[.ref l, .int i 0] →
      codeAny (model PySem.Challenge.rw_il0010_01.row.prog w) A (.builtin "list.extend.loop" ⟨[.ref Sx, .ref mo, res], []⟩) R s := by
  intro q
  induction q with
  | zero =>
    intro i c oI s hq hi C hc hd
    have hie : i = vs.length := by omega
    refine codeAny_builtin F.entry_extend_loop ?_
    rw [Around.under_plainId F.plain_extend_loop _]
    show wpAny _ _ (pyNext (.ref mo) >>= _) _ _ _
    refine wpAny_bind (map_end Rm.handled C hc hd hmo htp (hl C) (by rw [List.getElem?_eq_none_iff]; omega) fun s' C' => wpAny_pure ?_)
    rw [hie, List.take_length] at C'
    exact k c s' C'
  | succ q ih =>
    intro i c oI s hq hi C hc hd
    have hlt : i < vs.length := by omega
    have hv := List.getElem?_eq_getElem hlt
    refine codeAny_builtin F.entry_extend_loop ?_
    rw [Around.under_plainId F.plain_extend_loop _]
    show wpAny _ _ (pyNext (.ref mo) >>= _) _ _ _
    obtain ⟨x, t, ex⟩ := strs_at dv hv
    refine wpAny_bind (map_item C hc hd hmo htp (hl C) hv fun oI' s₁ hc' hd' C₁ => ?_)
    rw [ex]
    refine fspath_ok am (Rm.less (d' := d + 1) (u' := u + 3 + 1 + 1) (Nat.le_refl _) (by omega)).in1.in1 (XF C₁) fun r s₂ tl sm g ht hr => ?_
    subst hr
    have C₂ := ((C₁.call P sm (hF ▸ g) ht).sub (fz' := fz) fun p hp => List.mem_append_right _ hp).swap
    show wpAny _ _ (updateSeq Sx (·.push (.str x t)) >>= _) _ _ _
    refine wpAny_bind (upd_L C₂ (by rw [List.size_toArray, List.length_take]; omega) (by rw [Array.size_push, List.size_toArray, List.length_take]; omega) fun c' s₃ C₃ => wpAny_pure ⟨plainId_quiet F.plain_extend_loop _, ih (i + 1) c' oI' s₃ (by omega) hlt ?_ hc' hd'⟩)
    have e : (vs.take i).toArray.push (.str x t) = (vs.take (i + 1)).toArray := by
      rw [List.push_toArray, List.take_add_one, hv, ex]; rfl
    have C₃ := C₃.swap
    rw [← e]; exact C₃

theorem tm_collect {vs : List Value} {n : Nat} {led : List (Addr × Obj)} {xs : List Str} {Q : List Value → Shared → Prop} (am : Amb (hd.heap_39 w.params) B mg mb) (P : Act B s₀.heap fr) (hF : frs fs = L :: frs fr) (XF : ∀ {mu s}, St s₀ (frs fr) L m mu fz s → Act B s.heap fs) (Rm : Room A fs (d + 1) (u + 9))
    (hmo : (mo, mapO tp (.ref 138)) ∈ fz) (htp : (tp, tupO [.ref I]) ∈ fz) (hl : ∀ {mu s}, St s₀ (frs fr) L m mu fz s → s.heap.get? l = some (W.listOf vs.toArray n)) (dv : DatAll led vs (xs.map .str)) (few : vs.length ≤ 1000)
    (C : St s₀ (frs fr) L m ((I, itO l 0) :: mu) fz s) (k : ∀ s', St s₀ (frs fr) L m mu fz s' → Q vs s') :
    wpAny (model PySem.Challenge.rw_il0010_01.row.prog w) A (collect (.ref mo)) Q E s := by
  have mT : ∀ {s : Shared} {mu : List (Addr × Obj)}, St s₀ (frs fr) L m mu fz s → s.TypeIs (.ref mo) "map" := fun C => ⟨_, (C.cx.fzs _ hmo).1, rfl⟩
  unfold collect
  refine wpAny_bind (wpAny_runValue (codeAny_builtin F.entry_proto_collect ?_))
  rw [Around.under_plainId F.plain_proto_collect _]
  show wpAny _ A.in1 (newList [] >>= fun l => again (.builtin "list.__iadd__" ⟨[l, .ref mo], []⟩)) _ _ s
  refine wpAny_bind (newList_M C (by simp) fun Sx s₁ C => ?_)
  refine wpAny_pure ⟨plainId_quiet F.plain_list_iadd _, codeAny_builtin F.entry_list_iadd ?_⟩
  rw [Around.under_plainId F.plain_list_iadd _]
  show wpAny _ A.in1 (Builtin.List.listExtendWith (.ref Sx) (.ref mo) (.ref Sx)) _ _ _
  unfold Builtin.List.listExtendWith
  refine wpAny_bind (wpAny_typeOf (mT C) ?_)
  have hSI : Sx ≠ mo := C.cx.sep (Sx, _) (.head _) (mo, _) hmo
  have h1 : Builtin.List.listSameRef (.ref Sx) (.ref mo) = false := by simp [Builtin.List.listSameRef, hSI]
  have h2 : (Value.type "map" == Value.type "list") = false := by decide
  have h3 : (Value.type "map" == Value.type "tuple") = false := by decide
  rw [if_neg (by rw [h1, h2, h3]; decide)]
  refine wpAny_bind (wpAny_pyIter_slot (mT C) slot_map_iter ?_)
  refine wpAny_call_entry slot_map_iter (mT C) entry_map_iter ?_ (args_map_iter _)
  refine wpAny_bind (wpAny_of_eq (a := (Value.ref mo, [])) (by kernel_rfl) ?_)
  refine wpAny_pure ⟨_, rfl, "map", _, mT C, slot_map_next.lookup, ?_⟩
  refine wpAny_bind (wpAny_holding ?_)
  unfold Builtin.List.listLengthHint
  refine wpAny_bind (wpAny_specialOf (mT C) no_map_len ?_)
  show wpAny _ A.in1 (specialOf (Value.ref mo) (Str.ofString "__length_hint__") >>= _) _ _ _
  refine wpAny_bind (wpAny_specialOf (mT C) no_map_hint ?_)
  refine wpAny_pure ?_
  show wpAny _ A.in1 (rule "list.extend.makes-room" >>= fun _ => Builtin.List.listTouch (.ref Sx) >>= fun _ => again (.builtin "list.extend.loop" ⟨[.ref Sx, .ref mo, .ref Sx], []⟩)) _ _ _
  refine wpAny_bind (wpAny_rule ?_)
  refine wpAny_bind ?_
  show wpAny _ A.in1 (updateSeq Sx (·.push .none) >>= fun _ => updateSeq Sx (·.pop)) _ _ _
  refine wpAny_bind (upd_L C (by simp) (by simp) fun c₂ s₃ C => ?_)
  refine upd_L C (by simp) (by simp) fun c₃ s₄ C => ?_
  refine wpAny_pure ⟨plainId_quiet F.plain_extend_loop _, tm_loop (Sx := Sx) am P hF XF (Rm.less (d' := d + 1) (u' := u + 6) (Nat.le_refl _) (by omega)) hmo htp hl dv few (fun c s' C => ?_) vs.length 0 c₃ _ _ rfl (Nat.zero_le _) C.swap rfl rfl⟩
  show wpAny _ A (load Sx >>= _) _ _ s'
  refine wpAny_bind (wpAny_load (C.cx.mus _ (.head _)).1 ?_)
  refine wpAny_pure ?_
  show Q vs.toArray.toList _
  rw [List.toList_toArray]
  exact k s' C.dropM

theorem tm_tuple {vs : List Value} {n : Nat} {led : List (Addr × Obj)} {xs : List Str} {Q : Value → Shared → Prop} (am : Amb (hd.heap_39 w.params) B mg mb) (P : Act B s₀.heap fr) (hF : frs fs = L :: frs fr) (XF : ∀ {mu s}, St s₀ (frs fr) L m mu fz s → Act B s.heap fs) (Rm : Room A fs (d + 1) (u + 14))
    (hmo : (mo, mapO tp (.ref 138)) ∈ fz) (htp : (tp, tupO [.ref I]) ∈ fz) (hl : ∀ {mu s}, St s₀ (frs fr) L m mu fz s → s.heap.get? l = some (W.listOf vs.toArray n)) (dv : DatAll led vs (xs.map .str)) (few : vs.length ≤ 1000)
    (C : St s₀ (frs fr) L m ((I, itO l 0) :: mu) fz s) (k : ∀ a s', St s₀ (frs fr) L m mu ((a, tupO vs) :: fz) s' → Q (.ref a) s') :
    wpAny (model PySem.Challenge.rw_il0010_01.row.prog w) A (call (.type "tuple") [.ref mo]) Q E s := by
  refine callType_codes (Q₁ := fun obj s₁ => s₁.TypeIs obj "tuple" ∧ Q obj s₁) F.called_tuple (F.typeCall_tuple_1 _) F.entry_object_init ?_ fun obj s₁ h₁ => ?_
  · refine codeAny_of_tree ?_
    show wpAny _ A.in1.in1 (do checkBuiltinCall "tuple.__new__" ⟨[.type "tuple", .ref mo], []⟩; again (.builtin "tuple.__new__" ⟨[.type "tuple", .ref mo], []⟩)) _ _ s
    refine wpAny_bind (wpAny_of_eq (F.newCall_tuple_1 _) (wpAny_pure ⟨plainId_quiet F.plain_tuple_new _, codeAny_builtin F.entry_tuple_new ?_⟩))
    rw [Around.under_plainId F.plain_tuple_new _]
    have hsub := sub_tuple_self
    have hinit := init_tuple_lookup
    have hmh := madeHere_tuple
    have hTI : s.TypeIs (.ref mo) "map" := ⟨_, (C.cx.fzs _ hmo).1, rfl⟩
    have col : ∀ {Q : List Value → Shared → Prop} {E : Value → Shared → Prop}, (∀ s', St s₀ (frs fr) L m mu fz s' → Q vs s') → wpAny (model PySem.Challenge.rw_il0010_01.row.prog w) A.in1.in1 (collect (.ref mo)) Q E s := fun h =>
      tm_collect am P hF XF (Rm.less (d' := d + 1) (u' := u + 9 + 1 + 1) (Nat.le_refl _) (by omega)).in1.in1 hmo htp hl dv few C h
    wp_walk using wpAny_typeOf hTI, col
    intro s' C'
    show wpAny _ _ (Builtin.Tuple.tupleExact vs.toArray >>= fun v => ret v) _ _ _
    unfold Builtin.Tuple.tupleExact
    refine wpAny_bind (wpAny_newObj_type ?_ (by show vs.toArray.size ≤ sizeLine; rw [List.size_toArray, sizeLine_eq]; omega))
    exact wpAny_pure ⟨⟨_, Heap.get?_push_size _ rfl, rfl⟩, k _ _ (C'.heap' (C'.cx.pushF (o := tupO vs) rfl))⟩
  · exact ⟨h₁.1, F.args_object_init_2 obj _, object_init_meets F.called_tuple.init.lookup F.called_tuple.made (by decide) _ w A.in1 _ s₁ ⟨h₁.1, rfl, h₁.2⟩⟩
end
end Mine

namespace Mine
open PySem PySem.W PySem.Calls PySem.Spec PyProof.Rows
open Builtin Builtin.Str

section
variable {prog : Program} {w : World} {A : Around} {E : Value → Shared → Prop} {s s₀ : Shared} {S : List Addr} {L : Addr} {m : Str → Option Value} {mu fz : List (Addr × Obj)}

theorem method_split {x y : Str} {t u : Tok} {pos : Pos} {a : Sem Value} {Q : Value → Shared → Prop} (hy : (y.length == 0) = false) (hsz : x.length ≤ 1000) (hsz2 : (partsBetween x (occurrences x y 0 x.length (x.length + 1)) y.length).length ≤ 1000)
    (h : wpAny (model prog w) A a (fun v s₁ => v = .str y u ∧ St s₀ S L m mu fz s₁ ∧ ∀ D l s', l.map (·.1) = Txt.split x y → St s₀ S L m mu ((D, W.listOf (strValues l).toArray 0) :: fz) s' → Q (.ref D) s') E s) :
    MethodOnS prog w A E "split" (.str x t) pos [(false, a)] Q s := by
  have z1 : x.length ≤ sizeLine := by rw [sizeLine_eq]; omega
  have z2 : (partsBetween x (occurrences x y 0 x.length (x.length + 1)) y.length).length ≤ sizeLine := by rw [sizeLine_eq]; omega
  refine ⟨"str", _, F.plainAttrs_str, F.slot_str_split, F.type_str_split, typeIs_str _ _ _, (fun _ e => nomatch e),
    method1_meets F.slot_str_split F.entry_str_split (wpAny_mono h (fun v s₁ h₁ => ?_) fun _ _ e => e)⟩
  obtain ⟨rfl, C, hq⟩ := h₁
  refine ⟨typeIs_str _ _ _, F.args_str_split_2 _ _, ?_⟩
  cases h1 : (decide (x.length < y.length) || decide (strKind x < strKind y))
  · cases hf : (occurrences x y 0 x.length (x.length + 1)).isEmpty
    · refine ⟨_, meets_str_split_sep x y t u h1 hy hf z1 z2, ?_⟩
      show wants Q E _ { s₁ with toks := _, heap := s₁.heap.push { cls := .type "list", data := .seq (strsFrom s₁.toks (partsBetween x (occurrences x y 0 x.length (x.length + 1)) y.length)).toArray } }
      rw [strsFrom_eq]
      exact hq _ (numbered s₁.toks _) _ ((numbered_texts _ _).trans ((if_neg (ne_true_of_eq_false h1)).trans (if_neg (ne_true_of_eq_false hf))).symm) (C.heap (C.cx.pushF rfl) _)
    · exact ⟨_, meets_str_split_not_found x y t u h1 hy hf, hq _ [(x, t)] _ ((if_neg (ne_true_of_eq_false h1)).trans (if_pos hf)).symm (C.heap (C.cx.pushF rfl) _)⟩
  · exact ⟨_, meets_str_split_cannot_occur x y t u h1, hq _ [(x, t)] _ (if_pos h1).symm (C.heap (C.cx.pushF rfl) _)⟩

theorem strValues_dat {led : List (Addr × Obj)} : ∀ l : List (Str × Tok), DatAll led (strValues l) ((l.map (·.1)).map .str)
  | [] => .nil
  | (x, t) :: l => .cons (.str x t) (strValues_dat l)
end

theorem parts_J : ∀ p ∈ allP, (partsBetween (J p) (occurrences (J p) slash 0 (J p).length ((J p).length + 1)) slash.length).length ≤ 1000 := by decide +kernel
end Mine

namespace Mine
open PySem PySem.W PySem.Calls PySem.Spec PyProof.Rows

theorem compTurn_set (elt target iter : Expr) (scope : Scope) (pos : Pos) (it acc : Value) (env : Env) :
    compTurn (.SetComp elt [⟨target, iter, [], 0⟩] scope pos) 0 it acc env = (standAt iter.pos >>= fun _ => pyNext it >>= fun r => match r with
      | none => pure (.done .next)
      | some v => letOwnedTupleGo target it v >>= fun _ => assign target env v >>= fun _ =>
        (eval elt env >>= fun x => standAt elt.pos >>= fun _ => call (.builtin "set.add") [acc, x] >>= fun _ => pure ()) >>= fun _ =>
          again (.compLoop (.SetComp elt [⟨target, iter, [], 0⟩] scope pos) 0 it acc env)) := by rfl

section
variable {prog : Program} {w : World} {A : Around} {E : Value → Shared → Prop} {s : Shared}

theorem pyHash_false {Q : Int → Shared → Prop} (h : Q 0 { s with toks := s.toks + 1 }) : wpAny (model prog w) A (pyHash (.bool false)) Q E s := by
  have hT : s.TypeIs (.bool false) "bool" := rfl
  unfold pyHash
  have hv : [Value.bool false].any Value.onHeap = false := rfl
  refine wpAny_bind ?_
  rw [cRoomFor, if_neg (by rw [hv]; exact Bool.false_ne_true)]; refine wpAny_pure ?_
  refine wpAny_bind (wpAny_specialOf hT F.slot_bool_hash.lookup ?_)
  show wpAny _ _ (if (some (Value.builtin "int.__hash__") == some Value.none) = true then _ else _) Q E s
  rw [if_neg (by rw [beq_builtin_none]; exact Bool.false_ne_true)]
  refine wpAny_bind (wpAny_specialOf hT F.slot_bool_hash.lookup ?_)
  show wpAny _ _ (callSpecialIfBoundUnlessNone? (.bool false) "__hash__" _ >>= _) Q E s
  refine wpAny_bind (wpAny_callSpecialIfBoundUnlessNone?_slot hT F.slot_bool_hash
    (wpAny_call_entry F.slot_bool_hash hT entry_int_hash
      (show wpAny _ _ (do ret (← mkInt (rawHash 0))) _ _ s from wpAny_ret_mkInt ?_) (args_int_hash _)))
  show wpAny _ _ (if (decide (-(2 : Int) ^ 63 ≤ rawHash 0) && decide (rawHash 0 < 2 ^ 63)) = true then _ else _) Q E _
  rw [if_pos (by decide)]
  exact wpAny_pure h

theorem eqBool_false {Q : Bool → Shared → Prop} (h : Q true s) : wpAny (model prog w) A (eqBool (.bool false) (.bool false)) Q E s := by
  unfold eqBool
  refine wpAny_holding ?_
  rw [if_pos (by decide)]
  exact wpAny_bind (wpAny_rule (wpAny_pure h))
end

end Mine

namespace Mine
open PySem PySem.W PySem.Calls PySem.Spec PyProof.Rows
open LCg (NsObj ns_obj)

section
variable {prog : Program} {w : World} {A : Around} {E : Value → Shared → Prop} {R : Result → Shared → Prop} {s : Shared}

theorem compStart_set {elt target iter : Expr} {ifs : List Expr} {rest : List Comprehension} {scope : Scope} {pos : Pos} {it acc : Value} {env : Env}
    (h0 : codeAny (model prog w) A (.compLoop (.SetComp elt (⟨target, iter, ifs, 0⟩ :: rest) scope pos) 0 it acc env) R s)
    (h : wpAny (model prog w) A (pyIter it) (fun it' s' => codeAny (model prog w) A (.compLoop (.SetComp elt (⟨target, iter, ifs, 0⟩ :: rest) scope pos) 0 it' acc env) R s')
      (notedBy (model prog w) A env fun x s' => R (.error x) s') s) :
    codeAny (model prog w) A (.compStart (.SetComp elt (⟨target, iter, ifs, 0⟩ :: rest) scope pos) 0 it acc env) R s := by
  refine codeAny_of_tree ?_
  show wpAny _ _ ((compStart (.SetComp elt (⟨target, iter, ifs, 0⟩ :: rest) scope pos) 0 it acc env).onRaise (fun x => do noteFrame x env; standAt theWindowsPlace)) _ _ s
  refine wpAny_notedAt ?_
  unfold compStart
  show wpAny _ _ (ask >>= _) _ _ s
  refine wpAny_bind (wpAny_askSetting (wpAny_ite ?_))
  split
  · first
      | exact wpAny_bind (wpAny_pure (wpAny_pure (And.intro rfl h0)))
      | exact wpAny_pure (And.intro rfl h0)
  · first
      | exact wpAny_bind (wpAny_rule (wpAny_bind (wpAny_standAt (wpAny_bind (wpAny_mono h (fun it' s' h' => wpAny_pure (And.intro rfl h')) fun _ _ x => x)))))
      | (refine wpAny_bind (wpAny_rule ?_); show wpAny _ _ (standAt iter.pos >>= _) _ _ s; exact wpAny_bind (wpAny_standAt (wpAny_bind (wpAny_mono h (fun it' s' h' => wpAny_pure (And.intro rfl h')) fun _ _ x => x))))

theorem compLoop_set {elt target iter : Expr} {scope : Scope} {pos : Pos} {it acc : Value} {env : Env} (I : Nat → Shared → Prop)
    (turn : ∀ n s, I n s → wpAny (model prog w) A (pyNext it) (fun r s₁ => match r with
      | none => R (.ok .next) s₁
      | some v => wpAny (model prog w) A (assign target env v) (fun _ s₂ => wpAny (model prog w) A (eval elt env) (fun x s₃ =>
          wpAny (model prog w) A (call (.builtin "set.add") [acc, x]) (fun _ s₄ => ∃ m, m < n ∧ I m s₄) Nay s₃) Nay s₂) Nay s₁) Nay s)
    (n : Nat) (h : I n s) (ht : ∀ v, letOwnedTupleGo target it v = pure () := by intro _; rfl) :
    codeAny (model prog w) A (.compLoop (.SetComp elt [⟨target, iter, [], 0⟩] scope pos) 0 it acc env) R s := by
  refine codeAny_loop rfl I (fun n s hI => ?_) n h
  show wpAny _ A ((compTurn (.SetComp elt [⟨target, iter, [], 0⟩] scope pos) 0 it acc env).onRaise (fun x => do noteFrame x env; theTreesLotGoes x)) _ _ s
  refine wpAny_noted ?_
  rw [compTurn_set]
  refine wpAny_mono (E := Nay) ?_ (fun _ _ x => x) fun _ _ e => e.elim
  refine wpAny_bind (wpAny_standAt (wpAny_bind (wpAny_mono (turn n s hI) (fun r s₁ h₁ => ?_) fun _ _ h' => h')))
  cases r with
  | none => exact wpAny_pure h₁
  | some v =>
    refine wpAny_bind (wpAny_of_eq (ht v) ?_)
    refine wpAny_bind (wpAny_mono h₁ (fun _ s₂ h₂ => wpAny_bind (wpAny_bind (wpAny_mono h₂ (fun x s₃ h₃ => wpAny_bind (wpAny_standAt (wpAny_bind (wpAny_mono h₃ (fun _ s₄ h₄ => wpAny_pure (wpAny_pure ⟨rfl, h₄⟩)) fun _ _ h' => h')))) fun _ _ h' => h'))) fun _ _ h' => h')
end
end Mine

namespace Mine
open PySem PySem.W PySem.Calls PySem.Spec PyProof.Rows

theorem lay_led (led : Bool) : (layNew (.fresh 0 0 led) #[] 0 (.bool false)).1 = #[(0, .bool false)] := by cases led <;> decide +kernel
theorem lay_fits (led : Bool) : (layNew (.fresh 0 0 led) #[] 0 (.bool false)).2.1.fits 1 = true := by cases led <;> decide +kernel
theorem lay_dummy (led : Bool) : (layNew (.fresh 0 0 led) #[] 0 (.bool false)).2.2.1 = false := by cases led <;> decide +kernel
theorem lay_gave (led : Bool) : (layNew (.fresh 0 0 led) #[] 0 (.bool false)).2.2.2 = false := by cases led <;> decide +kernel
theorem lay_full (led : Bool) : (layNew (.fresh 0 0 led) #[] 0 (.bool false)).2.1.tooFull = false := by cases led <;> decide +kernel
theorem lay_plain (led : Bool) : (layNew (.fresh 0 0 led) #[] 0 (.bool false)).2.1.plain = true := by cases led <;> decide +kernel

noncomputable def tF (led : Bool) : SetTable := (layNew (.fresh 0 0 led) #[] 0 (.bool false)).2.1

section
variable {prog : Program} {w : World} {A : Around} {E : Value → Shared → Prop} {s : Shared}

theorem addBy_new {a : Addr} {o : Obj} {ep : Nat} {led : Bool} {Q : Bool → Shared → Prop} (ho : s.heap.get? a = some o) (hd : o.data = .set #[] ep (.fresh 0 0 led))
    (h : Q true { s with heap := s.heap.update a (Obj.putSet #[(0, .bool false)] (tF led)) }) : wpAny (model prog w) A (setAddHashed a (.bool false) 0) Q E s := by
  unfold setAddHashed
  show wpAny _ _ (holding [.bool false] (setAddHashedIn a (.bool false) 0 (99999 + 1))) Q E s
  unfold setAddHashedIn
  refine wpAny_holding (wpAny_bind (wpAny_setState_of ho hd (by cases led <;> decide +kernel) ?_))
  dsimp only
  rw [if_pos (by decide +kernel)]
  refine wpAny_bind ?_
  unfold setAddByScan setScan setScanFrom
  refine wpAny_bind (wpAny_rule (wpAny_bind (wpAny_pure ?_)))
  dsimp only
  rw [lay_gave, lay_dummy, lay_led, if_pos (lay_plain led)]
  refine wpAny_bind (wpAny_pure ?_)
  refine wpAny_bind (wpAny_pure ?_)
  simp only [if_true, lay_full, Bool.not_false, Bool.true_and, Bool.false_eq_true, if_false]
  refine wpAny_bind ?_
  unfold storeSet
  obtain ⟨c, dd, dt, sl⟩ := o
  simp only at hd
  subst hd
  refine wpAny_bind (wpAny_load ho ?_)
  dsimp only
  rw [if_neg (by rw [sizeLine_eq]; decide)]
  exact wpAny_update ho (wpAny_pure (wpAny_pure h))

theorem tF_fits (led : Bool) : (tF led).fits 1 = true := lay_fits led

theorem addBy_old {a : Addr} {o : Obj} {ep : Nat} {led : Bool} {Q : Bool → Shared → Prop} (ho : s.heap.get? a = some o) (hd : o.data = .set #[(0, .bool false)] ep (tF led)) (h : Q false s) : wpAny (model prog w) A (setAddHashed a (.bool false) 0) Q E s := by
  unfold setAddHashed
  show wpAny _ _ (holding [.bool false] (setAddHashedIn a (.bool false) 0 (99999 + 1))) Q E s
  unfold setAddHashedIn
  refine wpAny_holding (wpAny_bind (wpAny_setState_of ho hd (tF_fits led) ?_))
  dsimp only
  rw [if_pos (by decide +kernel)]
  refine wpAny_bind ?_
  unfold setAddByScan setScan setScanFrom
  refine wpAny_bind (wpAny_rule (wpAny_bind ?_))
  rw [if_pos (by decide)]
  refine wpAny_bind (wpAny_setEpoch_of ho hd (tF_fits led) (wpAny_bind (eqBool_false ?_)))
  rw [if_pos (by decide)]
  exact wpAny_pure (wpAny_pure (wpAny_pure h))
end
end Mine

namespace Mine
open PySem PySem.W PySem.Calls PySem.Spec PyProof.Rows

noncomputable def sled (w : World) : Bool := !(w.params.followText "set-order")
noncomputable def FS (w : World) (b : Bool) (o : Obj) : Prop := o.ExactSet ∧ ∃ ep, o.data = .set (if b then #[(0, .bool false)] else #[]) ep (if b then tF (sled w) else .fresh 0 0 (sled w))

section
variable {prog : Program} {w : World} {A : Around} {E : Value → Shared → Prop} {s s₀ : Shared} {S : List Addr} {L : Addr} {m : Str → Option Value} {mu fz pre : List (Addr × Obj)}

theorem newFS {Q : Value → Shared → Prop} (C : St s₀ S L m mu fz s) (h : ∀ D oD s', FS w false oD → St s₀ S L m ((D, oD) :: mu) fz s' → Q (.ref D) s') : wpAny (model prog w) A (newSet (.type "set")) Q E s := by
  unfold newSet setsByText
  refine wpAny_bind (wpAny_bind (wpAny_askSetting (wpAny_pure ?_)))
  dsimp only
  simp only [newObj]
  have C' := C.heap' (C.cx.pushM (o := { cls := .type "set", dict := none, data := .set #[] 0 (.fresh 0 0 (sled w)) }) rfl)
  exact wpAny_bind (wpAny_alloc (wpAny_pure (h _ _ _ ⟨⟨rfl, rfl, rfl⟩, 0, rfl⟩ C')))

theorem addFS {D : Addr} {oD : Obj} {b : Bool} {Q : Value → Shared → Prop} (C : St s₀ S L m (pre ++ (D, oD) :: mu) fz s) (hD : FS w b oD) (h : ∀ oD' s', FS w true oD' → St s₀ S L m (pre ++ (D, oD') :: mu) fz s' → Q .none s') :
    wpAny (model prog w) A (call (.builtin "set.add") [.ref D, .bool false]) Q E s := by
  have ho := (C.cx.mus (D, oD) (by simp)).1
  obtain ⟨⟨e1, e2, e3⟩, ep, hd⟩ := id hD
  refine wpAny_call_entry F.slot_set_add ⟨_, ho, e1⟩ F.entry_set_add ?_ (F.args_set_add_2 _ _)
  unfold Builtin.«set.add» Builtin.Frozenset.oneOther
  simp only [List.isEmpty_nil, bind_assoc]
  unfold Builtin.Frozenset.addrOf setAdd
  refine wpAny_bind (wpAny_pure ?_)
  try dsimp only
  refine wpAny_bind (wpAny_pure ?_)
  try dsimp only
  refine wpAny_bind ?_
  refine wpAny_holding ?_
  refine wpAny_bind (pyHash_false ?_)
  cases b with
  | false =>
    refine addBy_new (s := { s with toks := s.toks + 1 }) ho hd ?_
    obtain ⟨c, dd, dt, sl⟩ := oD
    simp only at hd e1 e2 e3
    subst hd e1 e2 e3
    show wpAny _ _ (ret Value.none) _ _ _
    exact wpAny_pure ⟨_, rfl, h _ _ ⟨⟨rfl, rfl, rfl⟩, _, rfl⟩ (C.heap (C.cx.turn (Heap.SameBut.update ..).extBut (Heap.get?_update_self _ ho rfl)) _)⟩
  | true =>
    refine addBy_old (s := { s with toks := s.toks + 1 }) ho hd ?_
    show wpAny _ _ (ret Value.none) _ _ _
    exact wpAny_pure ⟨_, rfl, h _ _ hD (C.tok _)⟩
end
end Mine

namespace Mine
open PySem PySem.W PySem.Calls PySem.Spec PyProof.Rows
open LCg (NsObj ns_obj)

section
variable {prog : Program} {w : World} {A : Around} {E : Value → Shared → Prop} {s s₀ : Shared} {S : List Addr} {L : Addr} {m : Str → Option Value} {mu fz fz₀ pre : List (Addr × Obj)} {env : Env}
theorem ev_setF {elt iter : Expr} {x : Str} {px : Pos} {scope : Scope} {cl : List (Str × Addr)} {pos : Pos} {Q : Value → Shared → Prop}
    (hh : A.handled = none) (Z : ∀ p ∈ fz₀, s₀.heap.get? p.1 = some p.2 ∧ p.1 ∉ S)
    (h : wpAny (model prog w) A (eval iter env) (fun v s₁ => ∃ (l : Addr) (vs : List Value) (nn : Nat) (mu fz : List (Addr × Obj)), v = .ref l ∧ 0 < vs.length ∧ St s₀ S L m mu fz s₁ ∧ (l, ({ cls := .type "tuple", data := .seq vs.toArray nn } : Obj)) ∈ fz ++ fz₀ ∧
      (∀ (i : Nat) (v : Value) oI Ca oC mc D oD I s₂, vs[i]? = some v → NsObj oC mc → mc x = some v → St s₀ S L m ((I, oI) :: (Ca, oC) :: (D, oD) :: mu) fz s₂ →
        wpAny (model prog w) A (eval elt (compEnvC scope cl Ca env)) (fun y s₃ => y = .bool false ∧ St s₀ S L m ((I, oI) :: (Ca, oC) :: (D, oD) :: mu) fz s₃) Nay s₂) ∧
      (∀ D oD s', FS w true oD → St s₀ S L m ((D, oD) :: mu) fz s' → Q (.ref D) s')) E s)
    (hclos : closureFor scope env = pure cl := by rfl) (hcell : ∀ y ∈ scope.names, y.2 ≠ .cell := by decide) (hkind : scope.kind = .function := by rfl)
    (hnames : ∀ y ∈ scope.names, y.2 = .local → scope.names.lookup y.1 = some .local := by decide) (hx : scope.names.lookup x = some .local := by rfl)
    (hs : ∀ x, foldedSetIterable iter env x = pure x := by intro _; rfl) :
    wpAny (model prog w) A (eval (.SetComp elt [⟨.Name x px, iter, [], 0⟩] scope pos) env) Q E s := by
  rw [arm_eval_SetComp]
  refine wpAny_comprehension_free (use := none) rfl hs hclos hkind hnames (wpAny_mono h (fun xv s₁ h₁ => ?_) fun _ _ e => e)
  obtain ⟨l, vs, nn, mu, fz, rfl, hpos, C, hl, turn, fin⟩ := h₁
  have hol := C.cx.all Z _ hl
  have hT : s₁.heap.IsTuple l vs.toArray := ⟨_, hol, rfl, nn, rfl⟩
  have hne : l ≠ s₁.heap.objs.size := Nat.ne_of_lt (Heap.lt_size hol)
  refine wpAny_pyIter_tuple hT ?_
  have Wk := Walks.tuple (prog := prog) (w := w) hh s₁.heap.objs.size l hne vs.toArray
  have C := C.heap' (C.cx.pushM (o := { cls := .type "tuple_iterator", data := .fields #[.ref l, .int 0 0] }) rfl)
  generalize s₁.heap.objs.size = I at *
  refine newFS C fun D oD s₂ hD C => ?_
  refine wpAny_newFunctionEnv hcell (by intro y hy; simp at hy) (fun h₁ hns₁ hsb₁ => ?_) hkind
  have hk₁ : ∀ b o, s₂.heap.get? b = some o → h₁.get? b = some o := fun b o e => hsb₁.extBut b o (Nat.ne_of_lt (Heap.lt_size e)) (Heap.get?_push_of_some _ e)
  obtain ⟨oC, heC, hoC⟩ := ns_obj hns₁
  have fresh : ∀ p, s₂.heap.get? p = none → s₀.heap.get? p = none := fun p e => by
    cases q : s₀.heap.get? p with
    | none => rfl
    | some o => obtain ⟨_, e'⟩ := C.cx.gro.2 p o q; rw [e] at e'; cases e'
  have C₁ := C.heap ((C.cx.keeps hk₁).addM heC (fresh _ (get?_fresh _)) (Nat.ne_of_gt C.cx.lt) (fun p hp => Nat.ne_of_lt (Heap.lt_size (C.cx.mus p hp).1)) fun q hq => Nat.ne_of_lt (Heap.lt_size (C.cx.fzs q hq).1)) (s₂.toks + ([] : List (Str × Value)).length)
  have C₁ := C₁.swap3.swap3
  have tupAt : ∀ {m mu' s'}, St s₀ S L m mu' fz s' → s'.heap.IsTuple l vs.toArray := fun C => ⟨_, C.cx.all Z _ hl, rfl, nn, rfl⟩
  have loop : codeAny (model prog w) A (.compLoop (.SetComp elt [⟨.Name x px, iter, [], 0⟩] scope pos) 0 (.ref I) (.ref D) (compEnvC scope cl s₂.heap.objs.size env)) (compPost (model prog w) A E none Q (.ref D) s₂.heap.objs.size) { s₂ with heap := h₁, toks := s₂.toks + ([] : List (Str × Value)).length } := by
    generalize s₂.heap.objs.size = Ca at *
    refine compLoop_set (fun k s' => ∃ i oI oC mc oD b, i ≤ vs.length ∧ k = vs.length - i ∧ oI.cls = .type "tuple_iterator" ∧ oI.data = .fields #[.ref l, .int (i : Nat) 0] ∧ St s₀ S L m ((I, oI) :: (Ca, oC) :: (D, oD) :: mu) fz s' ∧ NsObj oC mc ∧ FS w b oD ∧ (0 < i → b = true)) ?_ vs.length
      ⟨0, _, oC, _, oD, false, Nat.zero_le _, rfl, rfl, rfl, C₁, hoC, hD, fun h => absurd h (Nat.lt_irrefl _)⟩
    rintro k s' ⟨i, oI, oC, mc, oD, b, hi, rfl, hc, hd, C, hoC, hD, hb⟩
    have hst : s'.heap.IsTupleIter I l i := ⟨oI, (C.cx.mus _ (.head _)).1, hc, hd⟩
    by_cases hlt : i < vs.length
    · refine wpAny_pyNext_tuple_item hst (tupAt C) (x := vs[i]) (by simp [hlt]) fun h' hit hs' => ?_
      obtain ⟨oI', eI, hc', hd'⟩ := hit
      have C₂ := C.heap' (Cx.turn (pre := []) C.cx hs'.extBut eI)
      refine wpAny_assign_Name (wpAny_storeName_local (lookup_relabel_local hx) (hoC.ns (C₂.cx.mus _ (.tail _ (.head _))).1) (fun h₃ hn₃ hs₃ => ?_) (by simp [compEnvC, relabel, hkind]))
      obtain ⟨oC', eC', hoC'⟩ := ns_obj hn₃
      have C₃ := C₂.heap (Cx.turn (pre := [(I, oI')]) C₂.cx hs₃.extBut eC') (s'.toks + 1)
      refine wpAny_mono (turn i vs[i] oI' Ca oC' _ D oD I _ (List.getElem?_eq_getElem hlt) hoC' (by simp) C₃) (fun y s₄ h₄ => ?_) fun _ _ e => e
      obtain ⟨rfl, C₄⟩ := h₄
      refine addFS (pre := [(I, oI'), (Ca, oC')]) C₄ hD fun oD' s₅ hD' C₅ => ?_
      exact ⟨vs.length - (i + 1), by omega, i + 1, oI', oC', _, oD', true, hlt, rfl, hc', hd', C₅, hoC', hD', fun _ => rfl⟩
    · have hie : i = vs.length := by omega
      refine wpAny_pyNext_tuple_end hh hst (tupAt C) (by simp [hie]) fun h' he' => ?_
      have C₂ := C.heap' (C.cx.but fun b o hb e => he' b o hb e)
      have hbt := hb (by omega)
      subst hbt
      refine ⟨mc, hoC.ns (C₂.cx.mus _ (.head _)).1, fun h'' hs'' => fin D oD _ hD (C₂.heap' (C₂.cx.but fun b o hb e => hs''.extBut b o hb e))⟩
  exact compStart_set loop (wpAny_pyIter_tupleiter ⟨_, (C₁.cx.mus _ (.head _)).1, rfl, rfl⟩ loop)
end
end Mine

namespace Mine
open PySem PySem.W PySem.Calls PySem.Spec PyProof.Rows

theorem owner_seti : Manifest.owners.lookup (String.ofList ['r', 'o', 't', 'a', 'r', 'e', 't', 'i', '_', 't', 'e', 's'].reverse) = some Manifest.sig_set_iterator := by kernel_rfl
theorem slot_seti_next : Slot "set_iterator" "__next__" "set_iterator.__next__" :=
  .of (owner := "set_iterator") (n := "__next__") (by rw [typeLookup_type, builtinLookup_eq_fast]; kernel_rfl) (by decide +kernel) (by decide +kernel) (by decide +kernel)
    (by first | exact .inl (by decide +kernel) | exact .inr (by decide +kernel)) (by rw [isSubtype_type]; kernel_rfl)
theorem entry_seti_next : entryFor table "set_iterator.__next__" = some Builtin.«set_iterator.__next__» := entryFor_of_tree (by kernel_rfl)
theorem args_seti_next (a : Value) : argsOk "set_iterator.__next__" ⟨[a], []⟩ := by
  unfold argsOk; rw [signature?_of (id := "set_iterator.__next__") (n := ['_', '_', 't', 'x', 'e', 'n', '_', '_']) (o := ['r', 'o', 't', 'a', 'r', 'e', 't', 'i', '_', 't', 'e', 's']) (by kernel_rfl) owner_seti]; kernel_rfl
theorem entry_set_iter : entryFor table "set.__iter__" = some Builtin.«frozenset.__iter__» :=
  entryFor_alias (id' := "frozenset.__iter__") (by kernel_rfl) rfl (by decide +kernel) (by kernel_rfl)

section
variable {prog : Program} {w : World} {A : Around} {E : Value → Shared → Prop} {s s₀ : Shared} {S : List Addr} {L : Addr} {m : Str → Option Value} {mu fz pre : List (Addr × Obj)}

noncomputable def IsSetIt (h : Heap) (it D : Addr) (i k : Nat) (ep : Nat) : Prop :=
  ∃ o, h.get? it = some o ∧ o.cls = .type "set_iterator" ∧ o.data = .fields #[.int i 0, .int k 0, .ref D, .int 1 0, .int ep 0]
theorem IsSetIt.typeIs {it D : Addr} {i k ep : Nat} (x : IsSetIt s.heap it D i k ep) : s.TypeIs (.ref it) "set_iterator" := let ⟨o, ho, hc, _⟩ := x; ⟨o, ho, hc⟩

theorem setDrawn_F {D : Addr} {oD : Obj} {ep : Nat} {led : Bool} {Q : Bool → Shared → Prop} (ho : s.heap.get? D = some oD) (hd : oD.data = .set #[(0, .bool false)] ep (tF led)) (h : Q false s) : wpAny (model prog w) A (setDrawn D) Q E s := by
  unfold setDrawn
  refine wpAny_bind (wpAny_setState_of ho hd (tF_fits led) ?_)
  dsimp only
  unfold setsByText
  refine wpAny_bind (wpAny_bind (wpAny_askSetting (wpAny_pure ?_)))
  refine wpAny_pure ?_
  show Q (!w.params.followText "set-order" && _) s
  generalize w.params.followText "set-order" = b
  refine (congrArg (fun b => Q b s) (?_ : _ = false)).mpr h
  cases b <;> cases led <;> decide +kernel

theorem pick_one {α : Type} (f : Nat → Nat) (x : α) : pickOrder f #[x] = #[x] := by
  show (match [x][f 0 % [x].length]? with | some y => pickOrder.go f 0 1 ([x].eraseIdx (f 0 % [x].length)) (#[].push y) | none => #[]) = #[x]
  rw [show f 0 % [x].length = 0 from Nat.mod_one _]; rfl
theorem setWalk_F {D : Addr} {oD : Obj} {ep : Nat} {led : Bool} {Q : Array (Int × Value) → Shared → Prop} (ho : s.heap.get? D = some oD) (hd : oD.data = .set #[(0, .bool false)] ep (tF led)) (hb : w.params.followText "set-order" = true) (h : Q #[(0, .bool false)] s) : wpAny (model prog w) A (setWalk D) Q E s := by
  unfold setWalk
  refine wpAny_bind (wpAny_setState_of ho hd (tF_fits led) ?_)
  dsimp only
  unfold setsByText
  refine wpAny_bind (wpAny_bind (wpAny_askSetting (wpAny_pure ?_)))
  dsimp only
  rw [if_pos (show (model prog w).w.params.followText "set-order" = true from hb)]
  refine wpAny_bind (wpAny_askSetting (wpAny_pure ?_))
  rw [pick_one]
  exact h

theorem setNext_0 {D : Addr} {oD : Obj} {ep : Nat} {Q : Option (Value × Nat) → Shared → Prop} (ho : s.heap.get? D = some oD) (hd : oD.data = .set #[(0, .bool false)] ep (tF (sled w)))
    (h : ∀ k, (sled w = true → k = 1) → Q (some (.bool false, k)) s) : wpAny (model prog w) A (setNext D 0 0 ep) Q E s := by
  unfold setNext
  refine wpAny_bind (wpAny_setState_of ho hd (tF_fits _) ?_)
  dsimp only
  unfold setsByText
  refine wpAny_bind (wpAny_bind (wpAny_askSetting (wpAny_pure ?_)))
  dsimp only
  cases hb : w.params.followText "set-order" with
  | true =>
    rw [if_pos (show (model prog w).w.params.followText "set-order" = true from hb), if_neg (by simp)]
    refine wpAny_bind (setWalk_F ho hd hb (wpAny_pure (h 0 fun e => ?_)))
    unfold sled at e; rw [hb] at e; cases e
  | false =>
    have hs : sled w = true := by unfold sled; rw [hb]; rfl
    rw [if_neg (show ¬ (model prog w).w.params.followText "set-order" = true from fun e => by rw [show (model prog w).w.params.followText "set-order" = false from hb] at e; cases e)]
    rw [hs] at *
    rw [if_neg (by decide +kernel)]
    refine wpAny_bind ?_
    refine (wpAny_of_eq (a := ()) (by rfl) ?_)
    refine wpAny_pure ?_
    exact h 1 fun _ => rfl

theorem setNext_1 {D : Addr} {oD : Obj} {ep k : Nat} {Q : Option (Value × Nat) → Shared → Prop} (ho : s.heap.get? D = some oD) (hd : oD.data = .set #[(0, .bool false)] ep (tF (sled w))) (hk : sled w = true → k = 1)
    (h : Q none s) : wpAny (model prog w) A (setNext D k 1 ep) Q E s := by
  unfold setNext
  refine wpAny_bind (wpAny_setState_of ho hd (tF_fits _) ?_)
  dsimp only
  unfold setsByText
  refine wpAny_bind (wpAny_bind (wpAny_askSetting (wpAny_pure ?_)))
  dsimp only
  cases hb : w.params.followText "set-order" with
  | true =>
    rw [if_pos (show (model prog w).w.params.followText "set-order" = true from hb), if_neg (by simp)]
    exact wpAny_bind (setWalk_F ho hd hb (wpAny_pure h))
  | false =>
    have hs : sled w = true := by unfold sled; rw [hb]; rfl
    have := hk hs
    subst this
    rw [if_neg (show ¬ (model prog w).w.params.followText "set-order" = true from fun e => by rw [show (model prog w).w.params.followText "set-order" = false from hb] at e; cases e)]
    rw [hs] at *
    rw [if_neg (by decide +kernel)]
    refine wpAny_bind ?_
    refine (wpAny_of_eq (a := ()) (by rfl) ?_)
    refine wpAny_pure ?_
    exact h

theorem next_set {it D : Addr} {oD : Obj} {ep : Nat} {Q : Option Value → Shared → Prop} (ho : s.heap.get? D = some oD) (hd : oD.data = .set #[(0, .bool false)] ep (tF (sled w))) (hit : IsSetIt s.heap it D 0 0 ep)
    (hQ : ∀ k h', IsSetIt h' it D k 1 ep → (sled w = true → k = 1) → Heap.ExtBut it s.heap h' → Q (some (.bool false)) { s with heap := h' }) : wpAny (model prog w) A (pyNext (.ref it)) Q E s := by
  obtain ⟨o, hi, hc, hf⟩ := id hit
  unfold pyNext
  refine wpAny_bind (wpAny_attempt (wpAny_callSpecial?_slot (name := Str.ofString "__next__") hit.typeIs slot_seti_next
    (wpAny_call_entry slot_seti_next hit.typeIs entry_seti_next ?_ (args_seti_next _))))
  show wpAny _ _ (fieldsOf (.ref it) >>= _) _ _ s
  refine wpAny_bind (wpAny_fieldsOf hi hf ?_)
  show wpAny _ _ (setEntries D >>= _) _ _ s
  refine wpAny_bind (wpAny_setEntries_of ho hd (tF_fits _) ?_)
  rw [if_neg (by decide)]
  show wpAny _ _ (setNext D 0 0 ep >>= _) _ _ s
  refine wpAny_bind (setNext_0 ho hd fun k hk => ?_)
  dsimp only
  refine wpAny_bind (wpAny_setField hi hf (by simp) ?_)
  have e1 := Heap.get?_update_self (Obj.mapFields (·.setIfInBounds 0 (rawInt k))) hi (Obj.isFreed_of_fields (Obj.data_mapFields hf _))
  refine wpAny_bind (wpAny_setField e1 (Obj.data_mapFields hf _) (by simp) (wpAny_pure ⟨_, rfl, wpAny_pure (hQ k _ ?_ hk fun b o hb e => ?_)⟩))
  · refine ⟨_, Heap.get?_update_self _ e1 (Obj.isFreed_of_fields (Obj.data_mapFields (Obj.data_mapFields hf _) _)), (Obj.cls_mapFields ..).trans ((Obj.cls_mapFields ..).trans hc), ?_⟩
    rw [Obj.data_mapFields (Obj.data_mapFields hf _)]; simp [rawInt]
  · exact (Heap.SameBut.update ..).extBut b o hb ((Heap.SameBut.update ..).extBut b o hb e)

theorem next_set_end {it D : Addr} {oD : Obj} {ep k : Nat} {Q : Option Value → Shared → Prop} (hh : A.handled = none) (ho : s.heap.get? D = some oD) (hd : oD.data = .set #[(0, .bool false)] ep (tF (sled w))) (hit : IsSetIt s.heap it D k 1 ep) (hk : sled w = true → k = 1)
    (hQ : ∀ h', Heap.ExtBut it s.heap h' → Q none { s with heap := h' }) : wpAny (model prog w) A (pyNext (.ref it)) Q E s := by
  obtain ⟨o, hi, hc, hf⟩ := id hit
  unfold pyNext
  refine wpAny_bind (wpAny_attempt (wpAny_callSpecial?_slot (name := Str.ofString "__next__") hit.typeIs slot_seti_next
    (wpAny_call_entry slot_seti_next hit.typeIs entry_seti_next ?_ (args_seti_next _))))
  show wpAny _ _ (fieldsOf (.ref it) >>= _) _ _ s
  refine wpAny_bind (wpAny_fieldsOf hi hf ?_)
  show wpAny _ _ (setEntries D >>= _) _ _ s
  refine wpAny_bind (wpAny_setEntries_of ho hd (tF_fits _) ?_)
  rw [if_neg (by decide)]
  show wpAny _ _ (setNext D k 1 ep >>= _) _ _ s
  refine wpAny_bind (setNext_1 ho hd hk ?_)
  dsimp only
  refine wpAny_bind (wpAny_setField hi hf (by simp) ?_)
  show wpAny _ _ (newExc (.type "StopIteration") [] >>= _) _ _ _
  refine wpAny_bind ?_
  simp only [newExc, newTuple]
  refine wpAny_bind (wpAny_newObj_type ?_ (by size_fits))
  refine wpAny_bind (m := firstArgMember _ _) (wpAny_of_eq (a := Value.none) (by first | rfl | (simp only [firstArgMember]; rfl)) ?_)
  refine wpAny_newObj_type ?_ (by size_fits)
  unfold raiseNew
  show wpAny _ _ (handled >>= _) _ _ _
  refine wpAny_bind (wpAny_handled ?_)
  first | rw [show A.in1.handled = none from hh] | rw [hh]
  refine wpAny_bind (wpAny_pure (wpAny_throw ?_))
  refine wpAny_bind (wpAny_isInstance (T := "StopIteration") (b := true) ⟨_, Heap.get?_push_size _ rfl, rfl⟩ isSubtype_stop ?_)
  exact wpAny_pure (hQ _ (((Heap.SameBut.update ..).extBut.push _).push _))

theorem iter_set {D : Addr} {oD : Obj} {Q : Value → Shared → Prop} (ho : s.heap.get? D = some oD) (hD : FS w true oD)
    (h : ∀ (ep : Nat) h', Heap.ExtBut s.heap.objs.size s.heap h' → IsSetIt h' s.heap.objs.size D 0 0 ep → (∃ ep', oD.data = .set #[(0, .bool false)] ep' (tF (sled w)) ∧ ep = ep') → Q (.ref s.heap.objs.size) { s with heap := h' }) :
    wpAny (model prog w) A (pyIter (.ref D)) Q E s := by
  obtain ⟨⟨e1, e2, e3⟩, ep, hd⟩ := id hD
  rw [if_pos rfl, if_pos rfl] at hd
  have hT : s.TypeIs (.ref D) "set" := ⟨_, ho, e1⟩
  refine wpAny_pyIter_slot hT F.slot_set_iter (wpAny_call_entry F.slot_set_iter hT entry_set_iter ?_ (F.args_set_iter_1 _))
  show wpAny _ _ (Builtin.Frozenset.sizeOf D >>= _) _ _ _
  unfold Builtin.Frozenset.sizeOf
  refine wpAny_bind (wpAny_bind (wpAny_setEntries_of ho hd (tF_fits _) (wpAny_pure ?_)))
  refine wpAny_bind (setDrawn_F ho hd ?_)
  simp only [Bool.false_eq_true, if_false]
  refine wpAny_bind (wpAny_pure ?_)
  refine wpAny_bind (wpAny_setEpoch_of ho hd (tF_fits _) ?_)
  exact wpAny_bind (wpAny_newObj_type (wpAny_pure ⟨_, rfl, "set_iterator", _, ⟨_, Heap.get?_push_size _ rfl, rfl⟩, slot_seti_next.lookup, h ep _ (fun b o _ e => Heap.get?_push_of_some _ e) ⟨_, Heap.get?_push_size _ rfl, rfl, rfl⟩ ⟨ep, hd, rfl⟩⟩))

theorem unpackFS {D : Addr} {oD : Obj} {Q : List Value → Shared → Prop} (C : St s₀ S L m mu fz s) (hh : A.handled = none) (hm : (D, oD) ∈ mu) (hD : FS w true oD) (h : ∀ s', St s₀ S L m mu fz s' → Q [.bool false] s') :
    wpAny (model prog w) A (unpackItems (.ref D) 1 none) Q E s := by
  have ho := (C.cx.mus _ hm).1
  have hlt : D ≠ s.heap.objs.size := Nat.ne_of_lt (Heap.lt_size ho)
  have hT : s.TypeIs (.ref D) "set" := ⟨_, ho, hD.1.1⟩
  unfold unpackItems
  refine wpAny_bind ?_
  unfold notIterableAtAll
  refine wpAny_bind (wpAny_specialOf hT F.slot_set_iter.lookup ?_)
  refine wpAny_pure ?_
  simp only [Bool.false_eq_true, if_false]
  refine wpAny_bind (wpAny_holding (iter_set ho hD fun ep h₁ hs₁ hi₁ hd₁ => ?_))
  obtain ⟨_, hd, rfl⟩ := hd₁
  have ho₁ := hs₁ _ _ hlt ho
  refine wpAny_bind (wpAny_holding ?_)
  show wpAny _ _ (pyNext (.ref s.heap.objs.size) >>= _) _ _ _
  refine wpAny_bind (next_set ho₁ hd hi₁ fun k h₂ hi₂ hk hs₂ => ?_)
  have ho₂ := hs₂ _ _ hlt ho₁
  refine wpAny_bind (wpAny_holding (wpAny_pure (wpAny_pure ?_)))
  rw [if_neg (by simp)]
  refine wpAny_bind (wpAny_holding (next_set_end hh ho₂ hd hi₂ hk fun h₃ hs₃ => ?_))
  simp only [Option.isSome_none, Bool.false_eq_true, if_false]
  refine wpAny_pure (h _ (C.extNew fun b o e => ?_))
  have hb : b ≠ s.heap.objs.size := Nat.ne_of_lt (Heap.lt_size e)
  exact hs₃ _ _ hb (hs₂ _ _ hb (hs₁ _ _ hb e))

end
end Mine

namespace Mine
open PySem PySem.W PySem.Calls PySem.Spec PyProof.Rows

section
variable {S : List Addr} {h₀ h h' : Heap} {L : Addr} {m : Str → Option Value} {mu fz : List (Addr × Obj)}
theorem Cx.but2 {a c : Addr} {o p : Obj} (C : Cx S h₀ L m ((a, o) :: (c, p) :: mu) fz h) (hx : ∀ b ob, b ≠ a → b ≠ c → h.get? b = some ob → h'.get? b = some ob) : Cx S h₀ L m mu fz h' where
  ns := C.ns.at fun o e => hx _ _ (Ne.symm (C.mus (a, _) (.head _)).2.2) (Ne.symm (C.mus (c, _) (.tail _ (.head _))).2.2) e
  gro := by
    have ha := (C.mus (a, o) (.head _)).2.1
    have hc := (C.mus (c, p) (.tail _ (.head _))).2.1
    refine ⟨fun b ob hb e₁ => hx b ob (fun q => by rw [q, ha] at e₁; cases e₁) (fun q => by rw [q, hc] at e₁; cases e₁) (C.gro.1 b ob hb e₁), fun b ob e₁ => ?_⟩
    obtain ⟨sl, e₂⟩ := C.gro.2 b ob e₁
    exact ⟨sl, hx b _ (fun q => by rw [q, ha] at e₁; cases e₁) (fun q => by rw [q, hc] at e₁; cases e₁) e₂⟩
  new := C.new
  above := C.above
  mus := fun r hr => by
    have nd := C.nd
    simp only [List.map_cons, List.nodup_cons, List.mem_cons, not_or] at nd
    have z := C.mus r (.tail _ (.tail _ hr))
    exact ⟨hx _ _ (fun q => nd.1.2 (List.mem_map.mpr ⟨r, hr, q⟩)) (fun q => nd.2.1 (List.mem_map.mpr ⟨r, hr, q⟩)) z.1, z.2⟩
  fzs := fun q hq => ⟨hx _ _ (Ne.symm (C.sep (a, o) (.head _) q hq)) (Ne.symm (C.sep (c, p) (.tail _ (.head _)) q hq)) (C.fzs q hq).1, (C.fzs q hq).2⟩
  sep := fun p hp q hq => C.sep p (.tail _ (.tail _ hp)) q hq
  nd := C.dropM.dropM.nd
theorem Cx.turn2 {a c t : Addr} {o p o' p' x : Obj} (C : Cx S h₀ L m ((a, o) :: (c, p) :: mu) fz h) (hx : ∀ b ob, b ≠ a → b ≠ c → h.get? b = some ob → h'.get? b = some ob) (ea : h'.get? a = some o') (ec : h'.get? c = some p') (ht : h.get? t = none) (htL : t ≠ L) (et : h'.get? t = some x) :
    Cx S h₀ L m ((a, o') :: (c, p') :: mu) ((t, x) :: fz) h' := by
  have nd := C.nd
  simp only [List.map_cons, List.nodup_cons, List.mem_cons, not_or] at nd
  have ne : ∀ {r : Addr × Obj}, h.get? r.1 = some r.2 → r.1 ≠ t := fun e q => by rw [q, ht] at e; cases e
  have ta : t ≠ a := fun q => by have := (C.mus (a, o) (.head _)).1; rw [← q, ht] at this; cases this
  have tc : t ≠ c := fun q => by have := (C.mus (c, p) (.tail _ (.head _))).1; rw [← q, ht] at this; cases this
  have h0 : h₀.get? t = none := by
    cases q : h₀.get? t with
    | none => rfl
    | some o => obtain ⟨_, e'⟩ := C.gro.2 t o q; rw [ht] at e'; cases e'
  have C1 := (C.but2 hx).addF et h0 htL fun r hr => ne (C.mus r (.tail _ (.tail _ hr))).1
  have C2 := C1.addM ec (C.mus (c, p) (.tail _ (.head _))).2.1 (C.mus (c, p) (.tail _ (.head _))).2.2 (fun r hr q => nd.2.1 (List.mem_map.mpr ⟨r, hr, q⟩)) (fun q hq => by
    rcases List.mem_cons.mp hq with rfl | hq
    · exact tc
    · exact Ne.symm (C.sep (c, p) (.tail _ (.head _)) q hq))
  exact C2.addM ea (C.mus (a, o) (.head _)).2.1 (C.mus (a, o) (.head _)).2.2 (fun r hr q => by
    rcases List.mem_cons.mp hr with rfl | hr
    · exact nd.1.1 q.symm
    · exact nd.1.2 (List.mem_map.mpr ⟨r, hr, q⟩)) (fun q hq => by
    rcases List.mem_cons.mp hq with rfl | hq
    · exact ta
    · exact Ne.symm (C.sep (a, o) (.head _) q hq))
end

section
variable {prog : Program} {w : World} {A : Around} {E : Value → Shared → Prop} {s s₀ : Shared} {S : List Addr} {L : Addr} {m : Str → Option Value} {mu fz fz₀ pre : List (Addr × Obj)} {env : Env}

theorem assign_one {xa : Str} {k : Nat} {p1 pos : Pos} {D : Addr} {oD : Obj} {Q : Unit → Shared → Prop} (C : St s₀ S env.locals m mu fz s) (hh : A.handled = none) (hm : (D, oD) ∈ mu) (hD : FS w true oD)
    (h : ∀ s', St s₀ S env.locals (fun z => if z = xa then some (.bool false) else m z) mu fz s' → Q () s')
    (hxa : env.kindOf xa = some .local := by rfl) (hp : (env.scope.kind == .class || (env.scope.kind == .module && env.locals != env.globals)) = false := by rfl) :
    wpAny (model prog w) A (assign (.Tuple [.Name xa p1] k pos) env (.ref D)) Q E s := by
  rw [assign_Tuple]
  refine wpAny_bind (wpAny_standAt ?_)
  unfold unpack
  refine wpAny_bind (wpAny_holding (unpackFS C hh hm hD fun s₁ C₁ => ?_))
  refine assignInOrder_cons (wpAny_assign_Name (st_L C₁ (fun s₂ C₂ => ?_) hxa hp))
  exact assignInOrder_nil (h _ C₂)

theorem enum_make {l : Addr} {vs : List Value} {n : Nat} {Q : Value → Shared → Prop} (C : St s₀ S L m mu fz s) (hl : s.heap.get? l = some (W.listOf vs.toArray n))
    (h : ∀ e it oi s', IsEnum s'.heap e it 0 .none → s'.heap.IsListIter it l 0 → s'.heap.get? e ≠ none → (∃ oe, St s₀ S L m ((e, oe) :: (it, oi) :: mu) fz s') → Q (.ref e) s') : wpAny (model prog w) A (call (.type "enumerate") [.ref l]) Q E s := by
  refine call_enumerate_list (listOf_is hl) fun h' he hi hsz hk => ?_
  have fresh : ∀ p, s.heap.get? p = none → s₀.heap.get? p = none := fun p e => by
    cases q : s₀.heap.get? p with
    | none => rfl
    | some o => obtain ⟨_, e'⟩ := C.cx.gro.2 p o q; rw [e] at e'; cases e'
  have hn1 : s.heap.get? s.heap.objs.size = none := get?_fresh _
  have hn2 : s.heap.get? (s.heap.objs.size + 1) = none := Heap.get?_none_of_le (Nat.le_succ _)
  obtain ⟨oi, hoi, hci, hdi⟩ := id hi
  have ll : ∀ {p : Addr × Obj}, s.heap.get? p.1 = some p.2 → p.1 < s.heap.objs.size := fun e => Heap.lt_size e
  have C1 := (C.cx.keeps hk).addM hoi (fresh _ hn1) (Nat.ne_of_gt C.cx.lt) (fun p hp => Nat.ne_of_lt (ll (C.cx.mus p hp).1)) fun q hq => Nat.ne_of_lt (ll (C.cx.fzs q hq).1)
  have C2 := C1.addM he (fresh _ hn2) (Nat.ne_of_gt (Nat.lt_succ_of_lt C.cx.lt)) (fun p hp => by
    rcases List.mem_cons.mp hp with rfl | hp
    · exact Nat.ne_of_lt (Nat.lt_succ_self _)
    · exact Nat.ne_of_lt (Nat.lt_succ_of_lt (ll (C.cx.mus p hp).1))) fun q hq => Nat.ne_of_lt (Nat.lt_succ_of_lt (ll (C.cx.fzs q hq).1))
  refine h _ _ oi _ he hi (fun q => ?_) ⟨_, C.heap' C2⟩
  have : h'.get? (s.heap.objs.size + 1) = _ := he
  rw [show h'.get? (s.heap.objs.size + 1) = none from q] at this
  cases this

noncomputable def EnumEnd (s₀ : Shared) (S : List Addr) (L : Addr) (mus fz : List (Addr × Obj)) (J : (Str → Option Value) → Prop) (Q : Flow → Shared → Prop) (f : Flow) (s₃ : Shared) : Prop :=
  match f with
  | .ret v => Q (.ret v) s₃
  | .brk => Q .next s₃
  | _ => ∃ m' tl', St s₀ S L m' mus (tl' ++ fz) s₃ ∧ J m'
noncomputable abbrev EnumInv (e it l : Addr) (vs : List Value) (s₀ : Shared) (S : List Addr) (L : Addr) (mu fz : List (Addr × Obj)) (J : Nat → (Str → Option Value) → Prop) (k : Nat) (s' : Shared) : Prop :=
  ∃ i oe oi old m₁ tl, i ≤ vs.length ∧ k = vs.length - i ∧ IsEnum s'.heap e it (i : Nat) old ∧ s'.heap.IsListIter it l i ∧ St s₀ S L m₁ ((e, oe) :: (it, oi) :: mu) (tl ++ fz) s' ∧ J i m₁

theorem for_enum {xi xv : Str} {pi pv pt : Pos} {k0 : Nat} {body : List Stmt} {l e it : Addr} {oe oi : Obj} {vs : List Value} {n : Nat} {Q : Flow → Shared → Prop}
    (C : St s₀ S env.locals m ((e, oe) :: (it, oi) :: mu) fz s) (hh : A.handled = none) (Z : ∀ p ∈ fz₀, s₀.heap.get? p.1 = some p.2 ∧ p.1 ∉ S) (hl : (l, W.listOf vs.toArray n) ∈ fz ++ fz₀)
    (he : IsEnum s.heap e it 0 .none) (hi : s.heap.IsListIter it l 0)
    (J : Nat → (Str → Option Value) → Prop) (j0 : J 0 m)
    (turn : ∀ i v ti m₁ oe oi tl s₁, vs[i]? = some v → J i m₁ → St s₀ S env.locals (fun z => if z = xv then some v else if z = xi then some (.int (i : Nat) ti) else m₁ z) ((e, oe) :: (it, oi) :: mu) (tl ++ fz) s₁ →
      wpAny (model prog w) A (execs body env) (EnumEnd s₀ S env.locals ((e, oe) :: (it, oi) :: mu) fz (J (i + 1)) Q) Nay s₁)
    (done : ∀ m' tl s₁, J vs.length m' → St s₀ S env.locals m' mu (tl ++ fz) s₁ → Q .next s₁)
    (hxi : env.kindOf xi = some .local := by rfl) (hxv : env.kindOf xv = some .local := by rfl) (hp : (env.scope.kind == .class || (env.scope.kind == .module && env.locals != env.globals)) = false := by rfl) :
    wpAny (model prog w) A (pyIter (.ref e)) (fun it s₂ => codeAny (model prog w) A (.forLoop (.Tuple [.Name xi pi, .Name xv pv] k0 pt) it body [] env) (fun r s' => match r with | .ok f => Q f s' | .error e => cameBackBy (model prog w) A env E e s') s₂) E s := by
  refine wpAny_pyIter_enum he ?_
  refine codeAny_forLoop_any (EnumInv e it l vs s₀ S env.locals mu fz J) ?_ vs.length
    ⟨0, oe, oi, .none, m, [], Nat.zero_le _, rfl, he, hi, C, j0⟩
  rintro k s' ⟨i, oe, oi, old, m₁, tl, hi, rfl, he, hit, C, hJ⟩
  have hei : e ≠ it := by
    have nd := C.cx.nd
    simp only [List.map_cons, List.nodup_cons, List.mem_cons, not_or] at nd
    exact nd.1.1
  have hl' : (l, W.listOf vs.toArray n) ∈ (tl ++ fz) ++ fz₀ := by
    rw [List.append_assoc]; exact List.mem_append_right _ hl
  have hol := C.cx.all Z _ hl'
  by_cases hlt : i < vs.length
  · refine wpAny_pyNext_enum_item (x := vs[i]) he hit (listOf_is hol) (by simp [hlt]) hei fun h₁ ho hit₁ hT hsz hk => ?_
    obtain ⟨oi₁, ei₁, hci, hdi⟩ := id hit₁
    have C₁ := C.heap (Cx.turn2 C.cx hk ho ei₁ (get?_fresh _) (Nat.ne_of_gt C.cx.lt) hT) (s'.toks + 1)
    refine wpAny_mono (E := Nay) ?_ (fun _ _ x => x) fun _ _ e => e.elim
    refine wpAny_letOwnedTupleGo_enum ho fun h₂ he₂ hs₂ => ?_
    obtain ⟨oe₂, eo₂, hoe₂⟩ : ∃ o, h₂.get? e = some o ∧ ∀ h' : Heap, h'.get? e = some o → IsEnum h' e it ((i + 1 : Nat) : Int) vs[i] := ⟨_, he₂, fun h' q => q⟩
    have C₂ := C₁.heap' (Cx.turn (pre := []) C₁.cx hs₂.extBut eo₂)
    have hit₂ : h₂.IsListIter it l (i + 1) := ⟨oi₁, hs₂.extBut it _ (Ne.symm hei) ei₁, hci, hdi⟩
    refine wpAny_mono (E := Nay) ?_ (fun _ _ x => x) fun _ _ e => e.elim
    refine wpAny_assign_Tuple hh ⟨_, (C₂.cx.fzs _ (.head _)).1, rfl, 0, rfl⟩ rfl rfl fun h₃ hs₃ => ?_
    have C₃ := C₂.extNew fun b o e => hs₃ b o (Nat.ne_of_lt (Heap.lt_size e)) e
    refine assignInOrder_cons (wpAny_assign_Name (st_L C₃ (fun s₄ C₄ => ?_) hxi hp))
    refine assignInOrder_cons (wpAny_assign_Name (st_L C₄ (fun s₅ C₅ => ?_) hxv hp))
    refine assignInOrder_nil ?_
    have C₅ : St s₀ S env.locals _ _ ((_ :: tl) ++ fz) s₅ := C₅
    refine wpAny_mono (turn i vs[i] _ m₁ _ _ _ s₅ (List.getElem?_eq_getElem hlt) hJ C₅) (fun f s₃ hf => ?_) fun _ _ e => e.elim
    have fin : (∃ m' tl', St s₀ S env.locals m' ((e, oe₂) :: (it, oi₁) :: mu) (tl' ++ fz) s₃ ∧ J (i + 1) m') →
        ∃ k, k < vs.length - i ∧ EnumInv e it l vs s₀ S env.locals mu fz J k s₃ := by
      rintro ⟨m', tl', C', hJ'⟩
      exact ⟨vs.length - (i + 1), by omega, i + 1, _, _, _, m', tl', hlt, rfl, hoe₂ _ (C'.cx.mus _ (.head _)).1, ⟨oi₁, (C'.cx.mus _ (.tail _ (.head _))).1, hci, hdi⟩, C', hJ'⟩
    cases f with
    | ret v => exact hf
    | brk => exact hf
    | next => exact fin hf
    | cont => exact fin hf
  · have hi' : i = vs.length := by omega
    subst hi'
    refine wpAny_pyNext_enum_end hh he hit (listOf_is hol) (by simp) fun h₂ hk₂ => ?_
    exact wpAny_execs_nil (done m₁ tl _ hJ (C.heap' (C.cx.but2 fun b o hb hb' e => hk₂ b o hb' e)))
end
end Mine

namespace Mine
open PySem PySem.W PySem.Calls PySem.Spec PyProof.Rows

theorem strs_are {led : List (Addr × Obj)} : ∀ {vs : List Value} {xs : List Str}, DatAll led vs (xs.map .str) → StrsAre vs xs := by
  intro vs xs
  induction xs generalizing vs with
  | nil => intro h; cases h; exact .nil
  | cons x xs ih => intro h; cases h with | cons h1 t => cases h1; exact .cons _ _ (ih t)

section
variable {prog : Program} {w : World} {A : Around} {E : Value → Shared → Prop} {s : Shared}
theorem method_join {x : Str} {t : Tok} {xs : List Str} {pos : Pos} {a : Sem Value} {Q : Value → Shared → Prop} (hs : x.length ≤ 16) (hw : (xs.map (·.length)).sum + xs.length ≤ 1048576)
    (h : wpAny (model prog w) A a (fun v s₁ => ∃ led, DatIn led v (.list (xs.map .str)) ∧ (∀ p ∈ led, s₁.heap.get? p.1 = some p.2) ∧ ∀ t' k, Q (.str (Txt.join x xs) t') { s₁ with toks := k }) E s) :
    MethodOnS prog w A E "join" (.str x t) pos [(false, a)] Q s := by
  refine SB.join (wpAny_mono h (fun v s₁ h₁ => ?_) fun _ _ e => e)
  obtain ⟨led, hd, hl, hq⟩ := h₁
  obtain ⟨D, vs, n, rfl, hm, dv⟩ := DatIn.list_inv hd
  obtain ⟨l, hv, ht⟩ := strsAre_values (strs_are dv)
  exact ⟨D, l, rfl, ⟨_, hl _ hm, rfl, n, by rw [hv]⟩, xs, ht, joinOk_of_weight hw hs, hq⟩
end

noncomputable def com : List Str → List Str → List Str
  | x :: xs, y :: ys => if x = y then x :: com xs ys else []
  | _, _ => []
theorem com_nil (ys : List Str) : com [] ys = [] := by cases ys <;> rfl
theorem com_cons (x y : Str) (xs ys : List Str) : com (x :: xs) (y :: ys) = if x = y then x :: com xs ys else [] := rfl
theorem com_break : ∀ {xs ys : List Str} {i : Nat} {a b : Str}, xs.take i = ys.take i → xs[i]? = some a → ys[i]? = some b → a ≠ b → com xs ys = xs.take i
  | [], _, _, _, _, _, h, _, _ => by simp at h
  | _ :: _, [], _, _, _, _, _, h, _ => by simp at h
  | x :: xs, y :: ys, 0, a, b, _, h1, h2, hne => by
    simp only [List.getElem?_cons_zero, Option.some.injEq] at h1 h2
    subst h1 h2
    exact if_neg hne
  | x :: xs, y :: ys, i + 1, a, b, h, h1, h2, hne => by
    simp only [List.take_succ_cons, List.cons.injEq, List.getElem?_cons_succ] at h h1 h2
    rw [com_cons, if_pos h.1, List.take_succ_cons, com_break h.2 h1 h2 hne]
theorem com_all : ∀ {xs ys : List Str}, xs = ys.take xs.length → com xs ys = xs
  | [], ys, _ => com_nil ys
  | x :: xs, [], h => by simp at h
  | x :: xs, y :: ys, h => by
    simp only [List.length_cons, List.take_succ_cons, List.cons.injEq] at h
    rw [com_cons, if_pos h.1, com_all h.2]
theorem slt_short : ∀ {xs ys : List Str} {i : Nat}, xs.take i = ys.take i → i < xs.length → ys.length ≤ i → slt ys xs = true
  | [], _, _, _, h, _ => by simp at h
  | _ :: _, [], _, _, _, _ => rfl
  | x :: xs, y :: ys, 0, _, _, h => by simp at h
  | x :: xs, y :: ys, i + 1, h, h1, h2 => by
    simp only [List.take_succ_cons, List.cons.injEq, List.length_cons, Nat.add_lt_add_iff_right, Nat.add_le_add_iff_right] at h h1 h2
    exact (if_pos h.1.symm).trans (slt_short h.2 h1 h2)

noncomputable def loP (p q : List Str) : List Str := if slt q p = true then q else p
noncomputable def hiP (p q : List Str) : List Str := if slt p q = true then q else p
set_option maxHeartbeats 4000000 in
theorem lo_hi : ∀ p ∈ allP, ∀ q ∈ allP, slt (hiP p q) (loP p q) = false ∧ com (loP p q) (hiP p q) = com p q := by decide +kernel
theorem notAbs : ∀ p ∈ allP, Txt.startswith (J p) slash = false := by decide +kernel
theorem names_ok : ∀ p ∈ allP, p.length ≤ 3 ∧ ∀ c ∈ p, ((c.length : Int) != 0) = true ∧ (c.cps.toList != (Str.ofString ".").cps.toList) = true ∧ c.length ≤ 2 := by decide +kernel
theorem com_len : ∀ xs ys : List Str, (com xs ys).length ≤ xs.length
  | [], ys => by rw [com_nil]; exact Nat.le_refl _
  | x :: xs, [] => Nat.zero_le _
  | x :: xs, y :: ys => by
    rw [com_cons]
    by_cases e : x = y
    · rw [if_pos e]; exact Nat.succ_le_succ (com_len xs ys)
    · rw [if_neg e]; exact Nat.zero_le _
theorem com_mem : ∀ {xs ys : List Str} {c : Str}, c ∈ com xs ys → c ∈ xs
  | [], ys, c, h => by rw [com_nil] at h; exact h
  | x :: xs, [], c, h => nomatch h
  | x :: xs, y :: ys, c, h => by
    rw [com_cons] at h
    by_cases e : x = y
    · rw [if_pos e] at h
      rcases List.mem_cons.mp h with rfl | h
      · exact .head _
      · exact .tail _ (com_mem h)
    · rw [if_neg e] at h; exact nomatch h
theorem weight_le : ∀ (xs : List Str) (k : Nat), (∀ c ∈ xs, c.length ≤ k) → (xs.map (·.length)).sum ≤ xs.length * k
  | [], _, _ => by simp
  | x :: xs, k, h => by
    have h1 := h x (.head _)
    have h2 := weight_le xs k fun c hc => h c (.tail _ hc)
    simp only [List.map_cons, List.sum_cons, List.length_cons, Nat.add_mul, Nat.one_mul]
    omega
theorem empty_add (x : Str) : Txt.slice slash none (some 0) ++ x = x := by
  have : Txt.slice slash none (some 0) = ⟨#[]⟩ := by decide +kernel
  rw [this]
  show (⟨#[] ++ x.cps⟩ : Str) = x
  simp
theorem asc {a b c : List (Addr × Obj)} {v : Value} {d : Dat} (h : DatIn (a ++ (b ++ c)) v d) : DatIn ((a ++ b) ++ c) v d := by rw [List.append_assoc]; exact h
theorem DatIn.inn {a b c : List (Addr × Obj)} {v : Value} {d : Dat} (h : DatIn (b ++ c) v d) : DatIn (a ++ b ++ c) v d := h.mono fun _ => mem_in
theorem DatAll.inn {a b c : List (Addr × Obj)} {v : List Value} {d : List Dat} (h : DatAll (b ++ c) v d) : DatAll (a ++ b ++ c) v d := h.mono fun _ => mem_in
theorem DatIn.cs {x : Addr × Obj} {b c : List (Addr × Obj)} {v : Value} {d : Dat} (h : DatIn (b ++ c) v d) : DatIn ((x :: b) ++ c) v d := h.mono fun _ h => .tail _ h
theorem DatAll.cs {x : Addr × Obj} {b c : List (Addr × Obj)} {v : List Value} {d : List Dat} (h : DatAll (b ++ c) v d) : DatAll ((x :: b) ++ c) v d := h.mono fun _ h => .tail _ h

theorem mem_as {α : Type} {a b c d : List α} {p : α} (h : p ∈ a ++ (b ++ c) ++ d) : p ∈ (a ++ b) ++ c ++ d := by
  rw [List.append_assoc a]; exact h
theorem at_list {led : List (Addr × Obj)} {vs : List Value} {xs : List (List Str)} {i : Nat} {v : Value} {G : Prop} (h : DatAll led vs (xs.map dP)) (hv : vs[i]? = some v)
    (k : ∀ p a ws n, xs[i]? = some p → v = .ref a → (a, W.listOf ws.toArray n) ∈ led → DatAll led ws (p.map .str) → DatIn led (.ref a) (dP p) → G) : G := by
  obtain ⟨p, hp, dp⟩ := DatAll.at_map h hv
  obtain ⟨a, ws, n, rfl, hm, dw⟩ := DatIn.list_inv dp
  exact k p a ws n hp rfl hm dw dp
theorem at_strs {led : List (Addr × Obj)} {vs : List Value} {xs : List Str} {i : Nat} {v : Value} {G : Prop} (h : DatAll led vs (xs.map .str)) (hv : vs[i]? = some v)
    (k : ∀ c t, xs[i]? = some c → v = .str c t → G) : G := by
  obtain ⟨c, hc, dc⟩ := DatAll.at_map h hv
  obtain ⟨t, rfl⟩ := DatIn.str_inv dc
  exact k c t hc rfl
noncomputable def dJ (p : List Str) : Dat := .str (J p)
theorem at_dJ {led : List (Addr × Obj)} {vs : List Value} {xs : List (List Str)} {i : Nat} {v : Value} {G : Prop} (h : DatAll led vs (xs.map dJ)) (hv : vs[i]? = some v)
    (k : ∀ p t, xs[i]? = some p → v = .str (J p) t → G) : G := by
  obtain ⟨p, hp, dp⟩ := DatAll.at_map h hv
  obtain ⟨t, rfl⟩ := DatIn.str_inv dp
  exact k p t hp rfl
theorem dirname_at {w : World} {B : Heap} {mg mb : Str → Option Value} {A : Around} {E : Value → Shared → Prop} {s : Shared} {fr : List Env} {d u : Nat} {p : List Str} {t : Tok} {Q : Value → Shared → Prop} (am : Amb (hd.heap_39 w.params) B mg mb) (hp : p ∈ allP) (R : Room A fr (d + 2) (u + 6)) (X : Act B s.heap fr)
    (k : ∀ (t' : Tok) (s' : Shared) (tl : List (Addr × Obj)), Same s s' → Gro (frs fr) s.heap s'.heap → (∀ p ∈ tl, s'.heap.get? p.1 = some p.2 ∧ s.heap.get? p.1 = none) → Q (.str (J p.dropLast) t') s') : wpAny (model PySem.Challenge.rw_il0010_01.row.prog w) A (call (.ref 159) [.str (J p) t]) Q E s :=
  dirname_ok am hp R X fun v s' tl sm g ht hv => by obtain ⟨t', rfl⟩ := hv; exact k t' s' tl sm g ht
end Mine

namespace Mine
open PySem PySem.W PySem.Calls PySem.Spec PyProof.Rows
open LCg (NsObj ns_obj)

theorem J_com : ∀ p ∈ allP, ∀ q ∈ allP, (J (com p q)).length ≤ 10 := by decide +kernel
theorem pick_two {led : List (Addr × Obj)} {a1 a2 : Addr} {us1 us2 : List Value} {n1 n2 : Nat} {p q : List Str} (h1 : (a1, W.listOf us1.toArray n1) ∈ led) (h2 : (a2, W.listOf us2.toArray n2) ∈ led) (d1 : DatAll led us1 (p.map .str)) (d2 : DatAll led us2 (q.map .str)) (b : Bool) :
    ∃ us n, ((if b = true then a2 else a1), W.listOf us.toArray n) ∈ led ∧ DatAll led us ((if b = true then q else p).map .str) := by
  cases b
  · exact ⟨us1, n1, h1, d1⟩
  · exact ⟨us2, n2, h2, d2⟩

section
variable {w : World} {B : Heap} {mg mb : Str → Option Value} {A : Around} {E : Value → Shared → Prop} {s s₀ : Shared} {fr : List Env} {d u : Nat} {fz₀ : List (Addr × Obj)}

noncomputable abbrev comP (p q : List Str) (v : Value) (_ : List (Addr × Obj)) : Prop := ∃ t, v = .str (J (com p q)) t
noncomputable abbrev comJ (lo hi : List Str) (aL aH : Addr) (i : Nat) (m : Str → Option Value) : Prop :=
  m (Str.ofString "s1") = some (.ref aL) ∧ m (Str.ofString "s2") = some (.ref aH) ∧ m (Str.ofString "isabs") = some (.bool false) ∧ m (Str.ofString "common") = some (.ref aL) ∧ lo.take i = hi.take i
noncomputable abbrev comQ (p q : List Str) (s : Shared) (S : List Addr) (L : Addr) (o2 : Obj) (fz₀ : List (Addr × Obj)) (f : Flow) (s' : Shared) : Prop :=
  f = .next ∧ ∃ m' mu' fz' v, St s S L m' mu' fz' s' ∧ (L + 1, o2) ∈ mu' ∧ m' (Str.ofString "isabs") = some (.bool false) ∧ m' (Str.ofString "common") = some v ∧ DatIn (fz' ++ fz₀) v (dP (com p q))

set_option maxHeartbeats 2000000 in
theorem commonpath_ok {v : Value} {p q : List Str} {Q : Value → Shared → Prop} (am : Amb (hd.heap_39 w.params) B mg mb) (R : Room A fr (d + 4) (u + 100)) (X : Act B s.heap fr) (Z : ∀ p ∈ fz₀, s.heap.get? p.1 = some p.2 ∧ p.1 ∉ frs fr)
    (hp : p ∈ allP) (hq : q ∈ allP) (hv : DatIn fz₀ v (.list [.str (J p), .str (J q)]))
    (k : Ret fr s Q (comP p q)) : wpAny (model PySem.Challenge.rw_il0010_01.row.prog w) A (call (.ref 164) [v]) Q E s := by
  obtain ⟨l, vs, n, rfl, hl, dv⟩ := DatIn.list_inv hv
  refine enterX (d := d + 3) (u := u + 97) (binds := [(Str.ofString "paths", .ref l)]) am rfl rfl R X (BindsTo.of_eq rfl) (fun L cells s₁ C Y X' R' => ?_) k ?_
  · obtain ⟨o1, o2, rfl, ho1, ho2⟩ := Y.two
    refine hideEnd fun EE hEE => ?_
    refine wpAny_execs_cons <| wpAny_Assign_Name <| ev_call <| ev_B am X'.stays rfl rfl <| cw_ty <| sp_cons <| ev_call <| ev_B am X'.stays rfl rfl <| cw_ty <| sp_cons <| ev_G am X'.stays rfl <| sp_cons <| ev_L C rfl <| sp_nil <| map_make C (C.cx.all Z _ hl) fun I tp mo s₂ C => sp_nil <| ?_
    refine tm_tuple (xs := [J p, J q]) am X rfl (fun C => C.act X X') (R'.less (d' := d + 1) (u' := u + 14) (by omega) (by omega)) (.head _) (.tail _ (.head _)) (fun C => C.cx.all Z _ (List.mem_append_right _ hl)) dv (by rw [dv.length]; simp) C fun a s₃ C => st_L C fun s₄ C => ?_
    obtain ⟨v1, v2, rfl, d1, d2⟩ := DatAll.two dv
    obtain ⟨t1, rfl⟩ := DatIn.str_inv d1
    obtain ⟨t2, rfl⟩ := DatIn.str_inv d2
    have ha : ∀ {m mu fz' s'}, St s (frs fr) L m mu fz' s' → (a, tupO [.str (J p) t1, .str (J q) t2]) ∈ fz' → s'.heap.IsTuple a #[.str (J p) t1, .str (J q) t2] := fun C hm => ⟨_, (C.cx.fzs _ hm).1, rfl, 0, rfl⟩
    refine C.gen1 (x := Str.ofString "paths") (v := .ref a) rfl fun m e1 C => C.genF (.head _) fun F memA C => ?_
    refine wpAny_execs_cons <| wpAny_If <| isTrue_not <| isTrue_plain <| ev_L C e1 <| truthy_tuple (ha C memA) (by simp) ?_
    refine wpAny_execs_nil ?_
    refine wpAny_execs_cons <| wpAny_If <| isTrue_plain <| ev_call <| ev_B am (C.old X) rfl rfl <| cw_bi <| sp_cons <| Subscript_ <| ev_L C e1 <| ev_int C fun ti s₅ C => tail_any (ha C memA).typeIs PySem.F.slot_tuple_getitem.lookup (PyProof.Rows.getItem_tuple (j := 0) (x := .str (J p) t1) (ha C memA) (by decide) (by decide) (by simp; rfl) (by simp) ?_) (by with_unfolding_all rfl)
    refine sp_cons <| ev_B am (C.old X) rfl rfl <| sp_nil <| IsiPair.str_bytes <| wpAny_truthy_bool ?_
    refine wpAny_execs_cons <| wpAny_Assign_Name <| ev_str (C.tok _) fun tsep s₆ C => st_cell (pre := [(_, o1)]) (post := []) C (c := L + 1) rfl ho2 fun o2 s₇ ho2 C => ?_
    refine wpAny_execs_cons <| wpAny_Assign_Name <| ev_str C fun tcur s₈ C => st_cell (pre := []) C rfl ho1 fun o1 s₉ ho1 C => ?_
    refine wpAny_execs_nil ?_
    refine wpAny_execs_cons <| wpAny_Try_except ?_
    refine wpAny_mono (E := Nay) ?_ (fun _ _ x => x) fun _ _ e => e.elim
    have hps : ∀ (i : Nat) (v : Value), [Value.str (J p) t1, Value.str (J q) t2][i]? = some v → ∀ {G : Prop}, (∀ x tx, x ∈ allP → [p, q][i]? = some x → v = .str (J x) tx → G) → G := fun i v h {G} k => by
      match i, h with
      | 0, h => cases h; exact k p t1 hp rfl rfl
      | 1, h => cases h; exact k q t2 hq rfl rfl
    refine wpAny_execs_cons <| as_listcomp (fz₀ := fz₀) R'.handled Z <| ev_L C e1 ⟨a, _, 0, _, _, fun i => ([p, q].take i).map dP, rfl, by simp, C, .inr (List.mem_append_left _ memA), rfl, ?_, ?_⟩
    · intro i v oI Ca oC mc D I us k' tl s₁₀ hv hoC hx du C
      refine hps i v hv fun x tx hxP hxi hva => ?_
      rw [hva] at hx
      refine wpAny_tests_nil ⟨tl, C, fun _ x => x, ?_⟩
      refine iteT ?_
      refine Call_method1 rfl rfl rfl <| ev_K C (.tail _ (.head _)) hoC hx <| method_split (y := slash) (u := tsep) (by decide) (Nat.le_trans (J_len x hxP) (by decide)) (parts_J x hxP) <| ev_cell C (.tail _ (.tail _ (.tail _ (.tail _ (.head _))))) rfl (ofSlash ▸ ho2) ⟨rfl, C, fun D' l' s' hl' C' => ⟨(D', _) :: tl, dP x, C', fun p hp => .tail _ hp, ?_, ?_⟩⟩
      · rw [split_J x hxP] at hl'
        have z : ∀ led, DatAll led (strValues l') (x.map .str) := fun led => by
          have := strValues_dat (led := led) l'
          rwa [hl'] at this
        exact DatIn.list (.head _) (z _)
      · show ([p, q].take (i + 1)).map dP = ([p, q].take i).map dP ++ [dP x]
        rw [List.take_add_one, hxi]; simp
    · intro D us k' tl s₁₀ C du
      replace memA := List.mem_append_right tl memA
      generalize tl ++ F = F at C du memA
      have C := C.freeze
      refine C.gen2 (x := Str.ofString "paths") (y := Str.ofString "split_paths") (skip e1) (if_pos rfl) fun m e1 e2 C => ?_
      refine wpAny_execs_cons <| wpAny_Try_except ?_
      refine wpAny_mono (E := Nay) ?_ (fun _ _ x => x) fun _ _ e => e.elim
      refine wpAny_execs_cons <| Assign_Tuple <| ev_setF (fz₀ := fz₀) R'.handled Z <| ev_L C e1 ⟨a, [.str (J p) t1, .str (J q) t2], 0, _, _, rfl, by simp, C, List.mem_append_left _ (.tail _ memA), ?_, ?_⟩
      · intro i v oI Ca oC mc D oD I s₂ hv hoC hx C
        refine hps i v hv fun x tx hxP hxi hva => ?_
        rw [hva] at hx
        exact Call_method1 rfl rfl rfl <| ev_K C (.tail _ (.head _)) hoC hx <| SB.startswith <| ev_cell C (.tail _ (.tail _ (.tail _ (.tail _ (.head _))))) rfl (ofSlash ▸ ho2) ⟨_, _, rfl, by rw [notAbs x hxP], C⟩
      intro D2 oD2 s₁₁ hD2 C
      refine assign_one C R'.handled (.head _) hD2 fun s₁₂ C => ?_
      have C := C.dropM
      refine C.gen2 (x := Str.ofString "isabs") (y := Str.ofString "split_paths") (if_pos rfl) (skip e2) fun m e1 e2 C => ?_
      refine wpAny_execs_nil <| wpAny_execs_nil ?_
      have hds : ∀ (i : Nat) (v : Value), us[i]? = some v → ∃ x, x ∈ allP ∧ [p, q][i]? = some x ∧ DatIn (((D, W.listOf us.toArray k') :: F) ++ fz₀) v (dP x) := fun i v h => by
        obtain ⟨x, h1, h2⟩ := DatAll.at_map du h
        refine ⟨x, ?_, h1, DatIn.mono (fun p hp => .tail _ hp) h2⟩
        rcases List.mem_cons.mp (List.mem_of_getElem? h1) with rfl | h
        · exact hp
        · rw [List.mem_singleton.mp h]; exact hq
      have ulen : us.length = 2 := by rw [du.length]; simp
      refine wpAny_execs_cons <| as_listcomp (fz₀ := fz₀) R'.handled Z <| ev_L C e2 ⟨D, us, k', _, _, fun i => ([p, q].take i).map dP, rfl, by rw [ulen]; decide, C, .inl (.head _), rfl, ?_, ?_⟩
      · intro i v oI Ca oC mc D' I' us' k'' tl' s₁₃ hv hoC hx du' C
        refine (hds i v hv).elim fun x hx3 => list_elim hx3.2.2 fun lx vx nx hva hlx dvx => ?_
        have hxP := hx3.1
        have hxi := hx3.2.1
        rw [hva] at hx
        refine wpAny_tests_nil ⟨tl', C, fun _ x => x, ?_⟩
        refine iteT ?_
        refine ev_listcomp (fz₀ := fz₀) R'.handled Z <| ev_K C (.tail _ (.head _)) hoC hx ⟨lx, vx, nx, _, _, fun i => (x.take i).map .str, rfl, ?_, C, .inl ?_, rfl, ?_, ?_⟩
        · rw [dvx.length, List.length_map]; exact Nat.le_trans (names_ok x hxP).1 (by decide)
        · rw [List.append_assoc]; exact List.mem_append_right _ hlx
        · intro j v2 oI2 Ca2 oC2 mc2 D2 I2 us2 k2 tl2 s₁₄ hv2 hoC2 hx2 du2 C
          refine at_strs dvx hv2 fun c tc hcj hvb => ?_
          rw [hvb] at hx2
          obtain ⟨c1, c2, c3⟩ := (names_ok x hxP).2 c (List.mem_of_getElem? hcj)
          refine hideEnd fun E3 hE3 => wpAny_tests_one <| isTrue_and <| isTrue_plain <| ev_K C (.tail _ (.head _)) hoC2 hx2 <| P.truthy_str (by omega) ?_
          rw [c1]
          refine iteT ?_
          refine isTrue_and <| wpAny_isTrue_Compare1 <| ev_K (C.tok _) (.tail _ (.head _)) hoC2 hx2 <| ev_cell (C.tok _) (.tail _ (.tail _ (.tail _ (.tail _ (.tail _ (.tail _ (.head _))))))) rfl ho1 <| P.ne_str <| wpAny_truthy_bool ?_
          rw [c2]
          refine iteT ?_
          refine isTrue_and_nil <| hE3 _ _ ⟨tl2, C.tok _, fun _ x => x, ?_⟩
          refine iteT ?_
          refine ev_K (C.tok _) (.tail _ (.head _)) hoC2 hx2 ⟨tl2, .str c, C.tok _, fun _ x => x, .str _ _, ?_⟩
          show (x.take (j + 1)).map Dat.str = (x.take j).map Dat.str ++ [.str c]
          rw [List.take_add_one, hcj]; simp
        · intro D'' us'' k3 tl3 s₁₅ C du3
          refine ⟨(D'', W.listOf us''.toArray k3) :: (tl3 ++ tl'), dP x, ?_, ?_, ?_, ?_⟩
          · rw [List.cons_append, List.append_assoc]; exact C.freeze
          · exact fun p hp => .tail _ (List.mem_append_right _ hp)
          · refine .list (.head _) ?_
            have : (x.take vx.length).map Dat.str = x.map Dat.str := by
              rw [dvx.length, List.length_map, List.take_length]
            rw [← this]
            exact DatAll.mono (fun p hp => List.mem_cons_of_mem _ (mem_as hp)) du3
          · show ([p, q].take (i + 1)).map dP = ([p, q].take i).map dP ++ [dP x]
            rw [List.take_add_one, hxi]; simp
      clear hds du
      intro D3 us3 k3 tl3 s₁₃ C du3
      have C := C.freeze
      refine C.gen2 (x := Str.ofString "isabs") (y := Str.ofString "split_paths") (skip e1) (if_pos rfl) fun m e1 e2 C => ?_
      rw [ulen] at du3
      obtain ⟨v1, v2, rfl, d1, d2⟩ := DatAll.two (d := dP p) (e := dP q) du3
      obtain ⟨a1, vs1, n1, rfl, h1, d1⟩ := DatIn.list_inv d1
      obtain ⟨a2, vs2, n2, rfl, h2, d2⟩ := DatIn.list_inv d2
      have h1 : (a1, W.listOf vs1.toArray n1) ∈ ((D3, W.listOf [Value.ref a1, Value.ref a2].toArray k3) :: (tl3 ++ (D, W.listOf us.toArray k') :: F)) ++ fz₀ := .tail _ h1
      have h2 : (a2, W.listOf vs2.toArray n2) ∈ ((D3, W.listOf [Value.ref a1, Value.ref a2].toArray k3) :: (tl3 ++ (D, W.listOf us.toArray k') :: F)) ++ fz₀ := .tail _ h2
      have h3 : (D3, W.listOf [Value.ref a1, Value.ref a2].toArray k3) ∈ ((D3, W.listOf [Value.ref a1, Value.ref a2].toArray k3) :: (tl3 ++ (D, W.listOf us.toArray k') :: F)) ++ fz₀ := .head _
      replace d1 := DatAll.cs (x := (D3, W.listOf [Value.ref a1, Value.ref a2].toArray k3)) d1
      replace d2 := DatAll.cs (x := (D3, W.listOf [Value.ref a1, Value.ref a2].toArray k3)) d2
      clear du3
      generalize (D3, W.listOf [Value.ref a1, Value.ref a2].toArray k3) :: (tl3 ++ (D, W.listOf us.toArray k') :: F) = F3 at C h1 h2 h3 d1 d2
      refine wpAny_execs_cons <| wpAny_Assign_Name <| ev_call <| ev_B am (C.old X) rfl rfl <| cw_bi <| sp_cons <| ev_L C e2 <| sp_nil <| min_two R'.handled (Nat.lt_of_le_of_lt (Nat.add_le_add_left (by omega) _) R'.units) C Z h3 h1 h2 d1 d2 fun s₁₄ C => st_L C fun s₁₅ C => ?_
      refine wpAny_execs_cons <| wpAny_Assign_Name <| ev_call <| ev_B am (C.old X) rfl rfl <| cw_bi <| sp_cons <| ev_L C (skip e2) <| sp_nil <| max_two R'.handled (Nat.lt_of_le_of_lt (Nat.add_le_add_left (by omega) _) R'.units) C Z h3 h1 h2 d1 d2 fun s₁₆ C => st_L C fun s₁₇ C => ?_
      obtain ⟨usL, nL, hL, dL⟩ := pick_two h1 h2 d1 d2 (slt q p)
      obtain ⟨usH, nH, hH, dH⟩ := pick_two h1 h2 d1 d2 (slt p q)
      change DatAll _ usL ((loP p q).map .str) at dL
      change DatAll _ usH ((hiP p q).map .str) at dH
      have hlo : loP p q ∈ allP := by unfold loP; split <;> assumption
      have hhi : hiP p q ∈ allP := by unfold hiP; split <;> assumption
      obtain ⟨hsl, hcom⟩ := lo_hi p hp q hq
      generalize (if slt q p = true then a2 else a1) = aL at C hL
      generalize (if slt p q = true then a2 else a1) = aH at C hH
      refine C.gen3 (x := Str.ofString "s1") (y := Str.ofString "s2") (z := Str.ofString "isabs") (v := .ref aL) (u := .ref aH) (t := .bool false) rfl rfl e1 fun m f1 f2 f3 C => ?_
      refine wpAny_execs_cons <| wpAny_Assign_Name <| ev_L C f1 <| st_L C fun s₁₈ C => ?_
      have lL : usL.length ≤ 3 := by rw [dL.length, List.length_map]; exact (names_ok _ hlo).1
      refine wpAny_execs_cons <| wpAny_mono (Q := comQ p q s (frs fr) L o2 fz₀) ?_ (fun f s' h => ?_) fun _ _ e => e
      · refine wpAny_For <| ev_call <| ev_B am (C.old X) rfl rfl <| cw_ty <| sp_cons <| ev_L C (skip f1) <| sp_nil <| enum_make C (C.cx.all Z _ hL) fun e it oi s₁₉ he hi _ hC => ?_
        obtain ⟨oe, C⟩ := hC
        refine for_enum (fz₀ := fz₀) C R'.handled Z hL he hi (comJ (loP p q) (hiP p q) aL aH) ⟨skip f1, skip f2, skip f3, if_pos rfl, by simp⟩ ?_ ?_
        · rintro i v ti m₁ oe oi tl s₂₀ hv ⟨j1, j2, j3, j4, j5⟩ C
          have hi : i < usL.length := (List.getElem?_eq_some_iff.mp hv).1
          obtain ⟨x, hx, dx⟩ := DatAll.at_map dL hv
          obtain ⟨tx, rfl⟩ := DatIn.str_inv dx
          have hil : i < (loP p q).length := (List.getElem?_eq_some_iff.mp hx).1
          rcases strs_get dH i with ⟨y, ty, hy, hyv⟩ | ⟨hy, hyv⟩
          case inr => rw [slt_short j5 hil (List.getElem?_eq_none_iff.mp hy)] at hsl; cases hsl
          refine wpAny_execs_cons <| wpAny_If <| wpAny_isTrue_Compare1 <| ev_L C (if_pos rfl) <| Subscript_ <| ev_L C j2 <| ev_L C rfl <|
            sub_int (listOf_is (C.cx.all Z _ (mem_in hH))) (Int.natCast_nonneg _) (by omega) hyv <| P.ne_str <| wpAny_truthy_bool <| split_bool (fun c => ?_) fun c => ?_
          · refine wpAny_execs_cons <| wpAny_Assign_Name <| Subscript_ <| ev_L C j1 <| wpAny_Slice <| evalPart_none_step <| evalPart_some_step <| ev_L C rfl <| evalPart_none_step <|
              sub_slice C (listOf_is (C.cx.all Z _ (mem_in hL))) (by omega) .none (.int _ _) fun sl s₂₁ C => st_L C fun s₂₂ C => ?_
            refine wpAny_execs_cons <| wpAny_Break ?_
            refine ⟨rfl, _, _, _, .ref sl, C, .tail _ (.tail _ (.tail _ (.head _))), j3, rfl, .list (.head _) ?_⟩
            have hne : x ≠ y := fun e => by subst e; simp at c
            have := DatAll.pick none (some (i : Int)) dL
            rw [pk_hi _ (Int.natCast_nonneg _), Int.toNat_natCast, ← List.map_take, ← com_break j5 hx hy hne, hcom] at this
            exact DatAll.mono (fun z hz => List.mem_cons_of_mem _ (mem_in hz)) this
          · refine wpAny_execs_nil <| wpAny_execs_nil ⟨_, tl, C, j1, j2, j3, j4, ?_⟩
            have hxy : x = y := by
              have := (bne_eq_false_iff_eq.mp c)
              cases x; cases y; simp only [Str.mk.injEq]; exact Array.toList_inj.mp this
            rw [List.take_add_one, List.take_add_one, j5, hx, hy, hxy]
        · rintro m' tl s₂₀ ⟨j1, j2, j3, j4, j5⟩ C
          have hll : usL.length = (loP p q).length := by rw [dL.length, List.length_map]
          rw [hll, List.take_length] at j5
          refine ⟨rfl, _, _, _, .ref aL, C, .tail _ (.head _), j3, j4, .list (mem_in hL) ?_⟩
          rw [← hcom, com_all j5]
          exact DatAll.mono (fun z hz => mem_in hz) dL
      obtain ⟨rfl, m', mu', fz', v, C, hsep, hab, hcm, dc⟩ := h
      have hw : ((com p q).map (·.length)).sum + (com p q).length ≤ 100 := by
        have h1 := weight_le (com p q) 2 fun c hc => ((names_ok p hp).2 c (com_mem hc)).2.2
        have h2 := com_len p q
        have h3 := (names_ok p hp).1
        omega
      have hJl := J_com p hp q hq
      refine wpAny_execs_cons <| wpAny_Assign_Name <| IfExp_ <| isTrue_plain <| ev_L C hab <| wpAny_truthy_bool ?_
      rw [if_neg Bool.false_ne_true]
      refine Subscript_ <| ev_cell C hsep rfl (ofSlash ▸ ho2) <| wpAny_Slice <| evalPart_none_step <| evalPart_some_step <| ev_int C fun t₀ s₂₁ C => evalPart_none_step <| sl_ns C (by rw [sizeLine_eq]; decide) fun t₁ s₂₂ C => st_L C fun s₂₃ C => ?_
      refine wpAny_execs_cons <| wpAny_Return_some <| wpAny_BinOp <| ev_L C (if_pos rfl) <| Call_method1 rfl rfl rfl <| ev_cell C hsep rfl (ofSlash ▸ ho2) <| method_join (xs := com p q) (by decide) (Nat.le_trans hw (by decide)) <| ev_L C (skip hcm) ⟨_, dc, C.cx.all Z, fun t' k => SB.add (fun t'' k' => ?_) ?_⟩
      · exact hEE _ _ ⟨_, _, _, C.tok _, _, by rw [empty_add]; rfl⟩
      · have : (Txt.slice slash none (some 0)).length = 0 := by decide +kernel
        rw [this, sizeLine_eq]
        exact Nat.le_trans (Nat.le_of_eq (Nat.zero_add _)) (Nat.le_trans hJl (by decide))
  · exact fun n x hx => by rw [List.mem_singleton.mp hx]; exact .inl rfl
theorem commonpath_at {v : Value} {p q : List Str} {Q : Value → Shared → Prop} (am : Amb (hd.heap_39 w.params) B mg mb) (R : Room A fr (d + 4) (u + 100)) (X : Act B s.heap fr) (Z : ∀ p ∈ fz₀, s.heap.get? p.1 = some p.2 ∧ p.1 ∉ frs fr)
    (hp : p ∈ allP) (hq : q ∈ allP) (hv : DatIn fz₀ v (.list [.str (J p), .str (J q)]))
    (k : ∀ (t' : Tok) (s' : Shared) (tl : List (Addr × Obj)), Same s s' → Gro (frs fr) s.heap s'.heap → (∀ p ∈ tl, s'.heap.get? p.1 = some p.2 ∧ s.heap.get? p.1 = none) → Q (.str (J (com p q)) t') s') : wpAny (model PySem.Challenge.rw_il0010_01.row.prog w) A (call (.ref 164) [v]) Q E s :=
  commonpath_ok am R X Z hp hq hv fun v s' tl sm g ht hv => by obtain ⟨t', rfl⟩ := hv; exact k t' s' tl sm g ht
end
end Mine

namespace Mine
open PySem PySem.W PySem.Calls PySem.Spec PyProof.Rows

noncomputable abbrev allP0 : List (List Str) := [] :: allP
noncomputable def dJs (ps : List (List Str)) : Dat := .list (ps.map dJ)
theorem J_inj0 : ∀ p ∈ allP0, ∀ q ∈ allP0, J p = J q → p = q := by decide +kernel
theorem dL_P : ∀ p ∈ allP, p.dropLast ∈ allP0 := by decide +kernel
theorem com_P : ∀ p ∈ allP, ∀ q ∈ allP, com p q ∈ allP0 := by decide +kernel
theorem J_nil : J [] = Str.ofString "" := by decide +kernel
theorem okJ0 : ∀ p ∈ allP0, kqdOk 8 (dJ p) = true := by decide +kernel
theorem dJ_inj {p q : List Str} (hp : p ∈ allP0) (hq : q ∈ allP0) (h : dJ p = dJ q) : p = q := J_inj0 p hp q hq (Dat.str.inj h)
theorem mem_dJ {p : List Str} {qs : List (List Str)} (hp : p ∈ allP0) (hq : ∀ q ∈ qs, q ∈ allP0) : dJ p ∈ qs.map dJ ↔ p ∈ qs :=
  ⟨fun h => by
    obtain ⟨q, h1, h2⟩ := List.mem_map.mp h
    rw [dJ_inj hp (hq q h1) h2.symm]; exact h1, List.mem_map_of_mem⟩
theorem flt_dJ {ps qs : List (List Str)} (hp : ∀ p ∈ ps, p ∈ allP) (hq : ∀ q ∈ qs, q ∈ allP) : flt (ps.map dJ) (qs.map dJ) = (ps.filter fun p => decide (p ∉ qs)).map dJ := by
  unfold flt
  induction ps with
  | nil => rfl
  | cons p ps ih =>
    have h0 : dJ p ∉ qs.map dJ ↔ p ∉ qs := not_congr (mem_dJ (.tail _ (hp p (.head _))) fun q h => .tail _ (hq q h))
    have ih' := ih fun p h => hp p (.tail _ h)
    rw [List.map_cons, List.filter_cons, List.filter_cons, ih']
    by_cases hm : p ∈ qs
    · rw [if_neg (by simp only [decide_eq_true_eq]; exact fun h => h0.mp h hm), if_neg (by simp only [decide_eq_true_eq]; exact fun h => h hm)]
    · rw [if_pos (by simp only [decide_eq_true_eq]; exact h0.mpr hm), if_pos (by simp only [decide_eq_true_eq]; exact hm), List.map_cons]

noncomputable def outP (xs ys : List (List Str)) : List (List Str) := xs.filter fun p => decide (p ∉ ys)
theorem outP_sub {xs ys : List (List Str)} {p : List Str} (h : p ∈ outP xs ys) : p ∈ xs := (List.mem_filter.mp h).1
noncomputable def strokesP (gone : List (List Str)) : List (List Str) := gone.filter fun p => decide (p.dropLast ∉ gone)
noncomputable def cut (s : List Str) (r : List (List Str)) : List (List Str) := r.filter fun q => decide (com s q ≠ s)
noncomputable def hit (s : List Str) (r : List (List Str)) : List (List Str) := r.filter fun q => decide (com s q = s)
noncomputable def cutN (ss r : List (List Str)) : List (List Str) := ss.foldl (fun r s => cut s r) r
noncomputable def statesP (ss r : List (List Str)) (n : Nat) : List (List (List Str)) := (List.range n).map fun k => cutN (ss.take (k + 1)) r
noncomputable def lostP (right : List (List Str)) : List (List Str) → List (List Str)
  | [] => []
  | p :: ps => (if p.dropLast ∉ right ++ [[]] then [p] else []) ++ lostP (right ++ [p]) ps
theorem lostP_cons (r : List (List Str)) (p : List Str) (ps : List (List Str)) : lostP r (p :: ps) = (if p.dropLast ∉ r ++ [[]] then [p] else []) ++ lostP (r ++ [p]) ps := rfl
theorem cut_hit (s : List Str) (r : List (List Str)) : outP r (hit s r) = cut s r := by
  unfold outP hit cut
  refine List.filter_congr fun p hp => ?_
  simp [List.mem_filter, hp]
theorem cutN_sub : ∀ (ss : List (List Str)) {r : List (List Str)} {p : List Str}, p ∈ cutN ss r → p ∈ r
  | [], _, _, h => h
  | s :: ss, r, p, h => (List.mem_filter.mp (cutN_sub ss (r := cut s r) h)).1
theorem cutN_succ {ss r : List (List Str)} {i : Nat} {s : List Str} (h : ss[i]? = some s) : cutN (ss.take (i + 1)) r = cut s (cutN (ss.take i) r) := by
  rw [List.take_add_one, h]
  show cutN (ss.take i ++ [s]) r = _
  unfold cutN
  rw [List.foldl_append]; rfl
theorem statesP_succ (ss r : List (List Str)) (i : Nat) : statesP ss r (i + 1) = statesP ss r i ++ [cutN (ss.take (i + 1)) r] := by
  unfold statesP; rw [List.range_succ, List.map_append]; rfl
theorem cutN_len : ∀ (ss r : List (List Str)), (cutN ss r).length ≤ r.length
  | [], _ => Nat.le_refl _
  | s :: ss, r => Nat.le_trans (cutN_len ss (cut s r)) (List.length_filter_le ..)
theorem lostP_append (r : List (List Str)) : ∀ (xs ys : List (List Str)), lostP r (xs ++ ys) = lostP r xs ++ lostP (r ++ xs) ys
  | [], ys => by rw [List.append_nil]; rfl
  | x :: xs, ys => by
    rw [List.cons_append, lostP_cons, lostP_cons, lostP_append (r ++ [x]) xs ys, List.append_assoc, List.append_assoc]; rfl
theorem lostP_len : ∀ (r ps : List (List Str)), (lostP r ps).length ≤ ps.length
  | _, [] => Nat.le_refl _
  | r, p :: ps => by
    have := lostP_len (r ++ [p]) ps
    rw [lostP_cons, List.length_append, List.length_cons]
    by_cases e : p.dropLast ∉ r ++ [[]]
    · rw [if_pos e, List.length_singleton]; omega
    · rw [if_neg e, List.length_nil]; omega

noncomputable def toldD (ls rs : List (List Str)) (srt : List Str) : Dat :=
  .list [dJs (strokesP (outP rs ls)), .list ((statesP (strokesP (outP rs ls)) rs (strokesP (outP rs ls)).length).map dJs), dJs (lostP (cutN (strokesP (outP rs ls)) rs) (outP ls rs)), dSs srt]
theorem strs_dJ (ps : List (List Str)) : ps.map dJ = (ps.map J).map .str := by rw [List.map_map]; rfl
end Mine

namespace Mine
open PySem PySem.W PySem.Calls PySem.Spec PyProof.Rows
section
variable {prog : Program} {w : World} {A : Around} {E : Value → Shared → Prop} {s s₀ : Shared} {S : List Addr} {L : Addr} {m : Str → Option Value} {mu fz : List (Addr × Obj)}
theorem dat_of_strs {led : List (Addr × Obj)} : ∀ {vs : List Value} {xs : List Str}, StrsAre vs xs → DatAll led vs (xs.map .str) := by
  intro vs xs h
  induction h with
  | nil => exact .nil
  | cons y t _ ih => exact .cons (.str y t) ih
theorem sorted_F {l : Addr} {vs : List Value} {xs : List Str} {n : Nat} {led : List (Addr × Obj)} {Q : Value → Shared → Prop} (C : St s₀ S L m mu fz s) (hl : s.heap.get? l = some (W.listOf vs.toArray n)) (dv : DatAll led vs (xs.map .str)) (h64 : vs.length < 64)
    (h : ∀ a vs' (ys : List Str) e s', St s₀ S L m mu ((a, W.listOf vs'.toArray e) :: fz) s' → (∀ led, DatAll led vs' (ys.map .str)) → ys.Perm xs → sortedS ys = true → Q (.ref a) s') :
    wpAny (model prog w) A (call (.builtin "sorted") [.ref l]) Q E s := by
  refine sorted_strs (listOf_is hl) (strs_are dv) h64 fun out ss' a1 a2 a3 => ?_
  obtain ⟨e, he⟩ := sortedAll_at s.heap vs out
  have hn : s.heap.get? (s.heap.objs.size + 1) = none := Heap.get?_none_of_le (Nat.le_succ _)
  have fresh : ∀ p, s.heap.get? p = none → s₀.heap.get? p = none := fun p e => by
    cases q : s₀.heap.get? p with
    | none => rfl
    | some o => obtain ⟨_, e'⟩ := C.cx.gro.2 p o q; rw [e] at e'; cases e'
  refine h _ out.toList ss' e _ (C.heap' ((C.cx.keeps fun b o x => sortedAll_old x).addF he (fresh _ hn) (Nat.ne_of_gt (Nat.lt_succ_of_lt C.cx.lt)) fun p hp => Nat.ne_of_lt (Nat.lt_succ_of_lt (Heap.lt_size (C.cx.mus p hp).1)))) (fun _ => dat_of_strs a1) a2 a3
end
end Mine

namespace Mine
open PySem PySem.W PySem.Calls PySem.Spec PyProof.Rows
open LCg (NsObj ns_obj)

theorem tl_beq (x y : Str) : (x.cps.toList == y.cps.toList) = (x == y) := SeqAt.str_beq x y

section
variable {w : World} {B : Heap} {mg mb : Str → Option Value} {A : Around} {E : Value → Shared → Prop} {s s₀ : Shared} {fr : List Env} {d u : Nat} {fz₀ : List (Addr × Obj)}

noncomputable abbrev toldP (ls rs : List (List Str)) (fz₀ : List (Addr × Obj)) (v : Value) (tl : List (Addr × Obj)) : Prop :=
  ∃ srt : List Str, srt.Perm ((cutN (strokesP (outP rs ls)) rs ++ outP ls rs).map J) ∧ sortedS srt = true ∧ DatIn (tl ++ fz₀) v (toldD ls rs srt)
noncomputable abbrev toldJ (rs strokes : List (List Str)) (v : Value) (st D L : Addr) (o1 : Obj) (F fz₀ : List (Addr × Obj)) (i : Nat) (m : Str → Option Value) (mu tl' : List (Addr × Obj)) : Prop :=
  ∃ rv us k oS ov, m (Str.ofString "right") = some rv ∧ DatIn (tl' ++ F ++ fz₀) rv (dJs (cutN (strokes.take i) rs)) ∧ m (Str.ofString "states") = some (.ref st) ∧ m (Str.ofString "strokes") = some (.ref D) ∧ m (Str.ofString "fresh") = some v ∧
        mu = [(st, W.listOf us.toArray k), (L + 1 + 1, oS), (L + 1, o1)] ∧ oS.data = .cell ov ∧ DatAll (tl' ++ F ++ fz₀) us ((statesP strokes rs i).map dJs)
noncomputable abbrev lostJ (base fresh : List (List Str)) (st D lo L : Addr) (o1 oS : Obj) (F fz₀ : List (Addr × Obj)) (i : Nat) (m : Str → Option Value) (mu tl' : List (Addr × Obj)) : Prop :=
  ∃ rv us k, m (Str.ofString "right") = some rv ∧ DatIn (tl' ++ F ++ fz₀) rv (dJs (base ++ fresh.take i)) ∧ m (Str.ofString "states") = some (.ref st) ∧ m (Str.ofString "strokes") = some (.ref D) ∧ m (Str.ofString "lost") = some (.ref lo) ∧
        mu = [(lo, W.listOf us.toArray k), (L + 1 + 1, oS), (L + 1, o1)] ∧ DatAll (tl' ++ F ++ fz₀) us ((lostP base (fresh.take i)).map dJ)
noncomputable abbrev lostQ (base fresh : List (List Str)) (i : Nat) (s : Shared) (S : List Addr) (lo L : Addr) (m : Str → Option Value) (it : Addr × Obj) (o1 oS : Obj) (tl₂ F fz₀ : List (Addr × Obj)) (f : Flow) (s' : Shared) : Prop :=
  f = .next ∧ ∃ us k tl', St s S L m (it :: [(lo, W.listOf us.toArray k), (L + 1 + 1, oS), (L + 1, o1)]) (tl' ++ F) s' ∧ (∀ x ∈ tl₂, x ∈ tl') ∧
        DatAll (tl' ++ F ++ fz₀) us ((lostP base (fresh.take (i + 1))).map dJ)

theorem toldJ.elim {rs strokes : List (List Str)} {v : Value} {st D L : Addr} {o1 : Obj} {F fz₀ fz : List (Addr × Obj)} {i : Nat} {m : Str → Option Value} {mu tl' : List (Addr × Obj)} {s s₀ : Shared} {S : List Addr} {G : Prop} (pre : List (Addr × Obj)) (h : toldJ rs strokes v st D L o1 F fz₀ i m mu tl') (C : St s₀ S L m (pre ++ mu) fz s)
    (k : ∀ rv us k oS ov, m (Str.ofString "right") = some rv → DatIn (tl' ++ F ++ fz₀) rv (dJs (cutN (strokes.take i) rs)) → m (Str.ofString "states") = some (.ref st) → m (Str.ofString "strokes") = some (.ref D) → m (Str.ofString "fresh") = some v →
      oS.data = .cell ov → DatAll (tl' ++ F ++ fz₀) us ((statesP strokes rs i).map dJs) → St s₀ S L m (pre ++ [(st, W.listOf us.toArray k), (L + 1 + 1, oS), (L + 1, o1)]) fz s → G) : G := by
  obtain ⟨rv, us, k', oS, ov, e1, dr, e2, e3, e4, rfl, hoS, du⟩ := h
  exact k rv us k' oS ov e1 dr e2 e3 e4 hoS du C
theorem lostJ.elim {base fresh : List (List Str)} {st D lo L : Addr} {o1 oS : Obj} {F fz₀ fz : List (Addr × Obj)} {i : Nat} {m : Str → Option Value} {mu tl' : List (Addr × Obj)} {s s₀ : Shared} {S : List Addr} {G : Prop} (pre : List (Addr × Obj)) (h : lostJ base fresh st D lo L o1 oS F fz₀ i m mu tl') (C : St s₀ S L m (pre ++ mu) fz s)
    (k : ∀ rv us k, m (Str.ofString "right") = some rv → DatIn (tl' ++ F ++ fz₀) rv (dJs (base ++ fresh.take i)) → m (Str.ofString "states") = some (.ref st) → m (Str.ofString "strokes") = some (.ref D) → m (Str.ofString "lost") = some (.ref lo) →
      DatAll (tl' ++ F ++ fz₀) us ((lostP base (fresh.take i)).map dJ) → St s₀ S L m (pre ++ [(lo, W.listOf us.toArray k), (L + 1 + 1, oS), (L + 1, o1)]) fz s → G) : G := by
  obtain ⟨rv, us, k', e1, dr, e2, e3, e5, rfl, du⟩ := h
  exact k rv us k' e1 dr e2 e3 e5 du C
theorem lostQ.elim {base fresh : List (List Str)} {i : Nat} {s s' : Shared} {S : List Addr} {lo L : Addr} {m : Str → Option Value} {it : Addr × Obj} {o1 oS : Obj} {tl₂ F fz₀ : List (Addr × Obj)} {f : Flow} {G : Prop} (h : lostQ base fresh i s S lo L m it o1 oS tl₂ F fz₀ f s')
    (k : f = .next → ∀ us k tl', St s S L m (it :: [(lo, W.listOf us.toArray k), (L + 1 + 1, oS), (L + 1, o1)]) (tl' ++ F) s' → (∀ x ∈ tl₂, x ∈ tl') → DatAll (tl' ++ F ++ fz₀) us ((lostP base (fresh.take (i + 1))).map dJ) → G) : G := by
  obtain ⟨e, us, k', tl', C, hs, du⟩ := h
  exact k e us k' tl' C hs du

set_option maxHeartbeats 4000000 in
theorem told_ok {v1 v2 : Value} {ls rs : List (List Str)} {Q : Value → Shared → Prop} (am : Amb (hd.heap_39 w.params) B mg mb) (R : Room A fr (d + 5) (u + 103)) (X : Act B s.heap fr) (Z : ∀ p ∈ fz₀, s.heap.get? p.1 = some p.2 ∧ p.1 ∉ frs fr)
    (hls : ∀ p ∈ ls, p ∈ allP) (hrs : ∀ p ∈ rs, p ∈ allP) (h64 : ls.length + rs.length < 64) (h1 : DatIn fz₀ v1 (dJs ls)) (h2 : DatIn fz₀ v2 (dJs rs))
    (k : Ret fr s Q (toldP ls rs fz₀)) : wpAny (model PySem.Challenge.rw_il0010_01.row.prog w) A (call (.ref 183) [v1, v2]) Q E s := by
  refine enterX (d := d + 4) (u := u + 100) (binds := [(Str.ofString "left", v1), (Str.ofString "right", v2)]) am rfl rfl R X (BindsTo.of_eq rfl) (fun L cells s₁ C Y X' R' => ?_) k ?_
  · obtain ⟨o2, o1, rfl, ho2, ho1⟩ := Y.two
    have okAll : ∀ ps : List (List Str), (∀ p ∈ ps, p ∈ allP) → ∀ d ∈ ps.map dJ, kqdOk 8 d = true := fun ps h d hd => by
      obtain ⟨p, hp, rfl⟩ := List.mem_map.mp hd
      exact okJ p (h p hp)
    refine hideEnd fun EE hEE => ?_
    refine wpAny_execs_cons <| wpAny_Assign_Name <| ev_call <| ev_G am X'.stays rfl <| cw_def am rfl <| sp_cons <| ev_L C rfl <| sp_cons <| ev_L C rfl <| sp_nil ⟨X'.stays,
      filter_ok am R' X' (C.cx.fzOff X Z) h1 h2 (okAll ls hls) (okAll rs hrs) (by simp; omega) fun v s₂ tl sm g ht hv => st_L (C.call X sm g ht) fun s₃ C => ?_⟩
    replace hv := asc hv
    rw [flt_dJ hls hrs] at hv
    change DatIn _ v (dJs (outP ls rs)) at hv
    generalize tl ++ [] = F at C hv
    refine C.gen3 (x := Str.ofString "left") (y := Str.ofString "right") (z := Str.ofString "fresh") (v := v1) (u := v2) (t := v) rfl rfl (if_pos rfl) fun m e1 e2 e3 C => ?_
    have hfP : ∀ p ∈ outP ls rs, p ∈ allP := fun p h => hls p (outP_sub h)
    have hgP : ∀ p ∈ outP rs ls, p ∈ allP := fun p h => hrs p (outP_sub h)
    have hgl : (outP rs ls).length ≤ rs.length := List.length_filter_le ..
    have hfl : (outP ls rs).length ≤ ls.length := List.length_filter_le ..
    refine wpAny_execs_cons <| wpAny_Assign_Name <| ev_call <| ev_G am (C.old X) rfl <| cw_def am rfl <| sp_cons <| ev_L C e2 <| sp_cons <| ev_L C e1 <| sp_nil ⟨C.old X,
      filter_ok am R' (C.act X X') (C.cx.fzOff X Z) (h2.mono fun _ h => List.mem_append_right _ h) (h1.mono fun _ h => List.mem_append_right _ h) (okAll rs hrs) (okAll ls hls) (by simp; omega) fun vg s₄ tlg sm g ht hg => st_cell (pre := [(_, o2)]) (post := []) (C.call X sm g ht) (c := L + 1) rfl ho1 fun o1 s₅ ho1 C => ?_⟩
    replace hg := asc hg
    rw [flt_dJ hrs hls] at hg
    change DatIn _ vg (dJs (outP rs ls)) at hg
    replace hv := DatIn.inn (a := tlg) hv
    clear h1
    replace h2 : DatIn ((tlg ++ F) ++ fz₀) v2 (dJs rs) := h2.mono fun _ h => List.mem_append_right _ h
    generalize tlg ++ F = F at C hg hv h2
    refine list_elim hg fun lg vsg ng hgv hlg dvg => ?_
    rw [hgv] at ho1
    refine wpAny_execs_cons <| as_listcomp (fz₀ := fz₀) R'.handled Z <| ev_cell C (.tail _ (.head _)) rfl ho1 ⟨lg, vsg, ng, _, _, fun i => (((outP rs ls).take i).filter fun p => decide (p.dropLast ∉ outP rs ls)).map dJ, rfl, by rw [dvg.length, List.length_map]; omega, C, .inl hlg, rfl, ?_, ?_⟩
    · intro i v oI Ca oC mc D I us k' tl' s₆ hv hoC hx du C
      refine at_dJ dvg hv fun p tp hp hva => ?_
      rw [hva] at hx
      have hpP := hgP p (List.mem_of_getElem? hp)
      have take : (outP rs ls).take (i + 1) = (outP rs ls).take i ++ [p] := by rw [List.take_add_one, hp]; rfl
      refine hideEnd fun E3 hE3 => wpAny_tests_one <| wpAny_isTrue_Compare1 <| ev_call <| ev_G am (C.old X) rfl <| cw_def am rfl <| sp_cons <| ev_K C (.tail _ (.head _)) hoC hx <| sp_nil ⟨C.old X, dirname_at am hpP (R'.less (d' := d + 2) (u' := u + 6) (by omega) (by omega)) (C.act X X') fun t' s₇ tl2 sm g ht => ?_⟩
      have C := C.call X sm g ht
      rw [← List.append_assoc] at C
      refine ev_cell C (.tail _ (.tail _ (.tail _ (.tail _ (.head _))))) rfl ho1 <| notIn_dat (ds := (outP rs ls).map dJ) (d := dJ p.dropLast) (C.led Z) (.str _ _) (.list (List.mem_append_right _ (mem_in hlg)) (dvg.mono fun _ h => List.mem_append_right _ (mem_in h)))
        (okAll _ hgP) (okJ0 _ (dL_P p hpP)) (Nat.lt_of_le_of_lt (Nat.add_le_add_left (by omega) _) R'.units) fun c hc => wpAny_truthy_bool ?_
      rw [mem_dJ (dL_P p hpP) fun q h => .tail _ (hgP q h)] at hc
      refine hE3 _ _ ⟨tl2 ++ tl', C, fun _ h => List.mem_append_right _ h, ?_⟩
      cases c with
      | true =>
        refine iteT ?_
        refine ev_K C (.tail _ (.head _)) hoC hx ⟨tl2 ++ tl', dJ p, C, fun _ h => h, .str _ _, ?_⟩
        show List.map dJ (List.filter _ _) = _
        rw [take, List.filter_append, List.map_append]
        congr 1
        rw [List.filter_cons, if_pos (by simpa using hc)]; rfl
      | false =>
        refine iteF ?_
        show List.map dJ (List.filter _ _) = _
        rw [take, List.filter_append, List.filter_cons, if_neg (by simpa using hc)]
        simp
    intro D us k' tl' s₆ C du
    rw [dvg.length, List.length_map] at du
    dsimp only at du
    rw [List.take_length] at du
    change DatAll _ us ((strokesP (outP rs ls)).map dJ) at du
    have C := C.freeze
    have hsP : ∀ p ∈ strokesP (outP rs ls), p ∈ allP := fun p h => hgP p (List.mem_filter.mp h).1
    have hsl : (strokesP (outP rs ls)).length ≤ rs.length := Nat.le_trans (List.length_filter_le ..) hgl
    have hD : (D, W.listOf us.toArray k') ∈ ((D, W.listOf us.toArray k') :: (tl' ++ F)) ++ fz₀ := .head _
    replace du := DatAll.cs (x := (D, W.listOf us.toArray k')) du
    replace hv := DatIn.cs (x := (D, W.listOf us.toArray k')) (DatIn.inn (a := tl') hv)
    replace h2 := DatIn.cs (x := (D, W.listOf us.toArray k')) (DatIn.inn (a := tl') h2)
    clear hg hlg dvg
    generalize (D, W.listOf us.toArray k') :: (tl' ++ F) = F at C hD du hv h2
    generalize hstr : strokesP (outP rs ls) = strokes at du hsP hsl
    refine C.gen3 (x := Str.ofString "right") (y := Str.ofString "fresh") (z := Str.ofString "strokes") (v := v2) (u := v) (t := .ref D) (skip e2) (skip e3) (if_pos rfl) fun m e2 e3 e4 C => ?_
    refine wpAny_execs_cons <| wpAny_Assign_Name <| List_ <| sp_nil <| newList_M C (by simp) fun st s₇ C => st_L C fun s₈ C => ?_
    have cutP : ∀ i, ∀ p ∈ cutN (strokes.take i) rs, p ∈ allP := fun i p h => hrs p (cutN_sub _ h)
    have cutL : ∀ i, (cutN (strokes.take i) rs).length ≤ rs.length := fun i => cutN_len ..
    have ulen : us.length = strokes.length := by rw [du.length, List.length_map]
    refine wpAny_execs_cons <| wpAny_For <| ev_L C (skip e4) <| for_list (fz₀ := fz₀) C R'.handled Z hD (fun I i v s Q hm hs hq => ?_)
      (toldJ rs strokes v st D L o1 F fz₀)
      ⟨_, [], 0, o2, _, skip e2, h2, if_pos rfl, skip e4, skip e3, rfl, ho2, .nil⟩ ?_ ?_
    · exact wpAny_pure hq
    · intro i sv it m₁ mu₁ tl₁ s₉ hv' hJ C
      refine toldJ.elim [it] hJ C fun rv us' k oS ov e1 dr e2 e3 e4 hoS du' C => ?_
      clear hJ
      refine at_dJ du hv' fun sk tsk hsk hva => ?_
      have hskP := hsP sk (List.mem_of_getElem? hsk)
      refine wpAny_assign_Name <| st_cell (pre := [it, (st, _)]) (post := [(L + 1, o1)]) C rfl hoS fun oS s₁₀ hoS C => ?_
      rw [hva] at hoS
      refine list_elim dr fun lr vr nr hrv hlr dvr => ?_
      rw [hrv] at e1
      have rl := dvr.length
      rw [List.length_map] at rl
      have := cutL i
      refine wpAny_execs_cons <| wpAny_Assign_Name <| ev_call <| ev_G am (C.old X) rfl <| cw_def am rfl <| sp_cons <| ev_L C e1 <| sp_cons <| ev_listcomp (fz₀ := fz₀) R'.handled Z <| ev_L C e1 ⟨lr, vr, nr, _, _, fun j => (hit sk ((cutN (strokes.take i) rs).take j)).map dJ, rfl, by omega, C, .inl hlr, rfl, ?_, ?_⟩
      · intro j v2 oI Ca oC mc D2 I us2 k2 tl2 s₁₁ hv2 hoC hx du2 C
        generalize hmu : [it, (st, W.listOf us'.toArray k)] ++ (L + 1 + 1, oS) :: [(L + 1, o1)] = MU at C ⊢
        have hS9 : (L + 1 + 1, oS) ∈ MU := hmu ▸ .tail _ (.tail _ (.head _))
        clear hmu du2
        refine at_dJ dvr hv2 fun q tq hq hva => ?_
        rw [hva] at hx
        have hqP := cutP i q (List.mem_of_getElem? hq)
        refine hideEnd fun E3 hE3 => wpAny_tests_one <| wpAny_isTrue_Compare1 <| ev_call <| ev_G am (C.old X) rfl <| cw_def am rfl <| sp_cons <| List_ <| sp_cons <| ev_cell C (.tail _ (.tail _ (.tail _ hS9))) rfl hoS <| sp_cons <| ev_K C (.tail _ (.head _)) hoC hx <| sp_nil <| newList_F C (by simp) fun ln s₁₂ C => sp_nil ⟨C.old X,
          commonpath_at am R' (C.act X X') (C.cx.fzOff X Z) hskP hqP (.list (.head _) (.cons (.str _ _) (.one (.str _ _)))) fun t' s₁₃ tl3 sm g ht => ?_⟩
        have C := C.call X sm g ht
        refine ev_cell C (.tail _ (.tail _ (.tail _ hS9))) rfl hoS <| P.eq_str <| wpAny_truthy_bool ?_
        have eC : tl3 ++ (ln, W.listOf #[Value.str (J sk) tsk, Value.str (J q) tq] 0) :: (tl2 ++ (tl₁ ++ F)) = (tl3 ++ (ln, W.listOf #[Value.str (J sk) tsk, Value.str (J q) tq] 0) :: tl2) ++ (tl₁ ++ F) := by simp
        rw [tl_beq]
        refine hE3 _ _ ⟨tl3 ++ (ln, W.listOf #[Value.str (J sk) tsk, Value.str (J q) tq] 0) :: tl2, eC ▸ C, fun _ h => List.mem_append_right _ (.tail _ h), ?_⟩
        have take : (cutN (strokes.take i) rs).take (j + 1) = (cutN (strokes.take i) rs).take j ++ [q] := by rw [List.take_add_one, hq]; rfl
        by_cases hc : com sk q = sk
        · rw [if_pos (by rw [hc]; simp)]
          refine ev_K C (.tail _ (.head _)) hoC hx ⟨tl3 ++ (ln, W.listOf #[Value.str (J sk) tsk, Value.str (J q) tq] 0) :: tl2, dJ q, eC ▸ C, fun _ h => h, .str _ _, ?_⟩
          show List.map dJ (List.filter _ _) = _
          rw [take, List.filter_append, List.map_append]
          congr 1
          rw [List.filter_cons, if_pos (by simpa using hc)]; rfl
        · rw [if_neg (by simp only [beq_iff_eq]; exact fun h => hc (J_inj0 _ (com_P sk hskP q hqP) _ (.tail _ hskP) h))]
          show List.map dJ (List.filter _ _) = _
          rw [take, List.filter_append, List.filter_cons, if_neg (by simpa using hc)]
          simp; rfl
      intro D2 us2 k2 tl2 s₁₁ C du2
      have C := C.freeze
      rw [rl] at du2
      dsimp only at du2
      rw [List.take_length] at du2
      have hitP : ∀ p ∈ hit sk (cutN (strokes.take i) rs), p ∈ allP := fun p h => cutP i p (List.mem_filter.mp h).1
      refine sp_nil ⟨C.old X, filter_ok am R' (C.act X X') (C.cx.fzOff X Z) (ds := (cutN (strokes.take i) rs).map dJ) (es := (hit sk (cutN (strokes.take i) rs)).map dJ) (.list (.tail _ (mem_in hlr)) (DatAll.cs (DatAll.inn dvr))) (.list (.head _) (DatAll.cs du2)) (okAll _ (cutP i)) (okAll _ hitP) (by simp; omega)
        fun v3 s₁₂ tl3 sm g ht hv3 => st_L (C.call X sm g ht) fun s₁₃ C => ?_⟩
      rw [flt_dJ (cutP i) hitP] at hv3
      change DatIn _ v3 (dJs (outP (cutN (strokes.take i) rs) (hit sk (cutN (strokes.take i) rs)))) at hv3
      rw [cut_hit, ← cutN_succ hsk] at hv3
      have eF : ∀ x : Addr × Obj, tl3 ++ (x :: (tl2 ++ (tl₁ ++ F))) = (tl3 ++ x :: (tl2 ++ tl₁)) ++ F := fun x => by simp
      replace hv3 := asc hv3
      rw [eF] at C hv3
      have ul' : us'.length ≤ 1000 := by
        have hi : i < us.length := (List.getElem?_eq_some_iff.mp hv').1
        rw [du'.length, List.length_map]
        unfold statesP
        rw [List.length_map, List.length_range]; omega
      refine wpAny_execs_cons <| wpAny_Expr <| ev_append (pre := [it]) (post := [(L + 1 + 1, oS), (L + 1, o1)]) C (skip e2) <| ev_L C (if_pos rfl) <| append_M (pre := [it]) (post := [(L + 1 + 1, oS), (L + 1, o1)]) C ul' fun s₁₄ C => wpAny_execs_nil
        ⟨_, _, _, C, v3, _, _, oS, _, if_pos rfl, hv3, skip e2, skip e3, skip e4, rfl, hoS, ?_⟩
      rw [statesP_succ, List.map_append]
      refine DatAll.append (DatAll.mono (fun p hp => ?_) du') (.one hv3)
      rw [← eF]
      exact mem_in (List.mem_cons_of_mem _ (mem_in (a := tl2) (b := tl₁ ++ F) hp))
    intro m₁ mu₁ tl₁ s₉ hJ C
    refine toldJ.elim [] hJ C fun rv us' k oS ov e1 dr e2 e3 e4 hoS du' C => ?_
    clear hJ
    rw [ulen] at dr du'
    rw [List.take_length] at dr
    have C := C.freeze
    replace dr := DatIn.cs (x := (st, W.listOf us'.toArray k)) dr
    replace du' := DatAll.cs (x := (st, W.listOf us'.toArray k)) du'
    replace du := DatAll.cs (x := (st, W.listOf us'.toArray k)) (DatAll.inn (a := tl₁) du)
    replace hv := DatIn.cs (x := (st, W.listOf us'.toArray k)) (DatIn.inn (a := tl₁) hv)
    have hD : (D, W.listOf us.toArray k') ∈ ((st, W.listOf us'.toArray k) :: (tl₁ ++ F)) ++ fz₀ := .tail _ (mem_in hD)
    have hst : (st, W.listOf us'.toArray k) ∈ ((st, W.listOf us'.toArray k) :: (tl₁ ++ F)) ++ fz₀ := .head _
    generalize (st, W.listOf us'.toArray k) :: (tl₁ ++ F) = F at C dr du du' hv hD hst
    have dstr : DatIn (F ++ fz₀) (.ref D) (dJs strokes) := .list hD du
    have dsta : DatIn (F ++ fz₀) (.ref st) (.list ((statesP strokes rs strokes.length).map dJs)) := .list hst du'
    clear du du' hD hst h2
    have hbP : ∀ p ∈ cutN strokes rs, p ∈ allP := fun p h => hrs p (cutN_sub _ h)
    have hbL : (cutN strokes rs).length ≤ rs.length := cutN_len ..
    obtain ⟨lf, vf, nf, hvf, hlf, dvf⟩ := DatIn.list_inv hv
    replace e4 : m₁ (Str.ofString "fresh") = some (.ref lf) := by rw [e4, hvf]
    refine wpAny_execs_cons <| wpAny_Assign_Name <| List_ <| sp_nil <| newList_M C (by simp) fun lo s₁₀ C => st_L C fun s₁₁ C => ?_
    refine wpAny_execs_cons <| wpAny_For <| ev_L C (skip e4) <| for_list (fz₀ := fz₀) C R'.handled Z hlf (fun I i v s Q hm hs hq => wpAny_pure hq)
      (lostJ (cutN strokes rs) (outP ls rs) st D lo L o1 oS F fz₀)
      ⟨_, [], 0, skip e1, by simpa using dr, skip e2, skip e3, if_pos rfl, rfl, .nil⟩ ?_ ?_
    · intro i ov it m₂ mu₂ tl₂ s₁₂ hv' hJ C
      refine lostJ.elim [it] hJ C fun rv us' k e1 dr e2 e3 e5 du' C => ?_
      clear hJ
      obtain ⟨p, hp, dp⟩ := DatAll.at_map dvf hv'
      obtain ⟨tp, rfl⟩ := DatIn.str_inv dp
      have hpP := hfP p (List.mem_of_getElem? hp)
      refine list_elim dr fun lr vr nr hrv hlr dvr => ?_
      rw [hrv] at e1
      have rl : vr.length ≤ (cutN strokes rs).length + (outP ls rs).length := by
        rw [dvr.length, List.length_map, List.length_append, List.length_take]; omega
      have ul' : us'.length ≤ (outP ls rs).length := by
        have := lostP_len (cutN strokes rs) ((outP ls rs).take i)
        rw [du'.length, List.length_map]
        rw [List.length_take] at this; omega
      have lost1 : lostP (cutN strokes rs) ((outP ls rs).take (i + 1)) = lostP (cutN strokes rs) ((outP ls rs).take i) ++ (if p.dropLast ∉ cutN strokes rs ++ (outP ls rs).take i ++ [[]] then [p] else []) := by
        rw [List.take_add_one, hp]
        show lostP _ (_ ++ [p]) = _
        rw [lostP_append]
        exact congrArg _ (List.append_nil _)
      have stepP : ∀ q ∈ cutN strokes rs ++ (outP ls rs).take i ++ [[]], q ∈ allP0 := fun q h => by
        simp only [List.mem_append, List.mem_singleton] at h
        rcases h with (h | h) | h
        · exact .tail _ (hbP q h)
        · exact .tail _ (hfP q (List.mem_of_mem_take h))
        · rw [h]; exact .head _
      refine wpAny_assign_Name <| st_L C fun s₁₃ C => ?_
      refine wpAny_execs_cons <| wpAny_mono (Q := lostQ (cutN strokes rs) (outP ls rs) i s (frs fr) lo L (fun y => if y = Str.ofString "one" then some (.str (J p) tp) else m₂ y) it o1 oS tl₂ F fz₀) ?_ (fun f s' h => ?_) fun _ _ e => e
      · refine wpAny_If <| wpAny_isTrue_Compare1 <| ev_call <| ev_G am (C.old X) rfl <| cw_def am rfl <| sp_cons <| ev_L C (if_pos rfl) <| sp_nil ⟨C.old X, dirname_at am hpP (R'.less (d' := d + 2) (u' := u + 6) (by omega) (by omega)) (C.act X X') fun t' s₁₄ tl3 sm g ht => ?_⟩
        have C := C.call X sm g ht
        refine wpAny_BinOp <| ev_L C (skip e1) <| List_ <| sp_cons <| ev_str C fun te s₁₅ C => sp_nil <| newList_F C (by simp) fun l1 s₁₆ C => add_ll C (C.cx.all Z _ (.tail _ (mem_in hlr))) (C.cx.all Z _ (.head _)) (by simp; omega) fun l2 s₁₇ C => ?_
        have eF2 : ∀ x y : Addr × Obj, x :: y :: (tl3 ++ (tl₂ ++ F)) = (x :: y :: (tl3 ++ tl₂)) ++ F := fun x y => by simp
        refine notIn_dat (ds := (cutN strokes rs ++ (outP ls rs).take i ++ [[]]).map dJ) (d := dJ p.dropLast) (C.led Z) (.str _ _) (.list (List.mem_append_right _ (.head _)) ?_)
          (fun d hd => by obtain ⟨q, h1, rfl⟩ := List.mem_map.mp hd; exact okJ0 q (stepP q h1)) (okJ0 _ (dL_P p hpP)) (Nat.lt_of_le_of_lt (Nat.add_le_add_left (by omega) _) R'.units) fun c hc => wpAny_truthy_bool ?_
        · rw [List.map_append]
          refine DatAll.append (dvr.mono fun _ h => List.mem_append_right _ (.tail _ (.tail _ (mem_in h)))) (.one ?_)
          show DatIn _ _ (.str (J []))
          rw [J_nil]; exact .str _ _
        rw [mem_dJ (dL_P p hpP) stepP] at hc
        rw [eF2] at C
        cases c with
        | true =>
          refine wpAny_execs_cons <| wpAny_Expr <| ev_append (pre := [it]) (post := [(L + 1 + 1, oS), (L + 1, o1)]) C (skip e5) <| ev_L C (if_pos rfl) <| append_M (pre := [it]) (post := [(L + 1 + 1, oS), (L + 1, o1)]) C (by omega) fun s₁₈ C => wpAny_execs_nil
            ⟨rfl, _, _, _, C, fun _ h => .tail _ (.tail _ (List.mem_append_right _ h)), ?_⟩
          rw [lost1, if_pos (hc.mp rfl), List.map_append]
          refine DatAll.append (du'.mono fun _ h => ?_) (.one (.str _ _))
          rw [← eF2]
          exact .tail _ (.tail _ (mem_in h))
        | false =>
          refine wpAny_execs_nil ⟨rfl, _, _, _, C, fun _ h => .tail _ (.tail _ (List.mem_append_right _ h)), ?_⟩
          rw [lost1, if_neg (fun h => Bool.false_ne_true (hc.mpr h)), List.append_nil]
          refine du'.mono fun _ h => ?_
          rw [← eF2]
          exact .tail _ (.tail _ (mem_in h))
      refine lostQ.elim h fun ef us'' k'' tl' C hsub du'' => ?_
      clear h
      subst ef
      have hup : ∀ x ∈ tl₂ ++ F ++ fz₀, x ∈ tl' ++ F ++ fz₀ := fun x h => by
        simp only [List.mem_append] at h ⊢
        rcases h with (h | h) | h
        · exact .inl (.inl (hsub x h))
        · exact .inl (.inr h)
        · exact .inr h
      refine wpAny_execs_cons <| wpAny_Assign_Name <| wpAny_BinOp <| ev_L C (skip e1) <| List_ <| sp_cons <| ev_L C (if_pos rfl) <| sp_nil <| newList_F C (by simp) fun l1 s₁₅ C => add_ll C (C.cx.all Z _ (.tail _ (hup _ hlr))) (C.cx.all Z _ (.head _)) (by simp; omega) fun l2 s₁₆ C => st_L C fun s₁₇ C => wpAny_execs_nil
        ⟨_, _, _ :: _ :: tl', C, .ref l2, us'', k'', if_pos rfl, .list (.head _) ?_, skip e2, skip e3, skip e5, rfl, DatAll.cs (DatAll.cs du'')⟩
      rw [List.take_add_one, hp]
      show DatAll _ _ ((_ ++ (_ ++ [p])).map dJ)
      rw [← List.append_assoc, List.map_append]
      exact DatAll.append (dvr.mono fun _ h => .tail _ (.tail _ (hup _ h))) (.one (.str _ _))
    intro m₂ mu₂ tl₂ s₁₂ hJ C
    refine lostJ.elim [] hJ C fun rv us' k e1 dr e2 e3 e5 du' C => ?_
    clear hJ
    rw [dvf.length, List.length_map, List.take_length] at dr du'
    have C := C.freeze
    obtain ⟨lr, vr, nr, hrv, hlr, dvr⟩ := DatIn.list_inv dr
    rw [hrv] at e1
    have rl : vr.length < 64 := by
      rw [dvr.length, List.length_map, List.length_append]; omega
    rw [strs_dJ] at dvr
    refine wpAny_execs_cons <| wpAny_Return_some <| List_ <| sp_cons <| ev_L C e3 <| sp_cons <| ev_L C e2 <| sp_cons <| ev_L C e5 <| sp_cons <| ev_call <| ev_B am (C.old X) rfl rfl <| cw_bi <| sp_cons <| ev_L C e1 <| sp_nil <|
      sorted_F C (C.cx.all Z _ (.tail _ hlr)) dvr rl fun a vs' ys e s₁₃ C dys hperm hsrt => sp_nil <| newList_F C (by simp) fun r s₁₄ C => ?_
    subst hstr
    exact hEE _ _ ⟨_, _, _, C, ys, hperm, hsrt, .list (.head _) (.cons (DatIn.cs (DatIn.cs (DatIn.cs (DatIn.inn (a := tl₂) dstr)))) (.cons (DatIn.cs (DatIn.cs (DatIn.cs (DatIn.inn (a := tl₂) dsta)))) (.cons (.list (.tail _ (.tail _ (.head _))) (DatAll.cs (DatAll.cs (DatAll.cs du')))) (.one (.list (.tail _ (.head _)) (dys _))))))⟩
  · intro n x hx
    simp only [List.mem_cons, List.not_mem_nil, or_false] at hx
    rcases hx with rfl | rfl <;> exact .inl rfl
end
end Mine

namespace Mine
open PySem PySem.W PySem.Calls PySem.Spec PyProof.Rows
open LCg (NsObj ns_obj)

section
variable {prog : Program} {w : World} {B : Heap} {A : Around} {E : Value → Shared → Prop} {s s₀ : Shared} {fr : List Env} {S : List Addr} {L : Addr} {m : Str → Option Value} {mu mu' fz fz₀ : List (Addr × Obj)} {env : Env}

theorem St.perm (C : St s₀ S L m mu fz s) (h : mu.Perm mu') : St s₀ S L m mu' fz s :=
  .mk' ⟨C.cx.ns, C.cx.gro, C.cx.new, C.cx.above, fun p hp => C.cx.mus p (h.mem_iff.mpr hp), C.cx.fzs, fun p hp => C.cx.sep p (h.mem_iff.mpr hp), (h.map _).nodup_iff.mp C.cx.nd⟩ C.same

noncomputable def OwnC (Ca cA : Addr) (ov : Option Value) (ow : List (Addr × Obj)) : Prop := ∃ oC mc oK, ow = [(cA, oK), (Ca, oC)] ∧ NsObj oC mc ∧ oK.data = .cell ov
theorem comp_coreC {elt iter : Expr} {x : Str} {px : Pos} {ifs : List Expr} {scope : Scope} {cl : List (Str × Addr)} {pos : Pos} {l : Addr} {vs : List Value} {nn : Nat} {Q : Value → Shared → Prop}
    (hh : A.handled = none) (C : St s₀ S L m mu fz s) (hl : (l, W.listOf vs.toArray nn) ∈ fz ++ fz₀) (hn : vs.length ≤ 1000)
    (Z : ∀ p ∈ fz₀, s₀.heap.get? p.1 = some p.2 ∧ p.1 ∉ S)
    (hpc : ∀ h : Heap, pushCells h scope.names = h.push { cls := .type "cell", data := .cell none }) (hcf : ∀ n, cellsFrom n scope.names cl = (x, n) :: cl) (hkind : scope.kind = .function) (hx : (relabel scope env).names.lookup x = some .cell)
    (res : Nat → List Dat) (r0 : res 0 = [])
    (turn : ∀ i v oI Ca oC cA oK D I us k tl s₁, vs[i]? = some v → oK.data = .cell (some v) → DatAll (tl ++ fz ++ fz₀) us (res i) → St s₀ S L m ((I, oI) :: (cA, oK) :: (Ca, oC) :: (D, W.listOf us.toArray k) :: mu) (tl ++ fz) s₁ →
      wpAny (model prog w) A (forIn ifs true fun c r => if r = true then do let ok ← isTrue c (compEnvC scope ((x, cA) :: cl) Ca env) (eval c (compEnvC scope ((x, cA) :: cl) Ca env)); pure (ForInStep.yield ok) else pure (ForInStep.yield r))
        (CompOk prog w A elt (compEnvC scope ((x, cA) :: cl) Ca env) s₀ S L m ((I, oI) :: (cA, oK) :: (Ca, oC) :: (D, W.listOf us.toArray k) :: mu) fz fz₀ tl (res i) (res (i + 1))) Nay s₁)
    (fin : ∀ D us k tl s', St s₀ S L m ((D, W.listOf us.toArray k) :: mu) (tl ++ fz) s' → DatAll (tl ++ fz ++ fz₀) us (res vs.length) → Q (.ref D) s') :
    wpAny (model prog w) A (pyIter (.ref l)) (fun it s₂ => wpAny (model prog w) A (newList []) (fun acc s₃ => wpAny (model prog w) A (newFunctionEnv scope env.globals cl [] env.qual none .none (some env)) (fun cenv s₄ =>
      codeAny (model prog w) A (.compStart (.ListComp elt [⟨.Name x px, iter, ifs, 0⟩] scope pos) 0 it acc { cenv with scope := relabel scope env }) (compPost (model prog w) A E none Q acc cenv.locals) s₄) E s₃) E s₂) E s := by
  have hol := C.cx.all Z _ hl
  have hne : l ≠ s.heap.objs.size := Nat.ne_of_lt (Heap.lt_size hol)
  refine wpAny_pyIter_list (listOf_is hol) ?_
  have C := C.heap' (C.cx.pushM (o := itO l 0) rfl)
  have Wk := Walks.list (prog := prog) (w := w) hh s.heap.objs.size l hne vs.toArray
  generalize s.heap.objs.size = I at *
  refine newList_M C (by simp) fun D s₁ C => ?_
  simp only [newFunctionEnv, Option.isSome_some, if_true]
  refine wpAny_bind (wpAny_alloc ?_)
  refine wpAny_bind (wpAny_layCells _ (fun name kind cells => by cases hkc : kind == NameKind.cell <;> simp [hkc]) _ _ _ _ ?_)
  rw [hpc, hcf]
  have C₁ := C.heap' (C.cx.pushM (o := { cls := .type "dict", data := .dict #[] }) rfl)
  have C₁ := C₁.heap' (C₁.cx.pushM (o := { cls := .type "cell", data := .cell none }) rfl)
  have hns : ((s₁.heap.push { cls := .type "dict", data := .dict #[] }).push { cls := .type "cell", data := .cell none }).Ns s₁.heap.objs.size (fun _ => none) := (Heap.Ns.new s₁.heap (.type "dict")).keeps fun _ _ e => Heap.get?_push_of_some _ e
  obtain ⟨oC, heC, hoC⟩ := ns_obj hns
  obtain rfl := Option.some.inj (heC.symm.trans (C₁.cx.mus _ (.tail _ (.head _))).1)
  refine wpAny_bind ?_
  simp only [List.forIn_nil]
  refine wpAny_pure (wpAny_pure ?_)
  dsimp only at C₁ ⊢
  generalize s₁.heap.objs.size = Ca at *
  generalize (s₁.heap.push { cls := .type "dict", data := .dict #[] }).objs.size = cA at *
  generalize ((s₁.heap.push { cls := .type "dict", data := .dict #[] }).push { cls := .type "cell", data := .cell none }) = hp at *
  have C₁ := C₁.perm (List.perm_middle (l₁ := [_, _, _]))
  have hst₁ : hp.IsListIter I l 0 ∧ hp.IsList l vs.toArray := ⟨⟨_, (C₁.cx.mus _ (.head _)).1, rfl, rfl⟩, listOf_is (C₁.cx.all Z _ hl)⟩
  refine (fun loop => codeAny_compStart_list loop (Wk.self 0 _ _ _ hst₁ loop)) (?_ : codeAny (model prog w) A (.compLoop (.ListComp elt [⟨.Name x px, iter, ifs, 0⟩] scope pos) 0 (.ref I) (.ref D) (compEnvC scope ((x, cA) :: cl) Ca env)) (compPost (model prog w) A E none Q (.ref D) Ca) { s₁ with heap := hp })
  refine comp_gen (Own := OwnC Ca cA) (ov := none) (ow := [(cA, _), (Ca, _)]) Wk (fun i h hs => let ⟨o, e, _⟩ := hs.1; ⟨o, e⟩) (by rw [List.size_toArray]; exact hn) Z (fun b hb => ?_) res r0 (fun v ov ow oI us k tl s Q ho C k' => ?_) (fun i v oI ow us k tl s₁ hi hP ho du C => ?_) (fun ov ow us k tl s' ho C du => ?_) hst₁ ⟨_, _, _, rfl, hoC, rfl⟩ C₁
  · rcases List.mem_cons.mp hb with q | q
    · exact .inl q
    · exact .inr ⟨_, (by rw [List.mem_singleton.mp q]; exact hl)⟩
  · obtain ⟨oC, mc, oK, rfl, hoC, hoK⟩ := ho
    refine wpAny_assign_Name (wpAny_storeName_cell (c := cA) hkind hx (by simp [compEnvC]) ⟨oK, (C.cx.mus _ (.tail _ (.head _))).1, hoK⟩ fun h₃ hv₃ hs₃ => ?_)
    obtain ⟨oK', eK', hoK'⟩ := hv₃
    exact k' [(cA, oK'), (Ca, oC)] _ ⟨oC, mc, oK', rfl, hoC, hoK'⟩ (C.heap' (Cx.turn (pre := [(I, oI)]) C.cx hs₃.extBut eK'))
  · obtain ⟨oC, mc, oK, rfl, hoC, hoK⟩ := ho
    exact turn i v oI Ca oC cA oK D I us k tl s₁ (by simpa using hP) hoK du C
  · obtain ⟨oC, mc, oK, rfl, hoC, _⟩ := ho
    have C := C.dropM
    exact ⟨mc, hoC.ns (C.cx.mus _ (.head _)).1, fun h' hs' => fin D us k tl _ (C.heap' (C.cx.but fun b o hb e => hs'.extBut b o hb e)) (by simpa using du)⟩

theorem ev_listcompC {elt iter : Expr} {x : Str} {px : Pos} {ifs : List Expr} {scope : Scope} {cl : List (Str × Addr)} {pos : Pos} {Q : Value → Shared → Prop}
    (hh : A.handled = none) (Z : ∀ p ∈ fz₀, s₀.heap.get? p.1 = some p.2 ∧ p.1 ∉ S)
    (h : wpAny (model prog w) A (eval iter env) (fun xv s => ∃ (l : Addr) (vs : List Value) (nn : Nat) (mu fz : List (Addr × Obj)) (res : Nat → List Dat), xv = .ref l ∧ vs.length ≤ 1000 ∧ St s₀ S L m mu fz s ∧ (l, W.listOf vs.toArray nn) ∈ fz ++ fz₀ ∧ res 0 = [] ∧
      (∀ i v oI Ca oC cA oK D I us k tl s₁, vs[i]? = some v → oK.data = .cell (some v) → DatAll (tl ++ fz ++ fz₀) us (res i) → St s₀ S L m ((I, oI) :: (cA, oK) :: (Ca, oC) :: (D, W.listOf us.toArray k) :: mu) (tl ++ fz) s₁ →
      wpAny (model prog w) A (forIn ifs true fun c r => if r = true then do let ok ← isTrue c (compEnvC scope ((x, cA) :: cl) Ca env) (eval c (compEnvC scope ((x, cA) :: cl) Ca env)); pure (ForInStep.yield ok) else pure (ForInStep.yield r))
        (CompOk prog w A elt (compEnvC scope ((x, cA) :: cl) Ca env) s₀ S L m ((I, oI) :: (cA, oK) :: (Ca, oC) :: (D, W.listOf us.toArray k) :: mu) fz fz₀ tl (res i) (res (i + 1))) Nay s₁) ∧
      FinE s₀ S L m fz₀ Q mu fz (res vs.length)) E s)
    (hclos : closureFor scope env = pure cl := by rfl) (hpc : ∀ h : Heap, pushCells h scope.names = h.push { cls := .type "cell", data := .cell none } := by intro _; rfl) (hcf : ∀ n, cellsFrom n scope.names cl = (x, n) :: cl := by intro _; rfl)
    (hkind : scope.kind = .function := by rfl) (hx : (relabel scope env).names.lookup x = some .cell := by rfl)
    (hnames : ∀ y ∈ scope.names, y.2 = .local → scope.names.lookup y.1 = some .local := by decide)
    (hs : ∀ x, foldedSetIterable iter env x = pure x := by intro _; rfl) :
    wpAny (model prog w) A (eval (.ListComp elt [⟨.Name x px, iter, ifs, 0⟩] scope pos) env) Q E s := by
  rw [eval_ListComp]
  refine wpAny_comprehension_free (use := none) rfl hs hclos hkind hnames (wpAny_mono h (fun xv s₁ h₁ => ?_) fun _ _ e => e)
  obtain ⟨l, vs, nn, mu, fz, res, rfl, hlen, C, hl, r0, turn, fin⟩ := h₁
  exact comp_coreC hh C hl hlen Z hpc hcf hkind hx res r0 turn fin
end
end Mine

namespace Mine
open PySem PySem.W PySem.Calls PySem.Spec PyProof.Rows

theorem okP0 : ∀ p ∈ allP0, kqdOk 8 (dP p) = true := by decide +kernel
theorem pk_dropLast {α : Type} (l : List α) : pk l none (some (-1)) = l.dropLast := by
  unfold pk
  simp only [kms_lo, kms_hi]
  rw [List.drop_zero, Nat.sub_zero, List.dropLast_eq_take]
  congr 1
theorem take_P0 : ∀ p ∈ allP, ∀ n ≤ 3, p.take n ∈ allP0 := by decide +kernel

noncomputable def dstrokes (ls rs : List (List Str)) : List (List Str) := rs.filter fun p => decide (p ∉ ls) && decide (p.dropLast ∈ ls ++ [[]])
noncomputable def hits (ss : List (List Str)) (q : List Str) : List (List Str) := ss.filter fun t => decide (q.take t.length = t)
noncomputable def dstate (ss rs : List (List Str)) : List (List Str) := rs.filter fun q => decide (hits ss q = [])
noncomputable def dstates (ss rs : List (List Str)) (n : Nat) : List (List (List Str)) := (List.range n).map fun k => dstate (ss.take (k + 1)) rs
theorem dstates_succ (ss rs : List (List Str)) (i : Nat) : dstates ss rs (i + 1) = dstates ss rs i ++ [dstate (ss.take (i + 1)) rs] := by
  unfold dstates; rw [List.range_succ, List.map_append]; rfl
noncomputable def inP (xs ys : List (List Str)) : List (List Str) := xs.filter fun p => decide (p ∈ ys)
noncomputable def dueD (ls rs : List (List Str)) (srt : List Str) : Dat :=
  .list [dJs (dstrokes ls rs), .list ((dstates (dstrokes ls rs) rs (dstrokes ls rs).length).map dJs), .list [], dSs srt]

section
variable {prog : Program} {w : World} {A : Around} {E : Value → Shared → Prop} {s : Shared}
theorem method_J {p : List Str} {t : Tok} {pos : Pos} {a : Sem Value} {Q : Value → Shared → Prop} (hp : p ∈ allP)
    (h : wpAny (model prog w) A a (fun v s₁ => ∃ led, DatIn led v (dP p) ∧ (∀ p ∈ led, s₁.heap.get? p.1 = some p.2) ∧ ∀ t' k, Q (.str (J p) t') { s₁ with toks := k }) E s) :
    MethodOnS prog w A E "join" (.str (Str.ofString "/") t) pos [(false, a)] Q s := by
  have hw : (p.map (·.length)).sum + p.length ≤ 1048576 := by
    have h1 := weight_le p 2 fun c hc => ((names_ok p hp).2 c hc).2.2
    have h3 := (names_ok p hp).1
    omega
  rw [ofSlash]
  exact method_join (xs := p) (by decide) hw h
end
end Mine

namespace Mine
open PySem PySem.W PySem.Calls PySem.Spec PyProof.Rows
open LCg (NsObj ns_obj)

section
variable {prog : Program} {w : World} {A : Around} {E : Value → Shared → Prop} {s s₀ : Shared} {S : List Addr} {L : Addr} {m : Str → Option Value} {mu fz fz₀ : List (Addr × Obj)} {env : Env}
theorem ev_joins {iter : Expr} {x : Str} {k0 : Nat} {px p1 p2 p3 p4 : Pos} {scope : Scope} {cl : List (Str × Addr)} {pos : Pos} {Q : Value → Shared → Prop}
    (hh : A.handled = none) (Z : ∀ p ∈ fz₀, s₀.heap.get? p.1 = some p.2 ∧ p.1 ∉ S)
    (h : wpAny (model prog w) A (eval iter env) (fun v s₁ => ∃ (l : Addr) (vs : List Value) (nn : Nat) (mu fz : List (Addr × Obj)) (ps : List (List Str)), v = .ref l ∧ St s₀ S L m mu fz s₁ ∧ (l, W.listOf vs.toArray nn) ∈ fz ++ fz₀ ∧ DatAll (fz ++ fz₀) vs (ps.map dP) ∧ (∀ p ∈ ps, p ∈ allP) ∧ ps.length ≤ 1000 ∧
      ∀ D us k tl s', St s₀ S L m mu ((D, W.listOf us.toArray k) :: (tl ++ fz)) s' → DatAll (((D, W.listOf us.toArray k) :: (tl ++ fz)) ++ fz₀) us (ps.map dJ) → Q (.ref D) s') E s)
    (hclos : closureFor scope env = pure cl := by rfl) (hcell : ∀ y ∈ scope.names, y.2 ≠ .cell := by decide) (hkind : scope.kind = .function := by rfl)
    (hnames : ∀ y ∈ scope.names, y.2 = .local → scope.names.lookup y.1 = some .local := by decide) (hx : scope.names.lookup x = some .local := by rfl)
    (hs : ∀ x, foldedSetIterable iter env x = pure x := by intro _; rfl) (hline : (p2.endLine == p4.line) = true := by rfl) (hd : (x == ("__debug__" : Str)) = false := by decide) :
    wpAny (model prog w) A (eval (.ListComp (.Call (.Attribute (.Constant (.str (Str.ofString "/")) k0 p1) (Str.ofString "join") p2) [.Name x p3] [] p4) [⟨.Name x px, iter, [], 0⟩] scope pos) env) Q E s := by
  refine ev_listcomp (L := L) (m := m) (fz₀ := fz₀) hh Z (wpAny_mono h (fun v s₁ h₁ => ?_) fun _ _ e => e) hclos hcell hkind hnames hx hs
  obtain ⟨l, vs, nn, mu, fz, ps, rfl, C, hl, dv, hps, hlen, fin⟩ := h₁
  have vl : vs.length = ps.length := by rw [dv.length, List.length_map]
  refine ⟨l, vs, nn, mu, fz, fun i => (ps.take i).map dJ, rfl, by omega, C, .inl hl, rfl, ?_, ?_⟩
  · intro i v oI Ca oC mc D I us k tl s₂ hv hoC hx' du C
    obtain ⟨p, hp, dp⟩ := DatAll.at_map dv hv
    refine wpAny_tests_nil ⟨tl, C, fun _ h => h, ?_⟩
    rw [if_pos rfl]
    refine Call_method1 rfl rfl hline <| ev_str C fun t s₃ C => method_J (hps p (List.mem_of_getElem? hp)) <| ev_K C (.tail _ (.head _)) hoC hx' ⟨_, DatIn.inn (a := tl) dp, C.cx.all Z, fun t' k' => ⟨tl, dJ p, C.tok _, fun _ h => h, .str _ _, ?_⟩⟩ hkind (lookup_relabel_local hx) hd
    show (ps.take (i + 1)).map dJ = (ps.take i).map dJ ++ [dJ p]
    rw [List.take_add_one, hp]; simp
  · intro D us k tl s₂ C du
    rw [vl] at du
    dsimp only at du
    rw [List.take_length] at du
    exact fin D us k tl s₂ C.freeze (DatAll.cs du)
theorem ev_twice {x : Str} {p1 p2 p3 p4 p5 p6 p7 p8 p9 p10 : Pos} {k1 k2 k3 : Nat} {lt : Addr} {vt : List Value} {nt : Nat} {th : List (List Str)} {Q : Value → Shared → Prop} (C : St s₀ S env.locals m mu fz s) (Z : ∀ p ∈ fz₀, s₀.heap.get? p.1 = some p.2 ∧ p.1 ∉ S)
    (em2 : m x = some (.ref lt)) (hlt : (lt, W.listOf vt.toArray nt) ∈ fz ++ fz₀) (dvt : DatAll (fz ++ fz₀) vt (th.map dP)) (hl : th.length ≤ 900)
    (h : ∀ (lw : Addr) (vw : List Value) (tw : List (List Str)) (tl : List (Addr × Obj)) (s' : Shared), (∀ p ∈ tw, p ∈ th) → tw.length ≤ 3 → vw.length = tw.length → St s₀ S env.locals m mu ((lw, W.listOf vw.toArray 0) :: (tl ++ fz)) s' → DatAll (((lw, W.listOf vw.toArray 0) :: (tl ++ fz)) ++ fz₀) vw (tw.map dP) → Q (.ref lw) s')
    (hk : env.scope.kind = .function := by rfl) (hx : env.kindOf x = some .local := by rfl) (hd : (x == ("__debug__" : Str)) = false := by decide) :
    wpAny (model prog w) A (eval (.BinOp (.Subscript (.Name x p1) (.Slice none (some (.Constant (.int 1) k1 p2)) none p3) p4) .Add (.Subscript (.Name x p5) (.Slice (some (.Constant (.int 2) k2 p6)) (some (.Constant (.int 4) k3 p7)) none p8) p9) p10) env) Q E s := by
  have vtl : vt.length = th.length := by rw [dvt.length, List.length_map]
  refine wpAny_BinOp <| Subscript_ <| ev_L C em2 (hk := hk) (hx := hx) (hd := hd) <| wpAny_Slice <| evalPart_none_step <| evalPart_some_step <| ev_int C fun t₃ s₁₂ C => evalPart_none_step <|
    sub_slice C (listOf_is (C.cx.all Z _ hlt)) (by omega) .none (.int _ _) fun sl1 s₁₃ C => Subscript_ <| ev_L C em2 (hk := hk) (hx := hx) (hd := hd) <| wpAny_Slice <| evalPart_some_step <| ev_int C fun t₄ s₁₄ C => evalPart_some_step <| ev_int C fun t₅ s₁₅ C => evalPart_none_step <|
    sub_slice C (listOf_is (C.cx.all Z _ (.tail _ hlt))) (by omega) (.int _ _) (.int _ _) fun sl2 s₁₆ C => ?_
  have dq1 := DatAll.pick none (some 1) dvt
  have dq2 := DatAll.pick (some 2) (some 4) dvt
  rw [pk_map] at dq1 dq2
  have ql1 : (pk th none (some 1)).length ≤ 1 := by
    rw [pk_hi _ (by decide), List.length_take]
    exact Nat.min_le_left ..
  have ql2 : (pk th (some 2) (some 4)).length ≤ 2 := by
    unfold pk
    rw [List.length_take]
    simp only [kms_lo, kms_hi]
    have h2 : (2 : Int).toNat = 2 := rfl
    have h4 : (4 : Int).toNat = 4 := rfl
    rw [if_neg (by decide), if_neg (by decide), h2, h4]
    refine Nat.le_trans (Nat.min_le_left ..) (Nat.sub_le_of_le_add ?_)
    rcases Nat.le_total 2 th.length with e | e
    · rw [Nat.min_eq_left e]; exact Nat.min_le_left ..
    · rw [Nat.min_eq_right e]; exact Nat.le_trans (Nat.min_le_right ..) (Nat.le_add_left ..)
  have sb : ∀ {lo hi : Option Int} {p : List Str}, p ∈ pk th lo hi → p ∈ th := fun h => List.mem_of_mem_drop (List.mem_of_mem_take h)
  have kl1 : (kms_pick vt none (some 1)).length = (pk th none (some 1)).length := by rw [dq1.length, List.length_map]
  have kl2 : (kms_pick vt (some 2) (some 4)).length = (pk th (some 2) (some 4)).length := by rw [dq2.length, List.length_map]
  refine add_ll C (C.cx.all Z _ (.tail _ (.head _))) (C.cx.all Z _ (.head _)) (by omega) fun lw s₁₇ C => h lw _ (pk th none (some 1) ++ pk th (some 2) (some 4)) [_, _] s₁₇ (fun p hp => ?_) ?_ ?_ C ?_
  · rcases List.mem_append.mp hp with h | h
    · exact sb h
    · exact sb h
  · rw [List.length_append]; exact Nat.add_le_add ql1 ql2
  · rw [List.length_append, List.length_append, kl1, kl2]
  · rw [List.map_append]
    exact DatAll.append (dq1.mono fun _ h => .tail _ (.tail _ (.tail _ h))) (dq2.mono fun _ h => .tail _ (.tail _ (.tail _ h)))
end
theorem okN : ∀ p ∈ allP0, ∀ c ∈ p, kqdOk 8 (.str c) = true := by decide +kernel
theorem okNs {p : List Str} (hp : p ∈ allP0) : ∀ d ∈ p.map Dat.str, kqdOk 8 d = true := fun d hd => by
  obtain ⟨c, hc, rfl⟩ := List.mem_map.mp hd
  exact okN p hp c hc
end Mine

namespace Mine
open PySem PySem.W PySem.Calls PySem.Spec PyProof.Rows
open LCg (NsObj ns_obj)

section
variable {w : World} {B : Heap} {mg mb : Str → Option Value} {A : Around} {E : Value → Shared → Prop} {s s₀ : Shared} {fr : List Env} {d u : Nat} {fz₀ : List (Addr × Obj)}

noncomputable abbrev dueP (ls rs tw : List (List Str)) (fz₀ : List (Addr × Obj)) (v : Value) (tl : List (Addr × Obj)) : Prop :=
  ∃ srt : List Str, srt.Perm ((ls ++ inP tw ls).map J) ∧ sortedS srt = true ∧ DatIn (tl ++ fz₀) v (dueD ls rs srt)
noncomputable abbrev dueJ (rs strokes : List (List Str)) (st l2 l3 L : Addr) (oS oL : Obj) (F fz₀ : List (Addr × Obj)) (i : Nat) (m : Str → Option Value) (mu tl' : List (Addr × Obj)) : Prop :=
  ∃ us k oK ov, m (Str.ofString "states") = some (.ref st) ∧ m (Str.ofString "right") = some (.ref l2) ∧ m (Str.ofString "twice") = some (.ref l3) ∧ mu = [(st, W.listOf us.toArray k), (L + 1 + 1 + 1, oK), (L + 1 + 1, oS), (L + 1, oL)] ∧ oK.data = .cell ov ∧
        DatAll (tl' ++ F ++ fz₀) us ((dstates strokes rs i).map dJs)

theorem dueJ.elim {rs strokes : List (List Str)} {st l2 l3 L : Addr} {oS oL : Obj} {F fz₀ fz : List (Addr × Obj)} {i : Nat} {m : Str → Option Value} {mu tl' : List (Addr × Obj)} {s s₀ : Shared} {S : List Addr} {G : Prop} (pre : List (Addr × Obj)) (h : dueJ rs strokes st l2 l3 L oS oL F fz₀ i m mu tl') (C : St s₀ S L m (pre ++ mu) fz s)
    (k : ∀ us k oK ov, m (Str.ofString "states") = some (.ref st) → m (Str.ofString "right") = some (.ref l2) → m (Str.ofString "twice") = some (.ref l3) → oK.data = .cell ov → DatAll (tl' ++ F ++ fz₀) us ((dstates strokes rs i).map dJs) →
      St s₀ S L m (pre ++ [(st, W.listOf us.toArray k), (L + 1 + 1 + 1, oK), (L + 1 + 1, oS), (L + 1, oL)]) fz s → G) : G := by
  obtain ⟨us, k', oK, ov, e1, e2, e3, rfl, hoK, du⟩ := h
  exact k us k' oK ov e1 e2 e3 hoK du C

set_option maxHeartbeats 4000000 in
theorem due_ok {v1 v2 v3 : Value} {ls rs tw : List (List Str)} {Q : Value → Shared → Prop} (am : Amb (hd.heap_39 w.params) B mg mb) (R : Room A fr (d + 1) (u + 103)) (X : Act B s.heap fr) (Z : ∀ p ∈ fz₀, s.heap.get? p.1 = some p.2 ∧ p.1 ∉ frs fr)
    (hls : ∀ p ∈ ls, p ∈ allP) (hrs : ∀ p ∈ rs, p ∈ allP) (htw : ∀ p ∈ tw, p ∈ allP) (hlr : ls.length + rs.length ≤ 100) (h64 : ls.length + tw.length < 64) (h1 : DatIn fz₀ v1 (dPs ls)) (h2 : DatIn fz₀ v2 (dPs rs)) (h3 : DatIn fz₀ v3 (dPs tw))
    (k : Ret fr s Q (dueP ls rs tw fz₀)) : wpAny (model PySem.Challenge.rw_il0010_01.row.prog w) A (call (.ref 188) [v1, v2, v3]) Q E s := by
  obtain ⟨l1, vs1, n1, rfl, hm1, dv1⟩ := DatIn.list_inv h1
  obtain ⟨l2, vs2, n2, rfl, hm2, dv2⟩ := DatIn.list_inv h2
  obtain ⟨l3, vs3, n3, rfl, hm3, dv3⟩ := DatIn.list_inv h3
  have e1 : vs1.length = ls.length := by rw [dv1.length, List.length_map]
  have e2 : vs2.length = rs.length := by rw [dv2.length, List.length_map]
  have e3 : vs3.length = tw.length := by rw [dv3.length, List.length_map]
  refine enterX (d := d) (u := u + 100) (binds := [(Str.ofString "left", .ref l1), (Str.ofString "right", .ref l2), (Str.ofString "twice", .ref l3)]) am rfl rfl R X (BindsTo.of_eq rfl) (fun L cells s₁ C Y X' R' => ?_) k ?_
  · obtain ⟨oK, oS, oL, rfl, hoK, hoS, hoL⟩ := Y.three
    have okAll : ∀ ps : List (List Str), (∀ p ∈ ps, p ∈ allP0) → ∀ d ∈ ps.map dP, kqdOk 8 d = true := fun ps h d hd => by
      obtain ⟨p, hp, rfl⟩ := List.mem_map.mp hd
      exact okP0 p (h p hp)
    have units := Nat.lt_of_le_of_lt (Nat.add_le_add_left (show 64 ≤ u + 100 by omega) _) R'.units
    refine hideEnd fun EE hEE => C.gen2 (x := Str.ofString "right") (y := Str.ofString "twice") (v := .ref l2) (u := .ref l3) rfl rfl fun m e2m e3m C => ?_
    have ls0 : ∀ q ∈ ls ++ [[]], q ∈ allP0 := fun q h => by
      rcases List.mem_append.mp h with h | h
      · exact .tail _ (hls q h)
      · rw [List.mem_singleton.mp h]; exact .head _
    refine wpAny_execs_cons <| hideEnd fun E1 hE1 => wpAny_Assign_Name <| ev_listcomp (fz₀ := fz₀) R'.handled Z <| ev_L C e2m ⟨l2, vs2, n2, _, _, fun i => ((rs.take i).filter fun p => decide (p ∉ ls) && decide (p.dropLast ∈ ls ++ [[]])).map dP, rfl, by omega, C, .inl hm2, rfl, ?_, ?_⟩
    · intro i v oI Ca oC mc D I us k' tl' s₆ hv hoC hx du C
      refine at_list dv2 hv fun p lp vp np hp hva hlp dvp dp => ?_
      have hpP := hrs p (List.mem_of_getElem? hp)
      rw [hva] at hx
      have take : rs.take (i + 1) = rs.take i ++ [p] := by rw [List.take_add_one, hp]; rfl
      have lp3 : vp.length ≤ 3 := by rw [dvp.length, List.length_map]; exact (names_ok p hpP).1
      refine hideEnd fun E3 hE3 => wpAny_tests_one <| isTrue_and <| wpAny_isTrue_Compare1 <| ev_K C (.tail _ (.head _)) hoC hx <| ev_cell C (.tail _ (.tail _ (.tail _ (.tail _ (.tail _ (.head _)))))) rfl hoL <|
        notIn_dat (ds := ls.map dP) (d := dP p) (C.led Z) (dp.mono fun _ h => List.mem_append_right _ (List.mem_append_right _ h)) (h1.mono fun _ h => List.mem_append_right _ (List.mem_append_right _ h)) (okAll _ fun p h => .tail _ (hls p h)) (okP p hpP) units fun c hc => wpAny_truthy_bool ?_
      rw [mem_dP] at hc
      cases c with
      | false =>
        refine iteF ?_
        refine hE3 _ _ ⟨tl', C, fun _ h => h, ?_⟩
        refine iteF ?_
        show List.map dP (List.filter _ _) = _
        rw [take, List.filter_append, List.filter_cons, if_neg (by
          have : p ∈ ls := Classical.byContradiction fun h => Bool.false_ne_true (hc.mpr h)
          simp [this])]
        simp
      | true =>
        refine iteT ?_
        refine isTrue_and <| wpAny_isTrue_Compare1 <| Subscript_ <| ev_K C (.tail _ (.head _)) hoC hx <| wpAny_Slice <| evalPart_none_step <| evalPart_some_step <| wpAny_UnaryOp <| ev_int C fun t₁ s₇ C => P.neg_int <| evalPart_none_step <|
          sub_slice (C.tok _) (listOf_is (C.cx.all Z _ (mem_in hlp))) (by omega) .none (.int _ _) fun sl s₈ C => wpAny_BinOp <| ev_cell C (.tail _ (.tail _ (.tail _ (.tail _ (.tail _ (.head _)))))) rfl hoL <| List_ <| sp_cons <| List_ <| sp_nil <| newList_F C (by simp) fun le s₉ C => sp_nil <| newList_F C (by simp) fun lf s₁₀ C =>
          add_ll C (C.cx.all Z _ (List.mem_append_right _ hm1)) (C.cx.all Z _ (.head _)) (by simp; omega) fun la s₁₁ C => ?_
        refine in_dat (ds := (ls ++ [[]]).map dP) (d := dP p.dropLast) (C.led Z) (.list (List.mem_append_right _ (.tail _ (.tail _ (.tail _ (.head _))))) ?_) (.list (List.mem_append_right _ (.head _)) ?_) (okAll _ ls0) (okP0 _ (dL_P p hpP)) units fun c2 hc2 => wpAny_truthy_bool ?_
        · have := DatAll.pick none (some (-1)) dvp
          rw [pk_dropLast, ← List.map_dropLast] at this
          exact this.mono fun _ h => List.mem_append_right _ (List.mem_append_right _ h)
        · rw [List.map_append]
          exact DatAll.append (dv1.mono fun _ h => List.mem_append_right _ (List.mem_append_right _ h)) (.one (.list (List.mem_append_right _ (.tail _ (.tail _ (.head _)))) .nil))
        rw [mem_dP] at hc2
        have c1 : p ∉ ls := hc.mp rfl
        cases c2 with
        | true =>
          refine iteT ?_
          refine isTrue_and_nil <| hE3 _ _ ⟨_ :: _ :: _ :: _ :: tl', C, fun _ h => .tail _ (.tail _ (.tail _ (.tail _ h))), ?_⟩
          refine iteT ?_
          refine ev_K C (.tail _ (.head _)) hoC hx ⟨_ :: _ :: _ :: _ :: tl', dP p, C, fun _ h => h, dp.mono fun _ h => List.mem_append_right _ h, ?_⟩
          show List.map dP (List.filter _ _) = _
          rw [take, List.filter_append, List.map_append]
          congr 1
          rw [List.filter_cons, if_pos (by rw [decide_eq_true c1, decide_eq_true (hc2.mp rfl)]; rfl)]; rfl
        | false =>
          refine iteF ?_
          refine hE3 _ _ ⟨_ :: _ :: _ :: _ :: tl', C, fun _ h => .tail _ (.tail _ (.tail _ (.tail _ h))), ?_⟩
          refine iteF ?_
          show List.map dP (List.filter _ _) = _
          rw [take, List.filter_append, List.filter_cons, if_neg (by
            rw [decide_eq_false (fun h => Bool.false_ne_true (hc2.mpr h))]; simp)]
          simp
    intro D us k' tl' s₆ C du
    rw [e2] at du
    dsimp only at du
    rw [List.take_length] at du
    change DatAll _ us ((dstrokes ls rs).map dP) at du
    have C := C.freeze
    have hsP : ∀ p ∈ dstrokes ls rs, p ∈ allP := fun p h => hrs p (List.mem_filter.mp h).1
    have hsl : (dstrokes ls rs).length ≤ rs.length := List.length_filter_le ..
    have hD : (D, W.listOf us.toArray k') ∈ ((D, W.listOf us.toArray k') :: (tl' ++ [])) ++ fz₀ := .head _
    replace du := DatAll.cs (x := (D, W.listOf us.toArray k')) du
    generalize (D, W.listOf us.toArray k') :: (tl' ++ []) = F at C hD du
    generalize hstr : dstrokes ls rs = strokes at du hsP hsl
    have ul : us.length = strokes.length := by rw [du.length, List.length_map]
    refine st_cell (pre := [(L + 1 + 1 + 1, oK)]) (post := [(L + 1, oL)]) C (c := L + 1 + 1) rfl hoS fun oS s₇ hoS C => ?_
    refine hE1 _ _ <| wpAny_execs_cons <| hideEnd fun E1 hE1 => wpAny_Assign_Name <| List_ <| sp_nil <| newList_M C (by simp) fun st s₈ C => st_L C fun s₉ C => ?_
    have hl1 : ∀ {X : List (Addr × Obj)}, (l1, W.listOf vs1.toArray n1) ∈ X ++ fz₀ := fun {X} => List.mem_append_right _ hm1
    have hl2 : ∀ {X : List (Addr × Obj)}, (l2, W.listOf vs2.toArray n2) ∈ X ++ fz₀ := fun {X} => List.mem_append_right _ hm2
    have hl3 : ∀ {X : List (Addr × Obj)}, (l3, W.listOf vs3.toArray n3) ∈ X ++ fz₀ := fun {X} => List.mem_append_right _ hm3
    refine hE1 _ _ <| wpAny_execs_cons <| hideEnd fun E1 hE1 => wpAny_For <| ev_call <| ev_B am (C.old X) rfl rfl <| cw_ty <| sp_cons <| ev_int C fun t₁ s₁₀ C => sp_cons <| wpAny_BinOp <| ev_call <| ev_B am (C.old X) rfl rfl <| cw_bi <| sp_cons <| ev_cell C (.tail _ (.tail _ (.head _))) rfl hoS <| sp_nil <|
      len_list (listOf_is (C.cx.all Z _ hD)) (by rw [List.size_toArray]; omega) <| ev_int (C.tok _) fun t₂ s₁₁ C => wpAny_add_int <| sp_nil <| call_range_2 ?_
    refine for_range (fz₀ := fz₀) (n := strokes.length) (C.heap (C.cx.push _) _) R'.handled Z (IsRange.new ..) (by rw [List.size_toArray, ul]; omega) (by decide) (by omega) (fun I v s Q hq => wpAny_pure hq)
      (dueJ rs strokes st l2 l3 L oS oL F fz₀)
      ⟨[], 0, oK, _, if_pos rfl, skip e2m, skip e3m, rfl, hoK, .nil⟩ ?_ ?_
    · intro j t it m₂ mu₂ tl₂ s₁₂ hj hJ C
      refine dueJ.elim [it] hJ C fun us' k oK ov e1' e2' e3' hoK du' C => ?_
      clear hJ
      refine wpAny_assign_Name <| st_cell (pre := [it, (st, _)]) (post := [(L + 1 + 1, oS), (L + 1, oL)]) C rfl hoK fun oK s₁₃ hoK C => ?_
      have hpk : pk (strokes.map dP) none (some (1 + (j : Int))) = (strokes.take (j + 1)).map dP := by
        rw [pk_hi _ (by omega), List.map_take]
        congr 1
        omega
      have tkP : ∀ p ∈ strokes.take (j + 1), p ∈ allP := fun p h => hsP p (List.mem_of_mem_take h)
      have ul' : us'.length ≤ 1000 := by
        rw [du'.length, List.length_map]
        unfold dstates
        rw [List.length_map, List.length_range]; omega
      refine hideEnd fun E2 hE2 => ?_
      refine wpAny_execs_cons <| wpAny_Expr <| ev_append (pre := [it]) (post := [(L + 1 + 1 + 1, oK), (L + 1 + 1, oS), (L + 1, oL)]) C e1' <| ev_listcompC (fz₀ := fz₀) R'.handled Z <| ev_L C e2' ⟨l2, vs2, n2, _, _, fun i => (dstate (strokes.take (j + 1)) (rs.take i)).map dJ, rfl, by omega, C, hl2, rfl, ?_, ?_⟩
      · intro i v oI Ca oC cA oW D2 I us2 k2 tl3 s₁₄ hv hoW du2 C
        generalize hmu : [it, (st, W.listOf us'.toArray k)] ++ (L + 1 + 1 + 1, oK) :: [(L + 1 + 1, oS), (L + 1, oL)] = MU at C ⊢
        have hS9 : (L + 1 + 1, oS) ∈ MU := hmu ▸ .tail _ (.tail _ (.tail _ (.head _)))
        have hK9 : (L + 1 + 1 + 1, oK) ∈ MU := hmu ▸ .tail _ (.tail _ (.head _))
        clear hmu
        refine at_list dv2 hv fun p lp vp np hp hva hlp dvp dp => ?_
        have hpP := hrs p (List.mem_of_getElem? hp)
        rw [hva] at hoW
        have take : rs.take (i + 1) = rs.take i ++ [p] := by rw [List.take_add_one, hp]; rfl
        have lp3 : vp.length ≤ 3 := by rw [dvp.length, List.length_map]; exact (names_ok p hpP).1
        refine hideEnd fun E3 hE3 => wpAny_tests_one <| wpAny_isTrue_Compare1 <| ev_listcomp (L := L) (m := m₂) (fz₀ := fz₀) R'.handled Z <| Subscript_ <| ev_cell C (.tail _ (.tail _ (.tail _ (.tail _ hS9)))) rfl hoS <| wpAny_Slice <| evalPart_none_step <| evalPart_some_step <| ev_cell C (.tail _ (.tail _ (.tail _ (.tail _ hK9)))) rfl hoK <| evalPart_none_step <|
          sub_slice C (listOf_is (C.cx.all Z _ (mem_in (mem_in hD)))) (by omega) .none (.int _ _) fun sl s₁₅ C => ?_
        have dsl := DatAll.pick none (some (1 + (j : Int))) du
        rw [hpk] at dsl
        have sll : (kms_pick us none (some (1 + (j : Int)))).length = (strokes.take (j + 1)).length := by rw [dsl.length, List.length_map]
        have stl : (strokes.take (j + 1)).length ≤ strokes.length := by rw [List.length_take]; omega
        refine ⟨sl, _, 0, _, _, fun i => (hits ((strokes.take (j + 1)).take i) p).map dP, rfl, by omega, C, .inl (.head _), rfl, ?_, ?_⟩
        · intro i2 v2 oI2 Ca2 oC2 mc2 D3 I2 us3 k3 tl4 s₁₆ hv2 hoC2 hx2 du3 C
          clear du3
          have upF : ∀ q ∈ F ++ fz₀, q ∈ ((sl, W.listOf (kms_pick us none (some (1 + (j : Int)))).toArray 0) :: (tl3 ++ (tl₂ ++ F))) ++ fz₀ := fun q h => .tail _ (mem_in (mem_in h))
          generalize (sl, W.listOf (kms_pick us none (some (1 + (j : Int)))).toArray 0) :: (tl3 ++ (tl₂ ++ F)) = F3 at C upF ⊢
          generalize hmu : (I, oI) :: (cA, oW) :: (Ca, oC) :: (D2, W.listOf us2.toArray k2) :: MU = MU2 at C ⊢
          have hW9 : (cA, oW) ∈ MU2 := hmu ▸ .tail _ (.head _)
          clear hmu
          refine at_list dsl hv2 fun t' lt vt nt ht' hvb hlt dvt dt => ?_
          have htP := tkP t' (List.mem_of_getElem? ht')
          rw [hvb] at hx2
          have lt3 : vt.length = t'.length := by rw [dvt.length, List.length_map]
          have lt4 := (names_ok t' htP).1
          have take2 : (strokes.take (j + 1)).take (i2 + 1) = (strokes.take (j + 1)).take i2 ++ [t'] := by rw [List.take_add_one, ht']; rfl
          have up : ∀ {x : Addr × Obj} {q : Addr × Obj}, q ∈ F ++ fz₀ → q ∈ (x :: (tl4 ++ F3)) ++ fz₀ := fun {x q} h => .tail _ (mem_in (upF q h))
          have up' : ∀ {q : Addr × Obj}, q ∈ F ++ fz₀ → q ∈ (tl4 ++ F3) ++ fz₀ := fun {q} h => mem_in (upF q h)
          refine hideEnd fun E3 hE3 => wpAny_tests_one <| wpAny_isTrue_Compare1 <| Subscript_ <| ev_cell C (.tail _ (.tail _ (.tail _ hW9))) rfl hoW <| wpAny_Slice <| evalPart_none_step <| evalPart_some_step <| ev_call <| ev_B am (C.old X) rfl rfl <| cw_bi <| sp_cons <| ev_K C (.tail _ (.head _)) hoC2 hx2 <| sp_nil <|
            len_list (listOf_is (C.cx.all Z _ (up' hlt))) (by rw [List.size_toArray]; omega) <| evalPart_none_step <| sub_slice (C.tok _) (listOf_is (C.cx.all Z _ (List.mem_append_right _ hlp))) (by omega) .none (.int _ _) fun sl2 s₁₇ C => ev_K C (.tail _ (.head _)) hoC2 hx2 ?_
          refine eq_dat (es := (p.take t'.length).map .str) (ds := t'.map .str) (C.led Z) (.list (List.mem_append_right _ (.head _)) ?_) (.list (List.mem_append_right _ (up hlt)) (dvt.mono fun _ h => List.mem_append_right _ (up h)))
            (okNs (take_P0 p hpP _ lt4)) (okNs (.tail _ htP)) units fun c hc => wpAny_truthy_bool ?_
          · have := DatAll.pick none (some ((vt.toArray.size : Nat) : Int)) dvp
            rw [pk_hi _ (by omega), ← List.map_take, Int.toNat_natCast, List.size_toArray, lt3] at this
            rw [List.size_toArray, lt3]
            exact this.mono fun _ h => List.mem_append_right _ (List.mem_append_right _ h)
          have hc' : c = true ↔ p.take t'.length = t' := hc.trans ⟨fun h => map_inj (fun _ _ h => Dat.str.inj h) h, fun h => by rw [h]⟩
          refine hE3 _ _ ⟨_ :: tl4, C, fun _ h => .tail _ h, ?_⟩
          cases c with
          | true =>
            refine iteT ?_
            refine ev_K C (.tail _ (.head _)) hoC2 hx2 ⟨_ :: tl4, dP t', C, fun _ h => h, dt.mono fun _ h => up h, ?_⟩
            show List.map dP (List.filter _ _) = _
            rw [take2, List.filter_append, List.map_append]
            congr 1
            rw [List.filter_cons, if_pos (decide_eq_true (hc'.mp rfl))]; rfl
          | false =>
            refine iteF ?_
            show List.map dP (List.filter _ _) = _
            rw [take2, List.filter_append, List.filter_cons, if_neg (by rw [decide_eq_false fun h => Bool.false_ne_true (hc'.mpr h)]; simp)]
            simp; rfl
        intro D3 us3 k3 tl4 s₁₆ C du3
        rw [sll] at du3
        dsimp only at du3
        rw [List.take_length] at du3
        have C := C.freeze
        have hhP : ∀ q ∈ hits (strokes.take (j + 1)) p, q ∈ allP0 := fun q h => .tail _ (tkP q (List.mem_filter.mp h).1)
        refine List_ <| sp_nil <| newList_F C (by simp) fun le s₁₇ C => eq_dat (es := (hits (strokes.take (j + 1)) p).map dP) (ds := []) (C.led Z) (.list (List.mem_append_right _ (.tail _ (.head _))) (du3.mono fun _ h => List.mem_append_right _ (.tail _ (.tail _ h)))) (.list (List.mem_append_right _ (.head _)) .nil)
          (okAll _ hhP) (fun _ h => nomatch h) units fun c hc => wpAny_truthy_bool ?_
        have hc' : c = true ↔ hits (strokes.take (j + 1)) p = [] := hc.trans List.map_eq_nil_iff
        have eF : ∀ x y z : Addr × Obj, x :: y :: (tl4 ++ z :: (tl3 ++ (tl₂ ++ F))) = (x :: y :: (tl4 ++ z :: tl3)) ++ (tl₂ ++ F) := fun x y z => by simp
        rw [eF] at C
        refine hE3 _ _ ⟨_, C, fun _ h => .tail _ (.tail _ (List.mem_append_right _ (.tail _ h))), ?_⟩
        cases c with
        | true =>
          refine iteT ?_
          refine Call_method1 rfl rfl rfl <| ev_str C fun t₃ s₁₈ C => method_J hpP <| ev_cell C (.tail _ (.head _)) rfl hoW ⟨_, dp.mono fun _ h => List.mem_append_right _ h, C.cx.all Z, fun t₄ k₄ => ⟨_, dJ p, C.tok _, fun _ h => h, .str _ _, ?_⟩⟩
          show List.map dJ (List.filter _ _) = _
          rw [take, List.filter_append, List.map_append]
          congr 1
          rw [List.filter_cons, if_pos (decide_eq_true (hc'.mp rfl))]; rfl
        | false =>
          refine iteF ?_
          show List.map dJ (List.filter _ _) = _
          rw [take, List.filter_append, List.filter_cons, if_neg (by rw [decide_eq_false fun h => Bool.false_ne_true (hc'.mpr h)]; simp)]
          simp; rfl
      intro D2 us2 k2 tl3 s₁₄ C du2
      rw [e2] at du2
      dsimp only at du2
      rw [List.take_length] at du2
      have C := C.freeze
      have eF : ∀ x : Addr × Obj, x :: (tl3 ++ (tl₂ ++ F)) = (x :: (tl3 ++ tl₂)) ++ F := fun x => by simp
      have du2' := DatAll.cs (x := (D2, W.listOf us2.toArray k2)) du2
      rw [eF] at C du2'
      refine append_M (pre := [it]) (post := [(L + 1 + 1 + 1, oK), (L + 1 + 1, oS), (L + 1, oL)]) C ul' fun s₁₅ C => wpAny_execs_nil <| hE2 _ _ ⟨_, _, _, C, _, _, oK, _, e1', e2', e3', rfl, hoK, ?_⟩
      rw [dstates_succ, List.map_append]
      refine DatAll.append (DatAll.mono (fun p hp => ?_) du') (.one (.list (.head _) du2'))
      rw [← eF]
      exact List.mem_cons_of_mem _ (mem_in (a := tl3) (b := tl₂ ++ F) hp)
    intro m₂ mu₂ tl₂ s₁₂ hJ C
    refine dueJ.elim [] hJ C fun us' k oK ov e1' e2' e3' hoK du' C => ?_
    clear hJ
    have C := C.freeze
    replace du' := DatAll.cs (x := (st, W.listOf us'.toArray k)) du'
    replace du := DatAll.cs (x := (st, W.listOf us'.toArray k)) (DatAll.inn (a := tl₂) du)
    have hD : (D, W.listOf us.toArray k') ∈ ((st, W.listOf us'.toArray k) :: (tl₂ ++ F)) ++ fz₀ := .tail _ (mem_in hD)
    have hst : (st, W.listOf us'.toArray k) ∈ ((st, W.listOf us'.toArray k) :: (tl₂ ++ F)) ++ fz₀ := .head _
    generalize (st, W.listOf us'.toArray k) :: (tl₂ ++ F) = F at C du du' hD hst
    have dsta : DatIn (F ++ fz₀) (.ref st) (.list ((dstates strokes rs strokes.length).map dJs)) := .list hst du'
    refine hE1 _ _ <| wpAny_execs_cons <| wpAny_Return_some <| List_ <| sp_cons <| ev_joins (L := L) (m := m₂) (fz₀ := fz₀) R'.handled Z <| ev_cell C (.tail _ (.head _)) rfl hoS ⟨D, us, k', _, _, strokes, rfl, C, hD, du, hsP, by omega, fun D1 us1 k1 tl1 s₁₃ C du1 => ?_⟩
    replace dsta := DatIn.cs (x := (D1, W.listOf us1.toArray k1)) (DatIn.inn (a := tl1) dsta)
    have djs : DatIn (((D1, W.listOf us1.toArray k1) :: (tl1 ++ F)) ++ fz₀) (.ref D1) (dJs strokes) := .list (.head _) du1
    generalize (D1, W.listOf us1.toArray k1) :: (tl1 ++ F) = F at C dsta djs
    refine sp_cons <| ev_L C e1' <| sp_cons <| List_ <| sp_nil <| newList_F C (by simp) fun le s₁₄ C => sp_cons <| ev_call <| ev_B am (C.old X) rfl rfl <| cw_bi <| sp_cons <| ev_joins (L := L) (m := m₂) (fz₀ := fz₀) R'.handled Z <|
      wpAny_BinOp <| ev_cell C (.tail _ (.tail _ (.head _))) rfl hoL <| ev_listcomp (L := L) (m := m₂) (fz₀ := fz₀) R'.handled Z <| ev_L C e3' ⟨l3, vs3, n3, _, _, fun i => (inP (tw.take i) ls).map dP, rfl, by omega, C, .inl hl3, rfl, ?_, ?_⟩
    · intro i v oI Ca oC mc D4 I us4 k4 tl4 s₁₅ hv hoC hx du4 C
      refine at_list dv3 hv fun p lp vp np hp hva hlp dvp dp => ?_
      have hpP := htw p (List.mem_of_getElem? hp)
      rw [hva] at hx
      have take : tw.take (i + 1) = tw.take i ++ [p] := by rw [List.take_add_one, hp]; rfl
      refine hideEnd fun E3 hE3 => wpAny_tests_one <| wpAny_isTrue_Compare1 <| ev_K C (.tail _ (.head _)) hoC hx <| ev_cell C (.tail _ (.tail _ (.tail _ (.tail _ (.tail _ (.head _)))))) rfl hoL <|
        in_dat (ds := ls.map dP) (d := dP p) (C.led Z) (dp.mono fun _ h => List.mem_append_right _ (List.mem_append_right _ h)) (h1.mono fun _ h => List.mem_append_right _ (List.mem_append_right _ h)) (okAll _ fun p h => .tail _ (hls p h)) (okP p hpP) units fun c hc => wpAny_truthy_bool ?_
      rw [mem_dP] at hc
      refine hE3 _ _ ⟨tl4, C, fun _ h => h, ?_⟩
      cases c with
      | true =>
        refine iteT ?_
        refine ev_K C (.tail _ (.head _)) hoC hx ⟨tl4, dP p, C, fun _ h => h, dp.mono fun _ h => List.mem_append_right _ h, ?_⟩
        show List.map dP (List.filter _ _) = _
        rw [take, List.filter_append, List.map_append]
        congr 1
        rw [List.filter_cons, if_pos (decide_eq_true (hc.mp rfl))]; rfl
      | false =>
        refine iteF ?_
        show List.map dP (List.filter _ _) = _
        rw [take, List.filter_append, List.filter_cons, if_neg (by rw [decide_eq_false fun h => Bool.false_ne_true (hc.mpr h)]; simp)]
        simp; rfl
    intro D4 us4 k4 tl4 s₁₅ C du4
    rw [e3] at du4
    dsimp only at du4
    rw [List.take_length] at du4
    have C := C.freeze
    have hip : (inP tw ls).length ≤ tw.length := List.length_filter_le ..
    have u4l : us4.length = (inP tw ls).length := by rw [du4.length, List.length_map]
    refine add_ll C (C.cx.all Z _ hl1) (C.cx.all Z _ (.head _)) (by omega) fun la s₁₆ C => ⟨la, _, 0, _, _, ls ++ inP tw ls, rfl, C, .head _, ?_, ?_, ?_, ?_⟩
    · rw [List.map_append]
      exact DatAll.append (dv1.mono fun _ h => List.mem_append_right _ h) (du4.mono fun _ h => .tail _ (.tail _ h))
    · intro p hp
      rcases List.mem_append.mp hp with h | h
      · exact hls p h
      · exact htw p (List.mem_filter.mp h).1
    · rw [List.length_append]; omega
    intro D5 us5 k5 tl5 s₁₇ C du5
    rw [strs_dJ] at du5
    refine sp_nil <| sorted_F C (C.cx.all Z _ (.head _)) du5 ?_ fun a vs' ys e s₁₈ C dys hperm hsrt => sp_nil <| newList_F C (by simp) fun r s₁₉ C => ?_
    · rw [du5.length]; simp; omega
    subst hstr
    exact hEE _ _ ⟨_, _, _, C, ys, hperm, hsrt, .list (.head _) (.cons (djs.mono fun _ h => by simp only [List.cons_append, List.mem_cons, List.mem_append] at h ⊢; rcases h with h | h <;> simp [h]) (.cons (dsta.mono fun _ h => by simp only [List.cons_append, List.mem_cons, List.mem_append] at h ⊢; rcases h with h | h <;> simp [h])
      (.cons (.list (n := 0) (by simp) .nil) (.one (.list (.tail _ (.head _)) (dys _))))))⟩
  · intro n x hx
    simp only [List.mem_cons, List.not_mem_nil, or_false] at hx
    rcases hx with rfl | rfl | rfl
    · exact .inr ⟨rfl, rfl⟩
    · exact .inl rfl
    · exact .inl rfl
end
end Mine

namespace Mine
open PySem PySem.W PySem.Calls PySem.Spec PyProof.Rows

inductive Grown : List (List Str) → Prop
  | nil : Grown []
  | snoc {t p} : Grown t → p ∉ t → (p.dropLast = [] ∨ p.dropLast ∈ t) → Grown (t ++ [p])
theorem Grown.nodup : ∀ {t : List (List Str)}, Grown t → t.Nodup := by
  intro t g
  induction g with
  | nil => exact List.nodup_nil
  | snoc g h _ ih =>
    rw [List.nodup_append]
    refine ⟨ih, by simp, fun a ha b hb => ?_⟩
    rw [List.mem_singleton.mp hb]
    exact fun e => h (e ▸ ha)
theorem Grown.closed : ∀ {t : List (List Str)}, Grown t → ∀ p ∈ t, p.dropLast = [] ∨ p.dropLast ∈ t := by
  intro t g
  induction g with
  | nil => exact fun _ h => nomatch h
  | snoc g _ hp ih =>
    intro q h
    rcases List.mem_append.mp h with h | h
    · rcases ih q h with h | h
      · exact .inl h
      · exact .inr (List.mem_append_left _ h)
    · rw [List.mem_singleton.mp h]
      rcases hp with h | h
      · exact .inl h
      · exact .inr (List.mem_append_left _ h)

theorem dropLast_take {α : Type} (l : List α) (j : Nat) (h : j < l.length) : (l.take (j + 1)).dropLast = l.take j := by
  rw [List.dropLast_eq_take, List.length_take, List.take_take, Nat.min_eq_left (show j + 1 ≤ l.length from h), Nat.add_sub_cancel, Nat.min_eq_left (Nat.le_succ j)]
theorem sideIns_grown {sd o : Int} {p : List Str} {t : List (List Str)} (g : Grown t) : ∀ n ≤ p.length, Grown ((List.range n).foldl (sideIn sd o p) t) ∧ (sd ≠ o → n = 0 ∨ p.take n ∈ (List.range n).foldl (sideIn sd o p) t) := by
  intro n
  induction n with
  | zero => exact fun _ => ⟨g, fun _ => .inl rfl⟩
  | succ n ih =>
    intro h
    obtain ⟨h1, h2⟩ := ih (Nat.le_of_succ_le h)
    rw [fold_range]
    unfold sideIn
    split
    · rename_i hc
      refine ⟨.snoc h1 hc.2 ?_, fun _ => .inr (by simp)⟩
      rw [dropLast_take p n (show n < p.length by omega)]
      rcases h2 hc.1 with h | h
      · subst h; exact .inl rfl
      · exact .inr h
    · rename_i hc
      refine ⟨h1, fun hne => .inr (Classical.byContradiction fun hm => hc ⟨hne, hm⟩)⟩
theorem side_grown (o : Int) : ∀ (rows : List (Int × List Str)) {t : List (List Str)}, Grown t → Grown (rows.foldl (sideStep o) t)
  | [], _, g => g
  | r :: rows, _, g => side_grown o rows (sideIns_grown g r.2.length (Nat.le_refl _)).1

theorem com_pre : ∀ {s q : List Str}, com s q = s ↔ q.take s.length = s
  | [], q => by rw [com_nil]; exact ⟨fun _ => rfl, fun _ => rfl⟩
  | x :: s, [] => ⟨(fun h => nomatch h), (fun h => nomatch h)⟩
  | x :: s, y :: q => by
    simp only [com_cons, List.length_cons, List.take_succ_cons, List.cons.injEq]
    by_cases h : x = y
    · subst h; simp [com_pre (s := s) (q := q)]
    · rw [if_neg h]; simp [Ne.symm h]
theorem cutN_eq (ss : List (List Str)) : ∀ (r : List (List Str)), cutN ss r = dstate ss r := by
  induction ss with
  | nil =>
    intro r
    show r = _
    unfold dstate hits
    exact (List.filter_eq_self.mpr fun _ _ => by simp).symm
  | cons s ss ih =>
    intro r
    show cutN ss (cut s r) = _
    rw [ih]
    unfold dstate cut
    rw [List.filter_filter]
    refine List.filter_congr fun q _ => ?_
    unfold hits
    rw [List.filter_cons, Bool.eq_iff_iff]
    by_cases h : q.take s.length = s
    · simp [com_pre.mpr h, h]
    · have : com s q ≠ s := fun e => h (com_pre.mp e)
      simp [this, h]
theorem states_eq (ss r : List (List Str)) (n : Nat) : statesP ss r n = dstates ss r n := by
  unfold statesP dstates
  exact List.map_congr_left fun k _ => cutN_eq _ _

theorem strokes_eq {ls rs : List (List Str)} (hrs : ∀ p ∈ rs, p ≠ []) (cl : ∀ p ∈ rs, p.dropLast = [] ∨ p.dropLast ∈ rs) : strokesP (outP rs ls) = dstrokes ls rs := by
  unfold strokesP dstrokes
  rw [show (outP rs ls).filter (fun p => decide (p.dropLast ∉ outP rs ls)) = (rs.filter fun p => decide (p ∉ ls)).filter (fun p => decide (p.dropLast ∉ outP rs ls)) from rfl, List.filter_filter]
  refine List.filter_congr fun p hp => ?_
  rw [Bool.eq_iff_iff]
  simp only [Bool.and_eq_true, decide_eq_true_eq, outP, List.mem_filter, List.mem_append, List.mem_singleton, not_and, Classical.not_not]
  constructor
  · rintro ⟨h1, h2⟩
    refine ⟨h2, ?_⟩
    rcases cl p hp with h | h
    · exact .inr h
    · exact .inl (h1 h)
  · rintro ⟨h1, h2⟩
    refine ⟨fun h => ?_, h1⟩
    rcases h2 with h2 | h2
    · exact h2
    · exact absurd h2 (hrs _ h)

theorem lost_nil {rs base : List (List Str)} : ∀ {ls : List (List Str)}, Grown ls → (∀ p ∈ ls, p ∈ rs → p ∈ base) → lostP base (outP ls rs) = [] := by
  intro ls g
  induction g with
  | nil => exact fun _ => rfl
  | @snoc t p g _ hd ih =>
    intro hb
    have ih := ih fun q h => hb q (List.mem_append_left _ h)
    unfold outP at ih ⊢
    rw [List.filter_append, lostP_append, ih, List.nil_append]
    by_cases hp : p ∈ rs
    · rw [List.filter_cons, if_neg (by simp [hp])]; rfl
    · rw [List.filter_cons, if_pos (by simp [hp])]
      rw [List.filter_nil]
      refine (List.append_nil _).trans ?_
      refine if_neg fun h => h ?_
      rcases hd with hd | hd
      · rw [hd]; simp
      · by_cases hr : p.dropLast ∈ rs
        · exact List.mem_append_left _ (List.mem_append_left _ (hb _ (List.mem_append_left _ hd) hr))
        · exact List.mem_append_left _ (List.mem_append_right _ (List.mem_filter.mpr ⟨hd, by simp [hr]⟩))

theorem pre_dropLast {t q : List Str} (h : t <+: q) (hne : t ≠ q) : t <+: q.dropLast := by
  rw [List.prefix_iff_eq_take] at h ⊢
  have hl : t.length < q.length := by
    rcases Nat.lt_or_ge t.length q.length with h' | h'
    · exact h'
    · rw [List.take_of_length_le h'] at h; exact absurd h hne
  rw [List.dropLast_eq_take, List.take_take, Nat.min_eq_left (by omega)]
  exact h
theorem pre_mem {ls : List (List Str)} (cl : ∀ p ∈ ls, p.dropLast = [] ∨ p.dropLast ∈ ls) : ∀ (n : Nat) {t q : List Str}, q.length ≤ n → q ∈ ls → t <+: q → t ≠ [] → t ∈ ls
  | 0, t, q, hn, hq, ht, hne => by
    have : q = [] := List.length_eq_zero_iff.mp (by omega)
    subst this
    exact absurd (List.prefix_nil.mp ht) hne
  | n + 1, t, q, hn, hq, ht, hne => by
    by_cases e : t = q
    · rw [e]; exact hq
    · have h1 := pre_dropLast ht e
      rcases cl q hq with h | h
      · rw [h] at h1; exact absurd (List.prefix_nil.mp h1) hne
      · exact pre_mem cl n (by rw [List.length_dropLast]; omega) h h1 hne
theorem stroke_of {ls rs : List (List Str)} (cl : ∀ p ∈ rs, p.dropLast = [] ∨ p.dropLast ∈ rs) : ∀ (n : Nat) {q : List Str}, q.length ≤ n → q ∈ rs → q ∉ ls → q ≠ [] → ∃ t ∈ dstrokes ls rs, t <+: q
  | 0, q, hn, _, _, hne => absurd (List.length_eq_zero_iff.mp (by omega)) hne
  | n + 1, q, hn, hq, hnl, hne => by
    by_cases h : q.dropLast ∈ ls ++ [[]]
    · exact ⟨q, List.mem_filter.mpr ⟨hq, by rw [decide_eq_true hnl, decide_eq_true h]; rfl⟩, List.prefix_refl _⟩
    · have h0 : q.dropLast ≠ [] := fun e => h (by rw [e]; simp)
      rcases cl q hq with e | e
      · exact absurd e h0
      · obtain ⟨t, h1, h2⟩ := stroke_of cl n (by rw [List.length_dropLast]; omega) e (fun e => h (List.mem_append_left _ e)) h0
        exact ⟨t, h1, h2.trans (List.dropLast_prefix q)⟩
theorem left_over {ls rs : List (List Str)} (hrs : ∀ p ∈ rs, p ≠ []) (cl : ∀ p ∈ rs, p.dropLast = [] ∨ p.dropLast ∈ rs) (cll : ∀ p ∈ ls, p.dropLast = [] ∨ p.dropLast ∈ ls) : cutN (dstrokes ls rs) rs = inP rs ls := by
  rw [cutN_eq]
  unfold dstate inP
  refine List.filter_congr fun q hq => ?_
  rw [Bool.eq_iff_iff]
  simp only [decide_eq_true_eq]
  unfold hits
  rw [List.filter_eq_nil_iff]
  constructor
  · intro h
    refine Classical.byContradiction fun hn => ?_
    obtain ⟨t, h1, h2⟩ := stroke_of cl q.length (Nat.le_refl _) hq hn (hrs q hq)
    exact h t h1 (decide_eq_true (List.prefix_iff_eq_take.mp h2).symm)
  · intro h t ht he
    have he' := of_decide_eq_true he
    obtain ⟨h1, h2⟩ := List.mem_filter.mp ht
    rw [Bool.and_eq_true] at h2
    exact of_decide_eq_true h2.1 (pre_mem cll q.length (Nat.le_refl _) h (List.prefix_iff_eq_take.mpr he'.symm) (hrs t h1))

theorem end_perm {ls th tw : List (List Str)} (gl : ls.Nodup) (gt : th.Nodup) (sub : ∀ p ∈ tw, p ∈ th) : (inP (th ++ tw) ls ++ outP ls (th ++ tw)).Perm (ls ++ inP tw ls) := by
  have e1 : inP (th ++ tw) ls = inP th ls ++ inP tw ls := by unfold inP; rw [List.filter_append]
  have e2 : outP ls (th ++ tw) = ls.filter fun p => !decide (p ∈ th) := by
    unfold outP
    refine List.filter_congr fun p _ => ?_
    rw [Bool.eq_iff_iff]
    simp only [decide_eq_true_eq, List.mem_append, not_or, Bool.not_eq_true', decide_eq_false_iff_not]
    exact ⟨fun h => h.1, fun h => ⟨h, fun e => h (sub p e)⟩⟩
  have p1 : (inP th ls).Perm (ls.filter fun p => decide (p ∈ th)) := by
    refine (List.perm_ext_iff_of_nodup (gt.sublist List.filter_sublist) (gl.sublist List.filter_sublist)).mpr fun p => ?_
    simp only [inP, List.mem_filter, decide_eq_true_eq]
    exact ⟨fun h => ⟨h.2, h.1⟩, fun h => ⟨h.2, h.1⟩⟩
  have p2 := List.filter_append_perm (fun p => decide (p ∈ th)) ls
  rw [e1, e2]
  generalize inP tw ls = T at *
  generalize inP th ls = I at *
  refine List.Perm.trans ?_ (List.Perm.append_right T p2)
  rw [List.append_assoc, List.append_assoc]
  exact List.Perm.append p1 List.perm_append_comm

theorem pairwise_of_rising (l : List Str) : ∀ (p : Str), risingS p l = true → (p :: l).Pairwise fun a b => a.cps.toList ≤ b.cps.toList := by
  induction l with
  | nil => exact fun p _ => List.pairwise_singleton _ p
  | cons x r ih =>
    intro p h
    simp only [risingS, Bool.and_eq_true, Bool.not_eq_true'] at h
    have h1 : p.cps.toList ≤ x.cps.toList := by
      have := h.1
      rw [ltCps_eq] at this
      exact List.not_lt.mp (of_decide_eq_false this)
    have ih := ih x h.2
    rw [List.pairwise_cons]
    refine ⟨fun b hb => ?_, ih⟩
    rcases List.mem_cons.mp hb with rfl | hb
    · exact h1
    · exact List.le_trans h1 (List.rel_of_pairwise_cons ih hb)
theorem sorted_one {xs ys : List Str} (hp : xs.Perm ys) (hx : sortedS xs = true) (hy : sortedS ys = true) : xs = ys := by
  have pw : ∀ l : List Str, sortedS l = true → l.Pairwise fun a b => a.cps.toList ≤ b.cps.toList := fun l h => by
    cases l with
    | nil => exact .nil
    | cons x r => exact pairwise_of_rising r x h
  refine List.Perm.eq_of_pairwise (le := fun a b => a.cps.toList ≤ b.cps.toList) (fun a b _ _ h1 h2 => ?_) (pw _ hx) (pw _ hy) hp
  have := List.le_antisymm h1 h2
  cases a; cases b
  simp only [Str.mk.injEq]
  exact Array.toList_inj.mp this

theorem told_due {ls th tw : List (List Str)} {x y : List Str} (gl : Grown ls) (gt : Grown th) (ht : ∀ p ∈ th, p ≠ []) (sub : ∀ p ∈ tw, p ∈ th)
    (hx : x.Perm ((cutN (strokesP (outP (th ++ tw) ls)) (th ++ tw) ++ outP ls (th ++ tw)).map J)) (sx : sortedS x = true) (hy : y.Perm ((ls ++ inP tw ls).map J)) (sy : sortedS y = true) :
    toldD ls (th ++ tw) x = dueD ls (th ++ tw) y := by
  have mem : ∀ p, p ∈ th ++ tw → p ∈ th := fun p h => by
    rcases List.mem_append.mp h with h | h
    · exact h
    · exact sub p h
  have hrs : ∀ p ∈ th ++ tw, p ≠ [] := fun p h => ht p (mem p h)
  have cl : ∀ p ∈ th ++ tw, p.dropLast = [] ∨ p.dropLast ∈ th ++ tw := fun p h => by
    rcases gt.closed p (mem p h) with h | h
    · exact .inl h
    · exact .inr (List.mem_append_left _ h)
  have e := strokes_eq (ls := ls) hrs cl
  have lo := left_over hrs cl gl.closed
  rw [e, lo] at hx
  have hxy : x = y := sorted_one (hx.trans (((end_perm gl.nodup gt.nodup sub).map J).trans hy.symm)) sx sy
  subst hxy
  unfold toldD dueD
  have hl := lost_nil (rs := th ++ tw) (base := inP (th ++ tw) ls) gl fun p h1 h2 => List.mem_filter.mpr ⟨h2, decide_eq_true h1⟩
  rw [e, states_eq, lo, hl]
  rfl
end Mine

namespace Mine
open PySem PySem.W PySem.Calls PySem.Spec PyProof.Rows

theorem take3 : ∀ a ∈ nms, ∀ b ∈ nms, ∀ c ∈ nms, [a, b, c].take 1 ∈ allP ∧ [a, b, c].take 2 ∈ allP ∧ [a, b, c].take 3 ∈ allP := by decide +kernel
theorem pick_mem (k : Int) : pick k ∈ nms := by
  have h0 := Int.fmod_nonneg_of_pos k (b := 3) (by decide)
  have h1 := Int.fmod_lt_of_pos k (b := 3) (by decide)
  unfold pick
  have : (Int.fmod k 3).toNat = 0 ∨ (Int.fmod k 3).toNat = 1 ∨ (Int.fmod k 3).toNat = 2 := by omega
  rcases this with h | h | h <;> rw [h] <;> decide
theorem rowOf_P (n : Int) : (rowOf n).2 ∈ allP := by
  have h0 := Int.fmod_nonneg_of_pos (Int.fdiv n 3) (b := 3) (by decide)
  obtain ⟨t1, t2, t3⟩ := take3 _ (pick_mem (Int.fdiv n 9)) _ (pick_mem (Int.fdiv n 27)) _ (pick_mem (Int.fdiv n 81))
  unfold rowOf
  have e : (Int.fmod (Int.fdiv n 3) 3 + 1).toNat = (Int.fmod (Int.fdiv n 3) 3).toNat + 1 := Int.toNat_add h0 (by decide)
  show [pick (Int.fdiv n 9), pick (Int.fdiv n 27), pick (Int.fdiv n 81)].take (Int.fmod (Int.fdiv n 3) 3 + 1).toNat ∈ allP
  rw [e]
  rcases three h0 (Int.fmod_lt_of_pos (Int.fdiv n 3) (b := 3) (by decide)) with h | h | h <;> rw [h]
  · exact t1
  · exact t2
  · exact t3
theorem rows0_P : ∀ r ∈ rows0, r.2 ∈ allP := by decide +kernel
theorem allP_ne : ∀ p ∈ allP, p ≠ [] := by decide +kernel
theorem ok7 : ∀ p ∈ allP, kqdOk 7 (dJ p) = true ∧ kqdOk 6 (dJ p) = true := by decide +kernel
theorem lostP_mem : ∀ {r ps : List (List Str)} {p : List Str}, p ∈ lostP r ps → p ∈ ps
  | _, [], _, h => nomatch h
  | r, q :: ps, p, h => by
    rw [lostP_cons] at h
    rcases List.mem_append.mp h with h | h
    · by_cases e : q.dropLast ∉ r ++ [[]]
      · rw [if_pos e] at h
        rw [List.mem_singleton.mp h]; exact .head _
      · rw [if_neg e] at h; exact nomatch h
    · exact .tail _ (lostP_mem h)
theorem okJs7 {ps : List (List Str)} (h : ∀ p ∈ ps, p ∈ allP) : kqdOk 8 (dJs ps) = true ∧ kqdOk 7 (dJs ps) = true := by
  constructor
  · show (ps.map dJ).all (kqdOk 7) = true
    rw [List.all_eq_true]
    intro d hd
    obtain ⟨p, hp, rfl⟩ := List.mem_map.mp hd
    exact (ok7 p (h p hp)).1
  · show (ps.map dJ).all (kqdOk 6) = true
    rw [List.all_eq_true]
    intro d hd
    obtain ⟨p, hp, rfl⟩ := List.mem_map.mp hd
    exact (ok7 p (h p hp)).2

section
variable {w : World} {B : Heap} {mg mb : Str → Option Value} {A : Around} {E : Value → Shared → Prop} {s s₀ : Shared} {fr : List Env} {d u : Nat} {fz₀ : List (Addr × Obj)}

set_option maxHeartbeats 4000000 in
theorem law_ok {l : Addr} {ob : Obj} {vs : List Value} {ns : List Int} {n : Nat} {Q : Value → Shared → Prop} (am : Amb (hd.heap_39 w.params) B mg mb) (R : Room A fr (d + 6) (u + 106)) (X : Act B s.heap fr) (Z : ∀ p ∈ fz₀, s.heap.get? p.1 = some p.2 ∧ p.1 ∉ frs fr)
    (hl : (l, ob) ∈ fz₀) (hc : ob.cls = .type "list") (hdt : ob.data = .seq vs.toArray n) (hi : IntsAre vs ns) (h63 : ns.length ≤ 63)
    (k : Ret fr s Q fun v _ => v = .bool true) : wpAny (model PySem.Challenge.rw_il0010_01.row.prog w) A (call (.ref 193) [.ref l]) Q E s := by
  have hvl : vs.length = ns.length := hi.length
  refine enter (d := d + 5) (u := u + 103) (binds := [(Str.ofString "script", .ref l)]) am rfl rfl R X (BindsTo.of_eq rfl) (fun L s₁ C X' R' => ?_) k
  obtain ⟨ns', hi', hn'⟩ : ∃ ns', IntsAre (kms_pick vs none (some 4)) ns' ∧ ns'.length ≤ 4 := by
    unfold kms_pick
    refine ⟨_, (hi.drop _).take _, ?_⟩
    rw [List.length_take]
    simp only [kms_lo, kms_hi]
    have : min (4 : Int).toNat vs.length ≤ 4 := Nat.min_le_left ..
    split <;> omega
  refine hideEnd fun EE hEE => wpAny_execs_cons <| hideEnd fun E1 hE => wpAny_Assign_Name <| ev_call <| ev_G am X'.stays rfl <| cw_def am rfl <| sp_cons <| Subscript_ <| ev_L C rfl <| wpAny_Slice <| evalPart_none_step <| evalPart_some_step <| ev_int C fun t s₂ C => evalPart_none_step <|
    sub_slice C ⟨ob, C.cx.all Z _ hl, hc, n, hdt⟩ (by omega) .none (.int _ _) fun sl s₃ C => sp_nil ⟨C.old X, rows_ok am (R'.less (d' := d + 1) (u' := u + 3) (by omega) (by omega)) (C.act X X') (C.cx.fzOff X Z) (.head _) hi' (by omega) fun v s₄ tl sm g ht hv => st_L (C.call X sm g ht) fun s₅ C => ?_⟩
  replace hv := asc hv
  generalize tl ++ _ = F at C hv
  refine hE _ _ <| C.gen1 (x := Str.ofString "drawn") (v := v) (if_pos rfl) fun m em C => ?_
  have hr : ∀ r ∈ rows0 ++ ns'.map rowOf, r.2 ∈ allP := fun r h => by
    rcases List.mem_append.mp h with h | h
    · exact rows0_P r h
    · obtain ⟨n, _, rfl⟩ := List.mem_map.mp h
      exact rowOf_P n
  have hrl : (rows0 ++ ns'.map rowOf).length ≤ 9 := by
    rw [List.length_append, List.length_map]
    have : rows0.length = 5 := rfl
    omega
  have P1 := side_P (o := 1) (rows0 ++ ns'.map rowOf) [] hr (fun _ h => nomatch h)
  have P0 := side_P (o := 0) (rows0 ++ ns'.map rowOf) [] hr (fun _ h => nomatch h)
  have G1 := side_grown 1 (rows0 ++ ns'.map rowOf) .nil
  have G0 := side_grown 0 (rows0 ++ ns'.map rowOf) .nil
  change (∀ q ∈ side (rows0 ++ ns'.map rowOf) 1, q ∈ allP) ∧ (side (rows0 ++ ns'.map rowOf) 1).length ≤ _ at P1
  change (∀ q ∈ side (rows0 ++ ns'.map rowOf) 0, q ∈ allP) ∧ (side (rows0 ++ ns'.map rowOf) 0).length ≤ _ at P0
  change Grown (side (rows0 ++ ns'.map rowOf) 1) at G1
  change Grown (side (rows0 ++ ns'.map rowOf) 0) at G0
  refine wpAny_execs_cons <| hideEnd fun E1 hE => wpAny_Assign_Name <| ev_call <| ev_G am (C.old X) rfl <| cw_def am rfl <| sp_cons <| ev_L C em <| sp_cons <| ev_int C fun t₁ s₆ C => sp_nil ⟨C.old X,
    side_ok am (R'.less (d' := d + 1) (u' := u + 67) (by omega) (by omega)) (C.act X X') (C.cx.fzOff X Z) hv hr (by omega) fun v1 s₇ tl1 sm g ht h1 => st_L (C.call X sm g ht) fun s₈ C => ?_⟩
  refine hE _ _ <| C.gen2 (x := Str.ofString "drawn") (y := Str.ofString "here") (v := v) (u := v1) (skip em) (if_pos rfl) fun m em em1 C => ?_
  replace h1 := asc h1
  replace hv := DatIn.inn (a := tl1) hv
  generalize tl1 ++ F = F at C hv h1
  refine wpAny_execs_cons <| hideEnd fun E1 hE => wpAny_Assign_Name <| ev_call <| ev_G am (C.old X) rfl <| cw_def am rfl <| sp_cons <| ev_L C em <| sp_cons <| ev_int C fun t₂ s₉ C => sp_nil ⟨C.old X,
    side_ok am (R'.less (d' := d + 1) (u' := u + 67) (by omega) (by omega)) (C.act X X') (C.cx.fzOff X Z) hv hr (by omega) fun v2 s₁₀ tl2 sm g ht h2 => st_L (C.call X sm g ht) fun s₁₁ C => ?_⟩
  refine hE _ _ <| C.gen2 (x := Str.ofString "here") (y := Str.ofString "there") (v := v1) (u := v2) (skip em1) (if_pos rfl) fun m em1 em2 C => ?_
  replace h2 := asc h2
  replace h1 := DatIn.inn (a := tl2) h1
  clear hv
  generalize tl2 ++ F = F at C h1 h2
  generalize side (rows0 ++ ns'.map rowOf) 1 = ls at h1 P1 G1
  generalize side (rows0 ++ ns'.map rowOf) 0 = th at h2 P0 G0
  have lsl : ls.length ≤ 27 := by have := P1.2; simp only [List.length_nil] at this; omega
  have thl : th.length ≤ 27 := by have := P0.2; simp only [List.length_nil] at this; omega
  obtain ⟨lt, vt, nt, hvt, hlt, dvt⟩ := DatIn.list_inv h2
  rw [hvt] at em2
  refine wpAny_execs_cons <| hideEnd fun E1 hE => wpAny_Assign_Name <| ev_twice C Z em2 hlt dvt (by omega) fun lw vw tw tl9 s₁₇ sub twl vwe C dtw => st_L C fun s₁₈ C => ?_
  have hlw : (lw, W.listOf vw.toArray 0) ∈ ((lw, W.listOf vw.toArray 0) :: (tl9 ++ F)) ++ fz₀ := .head _
  replace h1 := DatIn.cs (x := (lw, W.listOf vw.toArray 0)) (DatIn.inn (a := tl9) h1)
  replace dvt := DatAll.cs (x := (lw, W.listOf vw.toArray 0)) (DatAll.inn (a := tl9) dvt)
  have hlt : (lt, W.listOf vt.toArray nt) ∈ ((lw, W.listOf vw.toArray 0) :: (tl9 ++ F)) ++ fz₀ := .tail _ (mem_in hlt)
  generalize (lw, W.listOf vw.toArray 0) :: (tl9 ++ F) = F at C h1 dtw dvt hlw hlt
  have vtl : vt.length = th.length := by rw [dvt.length, List.length_map]
  have vwl : vw.length ≤ 3 := by omega
  obtain ⟨lh, vh, nh, hvh, hlh, dvh⟩ := DatIn.list_inv h1
  have vhl : vh.length = ls.length := by rw [dvh.length, List.length_map]
  have rsP : ∀ p ∈ th ++ tw, p ∈ allP := fun p h => by
    rcases List.mem_append.mp h with h | h
    · exact P0.1 p h
    · exact P0.1 p (sub p h)
  have rsl : (th ++ tw).length ≤ 30 := by rw [List.length_append]; omega
  refine hE _ _ <| C.gen3 (x := Str.ofString "here") (y := Str.ofString "there") (z := Str.ofString "twice") (v := v1) (u := .ref lt) (t := .ref lw) (skip em1) (skip em2) (if_pos rfl) fun m em1 em2 em3 C => ?_
  rw [hvh] at em1
  refine wpAny_execs_cons <| wpAny_Return_some <| wpAny_Compare1 <| ev_call <| ev_G am (C.old X) rfl <| cw_def am rfl <| sp_cons <| ev_joins (L := L) (m := m) (fz₀ := fz₀) R'.handled Z <| ev_L C em1 ⟨lh, vh, nh, _, _, ls, rfl, C, hlh, dvh, P1.1, by omega, fun D1 us1 k1 tl3 s₁₉ C du1 => ?_⟩
  have s1 : ∀ q ∈ F ++ fz₀, q ∈ ((D1, W.listOf us1.toArray k1) :: (tl3 ++ F)) ++ fz₀ := fun q h => .tail _ (mem_in h)
  have dT1 : DatIn (((D1, W.listOf us1.toArray k1) :: (tl3 ++ F)) ++ fz₀) (.ref D1) (dJs ls) := .list (.head _) du1
  generalize (D1, W.listOf us1.toArray k1) :: (tl3 ++ F) = F2 at C s1 dT1
  have dcat : DatAll (F ++ fz₀) (vt ++ vw) ((th ++ tw).map dP) := by rw [List.map_append]; exact DatAll.append dvt dtw
  refine sp_cons <| ev_joins (L := L) (m := m) (fz₀ := fz₀) R'.handled Z <| wpAny_BinOp <| ev_L C em2 <| ev_L C em3 <| add_ll C (C.cx.all Z _ (s1 _ hlt)) (C.cx.all Z _ (s1 _ hlw)) (by omega) fun la s₂₀ C => ⟨la, _, 0, _, _, th ++ tw, rfl, C, .head _, dcat.mono fun q h => .tail _ (s1 q h), rsP, by omega, fun D2 us2 k2 tl4 s₂₁ C du2 => ?_⟩
  have s2 : ∀ q ∈ F2 ++ fz₀, q ∈ ((D2, W.listOf us2.toArray k2) :: (tl4 ++ (la, W.listOf (vt ++ vw).toArray 0) :: F2)) ++ fz₀ := fun q h => .tail _ (mem_in (.tail _ h))
  have dT2 : DatIn (((D2, W.listOf us2.toArray k2) :: (tl4 ++ (la, W.listOf (vt ++ vw).toArray 0) :: F2)) ++ fz₀) (.ref D2) (dJs (th ++ tw)) := .list (.head _) du2
  replace dT1 := DatIn.mono s2 dT1
  replace s1 := fun q h => s2 q (s1 q h)
  clear s2
  generalize (D2, W.listOf us2.toArray k2) :: (tl4 ++ (la, W.listOf (vt ++ vw).toArray 0) :: F2) = F2 at C s1 dT1 dT2
  refine sp_nil ⟨C.old X, told_ok am (R'.less (d' := d + 5) (u' := u + 103) (by omega) (by omega)) (C.act X X') (C.cx.fzOff X Z) P1.1 rsP (by omega) dT1 dT2 fun vT s₂₂ tl5 sm g ht hT => ?_⟩
  obtain ⟨srt, hp1, hs1, dT⟩ := hT
  replace dT := asc dT
  have C := C.call X sm g ht
  replace s1 : ∀ q ∈ F ++ fz₀, q ∈ (tl5 ++ F2) ++ fz₀ := fun q h => mem_in (s1 q h)
  clear dT1 dT2
  generalize tl5 ++ F2 = F2 at C s1 dT
  refine ev_call <| ev_G am (C.old X) rfl <| cw_def am rfl <| sp_cons <| ev_L C em1 <| sp_cons <| wpAny_BinOp <| ev_L C em2 <| ev_L C em3 <| add_ll C (C.cx.all Z _ (s1 _ hlt)) (C.cx.all Z _ (s1 _ hlw)) (by omega) fun lb s₂₃ C => sp_cons <| ev_L C em3 <| sp_nil ⟨C.old X,
    due_ok am (R'.less (d' := d + 1) (u' := u + 103) (by omega) (by omega)) (C.act X X') (C.cx.fzOff X Z) P1.1 rsP (fun p h => P0.1 p (sub p h)) (by omega) (by omega) (.list (.tail _ (s1 _ hlh)) (dvh.mono fun q h => .tail _ (s1 q h))) (.list (.head _) (dcat.mono fun q h => .tail _ (s1 q h))) (.list (.tail _ (s1 _ hlw)) (dtw.mono fun q h => .tail _ (s1 q h)))
      fun vD s₂₄ tl6 sm g ht hD => ?_⟩
  obtain ⟨srt', hp2, hs2, dD⟩ := hD
  have C := C.call X sm g ht
  replace dD := asc dD
  have law := told_due G1 G0 (fun p h => allP_ne p (P0.1 p h)) sub hp1 hs1 hp2 hs2
  rw [← law] at dD
  have okD : ∀ d ∈ [dJs (strokesP (outP (th ++ tw) ls)), .list ((statesP (strokesP (outP (th ++ tw) ls)) (th ++ tw) (strokesP (outP (th ++ tw) ls)).length).map dJs), dJs (lostP (cutN (strokesP (outP (th ++ tw) ls)) (th ++ tw)) (outP ls (th ++ tw))), dSs srt], kqdOk 8 d = true := by
    have sP : ∀ p ∈ strokesP (outP (th ++ tw) ls), p ∈ allP := fun p h => rsP p (outP_sub (List.mem_filter.mp h).1)
    intro d hd
    simp only [List.mem_cons, List.not_mem_nil, or_false] at hd
    rcases hd with rfl | rfl | rfl | rfl
    · exact (okJs7 sP).1
    · show ((statesP _ _ _).map dJs).all (kqdOk 7) = true
      rw [List.all_eq_true]
      intro d hd
      obtain ⟨st, hst, rfl⟩ := List.mem_map.mp hd
      obtain ⟨k, _, rfl⟩ := List.mem_map.mp hst
      exact (okJs7 fun p h => rsP p (cutN_sub _ h)).2
    · refine (okJs7 fun p h => ?_).1
      exact P1.1 p (outP_sub (lostP_mem h))
    · show (srt.map Dat.str).all (kqdOk 7) = true
      rw [List.all_eq_true]
      intro d hd
      obtain ⟨x, hx, rfl⟩ := List.mem_map.mp hd
      obtain ⟨p, hp, rfl⟩ := List.mem_map.mp (hp1.subset hx)
      refine (ok7 p ?_).1
      rcases List.mem_append.mp hp with h | h
      · exact rsP p (cutN_sub _ h)
      · exact P1.1 p (outP_sub h)
  refine eq_dat (C.led Z) (dT.mono fun q h => mem_in (.tail _ h)) dD okD okD (Nat.lt_of_le_of_lt (Nat.add_le_add_left (by omega) _) R'.units) fun c hc => ?_
  exact hEE _ _ ⟨_, _, _, C, by rw [hc.mpr rfl]⟩
end
end Mine

namespace Mine
open PySem PySem.W PyProof.Rows
theorem law_post (as bs : List WData) : PySem.Challenge.rw_il0010_01.row.claim.post as (.bool true) bs = true := by
  show (WShape.has [] (.bool true) .bool && WTm.holds [] (.eq .res (.lit (.bool true))) { args := as, res := some (.bool true), after := bs }) = true
  kernel_rfl

set_option maxRecDepth 100000 in
set_option maxHeartbeats 4000000 in
theorem all_ok : PySem.Challenge.rw_il0010_01.Holds := by
  refine Mine.hd ?_
  intro w s₀ s₁ mg mb G Y fa o pm cd doc dV kV ho hd hcd hD hmg hg args vals as hpre hlay hrd hwl hlo
  have KX := kIn_of Y
  refine Ground.open G ?_
  intro T B D TE TW
  have am : Mine.Amb (Mine.hd.heap_39 w.params) s₁.heap mg mb := ⟨KX, T.g, T.b, T.nolimit, T.builtins⟩
  have hfa : mg (Str.ofString "law") = some (.ref 193) := mg_of am.K am.g (by rfl)
  obtain rfl : fa = 193 := by
    have := hmg.symm.trans hfa
    injection this with h; injection h
  clear hd hcd hD hmg ho D TE TW B
  wrow_args hpre hlay hrd hwl hlo
  rename_i ns hs hlay0 hL1 hr1 hl2 as1 as2 l vs as3 hL ra w1 r0 hI hr hc1 hc2
  obtain ⟨ob, hob, hcls, n, hdt⟩ := hL
  refine Mine.law_ok (n := n) (fz₀ := [(l, ob)]) (d := 0) (u := 0) am ⟨rfl, rfl, by decide, by decide⟩ ?_ ?_ (.head _) hcls hdt hI (by omega) ?_
  · exact ⟨fun _ _ e => e, trivial⟩
  · intro p hp
    rw [List.mem_singleton.mp hp]
    exact ⟨hob, fun h => nomatch h⟩
  · intro v s' tl sm g ht hv
    subst hv
    refine GoodW.toG ⟨.inl ⟨.bool true, .bool true, [], rfl, fun _ => rfl, .bool true, law_post _ _, fun _ => ⟨List.nodup_nil, fun _ h => nomatch h⟩⟩, fun b o e => g.1 b o (fun h => nomatch h) e, sm.os, sm.gens.trans hg⟩
end Mine

theorem PySem.Challenge.cw_il0010_01_holds : PySem.Challenge.rw_il0010_01.Holds := by
  exact Mine.all_ok
