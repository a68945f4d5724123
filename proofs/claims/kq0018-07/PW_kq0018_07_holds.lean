import PyProof.Rows.All
import Wide.All
import OpenK.AllK
import Wide.FinOn
import PySem.Challenge.RW_kq0018_07
set_option Elab.async false
set_option linter.all false
set_option genSizeOf false
set_option genInjectivity false

noncomputable section
open PySem PySem.W PySem.Calls PyProof.Rows
namespace Mine

noncomputable abbrev frs (l : List Env) : List Addr := l.filterMap (·.frame)

noncomputable def Evo (fr V : List Addr) (h h' : Heap) : Prop :=
  ∀ b o, h.get? b = some o → b ∉ V → ∃ sl, h'.get? b = some { o with slots := sl } ∧ (b ∉ fr → sl = o.slots)

theorem Evo.refl (fr V : List Addr) (h : Heap) : Evo fr V h h := fun _ o e _ => ⟨o.slots, e, fun _ => rfl⟩
theorem Evo.keep {fr V : List Addr} {h h' : Heap} (e : Evo fr V h h') {b : Addr} {o : Obj} (hb : h.get? b = some o) (hV : b ∉ V) (hf : b ∉ fr) : h'.get? b = some o := by
  obtain ⟨sl, x, y⟩ := e b o hb hV
  rw [x, y hf]
theorem Evo.comp {fr fr' V V' : List Addr} {h h₁ h₂ : Heap} (x : Evo fr V h h₁) (y : Evo fr' V' h₁ h₂) (hV : ∀ b ∈ V', h.get? b = none ∨ b ∈ V) (hf : ∀ b ∈ fr', h.get? b = none ∨ b ∈ fr) : Evo fr V h h₂ := by
  intro b o hb hv
  have no : ¬ h.get? b = none := fun z => by rw [hb] at z; cases z
  obtain ⟨sl, a, c⟩ := x b o hb hv
  obtain ⟨sl', a', c'⟩ := y b _ a (fun q => (hV b q).elim no hv)
  refine ⟨sl', a', fun hn => ?_⟩
  rw [c' (fun q => (hf b q).elim no hn), c hn]
theorem Evo.fresh {fr V : List Addr} {h h' : Heap} (x : Evo fr V h h') {a : Addr} (ha : h'.get? a = none) : a ∈ V ∨ h.get? a = none := by
  by_cases hv : a ∈ V
  · exact .inl hv
  · cases q : h.get? a with
    | none => exact .inr rfl
    | some o => obtain ⟨sl, e, _⟩ := x a o q hv; rw [ha] at e; cases e
theorem get_size (h : Heap) : h.get? h.objs.size = none := by
  cases q : h.get? h.objs.size with
  | none => rfl
  | some o => exact absurd (Heap.lt_size q) (Nat.lt_irrefl _)
theorem Evo.push (fr V : List Addr) (h : Heap) (o : Obj) : Evo fr V h (h.push o) :=
  fun _ o' e _ => ⟨o'.slots, Heap.get?_push_of_some o e, fun _ => rfl⟩
theorem Evo.sameBut {a : Addr} {h h' : Heap} (fr : List Addr) (x : Heap.SameBut a h h') : Evo fr [a] h h' :=
  fun b o e n => ⟨o.slots, (x.2 b (fun q => n (by rw [q]; exact List.mem_singleton.mpr rfl))).trans e, fun _ => rfl⟩
theorem Evo.keeps {h h' : Heap} (fr : List Addr) (k : ∀ b o, h.get? b = some o → h'.get? b = some o) : Evo fr [] h h' :=
  fun b o e _ => ⟨o.slots, k b o e, fun _ => rfl⟩
theorem Evo.mono {fr V V' : List Addr} {h h' : Heap} (x : Evo fr V h h') (hV : ∀ b ∈ V, b ∈ V') : Evo fr V' h h' :=
  fun b o e n => x b o e fun q => n (hV b q)

theorem ns_slots {h h' : Heap} {a : Addr} {m : Str → Option Value} (hn : h.Ns a m) (k : ∀ o, h.get? a = some o → ∃ sl, h'.get? a = some { o with slots := sl }) : h'.Ns a m := by
  obtain ⟨o, es, ep, ho, hd, r⟩ := hn
  obtain ⟨sl, e⟩ := k o ho
  exact ⟨_, es, ep, e, hd, r⟩

theorem ff_evo {hb : Heap} {fr V : List Addr} {h h' : Heap} (x : Evo fr V h h') : ∀ {l : List Env}, h.FunFrames hb l → (∀ a ∈ frs l, a ∉ V) → h'.FunFrames hb l
  | [], _, _ => trivial
  | env :: l, ⟨hk, ⟨L, o, hf, hn, ho, hd⟩, hr⟩, off => by
    have off' : ∀ a ∈ frs l, a ∉ V := fun a ha => off a (by
      obtain ⟨e, he, hfe⟩ := List.mem_filterMap.mp ha
      exact List.mem_filterMap.mpr ⟨e, .tail _ he, hfe⟩)
    obtain ⟨sl, e, _⟩ := x L o ho (off L (List.mem_filterMap.mpr ⟨env, .head _, hf⟩))
    exact ⟨hk, ⟨L, _, hf, hn, e, hd⟩, ff_evo x hr off'⟩

/-- variables of a namespace -/
noncomputable abbrev Vars := List (Str × Value)
noncomputable def vmap (m : Vars) : Str → Option Value := fun x => m.lookup x
inductive Put (x : Str) (v : Value) : Vars → Vars → Prop
  | nil : Put x v [] [(x, v)]
  | here {w r} : Put x v ((x, w) :: r) ((x, v) :: r)
  | there {y w r r'} : (x == y) = false → (y == x) = false → Put x v r r' → Put x v ((y, w) :: r) ((y, w) :: r')
/-- what is known of a frame's variables -/
noncomputable def NsW (h : Heap) (L : Addr) (m : Vars) : Prop := ∃ f, h.Ns L f ∧ ∀ x v, vmap m x = some v → f x = some v
theorem NsW.push {h : Heap} {L : Addr} {m : Vars} (n : NsW h L m) (o : Obj) : NsW (h.push o) L m := let ⟨f, a, b⟩ := n; ⟨f, a.push o, b⟩
theorem NsW.lt {h : Heap} {L : Addr} {m : Vars} (n : NsW h L m) : L < h.objs.size := let ⟨_, a, _⟩ := n; a.lt
theorem nsw_slots {h h' : Heap} {a : Addr} {m : Vars} (hn : NsW h a m) (k : ∀ o, h.get? a = some o → ∃ sl, h'.get? a = some { o with slots := sl }) : NsW h' a m := let ⟨f, x, y⟩ := hn; ⟨f, ns_slots x k, y⟩
structure RunH (hb : Heap) (l : List Env) (fr V : List Addr) (h₀ : Heap) (L : Addr) (m : Vars) (mu im : List (Addr × Obj)) (h : Heap) : Prop where
  stays : hb.StaysIn h
  ff : h.FunFrames hb l
  ns : NsW h L m
  evo : Evo fr V h₀ h
  hmu : ∀ p ∈ mu, h.get? p.1 = some p.2
  him : ∀ p ∈ im, h.get? p.1 = some p.2
  nodup : (mu.map (·.1)).Nodup
  apart : ∀ p ∈ mu, ∀ q ∈ im, p.1 ≠ q.1
  offm : ∀ p ∈ mu, p.1 ≠ L ∧ p.1 ∉ frs l ∧ hb.get? p.1 = none ∧ (p.1 ∈ V ∨ h₀.get? p.1 = none)
  offi : ∀ p ∈ im, p.1 ≠ L ∧ p.1 ∉ frs l
  L0 : hb.get? L = none ∧ (h₀.get? L = none ∨ L ∈ V)
  sub : ∀ a ∈ frs l, h₀.get? a = none ∨ a ∈ fr

section
variable {hb h₀ h h' : Heap} {l : List Env} {fr V : List Addr} {L : Addr} {m m' : Vars} {mu mu' im im' : List (Addr × Obj)}

theorem frs_base (x : h.FunFrames hb l) {a : Addr} (ha : a ∈ frs l) : hb.get? a = none ∧ ∃ o, h.get? a = some o := by
  obtain ⟨a1, o, a2, _⟩ := x.mem ha
  exact ⟨a1, o, a2⟩

/-- a new immutable object -/
theorem RunH.push (R : RunH hb l fr V h₀ L m mu im h) (o : Obj) (hf : o.isFreed = false) : RunH hb l fr V h₀ L m mu ((h.objs.size, o) :: im) (h.push o) := by
  have lt : ∀ p ∈ mu, p.1 < h.objs.size := fun p hp => Heap.lt_size (R.hmu p hp)
  refine ⟨fun b o' e => Heap.get?_push_of_some o (R.stays b o' e), ff_evo (Evo.push [] [] h o) R.ff (fun _ _ q => nomatch q), R.ns.push o, R.evo.comp (Evo.push fr [] h o) (fun _ q => nomatch q) (fun _ q => .inr q),
    fun p hp => Heap.get?_push_of_some o (R.hmu p hp), ?_, R.nodup, ?_, R.offm, ?_, R.L0, R.sub⟩
  · intro p hp
    rcases List.mem_cons.mp hp with rfl | hp
    · exact Heap.get?_push_size _ hf
    · exact Heap.get?_push_of_some o (R.him p hp)
  · intro p hp q hq
    rcases List.mem_cons.mp hq with rfl | hq
    · exact Nat.ne_of_lt (lt p hp)
    · exact R.apart p hp q hq
  · intro p hp
    rcases List.mem_cons.mp hp with rfl | hp
    · exact ⟨Nat.ne_of_gt R.ns.lt, fun q => by obtain ⟨_, o', e⟩ := frs_base R.ff q; exact Nat.lt_irrefl _ (Heap.lt_size e)⟩
    · exact R.offi p hp
/-- a new mutable object -/
theorem RunH.pushM (R : RunH hb l fr V h₀ L m mu im h) (o : Obj) (hf : o.isFreed = false) : RunH hb l fr V h₀ L m ((h.objs.size, o) :: mu) im (h.push o) := by
  have lt : ∀ p ∈ mu, p.1 < h.objs.size := fun p hp => Heap.lt_size (R.hmu p hp)
  refine ⟨fun b o' e => Heap.get?_push_of_some o (R.stays b o' e), ff_evo (Evo.push [] [] h o) R.ff (fun _ _ q => nomatch q), R.ns.push o, R.evo.comp (Evo.push fr [] h o) (fun _ q => nomatch q) (fun _ q => .inr q),
    ?_, fun p hp => Heap.get?_push_of_some o (R.him p hp), ?_, ?_, ?_, R.offi, R.L0, R.sub⟩
  · intro p hp
    rcases List.mem_cons.mp hp with rfl | hp
    · exact Heap.get?_push_size _ hf
    · exact Heap.get?_push_of_some o (R.hmu p hp)
  · refine List.nodup_cons.mpr ⟨fun q => ?_, R.nodup⟩
    obtain ⟨p, hp, e⟩ := List.mem_map.mp q
    exact Nat.lt_irrefl _ (e ▸ lt p hp)
  · intro p hp q hq
    rcases List.mem_cons.mp hp with rfl | hp
    · exact Nat.ne_of_gt (Heap.lt_size (R.him q hq))
    · exact R.apart p hp q hq
  · intro p hp
    rcases List.mem_cons.mp hp with rfl | hp
    · exact ⟨Nat.ne_of_gt R.ns.lt, fun q => by obtain ⟨_, o', e⟩ := frs_base R.ff q; exact Nat.lt_irrefl _ (Heap.lt_size e), R.stays.fresh, R.evo.fresh (get_size h)⟩
    · exact R.offm p hp
/-- a store into the namespace -/
theorem RunH.setNs (R : RunH hb l fr V h₀ L m mu im h) (hn : NsW h' L m') (hs : Heap.SameBut L h h') (hff : L ∈ frs l → ∃ o', h'.get? L = some o' ∧ ∀ vs, o'.data ≠ .fields vs) : RunH hb l fr V h₀ L m' mu im h' := by
  refine ⟨fun b o e => (hs.2 b fun q => by rw [q, R.L0.1] at e; cases e).trans (R.stays b o e), ?_, hn, R.evo.comp (Evo.sameBut fr hs) (fun b q => by rw [List.mem_singleton.mp q]; exact R.L0.2) (fun _ q => .inr q),
    fun p hp => (hs.2 _ (R.offm p hp).1).trans (R.hmu p hp), fun p hp => (hs.2 _ (R.offi p hp).1).trans (R.him p hp), R.nodup, R.apart, R.offm, R.offi, R.L0, R.sub⟩
  have go : ∀ l', (∀ a ∈ frs l', a ∈ frs l) → h.FunFrames hb l' → h'.FunFrames hb l' := by
    intro l'
    induction l' with
    | nil => intro _ _; trivial
    | cons env r ih =>
      rintro sub ⟨hk, ⟨L', o, hf, hn', ho, hd⟩, hr⟩
      refine ⟨hk, ?_, ih (fun a ha => sub a (by obtain ⟨e, he, hfe⟩ := List.mem_filterMap.mp ha; exact List.mem_filterMap.mpr ⟨e, .tail _ he, hfe⟩)) hr⟩
      by_cases q : L' = L
      · subst q
        obtain ⟨o', e, hd'⟩ := hff (sub L' (List.mem_filterMap.mpr ⟨env, .head _, hf⟩))
        exact ⟨L', o', hf, hn', e, hd'⟩
      · exact ⟨L', o, hf, hn', (hs.2 L' q).trans ho, hd⟩
  exact go l (fun _ q => q) R.ff
theorem ns_notFields {a : Addr} {f : Str → Option Value} (hn : h.Ns a f) : ∃ o, h.get? a = some o ∧ ∀ vs, o.data ≠ .fields vs :=
  let ⟨o, _, _, ho, hd, _⟩ := hn; ⟨o, ho, fun vs q => by rw [hd] at q; cases q⟩

inductive UpdL (d : Addr) (o o' : Obj) : List (Addr × Obj) → List (Addr × Obj) → Prop
  | head {r} : UpdL d o o' ((d, o) :: r) ((d, o') :: r)
  | tail {p r r'} : UpdL d o o' r r' → UpdL d o o' (p :: r) (p :: r')
theorem UpdL.mem {d : Addr} {o o' : Obj} (U : UpdL d o o' mu mu') : (d, o) ∈ mu := by
  induction U with
  | head => exact .head _
  | tail _ ih => exact .tail _ ih
theorem UpdL.addr {d : Addr} {o o' : Obj} (U : UpdL d o o' mu mu') : mu'.map (·.1) = mu.map (·.1) := by
  induction U with
  | head => rfl
  | tail _ ih => simp [ih]
theorem UpdL.back {d : Addr} {o o' : Obj} (U : UpdL d o o' mu mu') : ∀ p ∈ mu', (p ∈ mu ∧ p.1 ≠ d) ∨ p = (d, o') ∨ (p ∈ mu ∧ ¬ (mu.map (·.1)).Nodup) := by
  induction U with
  | @head r =>
    intro p hp
    rcases List.mem_cons.mp hp with rfl | hp
    · exact .inr (.inl rfl)
    · by_cases q : p.1 = d
      · refine .inr (.inr ⟨.tail _ hp, fun nd => ?_⟩)
        simp only [List.map_cons, List.nodup_cons] at nd
        exact nd.1 (List.mem_map.mpr ⟨p, hp, q⟩)
      · exact .inl ⟨.tail _ hp, q⟩
  | @tail x r r' U ih =>
    intro p hp
    rcases List.mem_cons.mp hp with rfl | hp
    · by_cases q : p.1 = d
      · refine .inr (.inr ⟨.head _, fun nd => ?_⟩)
        simp only [List.map_cons, List.nodup_cons] at nd
        exact nd.1 (List.mem_map.mpr ⟨_, U.mem, q.symm⟩)
      · exact .inl ⟨.head _, q⟩
    · rcases ih p hp with ⟨a, b⟩ | a | ⟨a, b⟩
      · exact .inl ⟨.tail _ a, b⟩
      · exact .inr (.inl a)
      · refine .inr (.inr ⟨.tail _ a, fun nd => b ?_⟩)
        simp only [List.map_cons, List.nodup_cons] at nd
        exact nd.2

/-- behind a call that changes the object d alone (and frames up to slots) -/
theorem RunH.call1 {d : Addr} {o o' : Obj} (R : RunH hb l fr V h₀ L m mu im h) (U : UpdL d o o' mu mu') (st : hb.StaysIn h') (ff : h'.FunFrames hb l) (e : Evo (frs l) [d] h h') (hd : h'.get? d = some o') :
    RunH hb l fr V h₀ L m mu' im h' := by
  have D := R.offm _ U.mem
  refine ⟨st, ff, nsw_slots R.ns fun oL hL => let ⟨sl, a, _⟩ := e L oL hL (fun q => D.1 (List.mem_singleton.mp q).symm); ⟨sl, a⟩,
    R.evo.comp e (fun b q => by rw [List.mem_singleton.mp q]; exact D.2.2.2.symm) (fun b q => R.sub b q), fun p hp => ?_, fun p hp => ?_, by rw [U.addr]; exact R.nodup, fun p hp q hq => ?_, fun p hp => ?_, R.offi, R.L0, R.sub⟩
  · rcases U.back p hp with ⟨a, b⟩ | rfl | ⟨_, b⟩
    · exact e.keep (R.hmu p a) (fun q => b (List.mem_singleton.mp q)) (R.offm p a).2.1
    · exact hd
    · exact absurd R.nodup b
  · exact e.keep (R.him p hp) (fun q => R.apart _ U.mem p hp (List.mem_singleton.mp q).symm) (R.offi p hp).2
  · rcases U.back p hp with ⟨a, _⟩ | rfl | ⟨_, b⟩
    · exact R.apart p a q hq
    · exact R.apart _ U.mem q hq
    · exact absurd R.nodup b
  · rcases U.back p hp with ⟨a, _⟩ | rfl | ⟨_, b⟩
    · exact R.offm p a
    · exact D
    · exact absurd R.nodup b
/-- behind a call that changes nothing -/
theorem RunH.call0 (R : RunH hb l fr V h₀ L m mu im h) (st : hb.StaysIn h') (ff : h'.FunFrames hb l) (e : Evo (frs l) [] h h') : RunH hb l fr V h₀ L m mu im h' :=
  ⟨st, ff, nsw_slots R.ns fun oL hL => let ⟨sl, a, _⟩ := e L oL hL (fun q => nomatch q); ⟨sl, a⟩, R.evo.comp e (fun _ q => nomatch q) (fun b q => R.sub b q),
    fun p hp => e.keep (R.hmu p hp) (fun q => nomatch q) (R.offm p hp).2.1, fun p hp => e.keep (R.him p hp) (fun q => nomatch q) (R.offi p hp).2, R.nodup, R.apart, R.offm, R.offi, R.L0, R.sub⟩
/-- an immutable fact more -/
theorem RunH.more (R : RunH hb l fr V h₀ L m mu im h) {a : Addr} {o : Obj} (e : h.get? a = some o) (h1 : ∀ p ∈ mu, p.1 ≠ a) (h2 : a ≠ L) (h3 : a ∉ frs l) : RunH hb l fr V h₀ L m mu ((a, o) :: im) h :=
  ⟨R.stays, R.ff, R.ns, R.evo, R.hmu, fun p hp => by rcases List.mem_cons.mp hp with rfl | hp; exact e; exact R.him p hp, R.nodup,
    fun p hp q hq => by rcases List.mem_cons.mp hq with rfl | hq; exact h1 p hp; exact R.apart p hp q hq, R.offm, fun p hp => by rcases List.mem_cons.mp hp with rfl | hp; exact ⟨h2, h3⟩; exact R.offi p hp, R.L0, R.sub⟩
/-- an old object is an immutable fact -/
theorem RunH.old (R : RunH hb l fr V h₀ L m mu im h) {a : Addr} {o : Obj} (e : hb.get? a = some o) : RunH hb l fr V h₀ L m mu ((a, o) :: im) h :=
  R.more (R.stays a o e) (fun p hp q => by have := (R.offm p hp).2.2.1; rw [q, e] at this; cases this) (fun q => by rw [q, R.L0.1] at e; cases e) (fun q => by rw [(frs_base R.ff q).1] at e; cases e)
theorem RunH.less (R : RunH hb l fr V h₀ L m mu im h) (k : ∀ p ∈ im', p ∈ im) : RunH hb l fr V h₀ L m mu im' h :=
  ⟨R.stays, R.ff, R.ns, R.evo, R.hmu, fun p hp => R.him p (k p hp), R.nodup, fun p hp q hq => R.apart p hp q (k q hq), R.offm, fun p hp => R.offi p (k p hp), R.L0, R.sub⟩
/-- a change of one mutable object -/
theorem RunH.upd {d : Addr} {o o' : Obj} (R : RunH hb l fr V h₀ L m mu im h) (U : UpdL d o o' mu mu') (hs : Heap.SameBut d h h') (hd : h'.get? d = some o') : RunH hb l fr V h₀ L m mu' im h' :=
  R.call1 U (fun b o e => (hs.2 b fun q => by have := (R.offm _ U.mem).2.2.1; rw [← q, e] at this; cases this).trans (R.stays b o e))
    (ff_evo (Evo.sameBut (frs l) hs) R.ff fun a ha q => (R.offm _ U.mem).2.1 (by rw [← List.mem_singleton.mp q]; exact ha)) (Evo.sameBut _ hs) hd
end
end Mine
end

noncomputable section
open PySem PySem.W PySem.Calls PyProof.Rows
set_option maxRecDepth 100000
namespace Mine

inductive Get (x : Str) : Vars → Value → Prop
  | here {v r} : Get x ((x, v) :: r) v
  | there {y w r v} : (x == y) = false → Get x r v → Get x ((y, w) :: r) v
inductive UpdG (d : Addr) (o : Obj) : List (Addr × Obj) → (Obj → List (Addr × Obj)) → Prop
  | head {r} : UpdG d o ((d, o) :: r) (fun o' => (d, o') :: r)
  | tail {p r g} : UpdG d o r g → UpdG d o (p :: r) (fun o' => p :: g o')
structure Sta (K : Frag) (p : Program) (loose : List Str) (mg mb : Str → Option Value) (hb : Heap) : Prop where
  X : K.In hb
  T : TopRead p loose mg mb hb

structure RunB (hb : Heap) (l : List Env) (fr V : List Addr) (s₀ : Shared) (L : Addr) (m : Vars) (mu im : List (Addr × Obj)) (hp : Heap) (g : Array GenState) (d : Drawn) (os : OsState) : Prop where
  H : RunH hb l fr V s₀.heap L m mu im hp
  oth : g = s₀.gens ∧ d = s₀.drawn ∧ os = s₀.os
noncomputable abbrev Run (hb : Heap) (l : List Env) (fr V : List Addr) (s₀ : Shared) (L : Addr) (m : Vars) (mu im : List (Addr × Obj)) (s : Shared) : Prop := RunB hb l fr V s₀ L m mu im s.heap s.gens s.drawn s.os

/-- the way on -/
structure Main (p : Prop) : Prop where
  out : p
section
variable {prog : Program} {w : World} {A : Around} {E : Value → Shared → Prop} {s s₀ s' : Shared} {K : Frag} {p : Program} {loose : List Str} {mg mb : Str → Option Value} {env : Env}
variable {hb h' : Heap} {l : List Env} {fr V : List Addr} {L : Addr} {m m' : Vars} {mu mu' im im' : List (Addr × Obj)} {x name : Str} {v : Value} {pos : Pos} {tk : Nat}

theorem Run.of {h' : Heap} {tk : Nat} (R : Run hb l fr V s₀ L m mu im s) (H : RunH hb l fr V s₀.heap L m' mu' im' h') : Run hb l fr V s₀ L m' mu' im' { s with heap := h', toks := tk } := ⟨H, R.oth⟩
theorem Run.tok (R : Run hb l fr V s₀ L m mu im s) (tk : Nat) : Run hb l fr V s₀ L m mu im { s with toks := tk } := ⟨R.H, R.oth⟩
theorem Run.kin (R : Run hb l fr V s₀ L m mu im s) (S : Sta K p loose mg mb hb) : K.In s.heap := S.X.keeps R.H.stays
theorem Run.less (R : Run hb l fr V s₀ L m mu im s) (k : ∀ p ∈ im', p ∈ im) : Run hb l fr V s₀ L m mu im' s := ⟨R.H.less k, R.oth⟩
theorem name_g {Q : Value → Shared → Prop} (R : Run hb l fr V s₀ L m mu im s) (S : Sta K p loose mg mb hb) (e : nsIn K mainGlobals x = some (some v)) (h : Q v s) (hg : env.globals = mainGlobals)
    (hk : env.scope.kind = .function) (hx : env.kindOf x = some .globalImplicit) (hd : (x == ("__debug__" : Str)) = false) : wpAny (model prog w) A (eval (.Name x pos) env) Q E s :=
  Name_function_global hk hx (loadGlobal_global (hg ▸ S.T.g.keeps R.H.stays) (mg_of S.X S.T.g e) h) hd
theorem name_b {Q : Value → Shared → Prop} (R : Run hb l fr V s₀ L m mu im s) (S : Sta K p loose mg mb hb) (e : nsIn K mainGlobals x = some none) (hv : bootBuiltins x = some v) (hn : x ≠ "__name__") (h : Q v s)
    (hg : env.globals = mainGlobals) (hb' : env.builtins = builtinsNs)
    (hk : env.scope.kind = .function) (hx : env.kindOf x = some .globalImplicit) (hd : (x == ("__debug__" : Str)) = false) : wpAny (model prog w) A (eval (.Name x pos) env) Q E s :=
  Name_function_global hk hx (loadGlobal_builtin (hg ▸ S.T.g.keeps R.H.stays) (mg_none_of S.X S.T.g e) (hb' ▸ S.T.b.keeps R.H.stays) ((S.T.builtins x hn).trans hv) h) hd
theorem instAt (R : Run hb l fr V s₀ L m mu im s) {x d C : Addr} {od : Obj} {sl : Array (Option Value)} (h1 : (x, (⟨.ref C, some d, .plain, sl⟩ : Obj)) ∈ im) (h2 : (d, od) ∈ mu) : InstAt s.heap x ⟨.ref C, some d, .plain, sl⟩ C (some od) :=
  ⟨R.H.him _ h1, rfl, rfl, R.H.hmu _ h2⟩
theorem get_i {expr : Bool} {Q : Value → Shared → Prop} {attr : Option Value} {x C : Addr} {ox : Obj} {es : List DictEntry} {n : Nat} (R : Run hb l fr V s₀ L m mu im s) (S : Sta K p loose mg mb hb)
    (I : InstAt s.heap x ox C (some (dictOf es n))) (hg : plainGet K C name = true) (hh : hasDictIn K C = true)
    (ha : findIn K (.ref C) name = some attr) (hn : noGet K attr = true) (hl : getL name es = some (some v)) (hv : handedIn v = true) (h : Q v { s with toks := s.toks + 1 }) :
    wpAny (model prog w) A (getAttr (.ref x) name expr) Q E s :=
  get_value (R.kin S) I (plainGet_of hg).1 (findObj_own hh ha hn hl) hv h

theorem meth_i {pl : Sem Bool} {Q : Value × List Value → Shared → Prop} {f x C : Addr} {ox : Obj} {es : List DictEntry} {n : Nat} (R : Run hb l fr V s₀ L m mu im s) (S : Sta K p loose mg mb hb)
    (I : InstAt s.heap x ox C (some (dictOf es n))) (hg : plainGet K C name = true)
    (hf : findIn K (.ref C) name = some (some (.ref f))) (ht : isFn K (.ref f) = true) (hl : getL name es = some none) (h : Q (.ref f, [.ref x]) s) : wpAny (model prog w) A (getMethod (.ref x) name pl) Q E s :=
  method_fn (R.kin S) I (plainGet_of hg).1 (plainGet_of hg).2 hf (beq_iff_eq.mp ht) (by show (lookIn name (dictOf es n)).map _ = _; rw [lookIn_dict, hl]; rfl) h

theorem put_inst {ox od od' : Obj} {C dx x : Addr} {name : Str} {tk : Tok} {v : Value} {es : List DictEntry} {n : Nat} {RR : Result → Shared → Prop} (R : Run hb l fr V s₀ L m mu im s) (S : Sta K p loose mg mb hb)
    (I : InstAt s.heap x ox C (some od)) (hd : ox.dict = some dx) (hp : plainOver K C = true) (ht : takerIn K C name = some none) (hh : (clsIn K C).any (·.hasDict) = true)
    (hl : (lookIn name od).isSome = true) (e : Obj.putName name (PyData.keyHash w.params name) (.str name s.toks) v od = od') (e' : od'.data = .dict es.toArray n) (hz : es.length ≤ 1000) (U : UpdL dx od od' mu mu')
    (h : ∀ s', Run hb l fr V s₀ L m mu' im s' → RR (.ok (.ret .none)) s') :
    codeAny (model prog w) A (.call (.builtin "object.__setattr__") ⟨[.ref x, .str name tk, v], []⟩) RR s := by
  refine osa_open (R.kin S) I hp ht fun b => ?_
  obtain ⟨cd, hc, hd'⟩ := any_some hh
  have D := R.H.hmu _ U.mem
  have fz : od'.isFreed = false := by obtain ⟨_, _, dd, _⟩ := od'; cases e'; rfl
  have D' : (s.heap.update dx (Obj.putName name (PyData.keyHash w.params name) (.str name s.toks) v)).get? dx = some od' := e ▸ Heap.get?_update_self _ D (e ▸ fz)
  have R' := R.H.upd U (Heap.SameBut.update s.heap dx (Obj.putName name (PyData.keyHash w.params name) (.str name s.toks) v)) D'
  have X := R.kin S
  obtain ⟨hx, hcl, hn, -⟩ := I
  obtain ⟨oc, odi, oda, osl⟩ := ox
  dsimp only at hcl hd
  subst hcl hd
  refine wpAny_bind (wpAny_pure (wpAny_bind (wpAny_bind (wpAny_loadPart hx (wpAny_bind ((looks_clsIn X hc).here ?_))))))
  rw [hd']
  refine wpAny_pure (a := some dx) (wpAny_bind (wpAny_pure (wpAny_bind ?_)))
  unfold nsSet
  refine wpAny_bind (wpAny_bind (wpAny_askSetting (wpAny_pure (wpAny_bind (wpAny_mkText (wpAny_bind (wpAny_loadPart D ?_)))))))
  unfold lookIn at hl
  split at hl
  · rename_i es₀ n₀ q
    rw [q]
    dsimp only
    have c : (!es₀.any (·.key.isStr name) && es₀.any (·.refKey)) = false := by
      rw [← Array.any_toList, ← Array.any_toList]
      split at hl
      · rename_i en he
        rw [List.any_eq_true.mpr ⟨en, List.mem_of_find?_eq_some he, List.find?_some he⟩]; rfl
      · split at hl
        · cases hl
        · rename_i z; rw [Bool.not_eq_true] at z; rw [z, Bool.and_false]
    rw [aRefKeyMayBeTheName_at, c]
    refine wpAny_updatePart D ?_
    refine wpAny_bind (wpAny_lookBehind D' (by rw [e']; exact pastItsLine_dict (by rw [List.size_toArray, sizeLine_eq]; omega)) ?_)
    exact wpAny_pure (h _ (R.of R'))
  · cases hl

theorem set_i {Q : Unit → Shared → Prop} {x C dx : Addr} {ox : Obj} {es es' : List DictEntry} {n n' : Nat} (R : Run hb l fr V s₀ L m mu im s) (S : Sta K p loose mg mb hb)
    (I : InstAt s.heap x ox C (some (dictOf es n))) (hd : ox.dict = some dx)
    (hs : findIn K (.ref C) "__setattr__" = some (some (.builtin "object.__setattr__"))) (hp : plainOver K C = true) (ht : takerIn K C name = some none) (hh : hasDictIn K C = true) (hl : (getL name es).isSome = true)
    (e : (putL name (PyData.keyHash w.params name) (.str name (s.toks + 1)) v es, putN name es n) = (es', n')) (U : UpdL dx (dictOf es n) (dictOf es' n') mu mu') (hz : es'.length ≤ 1000)
    (h : ∀ s', Run hb l fr V s₀ L m mu' im s' → Q () s') :
    wpAny (model prog w) A (setAttr (.ref x) name v) Q E s := by
  obtain ⟨e1, e2⟩ := Prod.mk.inj e
  exact set_plain (R.kin S) I hs (put_inst (R.tok _) S I hd hp ht hh hl (by rw [putName_dict, e1, e2]) rfl hz U fun s' R' => h s' R')

end

section
variable {prog : Program} {w : World} {A : Around} {s s₀ : Shared} {K : Frag} {p : Program} {loose : List Str} {mg mb : Str → Option Value} {hb : Heap} {l : List Env}
  {R : Result → Shared → Prop} {name qual : Str} {params : Arguments} {body : List Stmt} {scope : Scope} {cl : List (Str × Addr)} {dV kV doc pm cdv ct oc : Value} {an od : Option Addr} {osl : Array (Option Value)} {f : Addr} {args : Args} {binds m : Vars}
/-- entering a def -/
theorem enter (V : List Addr) (mu im : List (Addr × Obj)) (S : Sta K p loose mg mb hb) (st : hb.StaysIn s.heap) (ff : s.heap.FunFrames hb l)
    (ho : K.lookup f = some ⟨oc, od, .func (fnX name qual params body scope cl dV kV doc pm an cdv ct), osl⟩) (hcd : codeIn K cdv qual = true) (hroom : A.depth < recursionLimit)
    (hbind : BindsTo s (fnX name qual params body scope cl dV kV doc pm an cdv ct) args binds) (hloc : ∀ y ∈ binds, scope.names.lookup y.1 = some .local) (hm : binds.reverse = m)
    (hmu : ∀ q ∈ mu, s.heap.get? q.1 = some q.2) (him : ∀ q ∈ im, s.heap.get? q.1 = some q.2) (nodup : (mu.map (·.1)).Nodup) (apart : ∀ q ∈ mu, ∀ r ∈ im, q.1 ≠ r.1)
    (offm : ∀ q ∈ mu, q.1 ∉ frs l ∧ hb.get? q.1 = none ∧ q.1 ∈ V) (offi : ∀ q ∈ im, q.1 ∉ frs l)
    (h : ∀ L s', let env := envX qual scope L f cdv cl; let B := A.deeper env; Run hb (env :: l) (frs l) V s L m mu im s' →
      wpAny (model prog w) B (execs body env) (fun fl s' => R (.ok (.ret (match fl with | .ret v => v | _ => .none))) s')
        (fun e s' => wpAny (model prog w) B (leaving env e) (fun _ s'' => R (.error e) s'') (fun e' s'' => R (.error e') s'') s') s')
    (hcell : ∀ x ∈ scope.names, x.2 ≠ .cell) (hco : scope.isCoroutine = false) (hgen : scope.isGenerator = false) (hk : scope.kind = .function) :
    codeAny (model prog w) A (.call (.ref f) args) R s := by
  refine codeAny_call_def (fd := fnX name qual params body scope cl dV kV doc pm an cdv ct) (body := body) (binds := binds) hroom (st _ _ (S.X _ _ ho)) rfl (S.T.nolimit.keeps st) (codeRec_of (S.X.keeps st) hcd) rfl hbind hcell hloc (fun h₁ hns hk₁ => ?_) hco hgen hk
  have lt : ∀ {a : Addr} {o : Obj}, s.heap.get? a = some o → a ≠ s.heap.objs.size := fun e => Nat.ne_of_lt (Heap.lt_size e)
  have nb : hb.get? s.heap.objs.size = none := st.fresh
  have nf : s.heap.objs.size ∉ frs l := fun q => by obtain ⟨_, o, e⟩ := frs_base ff q; exact Nat.lt_irrefl _ (Heap.lt_size e)
  have E1 : Evo (frs l) [] s.heap h₁ := Evo.keeps _ hk₁
  subst hm
  obtain ⟨oL, es, ep, hL, hLd, hLr⟩ := id hns
  refine h _ _ ⟨⟨fun b o e => hk₁ _ _ (st b o e), ⟨by show scope.kind ≠ _; rw [hk]; decide, ⟨_, oL, rfl, nb, hL, fun vs q => by rw [hLd] at q; cases q⟩, ff_evo E1 ff (fun _ _ q => nomatch q)⟩, ⟨_, hns, fun _ _ e => e⟩, E1.mono (fun _ q => nomatch q),
    fun q hq => hk₁ _ _ (hmu q hq), fun q hq => hk₁ _ _ (him q hq), nodup, apart, fun q hq => ⟨lt (hmu q hq), ?_, (offm q hq).2.1, .inl (offm q hq).2.2⟩, fun q hq => ⟨lt (him q hq), ?_⟩, ⟨nb, .inl (get_size _)⟩, ?_⟩, rfl, rfl, rfl⟩
  · intro z
    rcases List.mem_cons.mp (show q.1 ∈ s.heap.objs.size :: frs l from z) with e | e
    · exact lt (hmu q hq) e
    · exact (offm q hq).1 e
  · intro z
    rcases List.mem_cons.mp (show q.1 ∈ s.heap.objs.size :: frs l from z) with e | e
    · exact lt (him q hq) e
    · exact offi q hq e
  · intro a ha
    rcases List.mem_cons.mp (show a ∈ s.heap.objs.size :: frs l from ha) with e | e
    · exact .inl (e ▸ get_size _)
    · exact .inr e

variable {fr V : List Addr} {L : Addr} {m₀ : Vars} {mu im : List (Addr × Obj)}
end
section
variable {hb : Heap} {s₀ s s' : Shared} {l : List Env} {fr V : List Addr} {L L' : Addr} {m m' : Vars} {mu mu' muN im im' : List (Addr × Obj)} {env : Env}
end
end Mine
end

noncomputable section
open PySem PySem.W PySem.Calls PyProof.Rows
set_option maxRecDepth 100000
namespace Mine

noncomputable abbrev exO (cls : Value) (dx : Option Addr) (a tb c2 c3 c4 : Value) : Obj := { cls := cls, dict := dx, data := .fields #[a, tb, c2, c3, c4, .none] }
noncomputable abbrev tupO (vs : List Value) : Obj := { cls := .type "tuple", data := .seq vs.toArray }
noncomputable def TbAt (o : Obj) (st : Value) : Prop := ∃ ts, o.data = .fields ts ∧ ts[3]? = some st

section
variable {α : Type} {M : Model} {prog : Program} {w : World} {A : Around} {E : Value → Shared → Prop} {s s₀ : Shared} {env : Env}
variable {hb : Heap} {l : List Env} {fr V : List Addr} {L F e T t : Addr} {m : Vars} {mu im : List (Addr × Obj)} {oT : Obj} {cls a c2 c3 c4 : Value} {dx : Option Addr}

theorem raiseWords_r {cls msg : String} {Q : α → Shared → Prop} (R : Run hb l fr V s₀ L m mu im s) (hp : PlainExc cls) (hh : A.handled = none)
    (k : ∀ e t u s', Run hb l fr V s₀ L m ((e, exO (.type cls) none (.ref t) .none .none .none (.bool false)) :: mu) ((t, tupO [.str msg u]) :: im) s' → E (.ref e) s') :
    wpAny M A (raiseErrorWords cls msg : Sem α) Q E s := by
  unfold raiseErrorWords
  refine wpAny_bind (wpAny_mkText (wpAny_bind ?_))
  unfold newExc newTuple
  refine wpAny_bind (wpAny_newObj_type ?_)
  refine wpAny_bind (m := firstArgMember _ _) (wpAny_of_eq (a := Value.none) (by simp only [firstArgMember, hp.first]; rfl) ?_)
  rw [hp.own]
  refine wpAny_newObj_type ?_
  unfold raiseNew
  refine wpAny_bind (wpAny_handled ?_)
  rw [hh]
  have R1 := R.H.push (tupO [.str msg s.toks]) rfl
  have R2 := R1.pushM (exO (.type cls) none (.ref s.heap.objs.size) .none .none .none (.bool false)) rfl
  first
    | exact wpAny_throw (k _ _ _ _ ⟨R2, R.oth⟩)
    | exact wpAny_bind (wpAny_pure (wpAny_throw (k _ _ _ _ ⟨R2, R.oth⟩)))
theorem raiseMade_r {cls msg : String} {Q : α → Shared → Prop} (R : Run hb l fr V s₀ L m mu im s) (hp : PlainExc cls) (hh : A.handled = none)
    (k : ∀ e t u s', Run hb l fr V s₀ L m ((e, exO (.type cls) none (.ref t) .none .none .none (.bool false)) :: mu) ((t, tupO [.str msg u]) :: im) s' → E (.ref e) s') (hm : (msg : Str).length ≤ sizeLine) :
    wpAny M A (raiseErrorMade cls msg : Sem α) Q E s := by
  unfold raiseErrorMade
  refine wpAny_bind (wpAny_mkStr (wpAny_bind ?_) hm)
  unfold newExc newTuple
  refine wpAny_bind (wpAny_newObj_type ?_)
  refine wpAny_bind (m := firstArgMember _ _) (wpAny_of_eq (a := Value.none) (by simp only [firstArgMember, hp.first]; rfl) ?_)
  rw [hp.own]
  refine wpAny_newObj_type ?_
  unfold raiseNew
  refine wpAny_bind (wpAny_handled ?_)
  rw [hh]
  have R1 := R.H.push (tupO [.str msg s.toks]) rfl
  have R2 := R1.pushM (exO (.type cls) none (.ref s.heap.objs.size) .none .none .none (.bool false)) rfl
  first
    | exact wpAny_throw (k _ _ _ _ ⟨R2, R.oth⟩)
    | exact wpAny_bind (wpAny_pure (wpAny_throw (k _ _ _ _ ⟨R2, R.oth⟩)))

theorem RunH.slots {h₀ h h' : Heap} (R : RunH hb l fr V h₀ L m mu im h) (x : Heap.SlotsOnly (frs l) h h') : RunH hb l fr V h₀ L m mu im h' := by
  have ev : Evo (frs l) [] h h' := fun b o e _ => by
    obtain ⟨sl, hs⟩ := x.2.2 b o e
    refine ⟨sl, hs, fun n => ?_⟩
    have := (x.2.1 b n).trans e
    rw [this] at hs
    exact congrArg Obj.slots (Option.some.inj hs).symm
  refine R.call0 (fun b o e => (x.2.1 b fun q => by rw [(frs_base R.ff q).1] at e; cases e).trans (R.stays b o e)) (ff_evo ev R.ff fun _ _ q => nomatch q) ev

theorem RunH.lessM {h₀ h : Heap} {mu' : List (Addr × Obj)} (R : RunH hb l fr V h₀ L m mu im h) (k : mu'.Sublist mu) : RunH hb l fr V h₀ L m mu' im h :=
  ⟨R.stays, R.ff, R.ns, R.evo, fun p hp => R.hmu p (k.subset hp), R.him, (k.map _).nodup R.nodup, fun p hp => R.apart p (k.subset hp), fun p hp => R.offm p (k.subset hp), R.offi, R.L0, R.sub⟩
theorem Run.lessM {mu' : List (Addr × Obj)} (R : Run hb l fr V s₀ L m mu im s) (k : mu'.Sublist mu) : Run hb l fr V s₀ L m mu' im s := ⟨R.H.lessM k, R.oth⟩
/-- a mutable object becomes immutable -/
theorem RunH.fix {h₀ h : Heap} {d : Addr} {o : Obj} (R : RunH hb l fr V h₀ L m ((d, o) :: mu) im h) : RunH hb l fr V h₀ L m mu ((d, o) :: im) h := by
  have D := R.offm _ (.head _)
  have nd := R.nodup
  simp only [List.map_cons, List.nodup_cons] at nd
  exact (R.lessM (List.sublist_cons_self _ _)).more (R.hmu _ (.head _)) (fun p hp q => nd.1 (List.mem_map.mpr ⟨p, hp, q⟩)) D.1 D.2.1
theorem Run.fix {d : Addr} {o : Obj} (R : Run hb l fr V s₀ L m ((d, o) :: mu) im s) : Run hb l fr V s₀ L m mu ((d, o) :: im) s := ⟨R.H.fix, R.oth⟩

/-- the frame's entry, a first one -/
theorem entry_r {head : Value} {hadNext : Bool} {tb : Value} {Q : Unit → Shared → Prop} (R : Run hb (env :: l) fr V s₀ L m ((e, exO cls dx a tb c2 c3 c4) :: mu) im s) (hA : A.frames = some (env :: l)) (hF : env.frame = some F)
    (k : ∀ T oT s', TbAt oT (rawInt F) → Run hb (env :: l) fr V s₀ L m ((T, oT) :: (e, exO cls dx a (.ref T) c2 c3 c4) :: mu) im s' → Q () s') :
    wpAny M A (do let a ← frameOf env; let pl ← entryPlaceOf F hadNext; let b ← EntryCells.newEntry head a .none (rawInt F) .none pl; setField (.ref e) 1 b) Q E s := by
  refine wpAny_bind (wpAny_frameOf_fun hA R.H.ff hF fun h₁ hs₁ => ?_)
  refine wpAny_bind (wpAny_entryPlaceOf fun pl hpl => ?_)
  unfold EntryCells.newEntry newFields
  refine wpAny_bind (wpAny_newObj_type ?_ (hpl.sizeOk5 _ _ _ _ _))
  have R1 := R.H.slots hs₁
  have R2 := R1.pushM { cls := .type "traceback", dict := none, data := .fields ([head, .ref F, .none, rawInt F, .none] ++ (if pl.isEmpty then List.replicate 6 Value.none else pl)).toArray } rfl
  have he := R2.hmu (e, exO cls dx a tb c2 c3 c4) (.tail _ (.head _))
  refine wpAny_setField he rfl (by simp) ?_
  have hd := Heap.get?_update_self (Obj.mapFields (·.setIfInBounds 1 (Value.ref h₁.objs.size))) he rfl
  have R3 := R2.upd (o' := exO cls dx a (.ref h₁.objs.size) c2 c3 c4) (.tail .head) (Heap.SameBut.update _ e (Obj.mapFields (·.setIfInBounds 1 (Value.ref h₁.objs.size)))) hd
  refine k _ _ _ ?_ ⟨R3, R.oth⟩
  exact ⟨_, rfl, by first | (simp; done) | (rcases hpl with rfl | ⟨_, _, _, _, _, _, _, rfl⟩ <;> simp)⟩

theorem note_new {Q : Unit → Shared → Prop} (R : Run hb (env :: l) fr V s₀ L m ((e, exO cls dx a .none c2 c3 c4) :: mu) im s) (hA : A.frames = some (env :: l)) (hF : env.frame = some F)
    (k : ∀ T oT s', TbAt oT (rawInt F) → Run hb (env :: l) fr V s₀ L m ((T, oT) :: (e, exO cls dx a (.ref T) c2 c3 c4) :: mu) im s' → Q () s') : wpAny M A (noteFrame (.ref e) env) Q E s := by
  unfold noteFrame
  simp only [hF]
  refine wpAny_bind (wpAny_field (R.H.hmu _ (.head _)) rfl (x := .none) rfl ?_)
  rw [if_neg (by decide)]
  exact entry_r R hA hF k
theorem note_again {Q : Unit → Shared → Prop} (R : Run hb l fr V s₀ L m ((T, oT) :: (e, exO cls dx a (.ref T) c2 c3 c4) :: mu) im s) (hT : TbAt oT (rawInt F)) (hF : env.frame = some F) (k : Q () s) : wpAny M A (noteFrame (.ref e) env) Q E s := by
  obtain ⟨ts, hd, h3⟩ := hT
  unfold noteFrame
  simp only [hF]
  refine wpAny_bind (wpAny_field (R.H.hmu _ (.tail _ (.head _))) rfl (x := .ref T) rfl ?_)
  rw [if_pos (show (Value.ref T != Value.none) = true from by simp)]
  refine wpAny_bind (wpAny_field (R.H.hmu _ (.head _)) hd h3 ?_)
  rw [if_pos (show (rawInt F == rawInt F) = true from by simp)]
  exact wpAny_pure k
theorem flight_r {f : Option Addr} {st : Value} {Q : Unit → Shared → Prop} (R : Run hb l fr V s₀ L m ((T, oT) :: (e, exO cls dx a (.ref T) c2 c3 c4) :: mu) im s) (hT : TbAt oT st)
    (k : ∀ oT s', TbAt oT (f.elim .none fun f => rawInt f) → Run hb l fr V s₀ L m ((T, oT) :: (e, exO cls dx a (.ref T) c2 c3 c4) :: mu) im s' → Q () s') : wpAny M A (setFlight (.ref e) f) Q E s := by
  obtain ⟨ts, hd, h3⟩ := hT
  have hsz := (Array.getElem?_eq_some_iff.mp h3).1
  unfold setFlight
  refine wpAny_bind (wpAny_field (R.H.hmu _ (.tail _ (.head _))) rfl (x := .ref T) rfl ?_)
  rw [if_pos (show (Value.ref T != Value.none) = true from by simp)]
  refine wpAny_setField (R.H.hmu _ (.head _)) hd hsz ?_
  have hd' := Obj.data_mapFields hd (·.setIfInBounds 3 (f.elim Value.none fun f => rawInt f))
  have he := Heap.get?_update_self (Obj.mapFields (·.setIfInBounds 3 (f.elim Value.none fun f => rawInt f))) (R.H.hmu _ (.head _)) (Obj.isFreed_of_fields hd')
  exact k (Obj.mapFields (·.setIfInBounds 3 (f.elim Value.none fun f => rawInt f)) oT) _ ⟨_, hd', by simp [hsz]⟩ ⟨R.H.upd .head (Heap.SameBut.update _ T _) he, R.oth⟩

variable {K : Frag} {p : Program} {loose : List Str} {mg mb : Str → Option Value}
/-- what a str holds at an index -/
noncomputable def itemC (x : Str) (i : Int) : Option Nat := (seqIndex? i x.length).bind (x.cps[·]?)
noncomputable def fits63 (i : Int) : Bool := decide (-(2 ^ 63 : Int) ≤ i) && decide (i < 2 ^ 63)

theorem item_in {x : Str} {i : Int} {c : Nat} {u t : Tok} {value slice : Expr} {Q : Value → Shared → Prop} (hf : fits63 i = true) (hc : itemC x i = some c)
    (k : Q (.str ⟨#[c]⟩ s.toks) { s with toks := s.toks + 1 })
    (hs : subscripted slice false (.str x t) (.int i u) = operate [.str x t, .int i u] (getItem (.str x t) (.int i u))) :
    wpAny (model prog w) A (subscriptTail value slice (.str x t) (.int i u)) Q E s := by
  refine tail_any (typeIs_str s x t) PySem.F.slot_str_getitem.lookup (P.getItem_str ?_ hc k) hs
  simp only [fits63, Bool.and_eq_true, decide_eq_true_eq] at hf
  simp only [Bool.or_eq_false_iff, decide_eq_false_iff_not]
  omega
noncomputable def raisesAt (cls : String) (hb : Heap) (l : List Env) (fr V : List Addr) (s₀ : Shared) (L : Addr) (m : Vars) (mu im : List (Addr × Obj)) : PySem.Spec := fun A R s =>
  Run hb l fr V s₀ L m mu im s ∧ A.handled = none ∧ ∀ e t msg u s', Run hb l fr V s₀ L m ((e, exO (.type cls) none (.ref t) .none .none .none (.bool false)) :: mu) ((t, tupO [.str msg u]) :: im) s' → R (.error (.ref e)) s'
theorem meets_out {x : Str} {i : Int} {u t : Tok} (hc : fits63 i = true → itemC x i = none) : Meets (Builtin.«str.__getitem__» ⟨[.str x t, .int i u], []⟩) (raisesAt "IndexError" hb l fr V s₀ L m mu im) := by
  rintro prog w A R s ⟨R0, hh, k⟩
  show wpAny _ _ (if (decide (i < -(2 ^ 63 : Int)) || decide (i ≥ 2 ^ 63)) = true then _ else
          match (seqIndex? i x.length).bind (x.cps[·]?) with
          | some c => retStr ⟨#[c]⟩
          | none => _) _ _ s
  cases hf : fits63 i with
  | true =>
    have h0 : (decide (i < -(2 ^ 63 : Int)) || decide (i ≥ 2 ^ 63)) = false := by
      simp only [fits63, Bool.and_eq_true, decide_eq_true_eq] at hf
      simp only [Bool.or_eq_false_iff, decide_eq_false_iff_not]
      omega
    have hc' := hc hf
    unfold itemC at hc'
    rw [h0, hc']
    first
      | exact wpAny_bind (wpAny_rule (raiseWords_r R0 plainExc_IndexError hh fun e t u s' R' => k e t _ u s' R'))
      | exact wpAny_bind (wpAny_rule (wpAny_bind (raiseWords_r R0 plainExc_IndexError hh fun e t u s' R' => k e t _ u s' R')))
  | false =>
    have h0 : (decide (i < -(2 ^ 63 : Int)) || decide (i ≥ 2 ^ 63)) = true := by
      simp only [fits63, Bool.and_eq_false_iff, decide_eq_false_iff_not] at hf
      simp only [Bool.or_eq_true, decide_eq_true_eq]
      omega
    rw [if_pos h0]
    refine wpAny_bind (wpAny_rule (wpAny_bind (m := PySem.typeNameOf _) (wpAny_of_eq (a := "int") (by kernel_rfl) ?_)))
    first
      | exact wpAny_bind (raiseMade_r R0 plainExc_IndexError hh (fun e t u s' R' => k e t _ u s' R') (by decide +kernel))
      | exact raiseMade_r R0 plainExc_IndexError hh (fun e t u s' R' => k e t _ u s' R') (by decide +kernel)
theorem item_out {x : Str} {i : Int} {u t : Tok} {value slice : Expr} {Q : Value → Shared → Prop} (R : Run hb l fr V s₀ L m mu im s) (hh : A.handled = none) (hc : fits63 i = true → itemC x i = none)
    (k : ∀ e t msg u s', Run hb l fr V s₀ L m ((e, exO (.type "IndexError") none (.ref t) .none .none .none (.bool false)) :: mu) ((t, tupO [.str msg u]) :: im) s' → E (.ref e) s')
    (hs : subscripted slice false (.str x t) (.int i u) = operate [.str x t, .int i u] (getItem (.str x t) (.int i u))) :
    wpAny (model prog w) A (subscriptTail value slice (.str x t) (.int i u)) Q E s :=
  tail_any (typeIs_str s x t) PySem.F.slot_str_getitem.lookup (getItem_meets (typeIs_str s x t) (by decide) PySem.F.slot_str_getitem PySem.F.entry_str_getitem (PySem.F.args_str_getitem_2 _ _) (meets_out hc) ⟨R, hh, k⟩) hs

end
end Mine
end

noncomputable section
open PySem PySem.W PySem.Calls PyProof.Rows PySem.Builtin PySem.Builtin.ObjectAttr
set_option maxRecDepth 100000
namespace Mine

section
variable {hb h₀ h h' : Heap} {l : List Env} {fr V : List Addr} {L a : Addr} {m m' : Vars} {mu mu1 im im1 : List (Addr × Obj)} {o : Obj}
theorem RunH.keeps (R : RunH hb l fr V h₀ L m mu im h) (k : ∀ b o, h.get? b = some o → h'.get? b = some o) : RunH hb l fr V h₀ L m mu im h' :=
  R.call0 (fun b o e => k b o (R.stays b o e)) (ff_evo (Evo.keeps (frs l) k) R.ff fun _ _ q => nomatch q) (Evo.keeps (frs l) k)
theorem RunH.gainM (R : RunH hb l fr V h₀ L m mu im h) (R1 : RunH hb l fr V h₀ L m mu1 im1 h') (hn : h.get? a = none) (e : h'.get? a = some o) (h1 : ∀ p ∈ mu1, p.1 ≠ a) (h2 : ∀ p ∈ im1, p.1 ≠ a) : RunH hb l fr V h₀ L m ((a, o) :: mu1) im1 h' := by
  have nL : a ≠ L := fun q => by obtain ⟨_, ⟨o', _, _, z, _⟩, _⟩ := R.ns; rw [← q, hn] at z; cases z
  have nf : a ∉ frs l := fun q => by obtain ⟨_, o', z⟩ := frs_base R.ff q; rw [hn] at z; cases z
  have nb : hb.get? a = none := by cases q : hb.get? a with | none => rfl | some o' => have := R.stays a o' q; rw [hn] at this; cases this
  refine ⟨R1.stays, R1.ff, R1.ns, R1.evo, ?_, R1.him, ?_, ?_, ?_, R1.offi, R1.L0, R1.sub⟩
  · intro p hp; rcases List.mem_cons.mp hp with rfl | hp; exact e; exact R1.hmu p hp
  · refine List.nodup_cons.mpr ⟨fun q => ?_, R1.nodup⟩
    obtain ⟨p, hp, z⟩ := List.mem_map.mp q
    exact h1 p hp z
  · intro p hp q hq; rcases List.mem_cons.mp hp with rfl | hp; exact fun z => h2 q hq z.symm; exact R1.apart p hp q hq
  · intro p hp; rcases List.mem_cons.mp hp with rfl | hp; exact ⟨nL, nf, nb, R.evo.fresh hn⟩; exact R1.offm p hp
theorem RunH.gainI (R : RunH hb l fr V h₀ L m mu im h) (R1 : RunH hb l fr V h₀ L m mu1 im1 h') (hn : h.get? a = none) (e : h'.get? a = some o) (h1 : ∀ p ∈ mu1, p.1 ≠ a) : RunH hb l fr V h₀ L m mu1 ((a, o) :: im1) h' :=
  R1.more e h1 (fun q => by obtain ⟨_, ⟨o', _, _, z, _⟩, _⟩ := R.ns; rw [← q, hn] at z; cases z) (fun q => by obtain ⟨_, o', z⟩ := frs_base R.ff q; rw [hn] at z; cases z)
/-- known objects are not new ones -/
theorem RunH.neM (R : RunH hb l fr V h₀ L m mu im h) (hn : h.get? a = none) : ∀ p ∈ mu, p.1 ≠ a := fun p hp q => by have := R.hmu p hp; rw [q, hn] at this; cases this
theorem RunH.neI (R : RunH hb l fr V h₀ L m mu im h) (hn : h.get? a = none) : ∀ p ∈ im, p.1 ≠ a := fun p hp q => by have := R.him p hp; rw [q, hn] at this; cases this
theorem RunH.made {e : Addr} {cls : Value} {args : List Value} (R : RunH hb l fr V h₀ L m mu im h) (x : Heap.MadeExcOf h h' e cls args) :
    ∃ t, h.get? t = none ∧ RunH hb l fr V h₀ L m ((e, exO cls none (.ref t) .none .none .none (.bool false)) :: mu) ((t, tupO args) :: im) h' := by
  obtain ⟨t, he, htn, ht⟩ := x.there
  have R0 := R.keeps x.keeps
  have net : e ≠ t := fun q => by rw [q, ht] at he; cases he
  have R1 := R.gainI R0 htn ht (R.neM htn)
  exact ⟨t, htn, R.gainM R1 x.new he (R.neM x.new) fun p hp => by rcases List.mem_cons.mp hp with rfl | hp; exact fun q => net q.symm; exact R.neI x.new p hp⟩
end


noncomputable def excMro (C : Addr) : List Value := [.ref C, .type "Exception", .type "BaseException", .type "object"]
noncomputable def excOver (K : Frag) (C : Addr) : Bool := (clsIn K C).any fun cd => cd.mro == excMro C
section
variable {prog : Program} {w : World} {A : Around} {E : Value → Shared → Prop} {s s₀ : Shared} {K : Frag} {p : Program} {loose : List Str} {mg mb : Str → Option Value} {R : Result → Shared → Prop}
variable {hb : Heap} {l : List Env} {fr V : List Addr} {L : Addr} {m : Vars} {mu mu' im : List (Addr × Obj)} {name : Str} {v : Value} {e x C dx : Addr} {od : Obj} {a tb c2 c3 c4 : Value}

theorem osa_exc {ox : Obj} {od : Option Obj} {tk : Tok} (X : K.In s.heap) (I : InstAt s.heap x ox C od) (hp : excOver K C = true) (ht : takerIn K C name = some none)
    (h : ∀ b, wpAny (model prog w) A.in1 (storeInOwnDict (.ref x) (.ref C) (.str name tk) name v b)
      (fun fin s' => match fin with | .done f => R (.ok f) s' | .again c' => c'.quiet = true ∧ codeAny (model prog w) A c' R s') (fun e s' => R (.error e) s') s) :
    codeAny (model prog w) A (.call (.builtin "object.__setattr__") ⟨[.ref x, .str name tk, v], []⟩) R s := by
  have SF := PySem.F.store_object
  obtain ⟨cd, hc, ho⟩ := any_some hp
  have ho : cd.mro = excMro C := eq_of_beq ho
  have sub : Looks (model prog w) s.heap (isInstance (.ref x) (.type "object")) true := I.type.andThen (looks_mroIn X (by unfold mroIn; rw [hc, Option.bind_some, ho]; simp [excMro]))
  refine codeAny_call_builtin SF.slot.plain SF.entry (@check_slot (model prog w) _ _ s "object.__setattr__" "object" "__setattr__" (.ref x) [.str name tk, v] [] _ SF.kind SF.split sub (SF.args (.ref x) (.str name tk) v) ?_)
  obtain ⟨attr, ha, hr⟩ := Option.bind_eq_some_iff.mp ht
  have hm : Looks (model prog w) s.heap (mroOf (.ref C)) cd.mro := (looks_clsIn X hc).andThen .now
  have L3 : Looks (model prog w) s.heap (storeTaker? attr) none := by
    cases attr with
    | none => exact .now
    | some a =>
      obtain ⟨b, hb, z⟩ := Option.map_eq_some_iff.mp hr
      refine (looks_takesIn X hb).andThen ?_
      cases b
      · exact .now
      · simp at z
  rw [osa_eq, refuse_eq]
  refine wpAny_bind (wpAny_bind (I.type.here (wpAny_bind (hm.here ?_))))
  rw [ho]
  unfold excMro
  rw [refuseLoop_ref, PySem.F.store_Exception.passes]
  refine wpAny_pure (wpAny_bind (I.type.here (wpAny_bind ((looks_findIn X ha).here (wpAny_bind (L3.here ?_))))))
  exact h _

theorem instE0 (R : Run hb l fr V s₀ L m mu im s) (h1 : (x, exO (.ref C) none a tb c2 c3 c4) ∈ mu) : InstAt s.heap x (exO (.ref C) none a tb c2 c3 c4) C none := ⟨R.H.hmu _ h1, rfl, rfl, trivial⟩
theorem instE (R : Run hb l fr V s₀ L m mu im s) (h1 : (x, exO (.ref C) (some dx) a tb c2 c3 c4) ∈ mu) (h2 : (dx, od) ∈ mu) : InstAt s.heap x (exO (.ref C) (some dx) a tb c2 c3 c4) C (some od) := ⟨R.H.hmu _ h1, rfl, rfl, R.H.hmu _ h2⟩

/-- the first attribute of an own exception -/
theorem set_e0 {Q : Unit → Shared → Prop} (R : Run hb l fr V s₀ L m mu im s) (S : Sta K p loose mg mb hb)
    (hs : findIn K (.ref C) "__setattr__" = some (some (.builtin "object.__setattr__"))) (hp : excOver K C = true) (ht : takerIn K C name = some none) (hh : hasDictIn K C = true)
    (U : UpdL e (exO (.ref C) none a tb c2 c3 c4) (exO (.ref C) (some s.heap.objs.size) a tb c2 c3 c4) mu mu')
    (h : ∀ u s', Run hb l fr V s₀ L m ((s.heap.objs.size, dictOf [⟨PyData.keyHash w.params name, .str name u, v⟩] 1) :: mu') im s' → Q () s') :
    wpAny (model prog w) A (setAttr (.ref e) name v) Q E s := by
  have I := instE0 R U.mem
  have X := R.kin S
  refine set_plain X I hs (osa_exc (s := { s with toks := s.toks + 1 }) X I hp ht fun b => ?_)
  obtain ⟨cd, hc, hd'⟩ := any_some hh
  obtain ⟨hx, -, -, -⟩ := I
  refine wpAny_bind (wpAny_pure (wpAny_bind (wpAny_bind (wpAny_loadPart hx (wpAny_bind (looks_clsIn X hc _ _ _ _ (fun _ _ e => e) ?_))))))
  rw [hd']
  have R1 := R.H.pushM { cls := .type "dict", data := .dict #[] } rfl
  have hx1 := R1.hmu _ (.tail _ U.mem)
  have D1 := Heap.get?_update_self (fun o => { o with dict := some s.heap.objs.size }) hx1 rfl
  have R2 := R1.upd (.tail U) (Heap.SameBut.update _ e fun o => { o with dict := some s.heap.objs.size }) D1
  have hd2 := R2.hmu _ (.head _)
  have ep := putName_dict name (PyData.keyHash w.params name) (.str name (s.toks + 1)) v [] 0
  have D2 := Heap.get?_update_self (Obj.putName name (PyData.keyHash w.params name) (.str name (s.toks + 1)) v) hd2 (by rw [show ({ cls := .type "dict", data := .dict #[] } : Obj) = dictOf [] 0 from rfl, ep]; rfl)
  have R3 := R2.upd (.head (o' := dictOf [⟨PyData.keyHash w.params name, .str name (s.toks + 1), v⟩] 1)) (Heap.SameBut.update _ s.heap.objs.size _) (by rw [D2]; exact congrArg some ep)
  dsimp only
  rw [if_neg (show ¬ ((!true) = true) from by decide)]
  refine wpAny_bind (wpAny_alloc' (wpAny_bind (wpAny_update' hx1 (wpAny_pure (wpAny_bind (wpAny_pure (wpAny_bind ?_)))))))
  unfold nsSet
  refine wpAny_bind (wpAny_bind (wpAny_askSetting (wpAny_pure (wpAny_bind (wpAny_mkText (wpAny_bind (wpAny_loadPart hd2 ?_)))))))
  refine wpAny_updatePart hd2 ?_
  refine wpAny_bind (wpAny_lookBehind (R3.hmu _ (.head _)) (pastItsLine_dict (Nat.le_of_ble_eq_true rfl)) ?_)
  exact wpAny_pure (h (s.toks + 1) _ ⟨R3, R.oth⟩)

/-- a later attribute of an own exception -/
theorem set_e {Q : Unit → Shared → Prop} {es es' : List DictEntry} {n n' : Nat} (R : Run hb l fr V s₀ L m mu im s) (S : Sta K p loose mg mb hb)
    (h1 : (e, exO (.ref C) (some dx) a tb c2 c3 c4) ∈ mu) (_hdm : (dx, dictOf es n) ∈ mu)
    (hs : findIn K (.ref C) "__setattr__" = some (some (.builtin "object.__setattr__"))) (hp : excOver K C = true) (ht : takerIn K C name = some none) (hh : hasDictIn K C = true) (hl : (getL name es).isSome = true)
    (eq : (putL name (PyData.keyHash w.params name) (.str name (s.toks + 1)) v es, putN name es n) = (es', n')) (U : UpdL dx (dictOf es n) (dictOf es' n') mu mu') (hz : es'.length ≤ 1000)
    (h : ∀ s', Run hb l fr V s₀ L m mu' im s' → Q () s') :
    wpAny (model prog w) A (setAttr (.ref e) name v) Q E s := by
  obtain ⟨e1, e2⟩ := Prod.mk.inj eq
  have I := instE R h1 U.mem
  have X := R.kin S
  refine set_plain X I hs (osa_exc (s := { s with toks := s.toks + 1 }) X I hp ht fun b => ?_)
  obtain ⟨cd, hc, hd'⟩ := any_some hh
  obtain ⟨hx, -, -, -⟩ := I
  have D := R.H.hmu _ U.mem
  have ep : Obj.putName name (PyData.keyHash w.params name) (.str name (s.toks + 1)) v (dictOf es n) = dictOf es' n' := by rw [putName_dict, e1, e2]
  have D' : (s.heap.update dx (Obj.putName name (PyData.keyHash w.params name) (.str name (s.toks + 1)) v)).get? dx = some (dictOf es' n') := ep ▸ Heap.get?_update_self _ D (by rw [ep]; rfl)
  have R' := R.H.upd U (Heap.SameBut.update s.heap dx (Obj.putName name (PyData.keyHash w.params name) (.str name (s.toks + 1)) v)) D'
  refine wpAny_bind (wpAny_pure (wpAny_bind (wpAny_bind (wpAny_loadPart hx (wpAny_bind (looks_clsIn X hc _ _ _ _ (fun _ _ e => e) ?_))))))
  rw [hd']
  refine wpAny_pure (a := some dx) (wpAny_bind (wpAny_pure (wpAny_bind ?_)))
  unfold nsSet
  refine wpAny_bind (wpAny_bind (wpAny_askSetting (wpAny_pure (wpAny_bind (wpAny_mkText (wpAny_bind (wpAny_loadPart D ?_)))))))
  dsimp only
  have c : (!es.toArray.any (·.key.isStr name) && es.toArray.any (·.refKey)) = false := by
    rw [← Array.any_toList, ← Array.any_toList]
    unfold getL at hl
    split at hl
    · rename_i en he
      rw [List.any_eq_true.mpr ⟨en, List.mem_of_find?_eq_some he, List.find?_some he⟩]; rfl
    · split at hl
      · cases hl
      · rename_i z; rw [Bool.not_eq_true] at z; rw [z, Bool.and_false]
  rw [aRefKeyMayBeTheName_at, c]
  refine wpAny_updatePart D ?_
  refine wpAny_bind (wpAny_lookBehind D' (pastItsLine_dict (by rw [List.size_toArray, sizeLine_eq]; omega)) ?_)
  exact wpAny_pure (h _ (R.of R'))

noncomputable def plainGetE (K : Frag) (C : Addr) : Bool := findIn K (.ref C) "__getattribute__" == some (some (.builtin "BaseException.__getattribute__")) && (findIn K (.ref C) "__getattr__" == some none && excOver K C)
/-- an own attribute of an own exception -/
theorem get_exc {Q : Value → Shared → Prop} {ox : Obj} {od : Option Obj} {expr : Bool} (X : K.In s.heap) (I : InstAt s.heap x ox C od) (hg : plainGetE K C = true)
    (hf : findObj K C od name = some (.value v)) (hv : handedIn v = true) (h : Q v { s with toks := s.toks + 1 }) : wpAny (model prog w) A (getAttr (.ref x) name expr) Q E s := by
  simp only [plainGetE, Bool.and_eq_true, beq_iff_eq] at hg
  obtain ⟨hga, hgn, hp⟩ := hg
  obtain ⟨cd, hc, ho⟩ := any_some hp
  have ho : cd.mro = excMro C := eq_of_beq ho
  obtain ⟨hh, g, d, t, os⟩ := s
  have L0 := I.type (M := model prog w)
  have L1 := looks_findIn (M := model prog w) X hga
  have L2 := looks_findIn (M := model prog w) X hgn
  have L3 := looks_find (M := model prog w) X I hf
  have sub : Looks (model prog w) hh (isInstance (.ref x) (.type "BaseException")) true := L0.andThen (looks_mroIn X (by unfold mroIn; rw [hc, Option.bind_some, ho]; simp [excMro]))
  have slot : Slot "Exception" "__getattribute__" "BaseException.__getattribute__" := PySem.F.attr_Exception.ga
  have f3 := slot.bind (.ref x)
  have hx0 : (expr && onTheHeap (Value.builtin "BaseException.__getattribute__")) = false := by cases expr <;> rfl
  have hx2 : (Value.builtin "BaseException.__getattribute__" == Value.builtin "object.__getattribute__") = false := by decide +kernel
  have hx1 : (onTheHeap (Value.ref C) && Value.builtin "BaseException.__getattribute__" == Value.builtin "object.__getattribute__") = false := by rw [hx2]; rfl
  have hk : builtinKind "BaseException.__getattribute__" = some .slot := by decide +kernel
  have hsplit : splitId "BaseException.__getattribute__" = some ("BaseException", "__getattribute__") := by decide +kernel
  unfold getAttr getAttrBy
  refine wpAny_bind (wpAny_mkText (wpAny_holding (wpAny_bind (L0.at (wpAny_bind (L1.at ?_))))))
  dsimp only
  rw [hx1]
  unfold getAttrByItsOwn hookBefore
  refine wpAny_bind (L2.at ?_)
  refine wpAny_bind ?_
  unfold callGetattribute
  rw [hx0]
  refine wpAny_attempt (wpAny_holding ?_)
  unfold boundAndCalled
  refine wpAny_bind ?_
  rw [f3]
  refine wpAny_pure ?_
  refine wpAny_call ?_
  refine codeAny_call_builtin slot.plain PySem.F.entry_bexc_ga (@check_slot (model prog w) _ _ _ "BaseException.__getattribute__" "BaseException" "__getattribute__" (.ref x) [.str name t] [] _ hk hsplit sub (PySem.F.args_bexc_ga (.ref x) (.str name t)) ?_)
  refine wpAny_bind (wpAny_pure (wpAny_bind (wpAny_pure (wpAny_bind (L0.at (wpAny_bind (L3.at ?_)))))))
  refine wpAny_pure ?_
  dsimp only
  rw [handedOut_of hv]
  exact wpAny_pure h
end
end Mine
end

noncomputable section
open PySem PySem.W PySem.Calls PyProof.Rows
set_option maxRecDepth 100000
namespace Mine

/-- the signs of a number -/
noncomputable def numT (n : Int) : Str := Str.ofString (toString n)
theorem numT_neg {n : Int} (h : n < 0) : numT n = ⟨#[45]⟩ ++ numT ((n.natAbs : Nat) : Int) := by
  cases n with
  | ofNat k => exact absurd h (by simp)
  | negSucc k =>
    have e : toString (Int.negSucc k) = "-" ++ Nat.repr (k + 1) := rfl
    have e2 : toString (((Int.negSucc k).natAbs : Nat) : Int) = Nat.repr (k + 1) := rfl
    unfold numT
    rw [e, e2, Str.ofString_eq_toList, Str.ofString_eq_toList, String.toList_append]
    refine congrArg Str.mk ?_
    apply Array.ext'
    simp
    try decide
theorem numT_len {n : Int} (h : n.natAbs < 10 ^ 10) : (numT n).length ≤ 11 := by
  by_cases hn : 0 ≤ n
  · exact Nat.le_trans (toString_length_le (k := 10) hn (by decide) (by omega)) (by decide)
  · rw [numT_neg (by omega)]
    have := toString_length_le (v := ((n.natAbs : Nat) : Int)) (k := 10) (by omega) (by decide) (by omega)
    rw [show (⟨#[45]⟩ ++ numT ((n.natAbs : Nat) : Int) : Str).length = 1 + (numT ((n.natAbs : Nat) : Int)).length from by
      unfold Str.length; rw [Str.cps_append]; simp]
    unfold numT
    omega
theorem percentInt_num {c : Builtin.Str.Percent} (h1 : c.alt = false) (h2 : c.type = 100 ∨ c.type = 105 ∨ c.type = 117) (h3 : c.prec = none) {n : Int} {d : List Nat}
    (hd : d = (Str.ofString (toString ((n.natAbs : Nat) : Int))).cps.toList) : (⟨(Builtin.Str.percentInt c (decide (n < 0)) d).toArray⟩ : Str) = numT n := by
  by_cases hn : 0 ≤ n
  · rw [KPc.int_text c h1 h2 h3 hn, hd, Int.natAbs_of_nonneg hn]
    exact congrArg Str.mk (Array.toArray_toList ..)
  · have hneg : decide (n < 0) = true := decide_eq_true (by omega)
    rw [numT_neg (by omega)]
    unfold Builtin.Str.percentInt
    subst hd
    refine congrArg Str.mk ?_
    apply Array.ext'
    rcases h2 with h2 | h2 | h2 <;> simp [h1, h2, h3, hneg, numT]

section
open PySem.W.KPc PySem.Builtin.Str
variable {M : Model} {A : Around} {E : Value → Shared → Prop} {s : Shared} {l : List Nat} {p : List Value} {r : List Nat}
  {f : Nat → List Value × Writer × List Nat → Sem (ForInStep (List Value × Writer × List Nat))} {Q : List Value × Writer × List Nat → Shared → Prop}
  {w : Writer} {T x y : PySem.Str} {N K : Nat} {o : Option Value}
theorem num_good {c : Percent} {n : Int} {d : List Nat} (g : Good w T N) (h1 : c.alt = false) (h2 : c.type = 100 ∨ c.type = 105 ∨ c.type = 117) (h3 : c.prec = none) (hm : n.natAbs < 10 ^ 10)
    (hd : d = (PySem.Str.ofString (toString ((n.natAbs : Nat) : Int))).cps.toList) (ho : o = none) : Good (w.add ⟨(percentInt c (decide (n < 0)) d).toArray⟩ o) (T ++ numT n) (N + 11) := by
  rw [percentInt_num h1 h2 h3 hd]
  exact good_mono (good_add g (obj_none ho)) (Nat.add_le_add_left (numT_len hm) _)
theorem str_good (g : Good w T N) (hy : y.length ≤ K) (ho : Obj o y) : Good (w.add ⟨y.cps.toList.toArray⟩ o) (T ++ y) (N + K) := by
  have eb : (⟨y.cps.toList.toArray⟩ : PySem.Str) = y := congrArg PySem.Str.mk (Array.toArray_toList ..)
  rw [eb]
  exact good_mono (good_add g ho) (Nat.add_le_add_left hy _)
end

section
theorem log_of {n : Int} (h : n.natAbs < 10 ^ 10) : n.natAbs.log2 < 1920 := by
  by_cases z : n.natAbs = 0
  · rw [z]; decide +kernel
  · refine (Nat.log2_lt z).mpr (Nat.lt_trans h (by decide +kernel))
local macro_rules | `(tactic| kpt_hd) => `(tactic| exact log_of (by with_reducible assumption))
section
open PySem.Builtin.Str
/-- the loop's step -/
noncomputable def Stp (Y D : List Value × Writer × List Nat → Shared → Prop) (r : ForInStep (List Value × Writer × List Nat)) (s : Shared) : Prop := match r with
  | .done b => D b s
  | .yield b => Y b s
/-- what the loop of a format does with one piece -/
structure PF (M : Model) (A : Around) (E : Value → Shared → Prop) (n : Nat) (f : List Value × Writer × List Nat → Sem (ForInStep (List Value × Writer × List Nat))) : Prop where
  text : ∀ {p w T N r lit rest} {Y D : List Value × Writer × List Nat → Shared → Prop} {s : Shared}, KPc.Good w T N → N ≤ 16777216 → r.isEmpty = false → r.span (fun c => c != 37) = (lit, rest) → lit.isEmpty = false → (lit.length == n) = false →
    (∀ w', KPc.Good w' (T ++ ⟨lit.toArray⟩) (N + lit.length) → Y (p, w', rest) s) → wpAny M A (f (p, w, r)) (Stp Y D) E s
  str : ∀ {p w T N y u rest} {Y D : List Value × Writer × List Nat → Shared → Prop} {s : Shared}, KPc.Good w T N → N ≤ 16777216 → y.length ≤ 1000000 →
    (∀ w', KPc.Good w' (T ++ y) (N + 1000000) → Y (p, w', rest) s) → wpAny M A (f (.str y u :: p, w, 37 :: 115 :: rest)) (Stp Y D) E s
  int : ∀ {p w T N i u rest} {Y D : List Value × Writer × List Nat → Shared → Prop} {s : Shared}, KPc.Good w T N → N ≤ 16777216 → i.natAbs < 10 ^ 10 →
    (∀ w' k, KPc.Good w' (T ++ numT i) (N + 11) → Y (p, w', rest) { s with toks := k }) → wpAny M A (f (.int i u :: p, w, 37 :: 100 :: rest)) (Stp Y D) E s
  stop : ∀ {p w T N} {Y D : List Value × Writer × List Nat → Shared → Prop} {s : Shared}, KPc.Good w T N → N ≤ 16777216 → D (p, w, []) s → wpAny M A (f (p, w, [])) (Stp Y D) E s
theorem stp {M : Model} {A : Around} {E : Value → Shared → Prop} {s : Shared} {l : List Nat} {x : Nat} {c : List Value × Writer × List Nat} {f : List Value × Writer × List Nat → Sem (ForInStep (List Value × Writer × List Nat))} {Q : List Value × Writer × List Nat → Shared → Prop}
    (h : wpAny M A (f c) (Stp (fun c s => wpAny M A (forIn l c fun _ => f) Q E s) Q) E s) : wpAny M A (forIn (x :: l) c fun _ => f) Q E s :=
  KPc.turn (wpAny_mono h (fun r _ h => by cases r <;> exact h) fun _ _ h => h)
theorem fmt_gen {F T : PySem.Str} {t : Tok} {b : Addr} {its : Array Value}
    (h : ∀ {prog w A E Q s f w0}, PF (model prog w) A E F.length f → KPc.Good w0 PySem.Str.empty 0 → (∀ {w1 N k}, KPc.Good w1 T N → N ≤ 16777216 → Q ([], w1, []) { s with toks := k }) → wpAny (model prog w) A (forIn (List.range' 0 F.length 1) (its.toList, w0, F.cps.toList) fun _ => f) Q E s) :
    Meets (Builtin.«str.__mod__» ⟨[.str F t, .ref b], []⟩) (fun _ R s => IsTup s.heap b its ∧ ∀ t' k, R (.ok (.ret (.str T t'))) { s with toks := k }) := by
  apply KPt.meets_tup
  intro _ _ _ _ _ _ kptH hQ
  obtain ⟨kptO, kptG, kptC, kptN, kptD⟩ := kptH
  rw [KPt.entry_is_r]
  unfold Builtin.Str.percentFormat
  refine wpAny_bind (wpAny_isInstance (T := "tuple") ⟨kptO, kptG, kptC⟩ KPt.sub_tt ?_)
  refine wpAny_bind (KPt.asStr_ref kptG kptD ?_)
  refine wpAny_bind (KPt.fills_ref ⟨kptO, kptG, kptC⟩ ?_)
  intro _
  kpc_if
  refine wpAny_bind (wpAny_seqItems kptG kptD ?_)
  refine wpAny_bind (wpAny_pure ?_)
  refine wpAny_bind ?_
  rw [KPc.range_list]
  refine KPc.start ?_
  intro w0 g0
  refine h ⟨?_, ?_, ?_, ?_⟩ g0 ?_
  · intro p w T N r lit rest Y D s g hN h0 h1 h2 h3 q
    refine wpAny_ite (KPc.ite_no (KPc.short_good g hN) ?_)
    refine wpAny_ite (KPc.ite_no (by rw [h0]; decide) ?_)
    rw [h1]
    refine wpAny_ite (KPc.ite_yes (by rw [h2]; rfl) ?_)
    refine wpAny_pure ?_
    exact q _ (KPc.good_add g (KPc.obj_none (by rw [h3]; rfl)))
  · intro p w T N y u rest Y D s g hN hy q
    refine wpAny_ite (KPc.ite_no (KPc.short_good g hN) ?_)
    repeat kpc_if
    refine wpAny_bind ?_
    refine wpAny_holding ?_
    repeat kpc_if
    kpt_conv
    refine wpAny_pure ?_
    refine wpAny_pure ?_
    exact q _ (str_good g hy (by cases rest with | nil => exact KPc.obj_some rfl | cons => exact KPc.obj_none rfl))
  · intro p w T N i u rest Y D s g hN hi q
    refine wpAny_ite (KPc.ite_no (KPc.short_good g hN) ?_)
    repeat kpc_if
    refine wpAny_bind ?_
    refine wpAny_holding ?_
    repeat kpc_if
    kpt_conv
    refine wpAny_pure ?_
    refine wpAny_pure ?_
    exact q _ _ (num_good g rfl (Or.inl rfl) rfl hi rfl (ite_self _))
  · intro p w T N Y D s g hN q
    refine wpAny_ite (KPc.ite_no (KPc.short_good g hN) ?_)
    kpc_if
    exact wpAny_pure q
  · intro w1 N k g hN
    kpc_if
    exact KPc.finish_ok g hN rfl hQ
theorem good_eq {w : Writer} {T T' : PySem.Str} {N : Nat} (g : KPc.Good w T N) (h : T = T') : KPc.Good w T' N := h ▸ g
theorem fmt_at {y : Str} {n : Int} {b : Addr} {ty tn t : Tok} (hy : y.length ≤ 1000000) (hn : n.natAbs < 10 ^ 10) :
    Meets (Builtin.«str.__mod__» ⟨[.str ⟨#[37, 115, 32, 97, 116, 32, 112, 111, 115, 105, 116, 105, 111, 110, 32, 37, 100]⟩ t, .ref b], []⟩) (fun _ R s => IsTup s.heap b [Value.str y ty, .int n tn].toArray ∧ ∀ t' k, R (.ok (.ret (.str (y ++ Str.ofString " at position " ++ numT n) t'))) { s with toks := k }) :=
  fmt_gen fun F g q => stp <| F.str (rest := [32, 97, 116, 32, 112, 111, 115, 105, 116, 105, 111, 110, 32, 37, 100]) g (by decide) hy fun _ g => stp <| F.text (r := [32, 97, 116, 32, 112, 111, 115, 105, 116, 105, 111, 110, 32, 37, 100]) (lit := [32, 97, 116, 32, 112, 111, 115, 105, 116, 105, 111, 110, 32]) (rest := [37, 100]) g (by decide) rfl (by kernel_rfl) rfl rfl fun _ g => stp <| F.int (rest := []) g (by decide) hn fun _ _ g => stp <| F.stop g (by decide) (q (good_eq g (by rw [KPc.empty_app]; rfl)) (by decide))
theorem fmt_lc {y : Str} {n c : Int} {b : Addr} {ty tn tc t : Tok} (hy : y.length ≤ 1000000) (hn : n.natAbs < 10 ^ 10) (hc : c.natAbs < 10 ^ 10) :
    Meets (Builtin.«str.__mod__» ⟨[.str ⟨#[37, 115, 32, 40, 108, 105, 110, 101, 32, 37, 100, 44, 32, 99, 111, 108, 117, 109, 110, 32, 37, 100, 41]⟩ t, .ref b], []⟩) (fun _ R s => IsTup s.heap b [Value.str y ty, .int n tn, .int c tc].toArray ∧ ∀ t' k, R (.ok (.ret (.str (y ++ Str.ofString " (line " ++ numT n ++ Str.ofString ", column " ++ numT c ++ Str.ofString ")") t'))) { s with toks := k }) :=
  fmt_gen fun F g q => stp <| F.str (rest := [32, 40, 108, 105, 110, 101, 32, 37, 100, 44, 32, 99, 111, 108, 117, 109, 110, 32, 37, 100, 41]) g (by decide) hy fun _ g => stp <| F.text (r := [32, 40, 108, 105, 110, 101, 32, 37, 100, 44, 32, 99, 111, 108, 117, 109, 110, 32, 37, 100, 41]) (lit := [32, 40, 108, 105, 110, 101, 32]) (rest := [37, 100, 44, 32, 99, 111, 108, 117, 109, 110, 32, 37, 100, 41]) g (by decide) rfl (by kernel_rfl) rfl rfl fun _ g => stp <| F.int (rest := [44, 32, 99, 111, 108, 117, 109, 110, 32, 37, 100, 41]) g (by decide) hn fun _ _ g => stp <| F.text (r := [44, 32, 99, 111, 108, 117, 109, 110, 32, 37, 100, 41]) (lit := [44, 32, 99, 111, 108, 117, 109, 110, 32]) (rest := [37, 100, 41]) g (by decide) rfl (by kernel_rfl) rfl rfl fun _ g => stp <| F.int (rest := [41]) g (by decide) hc fun _ _ g => stp <| F.text (r := [41]) (lit := [41]) (rest := []) g (by decide) rfl (by kernel_rfl) rfl rfl fun _ g => stp <| F.stop g (by decide) (q (good_eq g (by rw [KPc.empty_app]; rfl)) (by decide))
end
end
end Mine
end

noncomputable section
open PySem PySem.W PySem.Calls PyProof.Rows
set_option maxRecDepth 100000
namespace Mine

/-- a place as slices count it -/
noncomputable def upto (n : Nat) (p : Int) : Nat := min (max 0 (if p < 0 then p + n else p)).toNat n
theorem upto_le (n : Nat) (p : Int) : upto n p ≤ n := Nat.min_le_right _ _
/-- how many signs stand behind the last c -/
noncomputable def tailLen (c : Nat) (l : List Nat) : Nat := (l.reverse.takeWhile (· != c)).length
theorem tailLen_le (c : Nat) (l : List Nat) : tailLen c l ≤ l.length := by
  unfold tailLen
  exact Nat.le_trans (List.Sublist.length_le (List.takeWhile_sublist _)) (by simp)
theorem tailLen_snoc (c : Nat) (l : List Nat) (a : Nat) : tailLen c (l ++ [a]) = if a = c then 0 else tailLen c l + 1 := by
  unfold tailLen
  simp only [List.reverse_append, List.reverse_cons, List.reverse_nil, List.nil_append, List.singleton_append, List.takeWhile_cons]
  by_cases h : a = c <;> simp [h]

section
open Builtin Builtin.Str
theorem subAt1 (x : Str) (c i : Nat) : subAt x ⟨#[c]⟩ i = (x.cps.toList[i]? == some c) := by
  unfold subAt
  show (x.cps.extract i (i + 1) == #[c]) = _
  by_cases h : i < x.cps.size
  · have e : x.cps.extract i (i + 1) = #[x.cps[i]] := by
      apply Array.ext'
      simp only [Array.toList_extract, List.extract_eq_take_drop, Nat.add_sub_cancel_left]
      rw [List.drop_eq_getElem_cons (by simpa using h)]
      simp
    rw [e]
    simp [h]
  · have e : x.cps.extract i (i + 1) = #[] := by
      apply Array.ext'
      simp only [Array.toList_extract, List.extract_eq_take_drop]
      rw [List.drop_eq_nil_of_le (by simpa using h)]
      simp
    rw [e]
    simp [h]
theorem take_snoc {l : List Nat} {k : Nat} (h : k < l.length) : l.take (k + 1) = l.take k ++ [l[k]] := by
  rw [List.take_add_one, List.getElem?_eq_getElem h]; rfl
theorem countP_take (l : List Nat) (c : Nat) : ∀ k, k ≤ l.length → (List.range k).countP (fun i => l[i]? == some c) = (l.take k).count c
  | 0, _ => by simp
  | k + 1, h => by
    rw [List.range_succ, List.countP_append, countP_take l c k (by omega), take_snoc (by omega), List.count_append]
    simp [List.countP_cons, List.count_cons, List.getElem?_eq_getElem (show k < l.length by omega)]
theorem occ_run (x : Str) (c hi limit : Nat) : ∀ (l : List Nat) (st : Array Nat × Nat), (∀ i ∈ l, st.2 ≤ i) → l.Pairwise (· < ·) → st.1.size + l.length ≤ limit →
    (forIn l st (StrLaws.occBody x ⟨#[c]⟩ hi limit)).run.fst.size = st.1.size + l.countP (fun i => decide (i + 1 ≤ hi) && x.cps.toList[i]? == some c)
  | [], st, _, _, _ => rfl
  | a :: l, st, h1, h2, h3 => by
    rw [List.forIn_cons]
    have hp := List.pairwise_cons.mp h2
    simp only [List.length_cons] at h3
    unfold StrLaws.occBody
    by_cases hc : (decide (a + 1 ≤ hi) && x.cps.toList[a]? == some c) = true
    · rw [List.countP_cons_of_pos (p := fun i => decide (i + 1 ≤ hi) && x.cps.toList[i]? == some c) hc]
      simp only [Bool.and_eq_true, decide_eq_true_eq] at hc
      rw [if_pos ⟨⟨⟨by omega, h1 a (.head _)⟩, hc.1⟩, by rw [subAt1]; exact hc.2⟩]
      refine (occ_run x c hi limit l _ (fun i hi' => ?_) hp.2 (by simp only [Array.size_push]; omega)).trans (by simp only [Array.size_push]; omega)
      exact hp.1 i hi'
    · rw [List.countP_cons_of_neg (p := fun i => decide (i + 1 ≤ hi) && x.cps.toList[i]? == some c) hc]
      rw [if_neg (fun z => hc (by simp only [Bool.and_eq_true, decide_eq_true_eq]; exact ⟨z.1.2, by have := z.2; rwa [subAt1] at this⟩))]
      exact occ_run x c hi limit l st (fun i hi' => h1 i (.tail _ hi')) hp.2 (by omega)
theorem occ1 (x : Str) (c hi limit : Nat) (h : hi ≤ x.length) (hl : hi < limit) : (occurrences x ⟨#[c]⟩ 0 hi limit).length = (x.cps.toList.take hi).count c := by
  rw [StrLaws.occ_eq, Array.length_toList, Nat.sub_zero]
  rw [occ_run x c hi limit _ _ (fun i _ => Nat.zero_le i) List.pairwise_lt_range' (by simp; omega)]
  rw [← List.range_eq_range', List.range_succ, List.countP_append]
  have e2 : [hi].countP (fun i => decide (i + 1 ≤ hi) && x.cps.toList[i]? == some c) = 0 := by simp only [List.countP_cons, List.countP_nil]; rw [if_neg (by simp; omega)]
  have e1 : (List.range hi).countP (fun i => decide (i + 1 ≤ hi) && x.cps.toList[i]? == some c) = (List.range hi).countP (fun i => x.cps.toList[i]? == some c) :=
    List.countP_congr fun i hi' => by simp [List.mem_range.mp hi', Nat.succ_le_of_lt]
  rw [e2, e1, countP_take _ _ _ h]
  simp
noncomputable def lastOf (c : Nat) (l : List Nat) : Option Nat := if tailLen c l = l.length then none else some (l.length - 1 - tailLen c l)
theorem lastOf_snoc (c : Nat) (l : List Nat) (a : Nat) : lastOf c (l ++ [a]) = if a = c then some l.length else lastOf c l := by
  unfold lastOf
  rw [tailLen_snoc]
  have := tailLen_le c l
  by_cases h : a = c
  · simp [h]
  · simp only [h, if_false, List.length_append, List.length_cons, List.length_nil]
    by_cases q : tailLen c l = l.length
    · simp [q]
    · rw [if_neg q, if_neg (fun z => q (Nat.succ.inj z))]
      congr 1
      clear this q h
      omega
theorem last_cons (x y : Str) (hi a : Nat) (l : List Nat) (st : Option Nat) : (forIn (a :: l) st (StrLaws.lastBody x y hi)).run = (forIn l (if a + y.length ≤ hi ∧ subAt x y a = true then some a else st) (StrLaws.lastBody x y hi)).run := by
  rw [List.forIn_cons]
  by_cases q : a + y.length ≤ hi ∧ subAt x y a = true
  · rw [show StrLaws.lastBody x y hi a st = pure (ForInStep.yield (some a)) from if_pos q, if_pos q]; rfl
  · rw [show StrLaws.lastBody x y hi a st = pure (ForInStep.yield st) from if_neg q, if_neg q]; rfl
theorem last_app (x y : Str) (hi k : Nat) : ∀ (l : List Nat) (st : Option Nat), (forIn (l ++ [k]) st (StrLaws.lastBody x y hi)).run = if k + y.length ≤ hi ∧ subAt x y k = true then some k else (forIn l st (StrLaws.lastBody x y hi)).run
  | [], st => by rw [List.nil_append, last_cons]; rfl
  | a :: l, st => by rw [List.cons_append, last_cons, last_app x y hi k l, last_cons]
theorem last_run1 (x : Str) (c hi : Nat) : ∀ k, k ≤ x.length → k ≤ hi → (forIn (List.range k) none (StrLaws.lastBody x ⟨#[c]⟩ hi)).run = lastOf c (x.cps.toList.take k)
  | 0, _, _ => by simp [lastOf, tailLen]
  | k + 1, h, h2 => by
    have h' : k < x.cps.toList.length := by simpa [Str.length] using Nat.lt_of_succ_le h
    rw [List.range_succ, last_app, take_snoc h', lastOf_snoc, last_run1 x c hi k (by omega) (by omega)]
    have e : (subAt x ⟨#[c]⟩ k = true) = (x.cps.toList[k] = c) := by rw [subAt1, List.getElem?_eq_getElem h']; simp
    have el : (x.cps.toList.take k).length = k := by rw [List.length_take]; omega
    rw [el]
    by_cases q : x.cps.toList[k] = c
    · rw [if_pos q, if_pos ⟨h2, e.mpr q⟩]
    · rw [if_neg q, if_neg (fun z => q (e.mp z.2))]
theorem last1 (x : Str) (c hi : Nat) (h : hi ≤ x.length) : lastOccurrence x ⟨#[c]⟩ 0 hi = lastOf c (x.cps.toList.take hi) := by
  rw [StrLaws.last_eq, Nat.sub_zero, ← List.range_eq_range', List.range_succ, last_app, last_run1 x c hi hi h (Nat.le_refl _)]
  rw [if_neg (fun z => by have := z.1; exact Nat.not_succ_le_self _ this)]
/-- where the last c stands, -1 if it doesn't -/
noncomputable def lastI (c : Nat) (l : List Nat) : Int := (l.length : Int) - 1 - tailLen c l
theorem lastI_eq (c : Nat) (l : List Nat) : (match lastOf c l with | some i => (i : Int) | none => -1) = lastI c l := by
  unfold lastOf lastI
  have := tailLen_le c l
  by_cases q : tailLen c l = l.length
  · simp [q]; omega
  · rw [if_neg q]
    simp only
    omega

/-- octets as numbers -/
noncomputable abbrev octs (b : Array UInt8) : List Nat := b.toList.map UInt8.toNat
theorem ext1 (b : Array UInt8) (c : UInt8) (i : Nat) : (b.extract i (i + 1) == #[c]) = ((octs b)[i]? == some c.toNat) := by
  by_cases h : i < b.size
  · have e : b.extract i (i + 1) = #[b[i]] := by
      apply Array.ext'
      simp only [Array.toList_extract, List.extract_eq_take_drop, Nat.add_sub_cancel_left]
      rw [List.drop_eq_getElem_cons (by simpa using h)]
      simp
    rw [e, show (octs b)[i]? = some b[i].toNat from by simp [octs, h]]
    by_cases q : b[i] = c
    · rw [q]; simp
    · have : ¬ b[i].toNat = c.toNat := fun z => q (UInt8.toNat_inj.mp z)
      rw [show (some b[i].toNat == some c.toNat) = false from by simpa using this]
      simpa using q
  · have e : b.extract i (i + 1) = #[] := by
      apply Array.ext'
      simp only [Array.toList_extract, List.extract_eq_take_drop]
      rw [List.drop_eq_nil_of_le (by simpa using h)]
      simp
    rw [e]
    simp [octs, h]
theorem bocc_run (b : Array UInt8) (c : UInt8) : ∀ (l : List Nat) (acc : List Nat × Nat), (∀ i ∈ l, acc.2 ≤ i) → l.Pairwise (· < ·) →
    (l.foldl (fun (acc : List Nat × Nat) i => if decide (i ≥ acc.2) && b.extract i (i + (#[c] : Array UInt8).size) == #[c] then (i :: acc.1, i + (#[c] : Array UInt8).size) else acc) acc).1.length = acc.1.length + l.countP (fun i => (octs b)[i]? == some c.toNat)
  | [], _, _, _ => rfl
  | a :: l, acc, h1, h2 => by
    have hp := List.pairwise_cons.mp h2
    rw [List.foldl_cons]
    have e : (b.extract a (a + (#[c] : Array UInt8).size) == #[c]) = ((octs b)[a]? == some c.toNat) := ext1 b c a
    rw [e]
    have g : decide (a ≥ acc.2) = true := decide_eq_true (h1 a (.head _))
    rw [g, Bool.true_and]
    by_cases hc : ((octs b)[a]? == some c.toNat) = true
    · rw [if_pos hc, List.countP_cons_of_pos (p := fun i => (octs b)[i]? == some c.toNat) hc, bocc_run b c l (a :: acc.1, a + (#[c] : Array UInt8).size) (fun i hi => hp.1 i hi) hp.2]
      simp only [List.length_cons]; omega
    · rw [if_neg hc, List.countP_cons_of_neg (p := fun i => (octs b)[i]? == some c.toNat) hc, bocc_run b c l _ (fun i hi => h1 i (.tail _ hi)) hp.2]
theorem range_map0 (n : Nat) : (List.range n).map (· + 0) = List.range n := by simp
theorem bocc1 (b : Array UInt8) (c : UInt8) (hi : Nat) (h : hi ≤ b.size) : (Bytes.occurrences b #[c] 0 hi).length = ((octs b).take hi).count c.toNat := by
  unfold Bytes.occurrences
  rw [show hi + 1 - (0 + (#[c] : Array UInt8).size) = hi from by show hi + 1 - (0 + 1) = hi; omega, range_map0]
  simp only [List.length_reverse]
  rw [bocc_run b c _ _ (fun i _ => Nat.zero_le i) List.pairwise_lt_range]
  rw [countP_take _ _ _ (by simpa [octs] using h)]
  simp
theorem blast_run (b : Array UInt8) (c : UInt8) : ∀ k, k ≤ b.size → (List.range k).reverse.find? (fun i => b.extract i (i + (#[c] : Array UInt8).size) == #[c]) = lastOf c.toNat ((octs b).take k)
  | 0, _ => by simp [lastOf, tailLen]
  | k + 1, h => by
    have h' : k < (octs b).length := by simpa [octs] using Nat.lt_of_succ_le h
    have e : (b.extract k (k + (#[c] : Array UInt8).size) == #[c]) = ((octs b)[k]? == some c.toNat) := ext1 b c k
    have el : ((octs b).take k).length = k := by rw [List.length_take]; omega
    rw [List.range_succ, List.reverse_append, List.reverse_singleton, List.singleton_append, List.find?_cons, blast_run b c k (by omega), e, take_snoc h', lastOf_snoc, el, List.getElem?_eq_getElem h']
    by_cases q : (octs b)[k] = c.toNat
    · simp [q]
    · have : ((some (octs b)[k] == some c.toNat) : Bool) = false := by simpa using q
      rw [this, if_neg q]
theorem blast1 (b : Array UInt8) (c : UInt8) (hi : Nat) (h : hi ≤ b.size) : Bytes.rfind? b #[c] 0 hi = lastOf c.toNat ((octs b).take hi) := by
  unfold Bytes.rfind?
  rw [show hi + 1 - (0 + (#[c] : Array UInt8).size) = hi from by show hi + 1 - (0 + 1) = hi; omega, range_map0]
  exact blast_run b c hi h
end

section
open Builtin Builtin.Str
theorem gives_count4 (x : Str) (c : Nat) (p : Int) (t u v q : Tok) : Gives («str.count» ⟨[.str x t, .str ⟨#[c]⟩ u, .int 0 v, .int p q], []⟩) (.int ((x.cps.toList.take (upto x.length p)).count c : Nat)) := by
  rw [← occ1 x c (upto x.length p) (x.length + 1) (upto_le _ _) (Nat.lt_succ_of_le (upto_le _ _))]
  exact .of_eq rfl
theorem gives_rfind4 (x : Str) (c : Nat) (p : Int) (t u v q : Tok) : Gives («str.rfind» ⟨[.str x t, .str ⟨#[c]⟩ u, .int 0 v, .int p q], []⟩) (.int (lastI c (x.cps.toList.take (upto x.length p)))) := by
  rw [← lastI_eq, ← last1 x c (upto x.length p) (upto_le _ _)]
  show Gives (match lastOccurrence x ⟨#[c]⟩ 0 (upto x.length p) with | some i => retInt i | none => (do rule "str.rfind.not-found"; retInt (-1))) _
  cases lastOccurrence x ⟨#[c]⟩ 0 (upto x.length p) with
  | none => exact .rule (.of_eq rfl)
  | some k => exact .of_eq rfl
end

section
open Builtin
theorem slot_bytes_count : Slot "bytes" "count" "bytes.count" :=
  .of (owner := "bytes") (n := "count") (by rw [typeLookup_type, builtinLookup_eq_fast]; kernel_rfl) (by decide +kernel) (by decide +kernel) (by decide +kernel)
    (by first | exact .inl (by decide +kernel) | exact .inr (by decide +kernel)) (by rw [isSubtype_type]; kernel_rfl)
theorem type_bytes_count : typeOf (.builtin "bytes.count") = pure (.type "method_descriptor") := by show builtinType _ = _; rw [builtinType_eq_fast]; kernel_rfl
theorem entry_bytes_count : entryFor table "bytes.count" = some Builtin.«bytes.count» := entryFor_of_tree (by kernel_rfl)
theorem args_bytes_count_4 (a b c d : Value) : argsOk "bytes.count" ⟨[a, b, c, d], []⟩ := by
  unfold argsOk; rw [signature?_of (id := "bytes.count") (n := ['t', 'n', 'u', 'o', 'c']) (o := ['s', 'e', 't', 'y', 'b']) (by kernel_rfl) FB.owner_bytes]; kernel_rfl
theorem slot_bytes_rfind : Slot "bytes" "rfind" "bytes.rfind" :=
  .of (owner := "bytes") (n := "rfind") (by rw [typeLookup_type, builtinLookup_eq_fast]; kernel_rfl) (by decide +kernel) (by decide +kernel) (by decide +kernel)
    (by first | exact .inl (by decide +kernel) | exact .inr (by decide +kernel)) (by rw [isSubtype_type]; kernel_rfl)
theorem type_bytes_rfind : typeOf (.builtin "bytes.rfind") = pure (.type "method_descriptor") := by show builtinType _ = _; rw [builtinType_eq_fast]; kernel_rfl
theorem entry_bytes_rfind : entryFor table "bytes.rfind" = some Builtin.«bytes.rfind» := entryFor_of_tree (by kernel_rfl)
theorem args_bytes_rfind_4 (a b c d : Value) : argsOk "bytes.rfind" ⟨[a, b, c, d], []⟩ := by
  unfold argsOk; rw [signature?_of (id := "bytes.rfind") (n := ['d', 'n', 'i', 'f', 'r']) (o := ['s', 'e', 't', 'y', 'b']) (by kernel_rfl) FB.owner_bytes]; kernel_rfl

theorem min_cast (k n : Nat) : min (n : Int) k = ((min k n : Nat) : Int) := by
  rcases Nat.le_total k n with h | h
  · rw [Int.min_eq_right (Int.ofNat_le.mpr h), Nat.min_eq_left h]
  · rw [Int.min_eq_left (Int.ofNat_le.mpr h), Nat.min_eq_right h]
theorem window4 (n : Nat) (p : Int) : Bytes.window n (some 0) (some p) = (0, ((upto n p : Nat) : Int)) := by
  refine Prod.ext rfl ?_
  show min (n : Int) (if p < 0 then max 0 (p + n) else p) = ((min (max 0 (if p < 0 then p + n else p)).toNat n : Nat) : Int)
  have e : (if p < 0 then max 0 (p + n) else p) = max 0 (if p < 0 then p + n else p) := by
    by_cases h : p < 0
    · rw [if_pos h, if_pos h]
    · rw [if_neg h, if_neg h, Int.max_eq_right (Int.not_lt.mp h)]
  rw [e]
  obtain ⟨k, hk⟩ := Int.eq_ofNat_of_zero_le (Int.le_max_left 0 (if p < 0 then p + (n : Int) else p))
  rw [hk]
  exact min_cast k n
theorem search4 {M : Model} {A : Around} {E : Value → Shared → Prop} {s : Shared} (name : String) (b : Array UInt8) (c : UInt8) (p : Int) (t u v q : Tok) {Q : Array UInt8 × Array UInt8 × Option (Nat × Nat) → Shared → Prop}
    (h : Q (b, #[c], if ((upto b.size p : Nat) : Int) - 0 < ((#[c] : Array UInt8).size : Int) then none else some (0, upto b.size p)) s)
    (e : selfAndSome ("bytes." ++ name) name 1 3 ⟨[.bytes b t, .bytes #[c] u, .int 0 v, .int p q], []⟩ = pure (.bytes b t, [.bytes #[c] u, .int 0 v, .int p q])) : wpAny M A (Bytes.searchArgs .bytes name ⟨[.bytes b t, .bytes #[c] u, .int 0 v, .int p q], []⟩) Q E s := by
  unfold Bytes.searchArgs
  have e0 : (s!"{Bytes.Kind.bytes.name}.{name}" : String) = "bytes." ++ name := by
    show toString "" ++ toString "bytes" ++ toString "." ++ toString name = _
    simp [toString]
  rw [e0]
  refine wpAny_bind (wpAny_of_eq e ?_)
  refine wpAny_bind (wpAny_of_eq (a := some 0) (by kernel_rfl) ?_)
  refine wpAny_bind (wpAny_of_eq (a := some p) (by kernel_rfl) ?_)
  refine wpAny_bind (wpAny_of_eq KBy.buffer_eq ?_)
  refine wpAny_bind (wpAny_pure (wpAny_bind (wpAny_of_eq (a := b) rfl ?_)))
  rw [window4]
  exact wpAny_pure h
theorem gives_bcount4 (b : Array UInt8) (c : UInt8) (p : Int) (t u v q : Tok) : Gives («bytes.count» ⟨[.bytes b t, .bytes #[c] u, .int 0 v, .int p q], []⟩) (.int (((octs b).take (upto b.size p)).count c.toNat : Nat)) := by
  refine .of_wp fun M A E s Q hq => ?_
  show wpAny M A (Bytes.countM .bytes _) _ E s
  unfold Bytes.countM
  refine wpAny_bind (search4 "count" b c p t u v q ?_ (by kernel_rfl))
  by_cases h : ((upto b.size p : Nat) : Int) - 0 < ((#[c] : Array UInt8).size : Int)
  · rw [if_pos h]
    have z : upto b.size p = 0 := by
      have : ((#[c] : Array UInt8).size : Int) = 1 := rfl
      omega
    rw [z] at hq
    simp only [List.take_zero, List.count_nil] at hq
    exact wpAny_bind (wpAny_mkInt (wpAny_pure ⟨_, rfl, hq⟩))
  · rw [if_neg h]
    show wpAny M A (if (#[c] : Array UInt8).isEmpty = true then _ else _) _ E s
    rw [if_neg (show ¬ (#[c] : Array UInt8).isEmpty = true from by simp)]
    rw [bocc1 b c _ (upto_le _ _)]
    exact wpAny_bind (wpAny_mkInt (wpAny_pure ⟨_, rfl, hq⟩))
theorem gives_brfind4 (b : Array UInt8) (c : UInt8) (p : Int) (t u v q : Tok) : Gives («bytes.rfind» ⟨[.bytes b t, .bytes #[c] u, .int 0 v, .int p q], []⟩) (.int (lastI c.toNat ((octs b).take (upto b.size p)))) := by
  refine .of_wp fun M A E s Q hq => ?_
  show wpAny M A (Bytes.searchM .bytes "rfind" true false _) _ E s
  unfold Bytes.searchM
  refine wpAny_bind (search4 "rfind" b c p t u v q ?_ (by kernel_rfl))
  have key : ∀ w : Option Nat, w = lastOf c.toNat ((octs b).take (upto b.size p)) → wpAny M A (match w with
      | some i => retInt i
      | none => do
        rule s!"{Bytes.Kind.bytes.name}.{"rfind"}.not-found"
        if false = true then raiseError "ValueError" "subsection not found" else retInt (-1)) (fun fin s' => ∃ v, fin = Fin.done (Flow.ret v) ∧ Q v s') E s := by
    intro w hw
    rw [← lastI_eq, ← hw] at hq
    cases w with
    | none => exact wpAny_bind (wpAny_rule (wpAny_bind (wpAny_mkInt (wpAny_pure ⟨_, rfl, hq⟩))))
    | some k => exact wpAny_bind (wpAny_mkInt (wpAny_pure ⟨_, rfl, hq⟩))
  by_cases h : ((upto b.size p : Nat) : Int) - 0 < ((#[c] : Array UInt8).size : Int)
  · rw [if_pos h]
    refine key none ?_
    have z : upto b.size p = 0 := by
      have : ((#[c] : Array UInt8).size : Int) = 1 := rfl
      omega
    rw [z]
    simp [lastOf, tailLen]
  · rw [if_neg h]
    exact key (Bytes.rfind? b #[c] 0 (upto b.size p)) (blast1 b c _ (upto_le _ _))
end

theorem bfind_some (b : Array UInt8) (c : UInt8) : (Builtin.Bytes.find? b #[c] 0 b.size).isSome = (octs b).contains c.toNat := by
  unfold Builtin.Bytes.find?
  rw [show b.size + 1 - (0 + (#[c] : Array UInt8).size) = b.size from by show b.size + 1 - (0 + 1) = b.size; omega, range_map0]
  rw [Bool.eq_iff_iff, List.find?_isSome, List.contains_iff_mem]
  constructor
  · rintro ⟨i, hi, e⟩
    have e' : ((octs b)[i]? == some c.toNat) = true := (ext1 b c i).symm.trans e
    exact List.mem_of_getElem? (eq_of_beq e')
  · intro h
    obtain ⟨i, hi, e⟩ := List.mem_iff_getElem.mp h
    refine ⟨i, List.mem_range.mpr (by simpa [octs] using hi), ?_⟩
    refine (ext1 b c i).trans ?_
    rw [List.getElem?_eq_getElem hi, e]
    simp
theorem in_one (x : Str) (c : Nat) : (!(Builtin.Str.occurrences x ⟨#[c]⟩ 0 x.length 1).isEmpty) = x.cps.toList.contains c := by
  rw [StrLaws.found_one]; simp
section
open Builtin
variable {prog : Program} {w : World} {A : Around} {E : Value → Shared → Prop} {s s₀ : Shared}
variable {hb : Heap} {l : List Env} {fr V : List Addr} {L : Addr} {m : Vars} {mu im : List (Addr × Obj)}
theorem in_text {x : Str} {c : Nat} {t u : Tok} {Q : Value → Shared → Prop} (h : Q (.bool (x.cps.toList.contains c)) s) : wpAny (model prog w) A (compareOp .In (.str ⟨#[c]⟩ u) (.str x t)) Q E s :=
  P.in_str (by rw [in_one]; exact h)
end
end Mine
end

noncomputable section
open PySem PySem.W PySem.Calls PyProof.Rows
set_option maxRecDepth 100000
namespace Mine

section
variable {prog : Program} {w : World} {A : Around} {E : Value → Shared → Prop} {s s₀ : Shared} {K : Frag} {p : Program} {loose : List Str} {mg mb : Str → Option Value} {hb : Heap} {l : List Env} {fr V : List Addr} {L : Addr} {m₀ : Vars} {mu im : List (Addr × Obj)}
  {R : Result → Shared → Prop} {name qual : Str} {params : Arguments} {body : List Stmt} {scope : Scope} {cl : List (Str × Addr)} {dV kV doc pm cdv ct oc : Value} {an od : Option Addr} {osl : Array (Option Value)} {f : Addr} {args : Args} {binds m : Vars}
/-- entering a def with super() -/
theorem enterAt (V : List Addr) (mu im : List (Addr × Obj)) (S : Sta K p loose mg mb hb) (st : hb.StaysIn s.heap) (ff : s.heap.FunFrames hb l)
    (ho : K.lookup f = some ⟨oc, od, .func (fnX name qual params body scope cl dV kV doc pm an cdv ct), osl⟩) (hcd : codeIn K cdv qual = true) (hroom : A.depth < recursionLimit)
    (hbind : BindsTo s (fnX name qual params body scope cl dV kV doc pm an cdv ct) args binds) (hloc : ∀ y ∈ binds, scope.names.lookup y.1 = some .local) (hm : binds.reverse = m)
    (hmu : ∀ q ∈ mu, s.heap.get? q.1 = some q.2) (him : ∀ q ∈ im, s.heap.get? q.1 = some q.2) (nodup : (mu.map (·.1)).Nodup) (apart : ∀ q ∈ mu, ∀ r ∈ im, q.1 ≠ r.1)
    (offm : ∀ q ∈ mu, q.1 ∉ frs l ∧ hb.get? q.1 = none ∧ q.1 ∈ V) (offi : ∀ q ∈ im, q.1 ∉ frs l)
    (h : ∀ L s', let env := envX qual scope L f cdv cl; let B := A.deeper env; Run hb (env :: l) (frs l) V s L m mu im s' →
      PySem.wpAt (model prog w) B (.func body env) (execs body env) (fun fl s' => R (.ok (.ret (match fl with | .ret v => v | _ => .none))) s')
        (fun e s' => wpAny (model prog w) B (leaving env e) (fun _ s'' => R (.error e) s'') (fun e' s'' => R (.error e') s'') s') s')
    (hcell : ∀ x ∈ scope.names, x.2 ≠ .cell) (hco : scope.isCoroutine = false) (hgen : scope.isGenerator = false) (hk : scope.kind = .function) :
    codeAny (model prog w) A (.call (.ref f) args) R s := by
  refine ks_codeAny_call_defAt (fd := fnX name qual params body scope cl dV kV doc pm an cdv ct) (body := body) (binds := binds) hroom (st _ _ (S.X _ _ ho)) rfl (S.T.nolimit.keeps st) (codeRec_of (S.X.keeps st) hcd) rfl hbind hcell hloc (fun h₁ hns hk₁ => ?_) hco hgen hk
  have lt : ∀ {a : Addr} {o : Obj}, s.heap.get? a = some o → a ≠ s.heap.objs.size := fun e => Nat.ne_of_lt (Heap.lt_size e)
  have nb : hb.get? s.heap.objs.size = none := st.fresh
  have E1 : Evo (frs l) [] s.heap h₁ := Evo.keeps _ hk₁
  subst hm
  obtain ⟨oL, es, ep, hL, hLd, hLr⟩ := id hns
  refine h _ _ ⟨⟨fun b o e => hk₁ _ _ (st b o e), ⟨by show scope.kind ≠ _; rw [hk]; decide, ⟨_, oL, rfl, nb, hL, fun vs q => by rw [hLd] at q; cases q⟩, ff_evo E1 ff (fun _ _ q => nomatch q)⟩, ⟨_, hns, fun _ _ e => e⟩, E1.mono (fun _ q => nomatch q),
    fun q hq => hk₁ _ _ (hmu q hq), fun q hq => hk₁ _ _ (him q hq), nodup, apart, fun q hq => ⟨lt (hmu q hq), ?_, (offm q hq).2.1, .inl (offm q hq).2.2⟩, fun q hq => ⟨lt (him q hq), ?_⟩, ⟨nb, .inl (get_size _)⟩, ?_⟩, rfl, rfl, rfl⟩
  · intro z
    rcases List.mem_cons.mp (show q.1 ∈ s.heap.objs.size :: frs l from z) with e | e
    · exact lt (hmu q hq) e
    · exact (offm q hq).1 e
  · intro z
    rcases List.mem_cons.mp (show q.1 ∈ s.heap.objs.size :: frs l from z) with e | e
    · exact lt (him q hq) e
    · exact offi q hq e
  · intro a ha
    rcases List.mem_cons.mp (show a ∈ s.heap.objs.size :: frs l from ha) with e | e
    · exact .inl (e ▸ get_size _)
    · exact .inr e
end

section
variable {prog : Program} {w : World} {A : Around} {E : Value → Shared → Prop} {s s₀ : Shared} {K : Frag} {p : Program} {loose : List Str} {mg mb : Str → Option Value} {hb : Heap} {l : List Env} {fr V : List Addr} {L : Addr} {m : Vars} {mu im : List (Addr × Obj)}
  {x C D f cc cda so : Addr} {ox : Obj} {odx : Option Obj}
/-- super() in a method -/
theorem node_r {body : List Stmt} {q : Str} {scope : Scope} {p0 p1 : Pos} {attr : Str} {whole : Sem Value} {fd : FuncData} {ar : Arg} {vs : Array Value} {file : Str} {tf : Tok} {oc ccl cl : Value} {od cdd cld : Option Addr} {osl ccs csl : Array (Option Value)} {cdD : ClassData} {Q : Value → Shared → Prop}
    (R : Run hb l fr V s₀ L m mu im s) (S : Sta K p loose mg mb hb)
    (hf : K.lookup f = some ⟨oc, od, .func fd, osl⟩) (hp : (fd.params.posonlyargs ++ fd.params.args).head? = some ar) (hv : vmap m ar.arg = some (.ref x)) (I : InstAt s.heap x ox C odx)
    (hcode : K.lookup cda = some ⟨ccl, cdd, .fields vs, ccs⟩) (hvs : vs[2]? = some (.str file tf)) (hfile : ((prog.main.file : Str) == file) = true)
    (hcell : K.lookup cc = some ⟨cl, cld, .cell (some (.ref D)), csl⟩) (hD : clsIn K D = some cdD) (hsub : mroIn K C (.ref D) = some true) (hsuper : nsIn K mainGlobals "super" = some none)
    (hat : (attr == ("__class__" : Str)) = false) (hks : scope.names.lookup ("super" : Str) = some .globalImplicit) (hkc : scope.names.lookup ("__class__" : Str) = some .free) (hka : scope.names.lookup ar.arg = some .local) (hk : scope.kind = .function)
    (htop : (prog.main.scope.names.lookup ("super" : Str)).isSome = false) (hboot : bootBuiltins "super" = some (.type "super"))
    (h : ∀ so s', s.heap.get? so = none → Run hb l fr V s₀ L m mu ((so, ks_superObj D x C) :: im) s' → Q (.ref so) s') :
    PySem.wpAt (model prog w) A (.func body (ksEnv q scope L f (.ref cda) cc)) (attributeBase (.Call (.Name "super" p0) [] [] p1) attr (ksEnv q scope L f (.ref cda) cc) whole) Q E s := by
  have X : K.In s.heap := R.kin S
  have R' := R
  obtain ⟨hh, g, d, t, os⟩ := s
  obtain ⟨oD, hD1, hD2⟩ : ∃ oD, hh.get? D = some oD ∧ oD.data = .cls cdD := by
    unfold clsIn at hD
    split at hD
    · rename_i c d cd' sl ho
      cases hD
      exact ⟨_, X _ _ ho, rfl⟩
    · cases hD
  refine ks_wpAt_super_base (env := ksEnv q scope L f (.ref cda) cc) hks hkc hat rfl (X _ _ hf) rfl hp rfl (X _ _ hcode) rfl hvs hfile htop ?_
  refine ks_loadName_global hk hks (loadGlobal_builtin (env := ksEnv q scope L f (.ref cda) cc) (S.T.g.keeps R.H.stays) (mg_none_of S.X S.T.g hsuper) (S.T.b.keeps R.H.stays) ((S.T.builtins _ (by decide +kernel)).trans hboot) ⟨rfl, ?_⟩)
  refine wpAny_loadName_free hk hkc rfl ⟨_, X _ _ hcell, rfl⟩ ?_
  obtain ⟨_, n1, n2⟩ := R.H.ns
  refine wpAny_loadName_local hk hka n1 (n2 _ _ hv) ?_
  refine ks_wpAny_isType_cls hD1 hD2 ⟨rfl, ?_⟩
  refine ks_wpAny_call_super hD1 hD2 I.at_ I.cls (fun c e => ?_) (looks_mroIn X hsub) (fun h' e k => ?_)
  · have := I.no
    unfold notCls at this
    rw [e] at this
    exact Bool.noConfusion this
  · have R1 := R.H.gainI (R.H.keeps k) (get_size _) e (R.H.neM (get_size _))
    exact h _ _ (get_size _) ⟨R1, R.oth⟩

theorem slot_wd_get : Slot "wrapper_descriptor" "__get__" "wrapper_descriptor.__get__" :=
  .of (owner := "wrapper_descriptor") (n := "__get__") (by rw [typeLookup_type, builtinLookup_eq_fast]; kernel_rfl) (by decide +kernel) (by decide +kernel) (by decide +kernel)
    (by first | exact .inl (by decide +kernel) | exact .inr (by decide +kernel)) (by rw [isSubtype_type]; kernel_rfl)
theorem entry_wd_get : entryFor table "wrapper_descriptor.__get__" = some Builtin.«wrapper_descriptor.__get__» := entryFor_of_tree (by kernel_rfl)
theorem args_wd_get (a b c : Value) : argsOk "wrapper_descriptor.__get__" ⟨[a, b, c], []⟩ := by unfold argsOk; kernel_rfl
theorem type_exc_init : typeOf (.builtin "Exception.__init__") = pure (.type "wrapper_descriptor") := by show builtinType _ = _; rw [builtinType_eq_fast]; kernel_rfl
noncomputable abbrev mwObj (id : String) (x : Addr) : Obj := { cls := .type "method-wrapper", data := .fields #[.builtin id, .ref x] }
theorem super_ga {prog : Program} {w : World} {A : Around} {E : Value → Shared → Prop} {h : Heap} {g : Array GenState} {d : Drawn} {t : Nat} {os : OsState} {so D x : Addr} {K : Frag} {name : Str} {tk : Tok} {Q : Fin → Shared → Prop} {l : List Value} (hl : ((excMro D).dropWhile (· != .ref D)).drop 1 = l)
    (hn : (name == ("__class__" : Str)) = false) (hf : alongIn K name l = some (some (.builtin "Exception.__init__")))
    (hso : h.get? so = some (ks_superObj D x D)) (hno : Looks (model prog w) h (opaqueClassAbove (.ref D)) none)
    (hC : Looks (model prog w) h (mroOf (.ref D)) (excMro D)) (X : K.In h) (hxC : x ≠ D) (hsub : Looks (model prog w) h (isInstance (.ref x) (.type "Exception")) true)
    (hq : Q (.done (.ret (.ref h.objs.size))) ⟨h.push (mwObj "Exception.__init__" x), g, d, t, os⟩) :
    wpAny (model prog w) A (Builtin.«super.__getattribute__» ⟨[.ref so, .str name tk], []⟩) Q E ⟨h, g, d, t, os⟩ := by
  have hne : (Value.ref x == Value.ref D) = false := by simp [hxC]
  have hdt : (ks_superObj D x D).data = .fields #[.ref D, .ref x, .ref D] := rfl
  have f0 : (#[.ref D, .ref x, .ref D] : Array Value)[0]? = some (.ref D) := rfl
  have f1 : (#[.ref D, .ref x, .ref D] : Array Value)[1]? = some (.ref x) := rfl
  have f2 : (#[.ref D, .ref x, .ref D] : Array Value)[2]? = some (.ref D) := rfl
  have hT2 := type_exc_init
  have hlk2 := slot_wd_get.lookup
  unfold Builtin.«super.__getattribute__»
  refine wpAny_bind (wpAny_of_eq (a := some name) rfl ?_)
  refine wpAny_bind (wpAny_of_eq (a := some name) rfl ?_)
  refine wpAny_bind (wpAny_field hso hdt f0 ?_)
  refine wpAny_bind (wpAny_field hso hdt f1 ?_)
  refine wpAny_bind (wpAny_field hso hdt f2 ?_)
  rw [if_neg (by rw [hn]; simp)]
  refine wpAny_bind (ks_wpAny_notOpaque hno ?_)
  rw [if_neg (by simp)]
  refine wpAny_bind (Looks.at hC ?_)
  rw [hl]
  refine wpAny_bind ?_
  refine ks_forIn_along X (fun _ _ => rfl) rfl ?_ hf
  dsimp only
  refine wpAny_bind (wpAny_of_eq hT2 ?_)
  refine wpAny_bind (wpAny_of_eq hlk2 ?_)
  dsimp only
  rw [hne]
  rw [if_neg (by decide)]
  refine wpAny_bind (wpAny_holding ?_)
  refine wpAny_mono (Q := fun v s' => v = .ref h.objs.size ∧ s' = ⟨h.push (mwObj "Exception.__init__" x), g, d, t, os⟩) (E := fun _ _ => False)
    (wpAny_call_entry slot_wd_get (show (⟨h, g, d, t, os⟩ : Shared).TypeIs (.builtin "Exception.__init__") "wrapper_descriptor" from hT2) entry_wd_get ?_ (args_wd_get _ _ _)) (fun v s' hv => ?_) fun _ _ z => z.elim
  · unfold Builtin.«wrapper_descriptor.__get__»
    refine wpAny_bind (wpAny_of_eq (a := (.builtin "Exception.__init__", some (.ref x), some (.ref D))) (by kernel_rfl) ?_)
    dsimp only
    refine wpAny_bind (wpAny_bind (wpAny_of_eq (a := ((Str.ofString "__init__"), .type "Exception")) (by kernel_rfl) ?_))
    refine wpAny_bind (Looks.at hsub ?_)
    rw [if_neg (by decide)]
    refine wpAny_pure (wpAny_bind ?_)
    unfold newFields
    exact wpAny_newObj_type (wpAny_pure ⟨_, rfl, rfl, rfl⟩) (by simp [sizeOk, sizeLine_eq])
  · obtain ⟨rfl, rfl⟩ := hv
    exact wpAny_bind (wpAny_pure (wpAny_pure (wpAny_pure hq)))
theorem super_init_at : alongIn K (Str.ofString "__init__") [.type "Exception", .type "BaseException", .type "object"] = some (some (.builtin "Exception.__init__")) := by
  simp only [alongIn, ownIn]
  rw [show fastBuiltinOwn "Exception" (Str.ofString "__init__") = some (.builtin "Exception.__init__") from by kernel_rfl]
/-- super().__init__ of an exception class -/
theorem superInit_get {pl : Sem Bool} {Q : Value × List Value → Shared → Prop} (R : Run hb l fr V s₀ L m mu im s) (S : Sta K p loose mg mb hb) (hso : (so, ks_superObj D x C) ∈ im) (I : InstAt s.heap x ox C odx) (ho : nsIn K cStatics "thirdparty.any" = some none)
    (hDC : D = C) (hp : excOver K C = true)
    (h : ∀ q s', s.heap.get? q = none → Run hb l fr V s₀ L m mu ((q, mwObj "Exception.__init__" x) :: im) s' → Q (.ref q, []) s') : wpAny (model prog w) A (getMethod (.ref so) "__init__" pl) Q E s := by
  have X : K.In s.heap := R.kin S
  subst hDC
  have hhso := R.H.him _ hso
  obtain ⟨cd, hc, hm⟩ := any_some hp
  have hm : cd.mro = excMro D := eq_of_beq hm
  have hne : x ≠ D := ks_ne X I hc
  have hC : Looks (model prog w) s.heap (mroOf (.ref D)) (excMro D) := hm ▸ (looks_clsIn X hc).andThen .now
  have hno := looks_opaque (M := model prog w) (C := D) X ho
  have hlk := PySem.F.ks_slot_super_ga.lookup
  have hcan := PySem.F.ks_canon_super_ga
  have hT : ∀ t', ({ s with toks := t' } : Shared).TypeIs (.ref so) "super" := fun _ => ⟨_, hhso, rfl⟩
  unfold getMethod
  refine wpAny_bind (wpAny_specialOf (hT s.toks) hlk ?_)
  show wpAny _ _ (if (Manifest.canonical "super.__getattribute__" != "object.__getattribute__") = true then _ else _) _ _ _
  rw [if_pos hcan]
  unfold getAttr getAttrBy
  refine wpAny_bind (wpAny_bind (wpAny_mkText (wpAny_holding (wpAny_bind (wpAny_typeOf (hT _) (wpAny_bind (wpAny_of_eq hlk ?_)))))))
  show wpAny _ _ (getAttrByItsOwn (.ref so) (.str _ s.toks) (.type "super") (.builtin "super.__getattribute__") true false) _ _ _
  unfold getAttrByItsOwn hookBefore callGetattribute boundAndCalled
  refine wpAny_bind (wpAny_of_eq (show (if onTheHeap (.type "super") then typeLookup (.type "super") "__getattr__" else pure none) = pure none from rfl) ?_)
  refine wpAny_bind (wpAny_attempt (wpAny_holding ?_))
  show wpAny _ _ (bindSpecial (.builtin "super.__getattribute__") (.ref so) >>= _) _ _ _
  refine wpAny_bind (wpAny_of_eq (PySem.F.ks_slot_super_ga.bind _) ?_)
  have R1 : RunH hb l fr V s₀.heap L m mu ((s.heap.objs.size, mwObj "Exception.__init__" x) :: im) (s.heap.push (mwObj "Exception.__init__" x)) := R.H.push _ rfl
  refine wpAny_mono (Q := fun v s' => v = .ref s.heap.objs.size ∧ s' = { s with heap := s.heap.push (mwObj "Exception.__init__" x), toks := s.toks + 1 }) (E := fun _ _ => False)
    (wpAny_call_entry PySem.F.ks_slot_super_ga (hT _) PySem.F.ks_entry_super_ga ?_ (PySem.F.ks_gaArgs_super _ _)) (fun v s' hv => ?_) fun _ _ z => z.elim
  · have sub : Looks (model prog w) s.heap (isInstance (.ref x) (.type "Exception")) true := I.type.andThen (looks_mroIn X (by unfold mroIn; rw [hc, Option.bind_some, hm]; simp [excMro]))
    exact super_ga (l := [.type "Exception", .type "BaseException", .type "object"]) (by simp [excMro]) (by decide +kernel) super_init_at hhso hno hC X hne sub ⟨_, rfl, rfl, rfl⟩
  · obtain ⟨rfl, rfl⟩ := hv
    exact wpAny_pure (wpAny_pure (h _ _ (get_size _) ⟨R1, R.oth⟩))
end
end Mine
end

noncomputable section
open PySem PySem.W PySem.Calls PyProof.Rows PySem.Builtin
set_option maxRecDepth 100000
namespace Mine
section
variable {prog : Program} {w : World} {M : Model} {A : Around} {E : Value → Shared → Prop} {s s₀ : Shared} {hb : Heap} {l : List Env} {fr V : List Addr} {L : Addr} {m : Vars} {mu mu' im : List (Addr × Obj)} {env : Env} {pos : Pos}
  {x u : Addr} {cls a tb c2 c3 c4 : Value} {dx : Option Addr} {v : Value}
theorem callWith_mw {id : String} {first : List Value} {args : List (Bool × Sem Value)} {Q : Value → Shared → Prop} (hplain : args.any (·.1) = false)
    (h : wpAny M A (evalArgs (.ref u) true args []) (fun x' s₁ => s₁.heap.get? u = some (mwObj id x) ∧ wpAny M A (call (.ref u) (first ++ x'.pos) x'.kw) Q E s₁) E s) : wpAny M A (callWith pos (.ref u) first args []) Q E s := by
  unfold callWith
  refine wpAny_bind (wpAny_holding (wpAny_mono h (fun x s₁ h₁ => wpAny_bind (wpAny_standAt ?_)) fun _ _ x => x))
  obtain ⟨ho, hcall⟩ := h₁
  simp only [hplain, List.any_nil, Bool.or_false]
  refine wpAny_bind (m := keeperOf (.ref u)) ?_
  unfold keeperOf
  refine wpAny_bind (wpAny_load ho ?_)
  simp only [mwObj, show (Value.type "method-wrapper" != Value.type "method") = true by decide, show (Value.type "method-wrapper" == Value.type "builtin_function_or_method" || Value.type "method-wrapper" == Value.type "method-wrapper") = true by decide, if_true]
  refine wpAny_pure ?_
  exact wpAny_bind (wpAny_mono hcall (fun r s₂ hr => wpAny_bind (wpAny_holding (wpAny_point (wpAny_pure hr)))) fun _ _ x => x)
theorem check_mw {K : Frag} {C : Addr} {ox : Obj} {od : Option Obj} {Q : Unit → Shared → Prop} (X : K.In s.heap) (I : InstAt s.heap x ox C od) (hc : excOver K C = true) (hq : Q () s) :
    wpAny M A (checkBoundCall "Exception.__init__" ⟨[.ref x, v], []⟩) Q E s := by
  have F := PySem.F.excBase_Exception.toExcCallFacts
  have hshort := F.noStar
  obtain ⟨cd, hc, -⟩ := any_some hc
  have L0 := I.type (M := M)
  have L1 := looks_clsIn (M := M) X hc
  obtain ⟨hh, g, d, t, os⟩ := s
  simp only [checkBoundCall, F.initKind, F.initRow]
  repeat (first | with_reducible refine Looks.at L0 ?_ | with_reducible refine Looks.at L1 ?_ | wp_step)
  exact hq
theorem superInit_call {K : Frag} {p : Program} {loose : List Str} {mg mb : Str → Option Value} {C : Addr} {Q : Value → Shared → Prop} (S : Sta K p loose mg mb hb) (hp : excOver K C = true) (hcl : cls = .ref C) (R : Run hb l fr V s₀ L m mu im s) (hq : (u, mwObj "Exception.__init__" x) ∈ im) (hx : (x, exO cls dx a tb c2 c3 c4) ∈ mu) (hdx : ∀ d, dx = some d → ∃ od, (d, od) ∈ mu) (ha : ∃ y, a = .ref y)
    (k : ∀ t s', (∀ mu', UpdL x (exO cls dx a tb c2 c3 c4) (exO cls dx (.ref t) tb c2 c3 c4) mu mu' → Run hb l fr V s₀ L m ((t, tupO [v]) :: mu') im s') → Q .none s') :
    wpAny (model prog w) A (call (.ref u) [v]) Q E s := by
  have F := PySem.F.excBase_Exception.toExcCallFacts
  obtain ⟨y, rfl⟩ := ha
  have hu := R.H.him _ hq
  have hxo := R.H.hmu _ hx
  refine wpAny_call (codeAny_of_tree ?_)
  show wpAny _ A.in1 (callAny (.ref u) ⟨[v], []⟩) _ _ s
  simp only [callAny]
  refine wpAny_bind (wpAny_load hu ?_)
  simp only [mwObj, show (Value.type "method-wrapper" == Value.type "method" || Value.type "method-wrapper" == Value.type "builtin_function_or_method" || Value.type "method-wrapper" == Value.type "method-wrapper") = true by decide, if_true]
  show wpAny _ _ (if (Value.type "method-wrapper" != Value.type "method") = true then _ else _) _ _ _
  rw [if_pos (by decide)]
  subst hcl
  have I : InstAt s.heap x (exO (.ref C) dx (.ref y) tb c2 c3 c4) C (match dx with | some d => s.heap.get? d | none => none) := by
    refine ⟨hxo, rfl, rfl, ?_⟩
    cases dx with
    | none => trivial
    | some d => obtain ⟨od, hd⟩ := hdx d rfl; show match (some d : Option Addr), s.heap.get? d with | some dx, some o => s.heap.get? dx = some o | none, none => True | _, _ => False; rw [R.H.hmu _ hd]; exact R.H.hmu _ hd
  refine wpAny_bind (check_mw (R.kin S) I hp ?_)
  refine wpAny_bind (wpAny_pure (wpAny_pure ?_))
  refine ⟨Code.quiet_builtin _ (by decide +kernel), codeAny_builtin F.initEntry ?_⟩
  show wpAny _ _ (do BaseException.bexcPut (.ref x) 0 (← newTuple [v]); ret Value.none) _ _ _
  have R1 := R.H.pushM (tupO [v]) rfl
  have hx1 := R1.hmu _ (.tail _ hx)
  refine wpAny_bind ?_
  unfold newTuple
  refine wpAny_newObj_type ?_ (by show 1 ≤ sizeLine; rw [sizeLine_eq]; decide)
  refine wpAny_bind ?_
  unfold BaseException.bexcPut
  refine wpAny_bind (wpAny_field hx1 rfl (x := .ref y) rfl ?_)
  refine wpAny_bind (wpAny_setField hx1 rfl (by simp) ?_)
  have hd := Heap.get?_update_self (Obj.mapFields (·.setIfInBounds 0 (Value.ref s.heap.objs.size))) hx1 rfl
  unfold letGo
  refine wpAny_bind (wpAny_holding (wpAny_point ?_))
  unfold letGo
  exact wpAny_pure (wpAny_pure (k _ _ fun mu' U => ⟨R1.upd (.tail U) (Heap.SameBut.update _ x (Obj.mapFields (·.setIfInBounds 0 (Value.ref s.heap.objs.size)))) hd, R.oth⟩))
end

noncomputable def keysStr (o : Obj) : Bool := match o.data with
  | .dict es _ => es.toList.all fun e => match e.key with | .str _ _ => true | _ => false
  | _ => false
section
variable {prog : Program} {w : World} {A : Around} {E : Value → Shared → Prop} {s s₀ : Shared} {hb : Heap} {l : List Env} {fr V : List Addr} {L : Addr} {m : Vars} {mu mu' im : List (Addr × Obj)}
  {K : Frag} {p : Program} {loose : List Str} {mg mb : Str → Option Value} {C N fI : Addr} {oN : Obj} {rest : List Value}
variable {nm q : Str} {bs : List Value} {sn : List Str} {sub : List Value} {ab : Bool} {col : Option Bool} {dd : Option Addr} {k0 k1 k2 k3 k5 : Option Value}
theorem ns_K {h : Heap} (X : K.In h) (hN : K.lookup N = some oN) (hk : keysStr oN = true) {name : Str} {v : Option Value} (hv : nsIn K N name = some v) : ∃ mN, h.Ns N mN ∧ mN name = v := by
  obtain ⟨oc, od, odt, osl⟩ := oN
  unfold keysStr at hk
  split at hk
  · rename_i es ep hd
    dsimp only at hd
    subst hd
    refine ⟨nsFind es, ⟨_, es, ep, X _ _ hN, rfl, fun e he => ?_, fun _ => rfl⟩, ?_⟩
    · have := List.all_eq_true.mp hk e (Array.mem_toList_iff.mpr he)
      split at this
      · rename_i n t z; exact ⟨n, t, z⟩
      · cases this
    · unfold nsIn at hv
      rw [hN] at hv
      dsimp only at hv
      unfold nsFind findBy
      rw [← Array.find?_toList]
      split at hv
      · rename_i e he; cases hv; rw [he]; rfl
      · rename_i he
        split at hv
        · cases hv
        · cases hv; rw [he]; rfl
  · cases hk
theorem under_units {a : Args} : (A.under (.builtin "type.__call__" a)).units ≤ A.units + 15 := Nat.add_le_add_left (Nat.le_of_ble_eq_true rfl) _
theorem under_frames {a : Args} : (A.under (.builtin "type.__call__" a)).frames = A.frames := by
  unfold Around.under
  dsimp only
  have e : (Code.builtin "type.__call__" a).envs = [] := rfl
  rw [e]
  cases A.frames <;> rfl
/-- making an own exception with an own __init__ -/
theorem new_exc {Q : Value → Shared → Prop} (R : Run hb l fr V s₀ L m mu im s) (S : Sta K p loose mg mb hb)
    (hC : K.lookup C = some (excClassObj nm q C N bs [.type "Exception", .type "BaseException", .type "object"] true sn sub ab col dd k0 k1 k2 k3 k5 "Exception.__new__"))
    (hN : K.lookup N = some oN) (hk : keysStr oN = true) (hi : nsIn K N "__init__" = some (some (.ref fI))) (hf : typeIn K (.ref fI) = some (.type "function"))
    (h : ∀ (B : Around) e t s', B.depth = A.depth + 1 → B.frames = A.frames → B.handled = A.handled → B.units ≤ A.units + 15 → s.heap.get? t = none → Run hb l fr V s₀ L m ((e, exO (.ref C) none (.ref t) .none .none .none (.bool false)) :: mu) ((t, tupO rest) :: im) s' →
      wpAny (model prog w) B (call (.ref fI) (.ref e :: rest)) (fun r s' => r = .none ∧ Q (.ref e) s') E s') (hrest : rest.length ≤ sizeLine) :
    wpAny (model prog w) A (call (.ref C) rest) Q E s := by
  obtain ⟨mN, hns, hin⟩ := ns_K (R.kin S) hN hk hi
  obtain ⟨of, hof, hoc⟩ : ∃ of, s.heap.get? fI = some of ∧ of.cls = .type "function" := by
    have ht' : (K.lookup fI).map (·.cls) = some (.type "function") := hf
    cases z : K.lookup fI with
    | none => rw [z] at ht'; cases ht'
    | some of => rw [z] at ht'; exact ⟨of, R.kin S _ _ z, Option.some.inj ht'⟩
  have HC := R.kin S _ _ hC
  obtain ⟨hh, g, d, t, os⟩ := s
  refine wpAny_call_exc_init PySem.F.excBase_Exception HC hns hin hof hoc (fun h' e me => ?_) hrest
  obtain ⟨t', ht, R1⟩ := R.H.made me
  exact h _ e t' _ rfl under_frames rfl under_units ht ⟨R1, R.oth⟩
theorem isinst_str {x : Str} {t : Tok} {Q : Value → Shared → Prop} (h : Q (.bool true) s) : wpAny (model prog w) A (call (.builtin "isinstance") [.str x t, .type "str"]) Q E s :=
  call_isinstance (isinstance_true (x := .str x t) (Tx := "str") (T := "str") (by first | rfl | kernel_rfl) (by rw [isSubtype_type]; kernel_rfl)) ⟨typeIs_str s x t, h⟩
theorem isinst_bytes {x : Array UInt8} {t : Tok} {Q : Value → Shared → Prop} (h : Q (.bool false) { s with toks := s.toks + 1 }) : wpAny (model prog w) A (call (.builtin "isinstance") [.bytes x t, .type "str"]) Q E s := by
  have key : Meets (Builtin.«isinstance» ⟨[.bytes x t, .type "str"], []⟩) (fun _ R s => R (.ok (.ret (.bool false))) { s with toks := s.toks + 1 }) :=
    fun _ _ _ _ s hs => by
      obtain ⟨h, g, d, t, os⟩ := s
      exact isinstance_outer (isinstance_nested_false_bytes (by decide) (by first | rfl | kernel_rfl) (by rw [isSubtype_type]; kernel_rfl) hs)
  exact call_isinstance key h
end
end Mine
end

noncomputable section
open PySem PySem.W PySem.Calls PyProof.Rows PySem.Builtin
set_option maxRecDepth 100000
namespace Mine
/-- a pattern: a text or octets -/
inductive Pat
  | t (x : Str)
  | b (x : Array UInt8)
noncomputable def Pat.cs : Pat → List Nat
  | .t x => x.cps.toList
  | .b x => octs x
noncomputable def nlBefore (cs : List Nat) (p : Int) : Int := ((cs.take (upto cs.length p)).count 10 : Nat)
noncomputable def nlLast (cs : List Nat) (p : Int) : Int := lastI 10 (cs.take (upto cs.length p))
noncomputable def wordsAt (m : Str) (p : Int) : Str := m ++ Str.ofString " at position " ++ numT p
noncomputable def wordsLC (m : Str) (l c : Int) : Str := m ++ Str.ofString " (line " ++ numT l ++ Str.ofString ", column " ++ numT c ++ Str.ofString ")"
theorem nlS : Str.ofString "\n" = ⟨#[10]⟩ := by decide +kernel
section
variable {prog : Program} {w : World} {A : Around} {E : Value → Shared → Prop} {s s₀ : Shared} {hb : Heap} {l : List Env} {fr V : List Addr} {L : Addr} {m : Vars} {mu mu' im : List (Addr × Obj)}
theorem count_t {x : Str} {p : Int} {t u v q : Tok} {Q : Value → Shared → Prop} (h : Q (.int (nlBefore (Pat.t x).cs p) s.toks) { s with toks := s.toks + 1 }) :
    wpAny (model prog w) A (call (.builtin "str.count") [.str x t, .str (Str.ofString "\n") u, .int 0 v, .int p q]) Q E s := by
  have e : nlBefore (Pat.t x).cs p = (((x.cps.toList.take (upto x.length p)).count 10 : Nat) : Int) := rfl
  rw [e] at h
  rw [nlS]
  exact call_gives F.slot_str_count (typeIs_str _ _ _) F.entry_str_count (F.args_str_count_4 _ _ _ _) (gives_count4 x 10 p t u v q) h
theorem rfind_t {x : Str} {p : Int} {t u v q : Tok} {Q : Value → Shared → Prop} (h : Q (.int (nlLast (Pat.t x).cs p) s.toks) { s with toks := s.toks + 1 }) :
    wpAny (model prog w) A (call (.builtin "str.rfind") [.str x t, .str (Str.ofString "\n") u, .int 0 v, .int p q]) Q E s := by
  have e : nlLast (Pat.t x).cs p = lastI 10 (x.cps.toList.take (upto x.length p)) := rfl
  rw [e] at h
  rw [nlS]
  exact call_gives F.slot_str_rfind (typeIs_str _ _ _) F.entry_str_rfind (F.args_str_rfind_4 _ _ _ _) (gives_rfind4 x 10 p t u v q) h
theorem octs_len (b : Array UInt8) : (octs b).length = b.size := by simp [octs]
theorem count_b {x : Array UInt8} {p : Int} {t u v q : Tok} {Q : Value → Shared → Prop} (h : Q (.int (nlBefore (Pat.b x).cs p) s.toks) { s with toks := s.toks + 1 }) :
    wpAny (model prog w) A (call (.builtin "bytes.count") [.bytes x t, .bytes [10].toArray u, .int 0 v, .int p q]) Q E s := by
  have e : nlBefore (Pat.b x).cs p = ((((octs x).take (upto x.size p)).count 10 : Nat) : Int) := by
    unfold nlBefore Pat.cs; rw [octs_len]
  rw [e] at h
  exact call_gives slot_bytes_count (typeIs_bytes _ _ _) entry_bytes_count (args_bytes_count_4 _ _ _ _) (gives_bcount4 x 10 p t u v q) h
theorem rfind_b {x : Array UInt8} {p : Int} {t u v q : Tok} {Q : Value → Shared → Prop} (h : Q (.int (nlLast (Pat.b x).cs p) s.toks) { s with toks := s.toks + 1 }) :
    wpAny (model prog w) A (call (.builtin "bytes.rfind") [.bytes x t, .bytes [10].toArray u, .int 0 v, .int p q]) Q E s := by
  have e : nlLast (Pat.b x).cs p = lastI 10 ((octs x).take (upto x.size p)) := by
    unfold nlLast Pat.cs; rw [octs_len]
  rw [e] at h
  exact call_gives slot_bytes_rfind (typeIs_bytes _ _ _) entry_bytes_rfind (args_bytes_rfind_4 _ _ _ _) (gives_brfind4 x 10 p t u v q) h
theorem meth_count_b {M : Model} {b : Array UInt8} {t : Tok} {pl : Sem Bool} {Q : Value × List Value → Shared → Prop} (h : Q (.builtin "bytes.count", [.bytes b t]) s) : wpAny M A (getMethod (.bytes b t) "count" pl) Q E s := by
  with_reducible exact KBd.method_of (.bytes b t) (typeIs_bytes _ _ _) slot_bytes_count type_bytes_count KBd.noRef h
theorem meth_rfind_b {M : Model} {b : Array UInt8} {t : Tok} {pl : Sem Bool} {Q : Value × List Value → Shared → Prop} (h : Q (.builtin "bytes.rfind", [.bytes b t]) s) : wpAny M A (getMethod (.bytes b t) "rfind" pl) Q E s := by
  with_reducible exact KBd.method_of (.bytes b t) (typeIs_bytes _ _ _) slot_bytes_rfind type_bytes_rfind KBd.noRef h
theorem RunH.perm {h₀ h : Heap} (R : RunH hb l fr V h₀ L m mu im h) (p : mu.Perm mu') : RunH hb l fr V h₀ L m mu' im h :=
  ⟨R.stays, R.ff, R.ns, R.evo, fun q hq => R.hmu q (p.mem_iff.mpr hq), R.him, (p.map _).nodup_iff.mp R.nodup, fun q hq => R.apart q (p.mem_iff.mpr hq), fun q hq => R.offm q (p.mem_iff.mpr hq), R.offi, R.L0, R.sub⟩
theorem callWith_mw1 {M : Model} {x u : Addr} {env : Env} {pos : Pos} {id : String} {first : List Value} {e : Expr} {rest : List Expr} {Q : Value → Shared → Prop}
    (h : wpAny M A (spliced (backTo pos (starEach (e :: rest) env))) (fun vs s₁ => s₁.heap.get? u = some (mwObj id x) ∧ wpAny M A (call (.ref u) (first ++ vs)) Q E s₁) E s)
    (he : starEach (e :: rest) env = (false, eval e env) :: starEach rest env := by rfl) (hplain : (backTo pos (starEach rest env)).any (·.1) = false := by rfl) :
    wpAny M A (callWith pos (.ref u) first (backTo pos (starEach (e :: rest) env)) []) Q E s := by
  rw [he] at h ⊢
  exact callWith_mw (by show (false || (backTo pos (starEach rest env)).any (·.1)) = false; rw [hplain]; rfl) (evalArgs_plain h)
theorem isTup_im {a : Addr} {vs : List Value} (R : Run hb l fr V s₀ L m mu im s) (h : (a, tupO vs) ∈ im) : IsTup s.heap a vs.toArray := ⟨_, R.H.him _ h, rfl, 0, rfl⟩
theorem mod_t {X X' T : Str} {b : Addr} {vs : List Value} {t : Tok} {Q : Value → Shared → Prop} (R : Run hb l fr V s₀ L m mu im s) (hb' : (b, tupO vs) ∈ im) (hX : X = X')
    (hm : Meets («str.__mod__» ⟨[.str X' t, .ref b], []⟩) (fun _ R s => IsTup s.heap b vs.toArray ∧ ∀ t' k, R (.ok (.ret (.str T t'))) { s with toks := k }))
    (h : ∀ t' tk, Q (.str T t') { s with toks := tk }) : wpAny (model prog w) A (binaryOp .Mod (.str X t) (.ref b)) Q E s := by
  subst hX
  have ht := isTup_im R hb'
  have hT : s.TypeIs (.ref b) "tuple" := ⟨_, R.H.him _ hb', rfl⟩
  exact KPt.bin_left (T := "str") (U := "tuple") (op := .Mod) (by decide) (typeIs_str s X t) hT F.fills_str_mod KPt.fills_tuple F.slot_str_mod
    (call_meets F.slot_str_mod (typeIs_str s X t) F.entry_str_mod (F.args_str_mod_2 _ _) hm ⟨ht, fun t' k => ⟨(fun e => nomatch e), h t' _⟩⟩)
theorem mod_at {b : Addr} {y : Str} {ty tn t : Tok} {n : Int} {Q : Value → Shared → Prop} (R : Run hb l fr V s₀ L m mu im s) (hb' : (b, tupO [.str y ty, .int n tn]) ∈ im) (hy : y.length ≤ 1000000) (hn : n.natAbs < 10 ^ 10)
    (h : ∀ t' tk, Q (.str (wordsAt y n) t') { s with toks := tk }) : wpAny (model prog w) A (binaryOp .Mod (.str (Str.ofString "%s at position %d") t) (.ref b)) Q E s :=
  mod_t R hb' (by decide +kernel) (fmt_at hy hn) h
theorem mod_lc {b : Addr} {y : Str} {ty tn tc t : Tok} {n c : Int} {Q : Value → Shared → Prop} (R : Run hb l fr V s₀ L m mu im s) (hb' : (b, tupO [.str y ty, .int n tn, .int c tc]) ∈ im) (hy : y.length ≤ 1000000) (hn : n.natAbs < 10 ^ 10) (hc : c.natAbs < 10 ^ 10)
    (h : ∀ t' tk, Q (.str (wordsLC y n c) t') { s with toks := tk }) : wpAny (model prog w) A (binaryOp .Mod (.str (Str.ofString "%s (line %d, column %d)") t) (.ref b)) Q E s :=
  mod_t R hb' (by decide +kernel) (fmt_lc hy hn hc) h
end

theorem str_app_len (a b : Str) : (a ++ b).length = a.length + b.length := by
  show (a ++ b).cps.size = a.cps.size + b.cps.size
  rw [Str.cps_append, Array.size_append]
theorem wordsAt_len {m : Str} {p : Int} (h : m.length ≤ 900000) (hp : p.natAbs < 10 ^ 10) : (wordsAt m p).length ≤ 900030 := by
  unfold wordsAt
  rw [str_app_len, str_app_len]
  have := numT_len hp
  have e : (Str.ofString " at position ").length = 13 := by decide +kernel
  omega
theorem nlBefore_le (cs : List Nat) (p : Int) : 0 ≤ nlBefore cs p ∧ nlBefore cs p ≤ cs.length := by
  unfold nlBefore
  have h := List.count_le_length (a := 10) (l := cs.take (upto cs.length p))
  rw [List.length_take] at h
  omega
theorem nlLast_le (cs : List Nat) (p : Int) : -1 ≤ nlLast cs p ∧ nlLast cs p ≤ cs.length := by
  unfold nlLast lastI
  have h := tailLen_le 10 (cs.take (upto cs.length p))
  have h2 : (cs.take (upto cs.length p)).length ≤ cs.length := by rw [List.length_take]; omega
  omega
theorem line_ok {cs : List Nat} {p : Int} (h : cs.length < 10 ^ 5) : (nlBefore cs p + 1).natAbs < 10 ^ 10 := by
  have := nlBefore_le cs p
  omega
theorem col_ok {cs : List Nat} {p : Int} (h : cs.length < 10 ^ 5) (hp : p.natAbs < 10 ^ 9) : (p - nlLast cs p).natAbs < 10 ^ 10 := by
  have := nlLast_le cs p
  omega

structure Hold (P : Prop) : Prop where
  out : P
theorem stepAt {M : Model} {A : Around} {c : Code} {E : Value → Shared → Prop} {s : Shared} {env : Env} {st : Stmt} {rest : List Stmt} {Q : Flow → Shared → Prop}
    (h : wpAny M A (exec st env) (fun f s' => match f with | .next => Hold (PySem.wpAt M A c (execs rest env) Q E s') | f => Q f s') E s) :
    PySem.wpAt M A c (execs (st :: rest) env) Q E s :=
  ks_wpAt_execs_cons (wpAt_of_wpAny (wpAny_mono h (fun f s' h' => by cases f <;> first | exact h'.out | exact h') fun _ _ z => z))
end Mine
end

noncomputable section
open PySem PySem.W PySem.Calls PyProof.Rows PySem.Builtin
set_option maxRecDepth 100000
namespace Mine
section
variable {prog : Program} {w : World} {A : Around} {E : Value → Shared → Prop} {s s₀ : Shared} {hb : Heap} {l : List Env} {fr V : List Addr} {L : Addr} {m : Vars} {mu mu' im : List (Addr × Obj)}
end
end Mine
end

noncomputable section
open PySem PySem.W PySem.Calls PyProof.Rows PySem.Builtin PySem.Builtin._codecs
set_option maxRecDepth 100000
namespace Mine
section
/-- octets as a text, one sign each -/
noncomputable def latin (b : Array UInt8) : Str := ⟨(octs b).toArray⟩
theorem octs_get {b : Array UInt8} {p : Nat} (h : p < b.size) : (octs b)[p]? = some (b.getD p 0).toNat := by
  simp [octs, h, Array.getD]
theorem octs_take {b : Array UInt8} {p : Nat} (h : p < b.size) : (octs b).take (p + 1) = (octs b).take p ++ [(b.getD p 0).toNat] := by
  rw [List.take_add_one, octs_get h]; rfl
theorem forIn_list {σ : Type} {f : Nat → σ → Sem (ForInStep σ)} {st : Nat → σ} : ∀ (n k : Nat), (∀ i, k ≤ i → i < k + n → f i (st i) = pure (.yield (st (i + 1)))) → forIn (List.range' k n 1) (st k) f = pure (st (k + n))
  | 0, k, _ => rfl
  | n + 1, k, h => by
    rw [List.range'_succ, List.forIn_cons, h k (Nat.le_refl _) (by omega), pure_bind]
    show forIn (List.range' (k + 1) n 1) (st (k + 1)) f = _
    rw [forIn_list n (k + 1) (fun i h1 h2 => h i (by omega) (by omega)), show k + 1 + n = k + (n + 1) from by omega]
theorem forIn_upto {σ : Type} {f : Nat → σ → Sem (ForInStep σ)} (st : Nat → σ) {n : Nat} (h : ∀ i, i < n → f i (st i) = pure (.yield (st (i + 1)))) : forIn [:n] (st 0) f = pure (st n) := by
  rw [KPc.range_list, forIn_list n 0 (fun i _ h2 => h i (by omega)), Nat.zero_add]
theorem latin_len (b : Array UInt8) : (latin b).length = b.size := by simp [latin, Str.length, octs]
theorem dec_eq (id : String) (d : Decoder) (errors : Option Str) (b : Array UInt8) (held : List Value) (hd : ∀ p, p < b.size → d.find true b p = .text [(b.getD p 0).toNat] (p + 1)) (hs : b.size ≤ sizeLine) :
    runDecoder id d errors true b 0 held = pure ((latin b).cps, b.size) := by
  have hl : (octs b).take b.size = octs b := List.take_of_length_le (by simp [octs])
  unfold runDecoder
  refine (congrArg (fun x => x >>= _) (forIn_upto (fun i => (i, ((octs b).take i).toArray, ({ held := held } : Faults))) (n := b.size) ?_)).trans ?_
  · intro i hi
    dsimp only
    have hz : ¬ ((octs b).take i).toArray.size > sizeLine := by
      simp only [List.size_toArray, List.length_take]; omega
    rw [if_neg hz, if_neg (by omega), hd i hi]
    dsimp only
    rw [octs_take hi]
    simp
  · rw [pure_bind, hl]; rfl

section
variable {b : Array UInt8} {c : UInt8} {cs : List UInt8} {t u : Tok}
theorem road_latin {id : String} : decodeRoad id b (Str.ofString "latin1") none [] = (runDecoder id latin1Decoder none true b 0 [] >>= fun r => mkStr ⟨r.1⟩) := by kernel_rfl
theorem road_ascii {id : String} : decodeRoad id b (Str.ofString "ascii") none [] = (runDecoder id asciiDecoder none true b 0 [] >>= fun r => mkStr ⟨r.1⟩) := by kernel_rfl
theorem meets_text2 {e x : Str} {n : Nat} {dd : Decoder} {t1 t2 : Tok} {d : Str} (hr : ∀ id, decodeRoad id b e none [] = (runDecoder id dd none true b 0 [] >>= fun r => mkStr ⟨r.1⟩)) (hd : ∀ id, runDecoder id dd none true b 0 [] = pure (x.cps, n)) :
    Meets («_codecs.decode.text» ⟨[.bytes b t, .str e t1, .none, .str d t2], []⟩) (fun _ R s => x.length ≤ sizeLine ∧ R (.ok (.ret (.str x s.toks))) { s with toks := s.toks + 1 }) := by
  refine .of_wp fun prog w A R s hS => ?_
  obtain ⟨hsz, h⟩ := hS
  show wpAny _ _ (Bytes.bytesLike _ (.bytes b t) >>= fun r => _) _ _ s
  refine wpAny_bind (wpAny_of_eq KBd.like_eq ?_)
  refine wpAny_bind (wpAny_of_eq KBd.held_eq ?_)
  show wpAny _ _ (decodeRoad _ b e none [] >>= fun v => _) _ _ s
  rw [hr, hd]
  refine wpAny_bind (wpAny_bind (wpAny_pure ?_))
  exact wpAny_mkStr (wpAny_pure ⟨_, rfl, h⟩) hsz
theorem decode_pos : «bytes.decode» ⟨[.bytes (c :: cs).toArray t, .str (Str.ofString "ascii") u], []⟩ = (mkStr (Str.ofString "utf-8") >>= fun _ => mkStr (Str.ofString "ascii") >>= fun e => mkStr (Str.ofString "bytes.decode") >>= fun d =>
    call (.builtin "_codecs.decode.text") [.bytes (c :: cs).toArray t, e, .none, d] >>= fun v => ret v) := by kernel_rfl
theorem decode_kw : «bytes.decode» ⟨[.bytes (c :: cs).toArray t], [(Str.ofString "encoding", .str (Str.ofString "latin1") u)]⟩ = (mkStr (Str.ofString "utf-8") >>= fun _ => mkStr (Str.ofString "latin1") >>= fun e => mkStr (Str.ofString "bytes.decode") >>= fun d =>
    call (.builtin "_codecs.decode.text") [.bytes (c :: cs).toArray t, e, .none, d] >>= fun v => ret v) := by kernel_rfl
theorem args_decode_2 (a b : Value) : argsOk "bytes.decode" ⟨[a, b], []⟩ := by
  unfold argsOk; rw [signature?_of (id := "bytes.decode") (n := ['e', 'd', 'o', 'c', 'e', 'd']) (o := ['s', 'e', 't', 'y', 'b']) (by kernel_rfl) FB.owner_bytes]; kernel_rfl
theorem args_decode_kw (a b : Value) : argsOk "bytes.decode" ⟨[a], [(Str.ofString "encoding", b)]⟩ := by
  unfold argsOk; rw [signature?_of (id := "bytes.decode") (n := ['e', 'd', 'o', 'c', 'e', 'd']) (o := ['s', 'e', 't', 'y', 'b']) (by kernel_rfl) FB.owner_bytes]; kernel_rfl
end

section
variable {prog : Program} {w : World} {A : Around} {E : Value → Shared → Prop} {s s₀ : Shared} {hb : Heap} {l : List Env} {fr V : List Addr} {L : Addr} {m : Vars} {mu mu' im : List (Addr × Obj)}
theorem latin_find (b : Array UInt8) : ∀ p, p < b.size → latin1Decoder.find true b p = .text [(b.getD p 0).toNat] (p + 1) := fun _ _ => rfl
theorem ascii_find {b : Array UInt8} (h : ∀ p, p < b.size → (b.getD p 0).toNat < 128) : ∀ p, p < b.size → asciiDecoder.find true b p = .text [(b.getD p 0).toNat] (p + 1) := fun p hp => by
  show (if (b.getD p 0).toNat < 128 then Found.char _ _ else _) = _
  rw [if_pos (h p hp)]; rfl
theorem cons_of {b : Array UInt8} (h : b.size ≠ 0) : ∃ c cs, b = (c :: cs).toArray := by
  obtain ⟨l⟩ := b
  cases l with
  | nil => exact absurd rfl h
  | cons c cs => exact ⟨c, cs, rfl⟩
theorem decode_ascii {b : Array UInt8} {t u : Tok} {Q : Value → Shared → Prop} (hne : b.size ≠ 0) (h128 : ∀ p, p < b.size → (b.getD p 0).toNat < 128) (hs : b.size ≤ 16777216)
    (h : ∀ u tk, Q (.str (latin b) u) { s with toks := tk }) : wpAny (model prog w) A (call (.builtin "bytes.decode") [.bytes b t, .str (Str.ofString "ascii") u]) Q E s := by
  have hs' : b.size ≤ sizeLine := by rw [sizeLine_eq]; exact hs
  have hd := fun id => dec_eq id asciiDecoder none b [] (ascii_find h128) hs'
  obtain ⟨c, cs, rfl⟩ := cons_of hne
  have mt : Meets («bytes.decode» ⟨[.bytes (c :: cs).toArray t, .str (Str.ofString "ascii") u], []⟩) (fun _ R s => ∀ t' k, R (.ok (.ret (.str (latin (c :: cs).toArray) t'))) { s with toks := k }) := by
    refine .of_wp fun prog w A R s hS => ?_
    rw [decode_pos]
    refine wpAny_bind (wpAny_mkStr ?_ (by decide +kernel))
    refine wpAny_bind (wpAny_mkStr ?_ (by decide +kernel))
    refine wpAny_bind (wpAny_mkStr ?_ (by decide +kernel))
    exact wpAny_bind (call_function_meets KBd.kind_text KBd.plain_text KBd.entry_text (KBd.args_text _ _ _ _) (meets_text2 (fun _ => road_ascii) hd) ⟨by rw [latin_len]; exact hs', wpAny_pure ⟨_, rfl, hS _ _⟩⟩)
  exact call_meets FB.slot_bytes_decode (typeIs_bytes _ _ _) FB.entry_bytes_decode (args_decode_2 _ _) mt fun t' k => h _ _
theorem str_latin {b : Array UInt8} {t u : Tok} {Q : Value → Shared → Prop} (hne : b.size ≠ 0) (hs : b.size ≤ 16777216)
    (h : ∀ u tk, Q (.str (latin b) u) { s with toks := tk }) : wpAny (model prog w) A (call (.type "str") [.bytes b t, .str (Str.ofString "latin1") u]) Q E s := by
  have hs' : b.size ≤ sizeLine := by rw [sizeLine_eq]; exact hs
  have hd := fun id => dec_eq id latin1Decoder none b [] (latin_find b) hs'
  obtain ⟨c, cs, rfl⟩ := cons_of hne
  have mt : Meets («str.__new__» ⟨[.type "str", .bytes (c :: cs).toArray t, .str (Str.ofString "latin1") u], []⟩) (fun _ R s => ∀ t' k, R (.ok (.ret (.str (latin (c :: cs).toArray) t'))) { s with toks := k }) := by
    refine .of_wp fun prog w A R s hS => ?_
    unfold «str.__new__»
    refine wpAny_bind (wpAny_pure ?_)
    refine wpAny_bind (wpAny_of_eq isSubtype_str_str ?_)
    refine wpAny_bind (wpAny_of_eq (a := [some (.bytes (c :: cs).toArray t), some (.str (Str.ofString "latin1") u), none]) (by kernel_rfl) ?_)
    refine wpAny_bind (wpAny_of_eq (a := some (Str.ofString "latin1")) (by kernel_rfl) ?_)
    refine wpAny_bind (wpAny_of_eq (a := none) (by kernel_rfl) ?_)
    refine wpAny_bind (m := (_ : Sem Value)) ?_
    refine wpAny_bind (wpAny_bind (wpAny_mkStr (wpAny_pure ?_) (by decide +kernel)))
    refine wpAny_bind (wpAny_pure ?_)
    refine wpAny_bind (wpAny_of_eq KBy.isInstance_eq ?_)
    refine wpAny_bind (wpAny_rule ?_)
    refine wpAny_call ?_
    refine codeAny_call_builtin FB.slot_bytes_decode.plain FB.entry_bytes_decode (FB.slot_bytes_decode.check _ _ _ _ _ _ _ _ (typeIs_bytes _ _ _) (args_decode_kw _ _) ?_)
    show wpAny _ _ («bytes.decode» ⟨[.bytes (c :: cs).toArray t], [(Str.ofString "encoding", .str (Str.ofString "latin1") s.toks)]⟩) _ _ _
    rw [decode_kw]
    refine wpAny_bind (wpAny_mkStr ?_ (by decide +kernel))
    refine wpAny_bind (wpAny_mkStr ?_ (by decide +kernel))
    refine wpAny_bind (wpAny_mkStr ?_ (by decide +kernel))
    refine wpAny_bind (call_function_meets KBd.kind_text KBd.plain_text KBd.entry_text (KBd.args_text _ _ _ _) (meets_text2 (fun _ => road_latin) hd) ⟨by rw [latin_len]; exact hs', wpAny_pure ?_⟩)
    exact wpAny_pure ⟨_, rfl, hS _ _⟩
  refine callType_new PySem.F.called_str (by decide) (by kernel_rfl) (by kernel_rfl) (fun obj => by unfold argsOk; kernel_rfl) PySem.F.entry_str_new mt (fun t' k => ⟨typeIs_str _ _ _, h _ _⟩)
end
end
end Mine
end

noncomputable section
open PySem PySem.W PySem.Calls PyProof.Rows PySem.Builtin PySem.Builtin._codecs
set_option maxRecDepth 100000
namespace Mine
/-- what encode('ascii', 'backslashreplace') makes of a text -/
noncomputable def EncIs (x : Str) (b : Array UInt8) : Prop := ∀ (M : Model) (A : Around) (E : Value → Shared → Prop) (s : Shared) (Q : Array UInt8 → Shared → Prop) (u : Tok), Q b s →
  wpAny M A (encodeNarrow "str.encode" asciiCodec (some (Str.ofString "backslashreplace")) (.str x u) x) Q E s
theorem encIs_of {x : Str} {b : Array UInt8} (h : ∀ (S : Setting) u, peek [] S (encodeNarrow "str.encode" asciiCodec (some (Str.ofString "backslashreplace")) (.str x u) x) = some b) : EncIs x b :=
  fun _M _A _E s _Q u q => (Looks.of_peek (h := s.heap) (fun _ _ e => by cases e) (h _ u)).here q
section
variable {prog : Program} {w : World} {A : Around} {E : Value → Shared → Prop} {s s₀ : Shared} {hb : Heap} {l : List Env} {fr V : List Addr} {L : Addr} {m : Vars} {mu mu' im : List (Addr × Obj)}
theorem encode_eq {x : Str} {t u v : Tok} : «str.encode» ⟨[.str x t, .str (Str.ofString "ascii") u, .str (Str.ofString "backslashreplace") v], []⟩ =
    ((encodeNarrow "str.encode" asciiCodec (some (Str.ofString "backslashreplace")) (.str x t) x >>= fun b => mkBytes b) >>= fun r => ret r) := by kernel_rfl
theorem slot_str_encode' : Slot "str" "encode" "str.encode" :=
  .of (owner := "str") (n := "encode") (by rw [typeLookup_type, builtinLookup_eq_fast]; kernel_rfl) (by decide +kernel) (by decide +kernel) (by decide +kernel)
    (by first | exact .inl (by decide +kernel) | exact .inr (by decide +kernel)) (by rw [isSubtype_type]; kernel_rfl)
theorem type_str_encode' : typeOf (.builtin "str.encode") = pure (.type "method_descriptor") := by show builtinType _ = _; rw [builtinType_eq_fast]; kernel_rfl
theorem entry_str_encode' : entryFor table "str.encode" = some Builtin.«str.encode» := entryFor_of_tree (by kernel_rfl)
theorem args_str_encode_3 (a b c : Value) : argsOk "str.encode" ⟨[a, b, c], []⟩ := by
  unfold argsOk; rw [signature?_of (id := "str.encode") (n := ['e', 'd', 'o', 'c', 'n', 'e']) (o := ['r', 't', 's']) (by kernel_rfl) F.owner_str]; kernel_rfl
theorem encode_r {x : Str} {b : Array UInt8} {t u v : Tok} {Q : Value → Shared → Prop} (he : EncIs x b) (hs : b.size ≤ 16777216)
    (h : ∀ u tk, Q (.bytes b u) { s with toks := tk }) : wpAny (model prog w) A (call (.builtin "str.encode") [.str x t, .str (Str.ofString "ascii") u, .str (Str.ofString "backslashreplace") v]) Q E s := by
  have hs' : b.size ≤ sizeLine := by rw [sizeLine_eq]; exact hs
  have mt : Meets («str.encode» ⟨[.str x t, .str (Str.ofString "ascii") u, .str (Str.ofString "backslashreplace") v], []⟩) (fun _ R s => ∀ t' k, R (.ok (.ret (.bytes b t'))) { s with toks := k }) := by
    refine .of_wp fun prog w A R s hS => ?_
    rw [encode_eq]
    refine wpAny_bind (wpAny_bind (he _ _ _ _ _ _ ?_))
    exact wpAny_mkBytes (wpAny_pure ⟨_, rfl, hS _ _⟩) hs'
  exact call_meets slot_str_encode' (typeIs_str _ _ _) entry_str_encode' (args_str_encode_3 _ _ _) mt fun t' k => h _ _
theorem meth_encode {M : Model} {x : Str} {t : Tok} {pl : Sem Bool} {Q : Value × List Value → Shared → Prop} (h : Q (.builtin "str.encode", [.str x t]) s) : wpAny M A (getMethod (.str x t) "encode" pl) Q E s :=
  getMethod_builtin (typeIs_str _ _ _) F.plainAttrs_str slot_str_encode' type_str_encode' (fun _ e => nomatch e) h
theorem meth_decode {M : Model} {b : Array UInt8} {t : Tok} {pl : Sem Bool} {Q : Value × List Value → Shared → Prop} (h : Q (.builtin "bytes.decode", [.bytes b t]) s) : wpAny M A (getMethod (.bytes b t) "decode" pl) Q E s := KBd.method h
end
end Mine
end

noncomputable section
open PySem PySem.W PySem.Calls PyProof.Rows PySem.Builtin PySem.Builtin._codecs
set_option maxRecDepth 100000
namespace Mine
section
variable {hb : Heap} {s₀ s s' : Shared} {l : List Env} {fr V : List Addr} {L L' : Addr} {m m' : Vars} {mu mu1 mu' muN im im1 im' nw : List (Addr × Obj)} {env : Env}
end
section
variable {prog : Program} {w : World} {A : Around} {E : Value → Shared → Prop} {s : Shared} {K : Frag} {p : Program} {loose : List Str} {mg mb : Str → Option Value} {hb : Heap} {env : Env} {pos : Pos}
end
end Mine
end

noncomputable section
open PySem PySem.W PySem.Calls PyProof.Rows PySem.Builtin PySem.Builtin._codecs
set_option maxRecDepth 100000
namespace Mine
section
variable {prog : Program} {w : World} {A : Around} {E : Value → Shared → Prop} {s s₀ : Shared} {hb : Heap} {l : List Env} {fr V : List Addr} {L : Addr} {m : Vars} {mu mu' im : List (Addr × Obj)}
  {K : Frag} {p : Program} {loose : List Str} {mg mb : Str → Option Value} {C fI : Addr} {rest : List Value}
/-- making an object of an own class -/
theorem make_r {Q : Value → Shared → Prop} (R : Run hb l fr V s₀ L m mu im s) (S : Sta K p loose mg mb hb) (hm : makesIn K C = true)
    (hi : findIn K (.ref C) "__init__" = some (some (.ref fI))) (hf : typeIn K (.ref fI) = some (.type "function"))
    (h : ∀ (B : Around) x dx s', B.depth = A.depth + 1 → B.frames = A.frames → B.handled = A.handled → B.units ≤ A.units + 15 → s.heap.get? x = none → s.heap.get? dx = none → Run hb l fr V s₀ L m ((dx, dictOf [] 0) :: mu) ((x, instObj C dx) :: im) s' →
      codeAny (model prog w) B (.call (.ref fI) ⟨.ref x :: rest, []⟩) (InitBack x (fun r s' => match r with | .ok (.ret v) => Q v s' | .ok _ => False | .error e => E e s')) s') :
    wpAny (model prog w) A (call (.ref C) rest) Q E s := by
  refine wpAny_call ?_
  have X := R.kin S
  have R0 := R
  obtain ⟨hh, g, d, t, os⟩ := s
  refine make_core (makes_of X hm) (looks_findIn X hi) (fun self => bind_fn X self hf) (.inl rfl) (h _ _ hh.objs.size _ rfl under_frames rfl under_units ?_ (get_size hh) ?_)
  · cases q : hh.get? (hh.objs.size + 1) with
    | none => rfl
    | some o => exact absurd (Heap.lt_size q) (Nat.not_lt.mpr (Nat.le_succ _))
  exact ⟨(R0.H.pushM emptyDict rfl).push (instObj C hh.objs.size) rfl |> fun z => by
    have e : (hh.push emptyDict).objs.size = hh.objs.size + 1 := by simp [Heap.push]
    rw [e] at z; exact z, R0.oth⟩
end
end Mine
end

noncomputable section
open PySem PySem.W PySem.Calls PyProof.Rows PySem.Builtin
set_option maxRecDepth 100000
namespace Mine
section
open Bytes
/-- octets, one value each -/
inductive BytesAre : List Value → List (Array UInt8) → Prop
  | nil : BytesAre [] []
  | cons {vs l} (b : Array UInt8) (t : Tok) : BytesAre vs l → BytesAre (.bytes b t :: vs) (b :: l)
section
variable {M : Model} {A : Around} {E : Value → Shared → Prop} {s : Shared}
end
theorem slot_bytes_split : Slot "bytes" "split" "bytes.split" :=
  .of (owner := "bytes") (n := "split") (by rw [typeLookup_type, builtinLookup_eq_fast]; kernel_rfl) (by decide +kernel) (by decide +kernel) (by decide +kernel)
    (by first | exact .inl (by decide +kernel) | exact .inr (by decide +kernel)) (by rw [isSubtype_type]; kernel_rfl)
theorem type_bytes_split : typeOf (.builtin "bytes.split") = pure (.type "method_descriptor") := by show builtinType _ = _; rw [builtinType_eq_fast]; kernel_rfl
theorem meth_split_b {M : Model} {A : Around} {E : Value → Shared → Prop} {s : Shared} {b : Array UInt8} {t : Tok} {pl : Sem Bool} {Q : Value × List Value → Shared → Prop} (h : Q (.builtin "bytes.split", [.bytes b t]) s) : wpAny M A (getMethod (.bytes b t) "split" pl) Q E s := by
  with_reducible exact KBd.method_of (.bytes b t) (typeIs_bytes _ _ _) slot_bytes_split type_bytes_split KBd.noRef h
end
end Mine
end

noncomputable section
open PySem PySem.W PySem.Calls PyProof.Rows PySem.Builtin PySem.Builtin._codecs
set_option maxRecDepth 100000
namespace Mine
/-- the one text that is asked: here -/
noncomputable def hereL : List Nat := [104, 101, 114, 101]
noncomputable def encL (x : List Nat) : Option (List Nat) := if x = hereL then some x else none
theorem encL_e {x y : List Nat} (h : encL x = some y) : x = hereL ∧ y = x := by
  unfold encL at h
  by_cases z : x = hereL
  · rw [if_pos z] at h; exact ⟨z, (Option.some.inj h).symm⟩
  · rw [if_neg z] at h; cases h
theorem encL_lt {x y : List Nat} (h : encL x = some y) : ∀ d ∈ y, d < 128 := by
  obtain ⟨rfl, rfl⟩ := encL_e h
  decide
theorem enc_ok {x y : List Nat} (h : encL x = some y) (_hs : y.length ≤ 16777216) : ∃ b : Array UInt8, EncIs ⟨x.toArray⟩ b ∧ octs b = y ∧ b.size ≤ 16777216 := by
  obtain ⟨rfl, rfl⟩ := encL_e h
  exact ⟨#[104, 101, 114, 101], encIs_of fun S u => by kernel_rfl, rfl, by decide⟩
section
variable {prog : Program} {w : World} {A : Around} {E : Value → Shared → Prop} {s : Shared}
theorem decode_nil {t u : Tok} : «bytes.decode» ⟨[.bytes #[] t, .str (Str.ofString "ascii") u], []⟩ = (rule "bytes.decode.empty" >>= fun _ => mkStr Str.empty >>= fun v => ret v) := by kernel_rfl
theorem decode_all {b : Array UInt8} {t u : Tok} {Q : Value → Shared → Prop} (h128 : ∀ p, p < b.size → (b.getD p 0).toNat < 128) (hs : b.size ≤ 16777216)
    (h : ∀ u tk, Q (.str (latin b) u) { s with toks := tk }) : wpAny (model prog w) A (call (.builtin "bytes.decode") [.bytes b t, .str (Str.ofString "ascii") u]) Q E s := by
  by_cases z : b.size = 0
  · cases Array.eq_empty_of_size_eq_zero z
    have mt : Meets («bytes.decode» ⟨[.bytes #[] t, .str (Str.ofString "ascii") u], []⟩) (fun _ R s => ∀ t' k, R (.ok (.ret (.str (latin #[]) t'))) { s with toks := k }) := by
      refine .of_wp fun prog w A R s hS => ?_
      rw [decode_nil]
      refine wpAny_bind (wpAny_rule ?_)
      exact wpAny_bind (wpAny_mkStr (wpAny_pure ⟨_, rfl, hS _ _⟩) (by decide +kernel))
    exact call_meets FB.slot_bytes_decode (typeIs_bytes _ _ _) FB.entry_bytes_decode (args_decode_2 _ _) mt fun t' k => h _ _
  · exact decode_ascii z h128 hs h
end
end Mine
end

noncomputable section
open PySem PySem.W PySem.Calls PyProof.Rows PySem.Builtin
set_option maxRecDepth 100000
namespace Mine
/-- a key that is a text or None -/
noncomputable def isOpt : Option Str → Value → Bool
  | none, .none => true
  | some x, .str y _ => y == x
  | _, _ => false
theorem isOpt_none {v : Value} (h : isOpt none v = true) : v = .none := by
  cases v <;> first | rfl | cases h
theorem isOpt_some {x : Str} {v : Value} (h : isOpt (some x) v = true) : ∃ t, v = .str x t := by
  cases v <;> first | cases h; done | exact ⟨_, by rw [eq_of_beq h]⟩
theorem slot_none_hash : Slot "NoneType" "__hash__" "NoneType.__hash__" :=
  .of (owner := "NoneType") (n := "__hash__") (by rw [typeLookup_type, builtinLookup_eq_fast]; kernel_rfl) (by decide +kernel) (by decide +kernel) (by decide +kernel)
    (by first | exact .inl (by decide +kernel) | exact .inr (by decide +kernel)) (by rw [isSubtype_type]; kernel_rfl)
theorem entry_none_hash : entryFor table "NoneType.__hash__" = some Builtin.«NoneType.__hash__» := entryFor_of_tree (by kernel_rfl)
theorem args_none_hash (a : Value) : argsOk "NoneType.__hash__" ⟨[a], []⟩ := by unfold argsOk; kernel_rfl
section
variable {prog : Program} {w : World} {A : Around} {E : Value → Shared → Prop} {s : Shared}
theorem hash_none {Q : Int → Shared → Prop} (h : Q 0xFCA86420 { s with toks := s.toks + 1 }) : wpAny (model prog w) A (pyHash .none) Q E s := by
  unfold pyHash
  have hv : [Value.none].any Value.onHeap = false := rfl
  refine wpAny_bind ?_
  rw [cRoomFor, if_neg (by rw [hv]; exact Bool.false_ne_true)]; refine wpAny_pure ?_
  refine wpAny_bind (wpAny_specialOf rfl slot_none_hash.lookup ?_)
  show wpAny _ _ (if (some (Value.builtin "NoneType.__hash__") == some Value.none) = true then _ else _) Q E s
  rw [if_neg (by rw [beq_builtin_none]; exact Bool.false_ne_true)]
  refine wpAny_bind (wpAny_specialOf rfl slot_none_hash.lookup ?_)
  show wpAny _ _ (callSpecialIfBoundUnlessNone? .none "__hash__" _ >>= _) Q E s
  refine wpAny_bind (wpAny_callSpecialIfBoundUnlessNone?_slot rfl slot_none_hash
    (wpAny_call_entry slot_none_hash rfl entry_none_hash
      (show wpAny _ _ (do ret (← mkInt 0xFCA86420)) _ _ s from wpAny_ret_mkInt ?_) (args_none_hash _)))
  show wpAny _ _ (if (decide (-(2 : Int) ^ 63 ≤ 0xFCA86420) && decide ((0xFCA86420 : Int) < 2 ^ 63)) = true then _ else _) Q E _
  rw [if_pos (by decide)]
  exact wpAny_pure h
theorem eq_none {Q : Bool → Shared → Prop} (h : Q true s) : wpAny (model prog w) A (eqBool .none .none) Q E s := by
  unfold eqBool
  refine wpAny_holding ?_
  rw [if_pos (by decide)]
  exact wpAny_bind (wpAny_rule (wpAny_pure h))
end
noncomputable def hashOpt (P : Params) : Option Str → Int
  | none => 0xFCA86420
  | some x => if x.cps.isEmpty = true then 0 else reduceHash (P.strHash x.cps)
noncomputable def optKind (prog : Program) (w : World) : KeyKind prog w (Option Str) where
  is := isOpt
  hash := hashOpt w.params
  inj := fun v a b ha hb => by
    cases a with
    | none => cases isOpt_none ha; cases b <;> first | rfl | cases hb
    | some x =>
      obtain ⟨t, rfl⟩ := isOpt_some ha
      cases b with
      | none => cases hb
      | some y => exact congrArg some (eq_of_beq hb)
  byValue := fun k v h => by
    cases k with
    | none => cases isOpt_none h; rfl
    | some x => obtain ⟨t, rfl⟩ := isOpt_some h; rfl
  pyHash := fun {A E s k v Q} hv h => by
    cases k with
    | none => cases isOpt_none hv; exact hash_none h
    | some x => obtain ⟨t, rfl⟩ := isOpt_some hv; exact wpAny_pyHash_str h
  eqBool := fun {A E s a b u v Q} hu hv h => by
    cases a with
    | none =>
      cases isOpt_none hu
      cases b with
      | none => cases isOpt_none hv; exact eq_none (by simpa using h)
      | some y => obtain ⟨t, rfl⟩ := isOpt_some hv; exact PySem.SeqAt.EqAt.none_str _ _ _ _ _ _ (by simpa using h)
    | some x =>
      obtain ⟨t, rfl⟩ := isOpt_some hu
      cases b with
      | none => cases isOpt_none hv; exact PySem.SeqAt.EqAt.str_none _ _ _ _ _ _ (by simpa using h)
      | some y => obtain ⟨t', rfl⟩ := isOpt_some hv; exact wpAny_eqBool_str (by simpa using h)
  «strs» := fun k x t v h => by
    cases k with
    | none => cases h
    | some y =>
      cases eq_of_beq h
      cases v <;> rfl
theorem isOpt_scan {k : Option Str} {v : Value} (h : isOpt k v = true) : v.scannable = true := by
  cases k with
  | none => cases isOpt_none h; rfl
  | some x => obtain ⟨t, rfl⟩ := isOpt_some h; rfl
noncomputable def KeysAre : List (Option Str) → List Value → Prop
  | [], vs => vs = []
  | k :: ks, vs => ∃ v ws, vs = v :: ws ∧ isOpt k v = true ∧ KeysAre ks ws
section
variable {prog : Program} {w : World} {A : Around} {E : Value → Shared → Prop} {d : Addr} {Q : Value → Shared → Prop} {u : Bool}
theorem unled_ok {s : Shared} {o : Obj} {S : Option Str → Bool} {n : Nat} {Q : Unit → Shared → Prop} (ho : s.heap.get? d = some o) (hso : o.SetObjOf (optKind prog w) S n) (hb : n < scanBound)
    (h : ∀ h' o', Heap.SameBut d s.heap h' → h'.get? d = some o' → o'.SetObjOf (optKind prog w) S n → Q () { s with heap := h' }) : wpAny (model prog w) A (setUnled d) Q E s := by
  obtain ⟨hex, es, ep, t, hd, hel, hmem, hn, hf⟩ := hso
  have hb' : es.size < scanBound := by rw [hn]; exact hb
  have hf' : ({ t with led := false } : SetTable).fits es.size = true := by cases t; exact hf
  unfold setUnled
  refine wpAny_bind (wpAny_setState_of ho hd hf ?_)
  dsimp only
  refine wpAny_storeSet_of ho hd ?_ (fits_of_scanBound hb')
  obtain ⟨_, hS⟩ := SetOf_store (knd := optKind prog w) ho hex hd hel hmem hb' hf'
  obtain ⟨so', ho', hso'⟩ := hS.objOf
  rw [hn] at hso'
  exact h _ so' (Heap.SameBut.update s.heap d (Obj.putSet es { t with led := false })) ho' hso'
theorem fill_ok {s₀ : Shared} (hd : s₀.heap.get? d = none) : ∀ {vs : List Value} {ks : List (Option Str)} {s : Shared} {o : Obj} {S : Option Str → Bool} {n : Nat}, KeysAre ks vs → s.heap.get? d = some o → o.SetObjOf (optKind prog w) S n → n + vs.length + 1 < scanBound →
    (∀ b o, s₀.heap.get? b = some o → s.heap.get? b = some o) →
    (∀ h' o' m tk, h'.get? d = some o' → o'.SetObjOf (optKind prog w) (fun k => S k || decide (k ∈ ks)) m → m < scanBound → (∀ b o, s₀.heap.get? b = some o → h'.get? b = some o) → Q (.ref d) { s with heap := h', toks := tk }) →
    KdsFill (model prog w) A E u d Q vs s
  | [], [], s, o, S, n, _, ho, hso, hb, kp, h => by
    have e : (fun k => S k || decide (k ∈ ([] : List (Option Str)))) = S := by funext k; simp
    rw [e] at h
    cases hu : u with
    | false => exact kds_fill_nil rfl (h s.heap o n s.toks ho hso (by omega) kp)
    | true => exact kds_fill_unled rfl (unled_ok ho hso (by omega) fun h' o' sb ho' hso' => h h' o' n s.toks ho' hso' (by omega) fun b x e => (sb.2 b fun z => by rw [z, hd] at e; cases e).trans (kp b x e))
  | [], _ :: _, _, _, _, _, k, _, _, _, _, _ => by obtain ⟨_, _, e, _⟩ := k; cases e
  | v :: vs, [], _, _, _, _, k, _, _, _, _, _ => nomatch (k : v :: vs = [])
  | v :: vs, k :: ks, s, o, S, n, hk, ho, hso, hb, kp, h => by
    obtain ⟨v', ws, e, h1, h2⟩ := hk
    cases e
    rw [List.length_cons] at hb
    refine kds_fill_cons ?_
    unfold setAdd
    refine wpAny_holding (wpAny_bind ((optKind prog w).pyHash h1 ?_))
    refine wpAny_setAddHashed_of (s := { s with toks := s.toks + 1 }) h1 (isOpt_scan h1) (hso.setOf ho (by omega)) (by omega) fun h' hsb hS' => ?_
    obtain ⟨o', ho', hso'⟩ := hS'.objOf
    refine fill_ok hd h2 (s := { s with heap := h', toks := s.toks + 1 }) ho' hso' (by split <;> omega) (fun b x e => (hsb.2 b fun z => by rw [z, hd] at e; cases e).trans (kp b x e)) fun h2 o2 m tk g1 g2 g3 g4 => ?_
    refine h h2 o2 m tk g1 ?_ g3 g4
    have e : (fun j => S j || decide (j ∈ k :: ks)) = fun j => (S j || decide (j = k)) || decide (j ∈ ks) := by
      funext j
      simp only [List.mem_cons, Bool.or_assoc, Bool.decide_or]
    rw [e]
    exact g2
/-- a display of a set -/
theorem Set_made {s : Shared} {env : Env} {elts : List PySem.Expr} {pos : Pos} {ks : List (Option Str)} (hm : ∀ {Q : Bool → Shared → Prop}, (∀ b, Q b s) → wpAny (model prog w) A (inMainModule env) Q E s) (hp : elts.all kdsPlain = true) (hlen : elts.length ≤ 30) (hks : ks.length ≤ 30)
    (hall : ∀ (R : List Value → Shared → Prop) s', (∀ b o, s.heap.get? b = some o → s'.heap.get? b = some o) → s'.gens = s.gens → s'.drawn = s.drawn → s'.os = s.os → (∀ vs tk, KeysAre ks vs → R vs { s' with toks := tk }) → KdsAll (model prog w) A E env elts R s')
    (h : ∀ h' o' m tk, h'.get? s.heap.objs.size = some o' → o'.SetObjOf (optKind prog w) (fun k => decide (k ∈ ks)) m → m < scanBound → (∀ b o, s.heap.get? b = some o → h'.get? b = some o) → Q (.ref s.heap.objs.size) { s with heap := h', toks := tk }) :
    wpAny (model prog w) A (eval (.Set elts 0 pos) env) Q E s := by
  rw [arm_eval_Set]
  refine wpAny_bind (wpAny_standAt ?_)
  refine wpAny_bind (hm fun b => ?_)
  rw [kds_star elts hp, List.map_map]
  have hroad : (displayRoad 0 elts == .constants) = false := by
    unfold displayRoad
    rw [if_neg (by decide)]
    split
    · rfl
    · split <;> rfl
  refine kds_core (ts := (evalEach elts env).map fun t => do let v ← t; standAt pos; pure v) hroad ?_ ?_ ?_ fun led => ?_
  · refine List.findIdx?_eq_none_iff.mpr fun x hx => ?_
    obtain ⟨t, _, rfl⟩ := List.mem_map.mp hx
    rfl
  · rw [List.length_map, kds_len]; exact hlen
  · rw [List.map_map]; try rfl
  · refine kds_all pos elts _ _ (hall _ _ (fun b o e => Heap.get?_push_of_some _ e) rfl rfl rfl fun vs tk hk => ?_)
    have lk : ∀ {ks : List (Option Str)} {vs : List Value}, KeysAre ks vs → vs.length = ks.length := by
      intro ks
      induction ks with
      | nil => intro vs h; cases (show vs = [] from h); rfl
      | cons k ks ih => intro vs h; obtain ⟨v, ws, rfl, _, h⟩ := h; exact congrArg (· + 1) (ih h)
    refine fill_ok (get_size s.heap) hk (Heap.get?_push_size _ rfl) (setObjOf_fresh led) (by rw [lk hk]; have : scanBound = 4096 := rfl; omega) (fun b o e => Heap.get?_push_of_some _ e) fun h' o' m tk g1 g2 g3 g4 => ?_
    exact h h' o' m tk g1 (by simpa using g2) g3 g4
end
end Mine
end

noncomputable section
open PySem PySem.W PySem.Calls PyProof.Rows
set_option maxRecDepth 100000
namespace Mine

/-- plain values -/
inductive PV where
  | none | bool (b : Bool) | int (i : Int) | str (x : List Nat) | bytes (x : List Nat)
  | tup (l : List PV) | lst (l : List PV) | set (l : List PV)
  | err (f : List PV) (w : List Nat) | obj (i : Nat) | cls (k : Bool)
noncomputable abbrev Im : Type := List (Addr × Obj)
noncomputable abbrev listO (vs : List Value) (n : Nat) : Obj := { cls := .type "list", data := .seq vs.toArray n }
structure ListAt (o : Obj) (vs : List Value) : Prop where
  cls : o.cls = .type "list"
  data : ∃ n, o.data = .seq vs.toArray n
/-- a list under construction -/
structure AccAt (o : Obj) (vs : List Value) : Prop where
  ex : ∃ n, o = listO vs n
theorem AccAt.at {o : Obj} {vs : List Value} (h : AccAt o vs) : ListAt o vs := by
  obtain ⟨n, rfl⟩ := h.ex
  exact ⟨rfl, n, rfl⟩
inductive Ents (P : Params) : List Str → List DictEntry → List Value → Prop
  | nil : Ents P [] [] []
  | cons {n u v ns es vs} : Ents P ns es vs → Ents P (n :: ns) (⟨PyData.keyHash P n, .str n u, v⟩ :: es) (v :: vs)
noncomputable def tokNames : List Str := [Str.ofString "istext", Str.ofString "string", Str.ofString "decoded_string", Str.ofString "index", Str.ofString "next"]
noncomputable def errNames : List Str := [Str.ofString "msg", Str.ofString "pattern", Str.ofString "pos", Str.ofString "lineno", Str.ofString "colno"]
noncomputable def clsAt : Bool → Addr
  | true => 41
  | false => 133
/-- a PatternError's objects -/
structure ErrAt (P : Params) (im : Im) (a : Addr) (w : List Nat) (vs : List Value) : Prop where
  out : ∃ dx t tb c2 c3 c4, (a, exO (.ref 41) (some dx) (.ref t) tb c2 c3 c4) ∈ im ∧ (∃ es, (dx, dictOf es 5) ∈ im ∧ Ents P errNames es vs) ∧ ∃ u, (t, tupO [.str ⟨w.toArray⟩ u]) ∈ im
noncomputable def isKey : PV → Bool
  | .none => true
  | .str _ => true
  | _ => false
noncomputable def keyOf : PV → Option Str
  | .str x => some ⟨x.toArray⟩
  | _ => none
/-- a set of texts and None -/
structure SetAt (P : Params) (o : Obj) (l : List PV) : Prop where
  keys : l.all isKey = true
  cls : o.cls = .type "set"
  out : ∃ m, m < scanBound ∧ ∀ (prog : Program) (w : World), w.params = P → o.SetObjOf (optKind prog w) (fun k => decide (k ∈ l.map keyOf)) m
mutual
noncomputable def RepV (P : Params) (ρ : List (Addr × Addr)) (im : Im) : PV → Value → Prop
  | .none, v => v = .none
  | .bool b, v => v = .bool b
  | .int i, v => ∃ t, v = .int i t
  | .str x, v => ∃ t, v = .str ⟨x.toArray⟩ t
  | .bytes x, v => ∃ b t, v = .bytes b t ∧ octs b = x
  | .tup l, v => ∃ a vs, v = .ref a ∧ (a, tupO vs) ∈ im ∧ RepL P ρ im l vs
  | .lst l, v => ∃ a o vs, v = .ref a ∧ (a, o) ∈ im ∧ ListAt o vs ∧ RepL P ρ im l vs
  | .set l, v => ∃ a o, v = .ref a ∧ (a, o) ∈ im ∧ SetAt P o l
  | .err f w, v => ∃ vs, (∃ a, v = .ref a ∧ ErrAt P im a w vs) ∧ RepL P ρ im f vs
  | .obj i, v => ∃ a d, v = .ref a ∧ ρ[i]? = some (a, d)
  | .cls k, v => v = .ref (clsAt k)
noncomputable def RepL (P : Params) (ρ : List (Addr × Addr)) (im : Im) : List PV → List Value → Prop
  | [], vs => vs = []
  | p :: l, vs => ∃ v ws, vs = v :: ws ∧ RepV P ρ im p v ∧ RepL P ρ im l ws
end
noncomputable abbrev Rep (P : Params) (ρ : List (Addr × Addr)) (im : Im) (v : Value) (p : PV) : Prop := RepV P ρ im p v
noncomputable abbrev Reps (P : Params) (ρ : List (Addr × Addr)) (im : Im) (vs : List Value) (l : List PV) : Prop := RepL P ρ im l vs
/-- more is known -/
structure Ext (ρ ρ' : List (Addr × Addr)) (im im' : Im) : Prop where
  r : ∀ (i : Nat) x, ρ[i]? = some x → ρ'[i]? = some x
  m : ∀ p ∈ im, p ∈ im'
variable {P : Params} {ρ ρ' ρ'' : List (Addr × Addr)} {im im' im'' : Im}
theorem Ext.refl : Ext ρ ρ im im := ⟨fun _ _ e => e, fun _ e => e⟩
theorem Ext.trans (a : Ext ρ ρ' im im') (b : Ext ρ' ρ'' im' im'') : Ext ρ ρ'' im im'' := ⟨fun i x e => b.r i x (a.r i x e), fun p e => b.m p (a.m p e)⟩
theorem Ext.one {p : Addr × Obj} : Ext ρ ρ im (p :: im) := ⟨fun _ _ e => e, fun _ e => .tail _ e⟩
theorem ErrAt.up (m : ∀ p ∈ im, p ∈ im') {a : Addr} {w : List Nat} {vs : List Value} (h : ErrAt P im a w vs) : ErrAt P im' a w vs :=
  ⟨h.out.imp fun _ h => h.imp fun _ h => h.imp fun _ h => h.imp fun _ h => h.imp fun _ h => h.imp fun _ h => ⟨m _ h.1, h.2.1.imp fun _ h => ⟨m _ h.1, h.2⟩, h.2.2.imp fun _ h => m _ h⟩⟩
mutual
theorem RepV.up (x : Ext ρ ρ' im im') : ∀ (p : PV) (v : Value), RepV P ρ im p v → RepV P ρ' im' p v
  | .none, _, h => h
  | .bool _, _, h => h
  | .int _, _, h => h
  | .str _, _, h => h
  | .bytes _, _, h => h
  | .tup l, _, h => h.imp fun _ h => h.imp fun vs h => ⟨h.1, x.m _ h.2.1, RepL.up x l vs h.2.2⟩
  | .lst l, _, h => h.imp fun _ h => h.imp fun _ h => h.imp fun vs h => ⟨h.1, x.m _ h.2.1, h.2.2.1, RepL.up x l vs h.2.2.2⟩
  | .set _, _, h => h.imp fun _ h => h.imp fun _ h => ⟨h.1, x.m _ h.2.1, h.2.2⟩
  | .err f _, _, h => h.imp fun vs h => ⟨h.1.imp fun _ h => ⟨h.1, h.2.up x.m⟩, RepL.up x f vs h.2⟩
  | .obj _, _, h => h.imp fun _ h => h.imp fun _ h => ⟨h.1, x.r _ _ h.2⟩
  | .cls _, _, h => h
theorem RepL.up (x : Ext ρ ρ' im im') : ∀ (l : List PV) (vs : List Value), RepL P ρ im l vs → RepL P ρ' im' l vs
  | [], _, h => h
  | p :: l, _, h => h.imp fun v h => h.imp fun ws h => ⟨h.1, RepV.up x p v h.2.1, RepL.up x l ws h.2.2⟩
end
variable {vs ws : List Value} {l k : List PV} {v : Value} {p : PV}
theorem Rep.up (x : Ext ρ ρ' im im') (h : Rep P ρ im v p) : Rep P ρ' im' v p := RepV.up x p v h
theorem Reps.up (x : Ext ρ ρ' im im') (h : Reps P ρ im vs l) : Reps P ρ' im' vs l := RepL.up x l vs h
theorem Rep.bool {b : Bool} : Rep P ρ im (.bool b) (.bool b) := rfl
theorem Rep.int {i : Int} {t : Tok} : Rep P ρ im (.int i t) (.int i) := ⟨t, rfl⟩
theorem Rep.str {x : List Nat} {t : Tok} : Rep P ρ im (.str ⟨x.toArray⟩ t) (.str x) := ⟨t, rfl⟩
theorem Rep.bytes {b : Array UInt8} {t : Tok} : Rep P ρ im (.bytes b t) (.bytes (octs b)) := ⟨b, t, rfl, rfl⟩
theorem Rep.tup {a : Addr} (h : (a, tupO vs) ∈ im) (r : Reps P ρ im vs l) : Rep P ρ im (.ref a) (.tup l) := ⟨a, vs, rfl, h, r⟩
theorem Rep.lst {a : Addr} {o : Obj} (h : (a, o) ∈ im) (e : ListAt o vs) (r : Reps P ρ im vs l) : Rep P ρ im (.ref a) (.lst l) := ⟨a, o, vs, rfl, h, e, r⟩
theorem Rep.obj {i : Nat} {a d : Addr} (h : ρ[i]? = some (a, d)) : Rep P ρ im (.ref a) (.obj i) := ⟨a, d, rfl, h⟩
theorem Rep.cls {k : Bool} : Rep P ρ im (.ref (clsAt k)) (.cls k) := rfl
theorem Reps.nil : Reps P ρ im [] [] := rfl
theorem Reps.cons (a : Rep P ρ im v p) (h : Reps P ρ im vs l) : Reps P ρ im (v :: vs) (p :: l) := ⟨v, vs, rfl, a, h⟩
theorem Reps.head (h : Reps P ρ im (v :: vs) (p :: l)) : Rep P ρ im v p := let ⟨_, _, e, a, _⟩ := h; (List.cons.inj e).1 ▸ a
theorem Reps.tail (h : Reps P ρ im (v :: vs) (p :: l)) : Reps P ρ im vs l := let ⟨_, _, e, _, a⟩ := h; (List.cons.inj e).2 ▸ a
theorem Reps.len (h : Reps P ρ im vs l) : vs.length = l.length := by
  induction l generalizing vs with
  | nil => cases (h : vs = []); rfl
  | cons p l ih => obtain ⟨v, ws, rfl, _, b⟩ := h; exact congrArg (· + 1) (ih b)
theorem Reps.app (h : Reps P ρ im vs l) (h2 : Reps P ρ im ws k) : Reps P ρ im (vs ++ ws) (l ++ k) := by
  induction l generalizing vs with
  | nil => cases (h : vs = []); exact h2
  | cons p l ih => obtain ⟨v, us, rfl, a, b⟩ := h; exact ⟨v, us ++ ws, rfl, a, ih b⟩
theorem Reps.at (h : Reps P ρ im vs l) {i : Nat} (e : l[i]? = some p) : ∃ v, vs[i]? = some v ∧ Rep P ρ im v p := by
  induction l generalizing vs i with
  | nil => cases e
  | cons q l ih =>
    obtain ⟨v, us, rfl, a, b⟩ := h
    cases i with
    | zero => cases e; exact ⟨v, rfl, a⟩
    | succ i => exact ih b e
theorem Reps.at' (h : Reps P ρ im vs l) {i : Nat} (e : vs[i]? = some v) : ∃ p, l[i]? = some p ∧ Rep P ρ im v p :=
  have q : i < l.length := h.len ▸ (List.getElem?_eq_some_iff.mp e).1
  let ⟨_, e1, e2⟩ := h.at (List.getElem?_eq_getElem q)
  ⟨_, List.getElem?_eq_getElem q, Option.some.inj (e1.symm.trans e) ▸ e2⟩
theorem Reps.drop (h : Reps P ρ im vs l) (n : Nat) : Reps P ρ im (vs.drop n) (l.drop n) := by
  induction l generalizing vs n with
  | nil => cases (h : vs = []); rw [List.drop_nil, List.drop_nil]; exact .nil
  | cons p l ih =>
    obtain ⟨v, us, rfl, a, b⟩ := h
    cases n with
    | zero => exact .cons a b
    | succ n => exact ih b n
theorem Reps.take (h : Reps P ρ im vs l) (n : Nat) : Reps P ρ im (vs.take n) (l.take n) := by
  induction l generalizing vs n with
  | nil => cases (h : vs = []); rw [List.take_nil, List.take_nil]; exact .nil
  | cons p l ih =>
    obtain ⟨v, us, rfl, a, b⟩ := h
    cases n with
    | zero => exact .nil
    | succ n => exact .cons a (ih b n)
noncomputable def lset {α : Type} : List α → Nat → α → List α
  | [], _, _ => []
  | _ :: r, 0, v => v :: r
  | a :: r, n + 1, v => a :: lset r n v
theorem lset_len {α : Type} : ∀ (l : List α) (n : Nat) (v : α), (lset l n v).length = l.length
  | [], _, _ => rfl
  | _ :: _, 0, _ => rfl
  | _ :: r, n + 1, v => congrArg (· + 1) (lset_len r n v)
theorem lset_get {α : Type} {v x : α} : ∀ {l : List α} {n i : Nat}, (lset l n v)[i]? = some x → (i = n ∧ x = v) ∨ (i ≠ n ∧ l[i]? = some x) := by
  intro l
  induction l with
  | nil => intro n i h; cases h
  | cons a r ih =>
    intro n i h
    cases n with
    | zero => cases i with | zero => cases h; exact .inl ⟨rfl, rfl⟩ | succ i => exact .inr ⟨Nat.succ_ne_zero _, h⟩
    | succ n => cases i with | zero => exact .inr ⟨Nat.noConfusion, h⟩ | succ i => exact (ih h).imp (fun q => ⟨congrArg (· + 1) q.1, q.2⟩) fun q => ⟨fun z => q.1 (Nat.succ.inj z), q.2⟩
theorem Reps.set (h : Reps P ρ im vs l) (a : Rep P ρ im v p) (n : Nat) : Reps P ρ im (lset vs n v) (lset l n p) := by
  induction l generalizing vs n with
  | nil => cases (h : vs = []); exact .nil
  | cons q l ih =>
    obtain ⟨u, us, rfl, c, b⟩ := h
    cases n with
    | zero => exact .cons a b
    | succ n => exact .cons c (ih b n)
/-- one activation -/
structure Ac where
  hb : Heap
  l : List Env
  fr : List Addr
  V : List Addr
  s₀ : Shared
  L : Addr
  cells : List (Str × Addr)
  names : List Str
  i0 : Im
  me : Addr
  ro : Bool
/-- what is known of an activation: variables, the list under construction, the error under construction, the objects -/
structure Sg where
  vars : List (Option PV)
  acc : Option (Nat × Nat × List PV)
  self : Option (List PV × Option (List Nat))
  objs : List (List PV)
/-- a cell -/
noncomputable def CellIn (mu : Im) (c : Addr) (v : Option Value) : Prop := ∃ o, (c, o) ∈ mu ∧ o.data = .cell v
theorem CellIn.to {mu mu' : Im} {c : Addr} {v : Option Value} (h : CellIn mu c v) (k : ∀ o : Obj, (c, o) ∈ mu → o.data = .cell v → (c, o) ∈ mu') : CellIn mu' c v := let ⟨o, h1, h2⟩ := h; ⟨o, k o h1 h2, h2⟩
/-- a cell that an activation reads only: it stood when the activation began -/
noncomputable def Old (a : Ac) (c : Addr) (v : Option Value) : Prop := ∃ o, a.s₀.heap.get? c = some o ∧ o.data = .cell v ∧ c ∉ a.V ∧ c ∉ a.fr
noncomputable def CellAt (a : Ac) (mu : Im) (c : Addr) (v : Option Value) : Prop := CellIn mu c v ∨ Old a c v
theorem CellAt.to {a : Ac} {mu mu' : Im} {c : Addr} {v : Option Value} (h : CellAt a mu c v) (k : ∀ o : Obj, (c, o) ∈ mu → o.data = .cell v → (c, o) ∈ mu') : CellAt a mu' c v := h.imp (fun z => z.to k) id
noncomputable def Loc (a : Ac) (m : Vars) (mu : Im) (x : Str) (u : Value) : Prop :=
  (a.cells.lookup x = none ∧ vmap m x = some u) ∨ ∃ c, a.cells.lookup x = some c ∧ CellAt a mu c (some u)
inductive SelfD (P : Params) (ρ : List (Addr × Addr)) (im mu : Im) : Option Addr → List PV → Prop
  | nil : SelfD P ρ im mu none []
  | cons {d es vs f} : (d, dictOf es es.length) ∈ mu → (∀ p ∈ ρ, p.2 ≠ d) → Ents P (errNames.take f.length) es vs → Reps P ρ im vs f → SelfD P ρ im mu (some d) f
/-- what is known more is known of new objects -/
noncomputable def NewI (a : Ac) (im im' : Im) : Prop := ∀ q ∈ im', q ∈ im ∨ a.s₀.heap.get? q.1 = none ∨ q.1 ∈ a.V
inductive VarA (P : Params) (a : Ac) (ρ : List (Addr × Addr)) (im : Im) (m : Vars) (mu : Im) (i : Nat) (v : PV) : Prop
  | mk : ∀ x u, a.names[i]? = some x → Loc a m mu x u → Rep P ρ im u v → VarA P a ρ im m mu i v
inductive AccA (P : Params) (a : Ac) (ρ : List (Addr × Addr)) (im : Im) (m : Vars) (mu : Im) (i D : Nat) (l : List PV) : Prop
  | mk : ∀ x o vs, a.names[i]? = some x → Loc a m mu x (.ref D) → (D, o) ∈ mu → AccAt o vs → Reps P ρ im vs l → AccA P a ρ im m mu i D l
inductive SelfA (P : Params) (a : Ac) (ρ : List (Addr × Addr)) (im : Im) (m : Vars) (mu : Im) (f : List PV) (wo : Option (List Nat)) : Prop
  | mk : ∀ x dx c0 c2 c3 c4, a.names[0]? = some x → Loc a m mu x (.ref a.me) → (a.me, exO (.ref 41) dx (.ref c0) .none c2 c3 c4) ∈ mu →
    (∀ w, wo = some w → ∃ u, (c0, tupO [.str ⟨w.toArray⟩ u]) ∈ mu) → SelfD P ρ im mu dx f → SelfA P a ρ im m mu f wo
inductive ObjA (P : Params) (ρ : List (Addr × Addr)) (im : Im) (mu : Im) (i : Nat) (f : List PV) : Prop
  | mk : ∀ x d es vs, ρ[i]? = some (x, d) → (x, instObj 133 d) ∈ im → (d, dictOf es es.length) ∈ mu → Ents P (tokNames.take f.length) es vs → Reps P ρ im vs f → ObjA P ρ im mu i f
structure StM (P : Params) (a : Ac) (ρ : List (Addr × Addr)) (im : Im) (σ : Sg) (m : Vars) (mu : Im) : Prop where
  vars : ∀ (i : Nat) (v : PV), σ.vars[i]? = some (some v) → VarA P a ρ im m mu i v
  acc : ∀ (i D : Nat) (l : List PV), σ.acc = some (i, D, l) → AccA P a ρ im m mu i D l
  self : ∀ f wo, σ.self = some (f, wo) → SelfA P a ρ im m mu f wo
  objs : ∀ (i : Nat) (f : List PV), σ.objs[i]? = some f → ObjA P ρ im mu i f
  len : σ.objs.length = ρ.length
  nd : (ρ.map (·.2)).Nodup
  nw : NewI a a.i0 im
  cel : a.ro = false → ∀ x c, a.cells.lookup x = some c → ∃ v, CellIn mu c v
noncomputable def St (P : Params) (a : Ac) (ρ : List (Addr × Addr)) (im : Im) (σ : Sg) (s : Shared) : Prop :=
  ∃ m mu, Run a.hb a.l a.fr a.V a.s₀ a.L m mu im s ∧ StM P a ρ im σ m mu
end Mine
end

noncomputable section
open PySem PySem.W PySem.Calls PyProof.Rows
set_option maxRecDepth 100000
namespace Mine
inductive Bi where
  | len | ord | str | sum | isstr | typ | bytes | latin
inductive Mb where
  | join | split | count | rfind | encode | decode | startswith
inductive C where
  | k (v : PV) | v (i : Nat) | g (k : Bool) | sget (n : Nat)
  | bin (o : Operator) (a b : C)
  | cmp (o : CmpOp) (a b : C) | cmp2 (o p : CmpOp) (a b c : C)
  | bop (o : BoolOp) (l : List C) | not (a : C) | neg (a : C) | ife (t a b : C)
  | tup (l : List C) | lst (l : List C)
  | get (a : C) (n : Nat) | cal (f : Nat) (l : List C) | mk (k : Bool) (l : List C)
  | mt (a : C) (f : Nat) (l : List C) | cb (b : Bi) (l : List C) | mb (m : Mb) (a : C) (l : List C)
  | sub (a i : C) | sli (a : C) (lo hi : Option C)
  | comp (elt : C) (ts : Option C) (cap : Option Nat) (it : C) | rng (a b : C) | min (a b : C)
  | pick (l : List (Int × List Nat)) (i : Nat) | set (l : List C) | cv (i : Nat)
inductive It where
  | of (c : C) | range (c : C)
inductive D where
  | ex (c : C) | cuts (i t : Nat) (a b : C) | casg (i : Nat) (c : C) | asg (i : Nat) (c : C) | aug (i : Nat) (o : Operator) (c : C)
  | asgc (i : Nat) (c : C) | mls (i : Nat) (l : List C) | app (i : Nat) (c : C) | ext (i : Nat) (l : List C)
  | sat (a : C) (n : Nat) (c : C) | sset (n : Nat) (c : C) | sup (c : C)
  | ret (c : C) | ret0 | iff (c : C) (a b : List D) | whl (c : C) (a : List D) | for_ (i : Nat) (it : It) (b : List D) | brk
  | tryIx (a h : List D) | tryPe (a : List D) (i : Nat) (h : List D) | raise (l : List C) | wall
inductive Ex where
  | ix | pe (f : List PV) (w : List Nat)
inductive R (α : Type) where
  | ok (a : α) | err (x : Ex)
inductive Fl where
  | next | brk | ret (v : PV)
structure Md where
  d : Nat
  h : Bool
  x : Bool
  c : Bool
structure Fn where
  np : Nat
  dv : List PV
  nv : Nat
  body : List D
noncomputable abbrev Kt (α : Type) := R α → Sg → Prop
noncomputable def bk {α β : Type} (K : Kt β) (f : α → Sg → Prop) : Kt α := fun r σ => match r with
  | .ok a => f a σ
  | .err x => K (.err x) σ
/-- an obligation that computes -/
noncomputable def obD (p : Prop) [Decidable p] (k : Prop) : Prop := cond (decide p) k False
theorem obD_e {p k : Prop} [i : Decidable p] (h : obD p k) : p ∧ k := by
  unfold obD at h
  cases i with
  | isTrue z => exact ⟨z, h⟩
  | isFalse z => exact h.elim
theorem obD_i {p k : Prop} [i : Decidable p] (z : p) (h : k) : obD p k := by
  unfold obD
  cases i with
  | isTrue _ => exact h
  | isFalse y => exact (y z).elim
noncomputable def opt2 {α : Type} (o : Option α) (n : Prop) (k : α → Prop) : Prop := match o with | some a => k a | none => n
noncomputable def onInt (p : PV) (f : Int → Prop) : Prop := match p with | .int i => f i | _ => False
noncomputable def onStr (p : PV) (f : List Nat → Prop) : Prop := match p with | .str i => f i | _ => False
noncomputable def onLst (p : PV) (f : List PV → Prop) : Prop := match p with | .lst i => f i | _ => False
noncomputable def onByt (p : PV) (f : List Nat → Prop) : Prop := match p with | .bytes i => f i | _ => False
noncomputable def rep : Nat → List Nat → List Nat
  | 0, _ => []
  | n + 1, x => x ++ rep n x
/-- Python's index -/
noncomputable def itemL {α : Type} (x : List α) (i : Int) : Option α := if i < 0 then (if i + x.length < 0 then none else x[(i + x.length).toNat]?) else x[i.toNat]?
noncomputable def sliL {α : Type} (x : List α) (lo hi : Option Int) : List α := (x.drop (lo.elim 0 (clipAt x.length))).take (hi.elim x.length (clipAt x.length) - lo.elim 0 (clipAt x.length))
noncomputable def strsL : List PV → Option (List (List Nat))
  | [] => some []
  | .str x :: r => (strsL r).map (x :: ·)
  | _ => none
noncomputable def intsL : List PV → Option (List Int)
  | [] => some []
  | .int x :: r => (intsL r).map (x :: ·)
  | _ => none
noncomputable def leq : List Nat → List Nat → Bool
  | [], [] => true
  | a :: r, b :: q => Nat.beq a b && leq r q
  | _, _ => false
noncomputable def S16 : Nat := 16777216
noncomputable def fAt : List Nat := [37, 115, 32, 97, 116, 32, 112, 111, 115, 105, 116, 105, 111, 110, 32, 37, 100]
noncomputable def fLC : List Nat := [37, 115, 32, 40, 108, 105, 110, 101, 32, 37, 100, 44, 32, 99, 111, 108, 117, 109, 110, 32, 37, 100, 41]
noncomputable def fmtK (f : List Nat) (l : List PV) (k : PV → Prop) : Prop := match l with
  | m :: n :: r => onStr m fun m => onInt n fun n => m.length ≤ 1000000 ∧ n.natAbs < 10 ^ 10 ∧ match r with
    | [] => obD (leq f fAt = true) (k (.str (wordsAt ⟨m.toArray⟩ n).cps.toList))
    | c :: _ => onInt c fun c => obD (leq f fLC = true) <| obD (r.length = 1) <| c.natAbs < 10 ^ 10 ∧ k (.str (wordsLC ⟨m.toArray⟩ n c).cps.toList)
  | _ => False
noncomputable def addK (a b : PV) (k : PV → Prop) : Prop := match a with
  | .int i => onInt b fun j => k (.int (i + j))
  | .str x => onStr b fun y => x.length + y.length ≤ S16 ∧ k (.str (x ++ y))
  | .lst x => onLst b fun y => x.length + y.length ≤ S16 ∧ k (.lst (x ++ y))
  | _ => False
noncomputable def binK (o : Operator) (a b : PV) (k : PV → Prop) : Prop := match o with
  | .Add => addK a b k
  | .Sub => onInt a fun i => onInt b fun j => k (.int (i - j))
  | .FloorDiv => onInt a fun i => onInt b fun j => (0 < j ∧ j.natAbs < 1073741824) ∧ k (.int (i.fdiv j))
  | .Mod => match a with
    | .int i => onInt b fun j => 0 < j ∧ k (.int (i.fmod j))
    | .str f => match b with | .tup l => fmtK f l k | _ => False
    | _ => False
  | .Mult => onInt a fun i => match b with
    | .int j => i.natAbs < 2 ^ 30 ∧ j.natAbs < 2 ^ 30 ∧ k (.int (i * j))
    | .str x => (2 ≤ i ∧ i ≤ 100) ∧ (1 ≤ x.length ∧ x.length ≤ 10) ∧ k (.str (rep i.toNat x))
    | _ => False
  | _ => False
noncomputable def peqL (f : PV → PV → Option Bool) : List PV → List PV → Option Bool
  | [], [] => some true
  | a :: r, b :: q => match f a b with
    | some x => (peqL f r q).map (x && ·)
    | none => none
  | _, _ => some false
noncomputable def peqS (f : PV → PV → Option Bool) (p q : PV) : Option Bool := match p with
  | .none => (match q with | .none => some true | .str _ => some false | .lst _ => some false | _ => none)
  | .str a => (match q with | .str b => some (leq a b) | .none => some false | .lst _ => some false | _ => none)
  | .bool a => (match q with | .bool b => some (a == b) | .lst _ => some false | _ => none)
  | .int a => (match q with | .int b => some (decide (a = b)) | _ => none)
  | .bytes a => (match q with | .bytes b => some (leq a b) | _ => none)
  | .tup a => (match q with | .tup b => peqL f a b | _ => none)
  | .lst a => (match q with | .lst b => (if a.length = b.length then peqL f a b else some false) | .none => some false | .str _ => some false | _ => none)
  | _ => none
@[irreducible] noncomputable def peq : PV → PV → Option Bool := peqS (peqS (peqS (peqS fun _ _ => none)))
noncomputable def optK {α : Type} (o : Option α) (k : α → Prop) : Prop := match o with | some a => k a | none => False
noncomputable def isNoneP : PV → Bool
  | .none => true
  | _ => false
noncomputable def isK (a b : PV) (k : Bool → Prop) : Prop := match b with
  | .none => k (isNoneP a)
  | .cls x => (match a with | .cls y => obD (x = true) <| obD (y = true) <| k true | _ => False)
  | .bool x => (match a with | .bool y => k (y == x) | .none => k false | _ => False)
  | _ => False
noncomputable def keq (a b : PV) : Bool := match a with
  | .none => isNoneP b
  | .str x => (match b with | .str y => leq x y | _ => false)
  | _ => false
noncomputable def inK (a b : PV) (x : Bool) (k : Bool → Prop) : Prop := match b with
  | .set l => isKey a = true ∧ k (l.any (keq a))
  | .str y => (match a with | .str z => z = [10] ∧ k (y.contains 10) | _ => False)
  | .bytes y => (match a with | .bytes z => z = [10] ∧ x = true ∧ k (y.contains 10) | _ => False)
  | _ => False
noncomputable def cmpK (o : CmpOp) (a b : PV) (x : Bool) (k : Bool → Prop) : Prop := match o with
  | .Eq => optK (peq a b) k
  | .NotEq => optK (peq a b) fun r => k (!r)
  | .Lt => onInt a fun i => onInt b fun j => k (decide (i < j))
  | .LtE => onInt a fun i => onInt b fun j => k (decide (i ≤ j))
  | .GtE => onInt a fun i => onInt b fun j => k (decide (i ≥ j))
  | .Gt => onInt a fun i => onInt b fun j => k (decide (i > j))
  | .Is => isK a b k
  | .IsNot => isK a b fun r => k (!r)
  | .In => inK a b x k
  | .NotIn => (match b with | .set _ => inK a b x fun r => k (!r) | _ => False)
noncomputable def truthK (v : PV) (k : Bool → Prop) : Prop := match v with
  | .none => k false
  | .bool b => k b
  | .int i => k (i != 0)
  | .str x => x.length < 2 ^ 60 ∧ k ((x.length : Int) != 0)
  | _ => False
noncomputable def one (l : List PV) (f : PV → Prop) : Prop := match l with | [a] => f a | _ => False
noncomputable def cbK (b : Bi) (l : List PV) (h : Bool) (k : PV → Prop) : Prop := one l fun a => match b with
  | .len => (match a with
    | .str x => x.length < 2 ^ 60 ∧ k (.int x.length)
    | .bytes x => x.length ≤ S16 ∧ k (.int x.length)
    | .lst x => x.length ≤ 16384 ∧ k (.int x.length)
    | _ => False)
  | .ord => onStr a fun x => match x with | [c] => k (.int c) | _ => False
  | .str => False
  | .sum => onLst a fun x => obD (h = false) <| optK (intsL x) fun ns => k (.int ns.sum)
  | .isstr => (match a with
    | .str _ => k (.bool true)
    | .bytes _ => k (.bool false)
    | _ => False)
  | .typ => False
  | .bytes => onLst a fun x => obD (h = false) <| x.length ≤ S16 ∧ optK (intsL x) fun ns => (∀ n ∈ ns, 0 ≤ n ∧ n < 256) ∧ k (.bytes (ns.map Int.toNat))
  | .latin => onByt a fun x => x.length ≠ 0 ∧ x.length ≤ S16 ∧ k (.str x)
/-- a line end, nought and a place -/
noncomputable def nlK (l : List PV) (f : Bool → Int → Prop) : Prop := match l with
  | [a, .int z, .int p] => z = 0 ∧ (match a with | .str x => x = [10] ∧ f true p | .bytes x => x = [10] ∧ f false p | _ => False)
  | _ => False
noncomputable def sAscii : List Nat := [97, 115, 99, 105, 105]
noncomputable def sBack : List Nat := [98, 97, 99, 107, 115, 108, 97, 115, 104, 114, 101, 112, 108, 97, 99, 101]
/-- a built-in method's function -/
noncomputable def mbFn (m : Mb) (v : PV) : Option String := match v with
  | .str _ => (match m with | .join => some "str.join" | .split => some "str.split" | .count => some "str.count" | .rfind => some "str.rfind" | .startswith => some "str.startswith" | .encode => some "str.encode" | _ => none)
  | .bytes _ => (match m with | .split => some "bytes.split" | .count => some "bytes.count" | .rfind => some "bytes.rfind" | .decode => some "bytes.decode" | _ => none)
  | _ => none
noncomputable def mbK (m : Mb) (a : PV) (l : List PV) (k : PV → Prop) : Prop := match m with
  | .join => onStr a fun x => one l fun y => onLst y fun y => x.length ≤ 16 ∧ optK (strsL y) fun ys => (ys.map (·.length)).sum + ys.length ≤ 1048576 ∧ k (.str (Txt.join ⟨x.toArray⟩ (ys.map fun y => ⟨y.toArray⟩)).cps.toList)
  | .split => False
  | .count => nlK l fun t p => match a with
    | .str x => t = true ∧ k (.int (nlBefore x p))
    | .bytes x => t = false ∧ k (.int (nlBefore x p))
    | _ => False
  | .rfind => nlK l fun t p => match a with
    | .str x => t = true ∧ k (.int (nlLast x p))
    | .bytes x => t = false ∧ k (.int (nlLast x p))
    | _ => False
  | .encode => onStr a fun x => match l with
    | [b, c] => onStr b fun b => onStr c fun c => b = sAscii ∧ c = sBack ∧ optK (encL x) fun y => y.length ≤ S16 ∧ k (.bytes y)
    | _ => False
  | .decode => onByt a fun x => one l fun b => onStr b fun b => b = sAscii ∧ (∀ c ∈ x, c < 128) ∧ x.length ≤ S16 ∧ k (.str x)
  | .startswith => onStr a fun x => one l fun y => onStr y fun y => (x.length ≤ S16 ∧ y.length ≤ S16) ∧ k (.bool (List.isPrefixOf y x))
noncomputable def subK (a i : PV) (h : Bool) (k : R PV → Prop) : Prop := onInt i fun i => match a with
  | .str x => opt2 (if fits63 i then itemL x i else none) (obD (h = false) (k (.err .ix))) fun c => k (.ok (.str [c]))
  | .lst x => x.length ≤ S16 ∧ optK (itemL x i) fun v => k (.ok v)
  | .tup x => x.length ≤ S16 ∧ optK (itemL x i) fun v => k (.ok v)
  | _ => False
noncomputable def sliK (a : PV) (lo hi : Option PV) (k : PV → Prop) : Prop :=
  boundK lo fun lo => boundK hi fun hi => match a with
    | .str x => x.length ≤ S16 ∧ k (.str (sliL x lo hi))
    | .bytes x => x.length ≤ S16 ∧ k (.bytes (sliL x lo hi))
    | .lst x => x.length ≤ S16 ∧ k (.lst (sliL x lo hi))
    | _ => False
where boundK (o : Option PV) (k : Option Int → Prop) : Prop := match o with
  | none => k none
  | some p => onInt p fun i => k (some i)
noncomputable def itemsK (v : PV) (k : List PV → Prop) : Prop := match v with
  | .lst l => l.length ≤ S16 ∧ k l
  | .tup l => l.length ≤ S16 ∧ k l
  | .str x => x.length ≤ S16 ∧ k (x.map fun c => .str [c])
  | _ => False
structure Wd where
  E : Md → C → Sg → Kt PV → Prop
  Es : Md → List C → Sg → Kt (List PV) → Prop
  T : Md → C → Sg → Kt Bool → Prop
  S : Md → D → Sg → Kt Fl → Prop
  Ss : Md → List D → Sg → Kt Fl → Prop
  F : Md → Nat → List PV → List (List PV) → (R PV → List (List PV) → Prop) → Prop
  For : Md → Nat → List PV → List D → Sg → Kt Fl → Prop
  Wh : Md → C → List D → Sg → Kt Fl → Prop
@[irreducible] noncomputable def Call (F : Md → Nat → List PV → List (List PV) → (R PV → List (List PV) → Prop) → Prop) (d : Md) (f : Nat) (l : List PV) (o : List (List PV)) (K : R PV → List (List PV) → Prop) : Prop := F d f l o K
@[irreducible] noncomputable def Loop (F : Md → Nat → List PV → List D → Sg → Kt Fl → Prop) (d : Md) (i : Nat) (l : List PV) (b : List D) (σ : Sg) (K : Kt Fl) : Prop := F d i l b σ K
@[irreducible] noncomputable def WLoop (F : Md → C → List D → Sg → Kt Fl → Prop) (d : Md) (c : C) (b : List D) (σ : Sg) (K : Kt Fl) : Prop := F d c b σ K
noncomputable def Sg.put (σ : Sg) (i : Nat) (v : PV) : Sg := { σ with vars := lset σ.vars i (some v) }
/-- a variable may be set -/
noncomputable def asgOk (σ : Sg) (i : Nat) : Bool := (match σ.acc with | none => true | some (j, _, _) => !Nat.beq j i) && (match σ.self with | none => true | some _ => !Nat.beq i 0)
noncomputable def varK (σ : Sg) (i : Nat) (K : Kt PV) : Prop := match σ.vars[i]? with
  | some (some v) => K (.ok v) σ
  | some none => match σ.acc with
    | some (j, _, l) => j = i ∧ K (.ok (.lst l)) { σ with vars := lset σ.vars i (some (.lst l)), acc := none }
    | none => False
  | none => False
noncomputable def callK (w : Wd) (d : Md) (f : Nat) (l : List PV) (σ : Sg) (K : Kt PV) : Prop := Call w.F d f l σ.objs fun r o => K r { σ with objs := o }
noncomputable def bopK (E : C → Sg → Kt PV → Prop) (o : BoolOp) : List C → Sg → Kt PV → Prop
  | [], _, _ => False
  | [c], σ, K => E c σ K
  | c :: r, σ, K => E c σ (bk K fun v σ => truthK v fun t => match o with
    | .And => cond t (bopK E o r σ K) (K (.ok v) σ)
    | .Or => cond t (K (.ok v) σ) (bopK E o r σ K))
noncomputable def allK (T : C → Sg → Kt Bool → Prop) (o : BoolOp) : List C → Sg → Kt Bool → Prop
  | [], σ, K => K (.ok (o == .And)) σ
  | c :: r, σ, K => T c σ (bk K fun t σ => match o with
    | .And => cond t (allK T o r σ K) (K (.ok false) σ)
    | .Or => cond t (K (.ok true) σ) (allK T o r σ K))
/-- the captured variable stands -/
noncomputable def tailK (cv : List (Option PV)) (σ : Sg) (k : Prop) : Prop := match cv with
  | [] => k
  | _ => σ.vars.tail = cv ∧ k
noncomputable def oneK {α : Type} (cv : List (Option PV)) (f : α → Sg → Prop) : Kt α := fun r σ => match r with
  | .ok v => obD (σ.acc = none) <| obD (σ.self = none) <| tailK cv σ (f v σ)
  | .err _ => False
noncomputable def testK (T : C → Sg → Kt Bool → Prop) (ts : Option C) (cv : List (Option PV)) (σ : Sg) (f : Bool → Sg → Prop) : Prop := match ts with
  | none => f true σ
  | some c => T c σ (oneK cv f)
/-- a comprehension's elements -/
noncomputable def compK (E : C → Sg → Kt PV → Prop) (T : C → Sg → Kt Bool → Prop) (elt : C) (ts : Option C) (cv : List (Option PV)) : List PV → List PV → Sg → (List PV → Sg → Prop) → Prop
  | [], acc, σ, f => f acc σ
  | p :: r, acc, σ, f => testK T ts cv (σ.put 0 p) fun t σ => cond t (E elt σ (oneK cv fun v σ => compK E T elt ts cv r (acc ++ [v]) σ f)) (compK E T elt ts cv r acc σ f)
noncomputable def rngL (i j : Int) : List PV := (List.range (j - i).toNat).map fun (k : Nat) => .int (i + (k : Int))
/-- what is run through -/
noncomputable def itK {α : Type} (w : Wd) (d : Md) (c : C) (σ : Sg) (K : Kt α) (f : List PV → Sg → Prop) : Prop := match c with
  | .rng a b => w.E d a σ (bk K fun va σ => w.E d b σ (bk K fun vb σ => onInt va fun i => onInt vb fun j => (i ≤ j ∧ i.natAbs < 2 ^ 20 ∧ j.natAbs < 2 ^ 20) ∧ f (rngL i j) σ))
  | c => w.E d c σ (bk K fun v σ => itemsK v fun l => f l σ)
noncomputable def capK (d : Md) (σ : Sg) (cap : Option Nat) (k : List (Option PV) → Prop) : Prop := match cap with
  | none => k []
  | some j => obD (d.c = true) (match σ.vars[j]? with
    | some (some v) => k [some v]
    | _ => False)
noncomputable def compS {α : Type} (w : Wd) (d : Md) (elt : C) (ts : Option C) (cap : Option Nat) (it : C) (σ : Sg) (K : Kt α) (f : PV → Sg → Prop) : Prop :=
  itK w d it σ K fun l σ => obD (d.h = false) <| capK d σ cap fun cv => compK (w.E { d with c := false }) (w.T { d with c := false }) elt ts cv l [] ⟨none :: cv, none, none, σ.objs⟩ fun ps τ => f (.lst ps) { σ with objs := τ.objs }
/-- a value that is at hand: a constant or a variable -/
noncomputable def simV (σ : Sg) (c : C) : Option PV := match c with
  | .k v => some v
  | .v i => (match σ.vars[i]? with | some o => o | none => none)
  | _ => none
noncomputable def simVs (σ : Sg) : List C → Option (List PV)
  | [] => some []
  | c :: r => match simV σ c with
    | some v => (simVs σ r).map (v :: ·)
    | none => none
/-- a dict's item, the key a variable -/
noncomputable def pickK (l : List (Int × List Nat)) (v : Option (Option PV)) (k : List Nat → Prop) : Prop := match v with
  | some (some (.int n)) => optK (l.lookup n) k
  | _ => False
noncomputable def stepE (w : Wd) (d : Md) (c : C) (σ : Sg) (K : Kt PV) : Prop := match c with
  | .k v => K (.ok v) σ
  | .v i => varK σ i K
  | .g k => K (.ok (.cls k)) σ
  | .sget n => match σ.self with
    | some (f, _) => optK f[n]? fun v => K (.ok v) σ
    | none => False
  | .bin o a b => w.E d a σ (bk K fun va σ => w.E d b σ (bk K fun vb σ => binK o va vb fun v => K (.ok v) σ))
  | .cmp o a b => w.E d a σ (bk K fun va σ => w.E d b σ (bk K fun vb σ => cmpK o va vb d.x fun v => K (.ok (.bool v)) σ))
  | .cmp2 o p a b c => w.E d a σ (bk K fun va σ => w.E d b σ (bk K fun vb σ => cmpK o va vb d.x fun v => cond v (w.E d c σ (bk K fun vc σ => cmpK p vb vc d.x fun v => K (.ok (.bool v)) σ)) (K (.ok (.bool false)) σ)))
  | .bop o l => bopK (w.E d) o l σ K
  | .not a => w.E d a σ (bk K fun v σ => truthK v fun t => K (.ok (.bool (!t))) σ)
  | .neg a => w.E d a σ (bk K fun v σ => onInt v fun i => K (.ok (.int (-i))) σ)
  | .ife t a b => w.T d t σ (bk K fun t σ => cond t (w.E d a σ K) (w.E d b σ K))
  | .tup l => w.Es d l σ (bk K fun vs σ => obD (vs.length ≤ 1000) (K (.ok (.tup vs)) σ))
  | .lst l => w.Es d l σ (bk K fun vs σ => obD (vs.length ≤ 1000) (K (.ok (.lst vs)) σ))
  | .get a n => w.E d a σ (bk K fun v σ => match v with
    | .obj i => cond (n == 7) (Call w.F d 100 [.obj i] σ.objs fun r o => match r with | .ok v => K (.ok v) { σ with objs := o } | .err _ => False) (optK σ.objs[i]? fun f => optK f[n]? fun v => K (.ok v) σ)
    | .err f _ => cond (Nat.ble 5 n) (optK f[n - 5]? fun v => K (.ok v) σ) False
    | _ => False)
  | .cal f l => w.Es d l σ (bk K fun vs σ => callK w d f vs σ K)
  | .mk k l => w.Es d l σ (bk K fun vs σ => match k with
    | false => Call w.F { d with d := d.d + 1 } 58 (.obj σ.objs.length :: vs) (σ.objs ++ [[]]) fun r o => match r with
      | .ok .none => K (.ok (.obj σ.objs.length)) { σ with objs := o }
      | .ok _ => False
      | .err x => K (.err x) { σ with objs := o }
    | true => Call w.F { d with d := d.d + 1 } 38 vs σ.objs fun r o => match r with
      | .ok v => K (.ok v) { σ with objs := o }
      | .err _ => False)
  | .mt a f l => w.E d a σ (bk K fun v σ => match v with
    | .obj i => w.Es d l σ (bk K fun vs σ => callK w d f (.obj i :: vs) σ K)
    | _ => False)
  | .cb b l => match l with
    | [c] => w.E d c σ (bk K fun v σ => cbK b [v] d.h fun v => K (.ok v) σ)
    | _ => False
  | .mb m a l => w.E d a σ (bk K fun v σ => obD ((mbFn m v).isSome = true) <| w.Es d l σ (bk K fun vs σ => mbK m v vs fun v => K (.ok v) σ))
  | .sub a i => w.E d a σ (bk K fun va σ => w.E d i σ (bk K fun vi σ => subK va vi d.h fun r => K r σ))
  | .sli a lo hi => w.E d a σ (bk K fun va σ => optE w d lo σ K fun lo σ => optE w d hi σ K fun hi σ => sliK va lo hi fun v => K (.ok v) σ)
  | .comp elt ts cap it => compS w d elt ts cap it σ K fun v σ => K (.ok v) σ
  | .rng _ _ => False
  | .min a b => w.E d a σ (bk K fun va σ => w.E d b σ (bk K fun vb σ => onInt va fun i => onInt vb fun j => obD (d.h = false) <| K (.ok (.int (if j < i then j else i))) σ))
  | .pick l i => pickK l σ.vars[i]? fun y => K (.ok (.str y)) σ
  | .cv i => (match σ.vars[i]? with
    | some (some v) => K (.ok v) σ
    | _ => False)
  | .set l => optK (simVs σ l) fun vs => obD (vs.all isKey = true) <| obD (vs.length ≤ 30) <| K (.ok (.set vs)) σ
where optE (w : Wd) (d : Md) (o : Option C) (σ : Sg) (K : Kt PV) (f : Option PV → Sg → Prop) : Prop := match o with
  | none => f none σ
  | some c => w.E d c σ (bk K fun v σ => f (some v) σ)
noncomputable def stepEs (w : Wd) (d : Md) (l : List C) (σ : Sg) (K : Kt (List PV)) : Prop := match l with
  | [] => K (.ok []) σ
  | c :: r => w.E d c σ (bk K fun v σ => w.Es d r σ (bk K fun vs σ => K (.ok (v :: vs)) σ))
noncomputable def stepT (w : Wd) (d : Md) (c : C) (σ : Sg) (K : Kt Bool) : Prop := match c with
  | .cmp o a b => w.E d a σ (bk K fun va σ => w.E d b σ (bk K fun vb σ => cmpK o va vb d.x fun v => K (.ok v) σ))
  | .cmp2 o p a b c => w.E d a σ (bk K fun va σ => w.E d b σ (bk K fun vb σ => cmpK o va vb d.x fun v => cond v (w.E d c σ (bk K fun vc σ => cmpK p vb vc d.x fun v => K (.ok v) σ)) (K (.ok false) σ)))
  | .bop o l => allK (w.T d) o l σ K
  | .not a => w.T d a σ (bk K fun t σ => K (.ok (!t)) σ)
  | .ife t a b => w.T d t σ (bk K fun t σ => cond t (w.T d a σ K) (w.T d b σ K))
  | c => stepE w d c σ (bk K fun v σ => truthK v fun t => K (.ok t) σ)
/-- behind a loop -/
noncomputable def lk (K : Kt Fl) : Kt Fl := fun r σ => match r with
  | .ok f => K (.ok f) σ
  | .err x => obD (σ.self = none) (K (.err x) σ)
/-- a text's pieces between two lists' places -/
noncomputable def cutsK (a b : PV) (t : Option (Option PV)) (k : PV → Prop) : Prop := onLst a fun xs => onLst b fun ys => match t with
  | some (some (.str x)) => (xs.length ≤ S16 ∧ x.length ≤ S16) ∧ optK (intsL xs) fun xs => optK (intsL ys) fun ys => k (.lst ((xs.zip ys).map fun p => .str (sliL x (some p.1) (some p.2))))
  | _ => False
noncomputable def stepS (w : Wd) (d : Md) (c : D) (σ : Sg) (K : Kt Fl) : Prop := match c with
  | .ex c => w.E d c σ (bk K fun _ σ => K (.ok .next) σ)
  | .asg i c => w.E d c σ (bk K fun v σ => obD (asgOk σ i = true) <| K (.ok .next) (σ.put i v))
  | .aug i o c => varK σ i (bk K fun va σ => w.E d c σ (bk K fun vb σ => match o with
    | .Add => (match va with | .lst _ => False | _ => obD (asgOk σ i = true) <| addK va vb fun v => K (.ok .next) (σ.put i v))
    | .FloorDiv => obD (asgOk σ i = true) <| binK .FloorDiv va vb fun v => K (.ok .next) (σ.put i v)
    | _ => False))
  | .cuts i t a b => w.E d a σ (bk K fun va σ => w.E d b σ (bk K fun vb σ => cutsK va vb σ.vars[t]? fun v => obD (d.h = false) <| obD (asgOk σ i = true) <| K (.ok .next) (σ.put i v)))
  | .asgc i c => (match c with
    | .comp elt ts cap it => compS w d elt ts cap it σ K fun v σ => obD (asgOk σ i = true) <| K (.ok .next) (σ.put i v)
    | _ => False)
  | .casg i c => obD (d.c = true) <| w.E d c σ (bk K fun v σ => obD (asgOk σ i = true) <| obD (σ.self = none) <| K (.ok .next) (σ.put i v))
  | .mls i l => w.Es d l σ (bk K fun vs σ => obD (σ.self = none) <| (match σ.acc with
    | none => True
    | some (j, _, _) => j = i) ∧ obD (vs.length ≤ 1000) (∀ D, K (.ok .next) { σ with vars := lset σ.vars i none, acc := some (i, D, vs) }))
  | .app i c => match σ.acc with
    | some (j, D, _) => obD (j = i) <| w.E d c σ (bk K fun v σ => match σ.acc with
      | some (j', D', l) => obD (j' = i) <| D' = D ∧ l.length < S16 ∧ K (.ok .next) { σ with acc := some (i, D, l ++ [v]) }
      | none => False)
    | none => False
  | .ext i c => match σ.acc with
    | some (j, D, _) => obD (j = i) <| w.Es d c σ (bk K fun vs σ => match σ.acc with
      | some (j', D', l) => obD (j' = i) <| D' = D ∧ obD (vs.length ≤ 1000) (l.length + vs.length ≤ S16 ∧ K (.ok .next) { σ with acc := some (i, D, l ++ vs) })
      | none => False)
    | none => False
  | .sat a n c => w.E d c σ (bk K fun v σ => w.E d a σ (bk K fun o σ => match o with
    | .obj i => obD (σ.self = none) <| optK σ.objs[i]? fun f => cond (Nat.blt n f.length) (K (.ok .next) { σ with objs := lset σ.objs i (lset f n v) })
      (obD (n = f.length) <| obD (n < 5) <| K (.ok .next) { σ with objs := lset σ.objs i (f ++ [v]) })
    | _ => False))
  | .sset n c => w.E d c σ (bk K fun v σ => match σ.self with
    | some (f, wo) => obD (n = f.length) <| obD (n < 5) <| K (.ok .next) { σ with self := some (f ++ [v], wo) }
    | none => False)
  | .sup c => obD (σ.self.isSome = true) <| w.E d c σ (bk K fun v σ => onStr v fun x => match σ.self with
    | some (f, _) => obD (f.length = 5) <| K (.ok .next) { σ with self := some (f, some x) }
    | none => False)
  | .ret c => w.E d c σ (bk K fun v σ => K (.ok (.ret v)) σ)
  | .ret0 => K (.ok (.ret .none)) σ
  | .iff c a b => w.T d c σ (bk K fun t σ => cond t (w.Ss d a σ K) (w.Ss d b σ K))
  | .whl c b => obD (d.c = true) <| WLoop w.Wh d c b σ (lk K)
  | .for_ i it b => obD (d.c = true) <| obD (d.h = false) <| match it with
    | .of c => w.E d c σ (bk K fun v σ => itemsK v fun l => Loop w.For d i l b σ (lk K))
    | .range c => w.E d c σ (bk K fun v σ => onInt v fun n => 0 ≤ n ∧ n < 2 ^ 20 ∧ Loop w.For d i ((List.range n.toNat).map fun (k : Nat) => PV.int (k : Int)) b σ (lk K))
  | .brk => K (.ok .brk) σ
  | .wall => False
  | .tryIx a h => obD (d.c = true) <| w.Ss d a σ fun r σ => match r with
    | .err .ix => obD (σ.self = none) <| w.Ss { d with h := true } h σ (lk K)
    | .err _ => False
    | .ok f => K (.ok f) σ
  | .tryPe a i h => obD (d.c = true) <| w.Ss d a σ fun r σ => match r with
    | .err (.pe f x) => obD (σ.self = none) <| obD (asgOk σ i = true) <| w.Ss { d with h := true, x := false } h (σ.put i (.err f x)) fun r σ => match r with
      | .ok f => obD (asgOk σ i = true) <| K (.ok f) { σ with vars := lset σ.vars i none }
      | .err _ => False
    | .err .ix => False
    | r => K r σ
  | .raise l => obD ((d.x || !d.h) = true) <| w.Es d l σ (bk K fun vs σ => Call w.F { d with d := d.d + 1 } 38 vs σ.objs fun r o => match r with
    | .ok (.err f x) => K (.err (.pe f x)) { σ with objs := o }
    | _ => False)
noncomputable def stepSs (w : Wd) (d : Md) (l : List D) (σ : Sg) (K : Kt Fl) : Prop := match l with
  | [] => K (.ok .next) σ
  | c :: r => w.S d c σ (bk K fun f σ => match f with
    | .next => w.Ss d r σ K
    | f => K (.ok f) σ)
noncomputable def stepFor (w : Wd) (d : Md) (i : Nat) (l : List PV) (b : List D) (σ : Sg) (K : Kt Fl) : Prop := match l with
  | [] => K (.ok .next) σ
  | v :: r => obD (asgOk σ i = true) <| w.Ss d b (σ.put i v) (bk K fun f σ => match f with
    | .next => w.For d i r b σ K
    | .brk => K (.ok .next) σ
    | .ret v => K (.ok (.ret v)) σ)
noncomputable def stepWh (w : Wd) (d : Md) (c : C) (b : List D) (σ : Sg) (K : Kt Fl) : Prop :=
  w.T d c σ (bk K fun t σ => cond t (w.Ss d b σ (bk K fun f σ => match f with
    | .next => w.Wh d c b σ K
    | .brk => K (.ok .next) σ
    | .ret v => K (.ok (.ret v)) σ)) (K (.ok .next) σ))
noncomputable def stepF (Γ : Nat → Option Fn) (w : Wd) (d : Md) (f : Nat) (l : List PV) (o : List (List PV)) (K : R PV → List (List PV) → Prop) : Prop := match Γ f with
  | none => False
  | some fn => d.d < 100 ∧ (match f with
    | 38 => obD (fn.np - fn.dv.length ≤ l.length) <| obD (l.length ≤ fn.np) <| w.Ss { d with d := d.d + 1, c := true } fn.body ⟨none :: (l.map some ++ (fn.dv.drop (fn.dv.length + l.length - fn.np)).map some ++ List.replicate fn.nv none), none, some ([], none), o⟩ fun r σ => match r with
      | .ok .next => (match σ.self with | some (f, some x) => obD (f.length = 5) <| K (.ok (.err f x)) σ.objs | _ => False)
      | .ok _ => False
      | .err _ => False
    | _ => obD (fn.np - fn.dv.length ≤ l.length) <| obD (l.length ≤ fn.np) <| w.Ss { d with d := d.d + 1, c := true } fn.body ⟨l.map some ++ (fn.dv.drop (fn.dv.length + l.length - fn.np)).map some ++ List.replicate fn.nv none, none, none, o⟩ fun r σ => match r with
      | .ok (.ret v) => K (.ok v) σ.objs
      | .ok .next => K (.ok .none) σ.objs
      | .ok .brk => False
      | .err x => obD (σ.self = none) <| K (.err x) σ.objs)
noncomputable def Wd.bot : Wd := ⟨fun _ _ _ _ => False, fun _ _ _ _ => False, fun _ _ _ _ => False, fun _ _ _ _ => False, fun _ _ _ _ => False, fun _ _ _ _ _ => False, fun _ _ _ _ _ _ => False, fun _ _ _ _ _ => False⟩
noncomputable def Wd.step (Γ : Nat → Option Fn) (w : Wd) : Wd := ⟨stepE w, stepEs w, stepT w, stepS w, stepSs w, stepF Γ w, stepFor w, stepWh w⟩
noncomputable def W (Γ : Nat → Option Fn) : Nat → Wd
  | 0 => Wd.bot
  | n + 1 => (W Γ n).step Γ
end Mine
end

noncomputable section
open PySem PySem.W PySem.Calls PyProof.Rows
set_option maxRecDepth 100000
namespace Mine
structure EnvOk (a : Ac) (env : Env) : Prop where
  L : env.locals = a.L
  kind : env.scope.kind = .function
  glob : env.globals = mainGlobals
  bi : env.builtins = builtinsNs
  nd : a.names.Nodup
  noc : ∀ x, env.scope.names.lookup x = some .local → a.cells.lookup x = none
  cells : ∀ x, env.scope.names.lookup x = some .cell → ∃ c, env.cells.lookup x = some c ∧ a.cells.lookup x = some c
  cinj : ∀ x y c, a.cells.lookup x = some c → a.cells.lookup y = some c → x = y
structure AOk (a : Ac) (A : Around) (d : Md) : Prop where
  fr : A.frames = some a.l
  dep : A.depth ≤ 2 * d.d + 310
  un : A.units ≤ 20 * d.d + 200
  hn : d.h = false → A.handled = none
noncomputable def slotIs (sc : Scope) (ns : List Str) (x : Str) (i : Nat) : Bool := ns[i]? == some x && (sc.names.lookup x == some .local && !(x == ("__debug__" : Str)))
noncomputable def cellIs (sc : Scope) (ns : List Str) (x : Str) (i : Nat) : Bool := ns[i]? == some x && (sc.names.lookup x == some .cell && !(x == ("__debug__" : Str)))
variable {P : Params} {a : Ac} {ρ ρ' : List (Addr × Addr)} {im im' : Im} {σ σ' : Sg} {m m' : Vars} {mu mu' : Im} {s s₀ s' : Shared} {env : Env} {d : Md} {prog : Program} {w : World} {A : Around} {E : Value → Shared → Prop}
  {hb : Heap} {l : List Env} {fr V : List Addr} {L : Addr}
theorem mem_lookup {α : Type} {x : Str} {k : α} : ∀ {l : List (Str × α)}, l.lookup x = some k → (x, k) ∈ l
  | (y, j) :: l, h => by
    rw [List.lookup_cons] at h
    split at h
    · rename_i e; cases h; rw [eq_of_beq e]; exact .head _
    · exact .tail _ (mem_lookup h)
theorem slot_of {sc : Scope} {ns : List Str} {x : Str} {i : Nat} (h : slotIs sc ns x i = true) : ns[i]? = some x ∧ sc.names.lookup x = some .local ∧ (x == ("__debug__" : Str)) = false := by
  simp only [slotIs, Bool.and_eq_true, beq_iff_eq, Bool.not_eq_true'] at h
  exact ⟨h.1, h.2.1, h.2.2⟩
theorem Run.fn (R : Run hb l fr V s₀ L m mu im s) {p q : Addr × Obj} (h : p ∈ mu) (h' : q ∈ mu) (e : p.1 = q.1) : p = q :=
  Prod.ext e (Option.some.inj ((R.H.hmu p h).symm.trans (e ▸ R.H.hmu q h')))
/-- a mutable object becomes immutable -/
theorem Run.fixM {p : Addr × Obj} (R : Run hb l fr V s₀ L m mu im s) (h : p ∈ mu) : ∃ mu', Run hb l fr V s₀ L m mu' (p :: im) s ∧ ∀ q ∈ mu, q.1 ≠ p.1 → q ∈ mu' := by
  obtain ⟨x, y, rfl⟩ := List.append_of_mem h
  refine ⟨x ++ y, ⟨(R.H.perm List.perm_middle).fix, R.oth⟩, fun q hq ne => ?_⟩
  rcases List.mem_append.mp hq with z | z
  · exact List.mem_append_left _ z
  · rcases List.mem_cons.mp z with z | z
    · exact absurd (congrArg Prod.fst z) ne
    · exact List.mem_append_right _ z
theorem updM {D : Addr} {o o' : Obj} : ∀ {mu : Im}, (D, o) ∈ mu → ∃ mu', UpdL D o o' mu mu' ∧ ∀ q ∈ mu, q.1 ≠ D → q ∈ mu' := by
  intro mu
  induction mu with
  | nil => intro h; cases h
  | cons p r ih =>
    intro h
    rcases List.mem_cons.mp h with z | h
    · subst z
      exact ⟨_, .head, fun q hq ne => (List.mem_cons.mp hq).elim (fun z => absurd (congrArg Prod.fst z) ne) fun z => .tail _ z⟩
    · obtain ⟨mu', U, k⟩ := ih h
      exact ⟨_, .tail U, fun q hq ne => (List.mem_cons.mp hq).elim (fun z => z ▸ .head _) fun z => .tail _ (k q z ne)⟩
theorem UpdL.mem' {D : Addr} {o o' : Obj} (U : UpdL D o o' mu mu') : (D, o') ∈ mu' := by
  induction U with
  | head => exact .head _
  | tail _ ih => exact .tail _ ih
noncomputable def notList (o : Obj) : Prop := o.cls ≠ .type "list" ∨ ∃ v, o.data = .cell v
theorem nl_dict : (Value.type "dict") ≠ .type "list" := by decide +kernel
theorem nl_tup : (Value.type "tuple") ≠ .type "list" := by decide +kernel
theorem Loc.to (h : Loc a m mu x u) (k : ∀ p ∈ mu, notList p.2 → p ∈ mu') : Loc a m mu' x u :=
  h.imp id fun ⟨c, e, z⟩ => ⟨c, e, z.to fun _ h d => k _ h (.inr ⟨_, d⟩)⟩
theorem NewI.refl : NewI a im im := fun _ h => .inl h
theorem NewI.trans {i1 i2 i3 : Im} (x : NewI a i1 i2) (y : NewI a i2 i3) : NewI a i1 i3 := fun q h => (y q h).elim (x q) .inr
theorem NewI.ofM {d : Addr} {o : Obj} (R : Run a.hb a.l a.fr a.V a.s₀ a.L m mu im s) (h : (d, o) ∈ mu) : NewI a im ((d, o) :: im) := fun q hq => (List.mem_cons.mp hq).elim (fun z => .inr (z ▸ (R.H.offm _ h).2.2.2.symm)) .inl
theorem NewI.push {o : Obj} (R : Run a.hb a.l a.fr a.V a.s₀ a.L m mu im s) : NewI a im ((s.heap.objs.size, o) :: im) := fun q hq => (List.mem_cons.mp hq).elim (fun z => .inr (z ▸ (R.H.evo.fresh (get_size _)).symm)) .inl
theorem StM.toks (S : StM P a ρ im σ m mu) (x : Ext ρ ρ im im') (n : NewI a im im') (k : ∀ p ∈ mu, notList p.2 → p ∈ mu') : StM P a ρ im' { σ with acc := none } m mu' where
  vars i v e := let ⟨x', u, h1, h2, h3⟩ := S.vars i v e; ⟨x', u, h1, h2.to k, h3.up x⟩
  acc _ _ _ e := nomatch e
  self f wo e := by
    obtain ⟨x', dx, c0, c2, c3, c4, h1, h2, h3, h4, h5⟩ := S.self f wo e
    refine ⟨x', dx, c0, c2, c3, c4, h1, h2.to k, k _ h3 (.inl fun z => nomatch z), fun w e => let ⟨u, z2⟩ := h4 w e; ⟨u, k _ z2 (.inl nl_tup)⟩, ?_⟩
    cases h5 with
    | nil => exact .nil
    | cons z1 z0 z2 z3 => exact .cons (k _ z1 (.inl nl_dict)) z0 z2 (z3.up x)
  objs i f e := let ⟨x', D, es, vs, h1, h2, h3, h4, h5⟩ := S.objs i f e; ⟨x', D, es, vs, h1, x.m _ h2, k _ h3 (.inl nl_dict), h4, h5.up x⟩
  len := S.len
  nd := S.nd
  nw := S.nw.trans n
  cel r x c e := let ⟨v, z⟩ := S.cel r x c e; ⟨v, z.to fun _ h d => k _ h (.inr ⟨_, d⟩)⟩
/-- more is known -/
theorem StM.up (S : StM P a ρ im σ m mu) (x : Ext ρ ρ im im') (n : NewI a im im') (k : ∀ p ∈ mu, p ∈ mu') : StM P a ρ im' σ m mu' where
  vars := (S.toks x n fun p h _ => k p h).vars
  acc i D l e := let ⟨x', o, vs, h1, h2, h3, h4, h5⟩ := S.acc i D l e; ⟨x', o, vs, h1, h2.to fun p h _ => k p h, k _ h3, h4, h5.up x⟩
  self := (S.toks x n fun p h _ => k p h).self
  objs := (S.toks x n fun p h _ => k p h).objs
  len := S.len
  nd := S.nd
  nw := S.nw.trans n
  cel := (S.toks x n fun p h _ => k p h).cel
theorem StM.setV (S : StM P a ρ im σ m mu) {i : Nat} {v : PV} {x : Str} {u : Value} (hx : a.names[i]? = some x) (hl : Loc a m mu x u) (hr : Rep P ρ im u v) : StM P a ρ im (σ.put i v) m mu where
  vars j v' e := by
    rcases lset_get e with ⟨rfl, z⟩ | ⟨_, z⟩
    · cases z; exact ⟨x, u, hx, hl, hr⟩
    · exact S.vars j v' z
  acc := S.acc
  self := S.self
  objs := S.objs
  len := S.len
  nd := S.nd
  nw := S.nw
  cel := S.cel
theorem lset_none {α : Type} {l : List (Option α)} {i j : Nat} {v : α} (h : (lset l i none)[j]? = some (some v)) : j ≠ i ∧ l[j]? = some (some v) := by
  rcases lset_get h with ⟨_, z⟩ | z
  · cases z
  · exact z
theorem names_ne {ns : List Str} (nd : ns.Nodup) {i j : Nat} {x y : Str} (h1 : ns[i]? = some x) (h2 : ns[j]? = some y) (ne : i ≠ j) : x ≠ y := fun e =>
  ne (by
    subst e
    obtain ⟨a, b⟩ := List.getElem?_eq_some_iff.mp h1
    obtain ⟨c, e⟩ := List.getElem?_eq_some_iff.mp h2
    exact (List.getElem_inj nd).mp (b.trans e.symm))
noncomputable def KQ (P : Params) (a : Ac) (ρ : List (Addr × Addr)) (im : Im) (K : Kt PV) (Q : Value → Shared → Prop) : Prop :=
  ∀ ρ' im' σ' p v s', Ext ρ ρ' im im' → K (.ok p) σ' → Rep P ρ' im' v p → St P a ρ' im' σ' s' → Q v s'
theorem ld_v {x : Str} {i : Nat} {u : Value} {Q : Value → Shared → Prop} (hk : slotIs env.scope a.names x i = true) (N : EnvOk a env) (R : Run a.hb a.l a.fr a.V a.s₀ a.L m mu im s) (hL : Loc a m mu x u) (h : Q u s) : wpAny (model prog w) A (loadName env x) Q E s := by
  obtain ⟨hx, hl, -⟩ := slot_of hk
  rcases hL with ⟨_, e⟩ | ⟨c, e, _⟩
  · obtain ⟨f, n1, n2⟩ := R.H.ns
    exact wpAny_loadName_local N.kind hl (N.L ▸ n1) (n2 _ _ e) h
  · rw [N.noc x hl] at e; cases e
theorem load_v {x : Str} {i : Nat} {K : Kt PV} {Q : Value → Shared → Prop} (hk : slotIs env.scope a.names x i = true) (N : EnvOk a env) (S : St P a ρ im σ s) (k : varK σ i K) (q : KQ P a ρ im K Q) :
    wpAny (model prog w) A (loadName env x) Q E s := by
  obtain ⟨hx, hl, -⟩ := slot_of hk
  obtain ⟨m, mu, R, M⟩ := S
  have ld : ∀ {u : Value}, Loc a m mu x u → Q u s → wpAny (model prog w) A (loadName env x) Q E s := fun hL h => ld_v hk N R hL h
  unfold varK at k
  split at k
  · rename_i v e
    obtain ⟨x', u, h1, h2, h3⟩ := M.vars i v e
    rw [hx] at h1; cases h1
    exact ld h2 (q _ _ _ _ _ _ .refl k h3 ⟨m, mu, R, M⟩)
  · split at k
    · rename_i j D l e
      obtain ⟨rfl, k⟩ := k
      obtain ⟨x', o, vs, h1, h2, h3, h4, h5⟩ := M.acc _ _ _ e
      rw [hx] at h1; cases h1
      obtain ⟨mu', R', k'⟩ := R.fixM h3
      have k2 : ∀ p ∈ mu, notList p.2 → p ∈ mu' := fun p hp n => k' p hp fun z => n.elim (fun n => n (by rw [R.fn hp h3 z]; exact h4.at.cls)) fun ⟨_, d⟩ => by rw [R.fn hp h3 z] at d; obtain ⟨_, q⟩ := h4.at.data; exact nomatch q.symm.trans d
      refine ld h2 (q _ _ _ _ _ _ .one k (Rep.lst (.head _) h4.at (h5.up .one)) ⟨m, mu', R', ?_⟩)
      exact (M.toks .one (NewI.ofM R h3) k2).setV hx (h2.to k2) (Rep.lst (.head _) h4.at (h5.up .one))
    · exact k.elim
  · exact k.elim
/-- storing into a local variable -/
theorem store_m {x : Str} {i : Nat} {u : Value} {Q : Unit → Shared → Prop} (hk : slotIs env.scope a.names x i = true) (N : EnvOk a env) (R : Run a.hb a.l a.fr a.V a.s₀ a.L m mu im s)
    (q : ∀ s', Run a.hb a.l a.fr a.V a.s₀ a.L ((x, u) :: m) mu im s' → Q () s') : wpAny (model prog w) A (storeName env x u) Q E s := by
  obtain ⟨hx, hl, -⟩ := slot_of hk
  obtain ⟨f, n1, n2⟩ := R.H.ns
  refine wpAny_storeName_local hl (N.L ▸ n1) (fun h' hn hs => q _ (R.of (R.H.setNs ⟨_, N.L ▸ hn, fun y v e => ?_⟩ (N.L ▸ hs) fun _ => ns_notFields (N.L ▸ hn)))) (by rw [N.kind]; rfl)
  simp only [vmap, List.lookup_cons] at e
  split at e
  · rename_i z; cases e; exact if_pos (eq_of_beq z)
  · rename_i z; exact (if_neg (beq_eq_false_iff_ne.mp z)).trans (n2 _ _ e)
theorem Loc.other {x y : Str} {u v : Value} (h : Loc a m mu y v) (ne : y ≠ x) : Loc a ((x, u) :: m) mu y v :=
  h.imp (fun ⟨e, z⟩ => ⟨e, by simp only [vmap, List.lookup_cons, beq_eq_false_iff_ne.mpr ne]; exact z⟩) id
theorem Loc.here {x : Str} {u : Value} (e : a.cells.lookup x = none) : Loc a ((x, u) :: m) mu x u := .inl ⟨e, by simp [vmap]⟩
/-- a variable's turn: its old value is forgotten -/
theorem StM.turn (S : StM P a ρ im σ m mu) {x : Str} {i : Nat} {u : Value} (nd : a.names.Nodup) (hx : a.names[i]? = some x) (ha : ∀ j D l, σ.acc = some (j, D, l) → j ≠ i) (hs : σ.self = none ∨ i ≠ 0) :
    StM P a ρ im { σ with vars := lset σ.vars i none } ((x, u) :: m) mu where
  vars j v e := by
    obtain ⟨ne, e⟩ := lset_none e
    obtain ⟨y, v', h1, h2, h3⟩ := S.vars j v e
    exact ⟨y, v', h1, h2.other (names_ne nd h1 hx ne), h3⟩
  acc j D l e := let ⟨y, o, vs, h1, h2, h3, h4, h5⟩ := S.acc j D l e; ⟨y, o, vs, h1, h2.other (names_ne nd h1 hx (ha j D l e)), h3, h4, h5⟩
  self f wo e := by
    obtain ⟨y, dx, c0, c2, c3, c4, h1, h2, h3, h4, h5⟩ := S.self f wo e
    exact ⟨y, dx, c0, c2, c3, c4, h1, h2.other (names_ne nd h1 hx (hs.resolve_left (by rw [e]; exact fun z => nomatch z)).symm), h3, h4, h5⟩
  objs := S.objs
  len := S.len
  nd := S.nd
  nw := S.nw
  cel := S.cel
end Mine
end

noncomputable section
open PySem PySem.W PySem.Calls PyProof.Rows
set_option maxRecDepth 100000
namespace Mine
variable {P : Params} {a : Ac} {ρ ρ' : List (Addr × Addr)} {im im' : Im} {σ σ' : Sg} {m m' : Vars} {mu mu' : Im} {s s₀ s' : Shared} {env : Env} {d : Md} {prog : Program} {w : World} {A : Around} {E : Value → Shared → Prop}
  {hb : Heap} {l : List Env} {fr V : List Addr} {L : Addr} {Q : Value → Shared → Prop} {k : PV → Prop} {p q : PV} {u v : Value}
noncomputable def PQ (P : Params) (a : Ac) (ρ : List (Addr × Addr)) (im : Im) (σ : Sg) (k : PV → Prop) (Q : Value → Shared → Prop) : Prop :=
  ∀ im' p v s', Ext ρ ρ im im' → k p → Rep P ρ im' v p → St P a ρ im' σ s' → Q v s'
theorem PQ.now (q : PQ P a ρ im σ k Q) (h : k p) (r : Rep P ρ im v p) (S : St P a ρ im σ s) : Q v s := q im p v s .refl h r S
theorem onInt_e {p : PV} {f : Int → Prop} (h : onInt p f) : ∃ i, p = .int i ∧ f i := by
  unfold onInt at h; split at h
  · exact ⟨_, rfl, h⟩
  · exact h.elim
theorem onStr_e {p : PV} {f : List Nat → Prop} (h : onStr p f) : ∃ i, p = .str i ∧ f i := by
  unfold onStr at h; split at h
  · exact ⟨_, rfl, h⟩
  · exact h.elim
theorem onLst_e {p : PV} {f : List PV → Prop} (h : onLst p f) : ∃ i, p = .lst i ∧ f i := by
  unfold onLst at h; split at h
  · exact ⟨_, rfl, h⟩
  · exact h.elim
theorem onByt_e {p : PV} {f : List Nat → Prop} (h : onByt p f) : ∃ i, p = .bytes i ∧ f i := by
  unfold onByt at h; split at h
  · exact ⟨_, rfl, h⟩
  · exact h.elim
theorem optK_e {α : Type} {o : Option α} {f : α → Prop} (h : optK o f) : ∃ i, o = some i ∧ f i := by
  unfold optK at h; split at h
  · exact ⟨_, rfl, h⟩
  · exact h.elim
theorem one_e {l : List PV} {f : PV → Prop} (h : one l f) : ∃ i, l = [i] ∧ f i := by
  unfold one at h; split at h
  · exact ⟨_, rfl, h⟩
  · exact h.elim
theorem leq_iff : ∀ {x y : List Nat}, leq x y = true ↔ x = y := by
  intro x
  induction x with
  | nil => intro y; cases y <;> simp [leq]
  | cons _ _ ih => intro y; cases y <;> simp [leq, ih]
theorem Rep.none_e (h : Rep P ρ im v .none) : v = .none := h
theorem Rep.bool_e {b : Bool} (h : Rep P ρ im v (.bool b)) : v = .bool b := h
theorem Rep.int_e {i : Int} (h : Rep P ρ im v (.int i)) : ∃ t, v = .int i t := h
theorem Rep.str_e {x : List Nat} (h : Rep P ρ im v (.str x)) : ∃ t, v = .str ⟨x.toArray⟩ t := h
theorem Rep.byt_e {x : List Nat} (h : Rep P ρ im v (.bytes x)) : ∃ b t, v = .bytes b t ∧ octs b = x := h
theorem Rep.cls_e {b : Bool} (h : Rep P ρ im v (.cls b)) : v = .ref (clsAt b) := h
theorem St.heap (S : St P a ρ im σ s) {p : Addr × Obj} (h : p ∈ im) : s.heap.get? p.1 = some p.2 := let ⟨_, _, R, _⟩ := S; R.H.him p h
theorem Rep.lst_e {x : List PV} (h : Rep P ρ im v (.lst x)) : ∃ D o vs, v = .ref D ∧ (D, o) ∈ im ∧ ListAt o vs ∧ Reps P ρ im vs x := h
theorem Rep.tup_e {x : List PV} (h : Rep P ρ im v (.tup x)) : ∃ D vs, v = .ref D ∧ (D, tupO vs) ∈ im ∧ Reps P ρ im vs x := h
theorem St.list (S : St P a ρ im σ s) {D : Addr} {o : Obj} {vs : List Value} (h : (D, o) ∈ im) (e : ListAt o vs) : s.heap.IsList D vs.toArray :=
  let ⟨n, z⟩ := e.data; ⟨o, S.heap h, e.cls, n, z⟩
theorem St.tuple (S : St P a ρ im σ s) {D : Addr} {vs : List Value} (h : (D, tupO vs) ∈ im) : s.heap.IsTuple D vs.toArray := ⟨_, S.heap h, rfl, 0, rfl⟩
theorem str_app (x y : List Nat) : (⟨x.toArray⟩ : Str) ++ ⟨y.toArray⟩ = ⟨(x ++ y).toArray⟩ := congrArg Str.mk (a₁ := x.toArray ++ y.toArray) (by simp)
theorem str_len (x : List Nat) : (⟨x.toArray⟩ : Str).length = x.length := by simp [Str.length]
theorem str_nil {x : List Nat} (h : ((⟨x.toArray⟩ : Str).length == 0) = true) : x = [] := by rw [str_len] at h; exact List.length_eq_zero_iff.mp (beq_iff_eq.mp h)
/-- a new immutable object -/
theorem St.push (S : St P a ρ im σ s) (o : Obj) (hf : o.isFreed = false) : St P a ρ ((s.heap.objs.size, o) :: im) σ { s with heap := s.heap.push o } :=
  let ⟨m, mu, R, M⟩ := S; ⟨m, mu, ⟨R.H.push o hf, R.oth⟩, M.up .one (NewI.push R) fun _ h => h⟩
theorem add_made {x y : List Nat} {t u : Tok} (S : St P a ρ im σ s) (z : x.length + y.length ≤ S16) (h : k (.str (x ++ y))) (q : PQ P a ρ im σ k Q) :
    (if (⟨x.toArray⟩ : Str).length == 0 then Made.val (.str ⟨y.toArray⟩ u) else if (⟨y.toArray⟩ : Str).length == 0 then Made.val (.str ⟨x.toArray⟩ t) else Made.str (⟨x.toArray⟩ ++ ⟨y.toArray⟩)).post Q s := by
  split
  · rename_i e; cases str_nil e; exact q.now h Rep.str S
  · split
    · rename_i e; cases str_nil e; rw [List.append_nil] at h; exact q.now h Rep.str S
    · rw [str_app]
      exact ⟨by rw [str_len, List.length_append]; exact z, q.now h Rep.str S⟩
theorem newL_ok {vs : List Value} {ps : List PV} (S : St P a ρ im σ s) (r : Reps P ρ im vs ps) (z : vs.length ≤ S16) (h : k (.lst ps)) (q : PQ P a ρ im σ k Q) : wpAny (model prog w) A (newList vs) Q E s :=
  wpAny_newObj_type (q _ _ _ _ .one h (Rep.lst (.head _) ⟨rfl, 0, rfl⟩ (r.up .one)) (S.push _ rfl)) (by show vs.toArray.size ≤ sizeLine; rw [List.size_toArray]; exact z)
theorem newT_ok {vs : List Value} {ps : List PV} (S : St P a ρ im σ s) (r : Reps P ρ im vs ps) (z : vs.length ≤ S16) (h : k (.tup ps)) (q : PQ P a ρ im σ k Q) : wpAny (model prog w) A (newTuple vs) Q E s :=
  wpAny_newObj_type (q _ _ _ _ .one h (Rep.tup (.head _) (r.up .one)) (S.push _ rfl)) (by show vs.toArray.size ≤ sizeLine; rw [List.size_toArray]; exact z)
theorem rep_len (x : List Nat) : ∀ n, (rep n x).length = n * x.length := by
  intro n
  induction n with
  | zero => simp [rep]
  | succ n ih => rw [rep, List.length_append, ih, Nat.succ_mul, Nat.add_comm]
theorem str_rep (x : List Nat) : ∀ (n : Nat) (acc : Array Nat), ((List.replicate n x.toArray).foldl (· ++ ·) acc) = (acc.toList ++ rep n x).toArray := by
  intro n
  induction n with
  | zero => intro acc; simp [rep]
  | succ n ih => intro acc; rw [List.replicate_succ, List.foldl_cons, ih]; simp [rep]
theorem bin_ok {o : Operator} (hk : binK o p q k) (rp : Rep P ρ im v p) (rq : Rep P ρ im u q) (S : St P a ρ im σ s) (c : PQ P a ρ im σ k Q) : wpAny (model prog w) A (binaryOp o v u) Q E s := by
  unfold binK at hk
  split at hk
  · unfold addK at hk
    split at hk
    · obtain ⟨j, rfl, h⟩ := onInt_e hk
      obtain ⟨t, rfl⟩ := rp.int_e
      obtain ⟨t', rfl⟩ := rq.int_e
      exact add_int (c.now h Rep.int S)
    · obtain ⟨j, rfl, z, h⟩ := onStr_e hk
      obtain ⟨t, rfl⟩ := rp.str_e
      obtain ⟨t', rfl⟩ := rq.str_e
      exact PySem.P.add_str (add_made S z h c)
    · obtain ⟨j, rfl, z, h⟩ := onLst_e hk
      obtain ⟨D, ⟨cl, dd, da, sl⟩, vs, rfl, h1, ⟨h2, n, h3⟩, h4⟩ := rp.lst_e
      obtain ⟨D', ⟨cl', dd', da', sl'⟩, vs', rfl, h1', ⟨h2', n', h3'⟩, h4'⟩ := rq.lst_e
      simp only at h2 h3 h2' h3'
      subst h2 h3 h2' h3'
      have e : vs.toArray ++ vs'.toArray = (vs ++ vs').toArray := by simp
      refine concat_meets ⟨_, S.heap h1, rfl⟩ ⟨_, S.heap h1', rfl⟩ noFill_list_add seq_list_add PySem.F.slot_list_add PySem.F.entry_list_add (PySem.F.args_list_add_2 _ _) (list_addW D D' vs.toArray vs'.toArray n n' dd dd' sl sl' (by rw [List.size_toArray, List.size_toArray, h4.len, h4'.len]; exact z)) ⟨S.heap h1, S.heap h1', ?_⟩
      rw [e]
      have r := (h4.app h4').up (.one (p := (s.heap.objs.size, { cls := .type "list", data := .seq (vs ++ vs').toArray })))
      exact c _ _ _ _ .one h (Rep.lst (.head _) ⟨rfl, 0, rfl⟩ r) (S.push _ rfl)
    · exact hk.elim
  · obtain ⟨i, rfl, hk2⟩ := onInt_e hk
    obtain ⟨j, rfl, h⟩ := onInt_e hk2
    obtain ⟨t, rfl⟩ := rp.int_e
    obtain ⟨t', rfl⟩ := rq.int_e
    exact PySem.P.sub_int (c.now h Rep.int S)
  · obtain ⟨i, rfl, hk2⟩ := onInt_e hk
    obtain ⟨j, rfl, ⟨z, z'⟩, h⟩ := onInt_e hk2
    obtain ⟨t, rfl⟩ := rp.int_e
    obtain ⟨t', rfl⟩ := rq.int_e
    exact floordiv_int (Int.ne_of_gt z) (c.now h Rep.int S) (.inl (PyProof.noPylong_small z'))
  · split at hk
    · obtain ⟨j, rfl, z, h⟩ := onInt_e hk
      obtain ⟨t, rfl⟩ := rp.int_e
      obtain ⟨t', rfl⟩ := rq.int_e
      exact mod_int' (Int.ne_of_gt z) (c.now h Rep.int S)
    · split at hk
      · obtain ⟨t, rfl⟩ := rp.str_e
        obtain ⟨D, vs, rfl, h1, h2⟩ := rq.tup_e
        unfold fmtK at hk
        split at hk
        · rename_i m' n' r
          obtain ⟨m, rfl, hk⟩ := onStr_e hk
          obtain ⟨n, rfl, z1, z2, hk⟩ := onInt_e hk
          cases vs with | nil => cases h2.len | cons v1 vs =>
          cases vs with | nil => cases h2.len | cons v2 vs =>
          obtain ⟨t1, rfl⟩ := h2.head.str_e
          obtain ⟨t2, rfl⟩ := h2.tail.head.int_e
          obtain ⟨_, _, R, M⟩ := id S
          split at hk
          · obtain ⟨ef, h⟩ := obD_e hk
            cases leq_iff.mp ef
            cases vs with | cons _ _ => cases h2.tail.tail.len | nil =>
            have e : (⟨fAt.toArray⟩ : Str) = Str.ofString "%s at position %d" := by decide +kernel
            rw [e]
            exact mod_at R h1 (by rw [str_len]; exact z1) z2 fun t' tk => c.now h Rep.str S
          · obtain ⟨b, rfl, hk⟩ := onInt_e hk
            obtain ⟨ef, hk⟩ := obD_e hk
            obtain ⟨el, z3, h⟩ := obD_e hk
            cases leq_iff.mp ef
            cases vs with | nil => cases h2.tail.tail.len | cons v3 vs =>
            obtain ⟨t3, rfl⟩ := h2.tail.tail.head.int_e
            have lz := h2.tail.tail.len
            rw [el] at lz
            cases vs with | cons _ _ => cases lz | nil =>
            have e : (⟨fLC.toArray⟩ : Str) = Str.ofString "%s (line %d, column %d)" := by decide +kernel
            rw [e]
            exact mod_lc R h1 (by rw [str_len]; exact z1) z2 z3 fun t' tk => c.now h Rep.str S
        · exact hk.elim
      · exact hk.elim
    · exact hk.elim
  · obtain ⟨i, rfl, hk2⟩ := onInt_e hk
    clear hk
    obtain ⟨t, rfl⟩ := rp.int_e
    split at hk2
    · obtain ⟨z1, z2, h⟩ := hk2
      obtain ⟨t', rfl⟩ := rq.int_e
      exact PySem.P.mul_int (c.now h Rep.int S) (.of_left (intBits_le_64 (by omega) (by omega)))
    · rename_i x
      obtain ⟨⟨z1, z2⟩, ⟨z3, z4⟩, h⟩ := hk2
      obtain ⟨t', rfl⟩ := rq.str_e
      obtain ⟨n, rfl⟩ := Int.eq_ofNat_of_zero_le (Int.le_trans (by decide) z1)
      refine lm_binaryOp_repeat_right (T := "str") (U := "int") (by decide) (fun s' => typeIs_int s' _ t) (typeIs_str _ _ _) F.fills_int_mul noFill_str_mul F.slot_int_mul lm_noRepeat_int repeat_str F.slot_int_index.lookup
        (call_gives F.slot_int_mul (typeIs_int s _ t) F.entry_int_mul (F.args_int_mul_2 _ _) (AutoIntG3.int___mul___int_str_0 _ t _ t') ⟨rfl, typeIs_str _ _ _, ?_⟩)
      have e1 : ((n : Int) == 1 || (⟨x.toArray⟩ : Str).length == 0) = false := by
        rw [str_len, Bool.or_eq_false_iff]; exact ⟨beq_eq_false_iff_ne.mpr (by omega), beq_eq_false_iff_ne.mpr (by omega)⟩
      refine call_gives F.slot_str_mul (typeIs_str s _ t') F.entry_str_mul (F.args_str_mul_2 _ _) (gives_str_mul ⟨x.toArray⟩ n t' t ?_ (fun _ _ => ?_) fun _ _ => ?_) ?_
      · rw [decide_eq_false (by omega), decide_eq_false (by omega)]; rfl
      · rw [str_len]
        have := Int.le_ediv_of_mul_le (a := 90000000000000000) (b := (2 ^ 63 - 1 : Int)) (c := (n : Int)) (by omega) (by omega)
        omega
      · rw [str_len]
        have : x.length * n ≤ 10 * 100 := Nat.mul_le_mul z4 (by omega)
        exact decide_eq_false (by rw [sizeLine_eq]; show ¬ x.length * n > _; omega)
      · rw [if_neg (by omega), if_neg (by rw [e1]; decide), str_rep]
        exact ⟨by rw [str_len, Array.toList_empty, List.nil_append, rep_len]; have : n * x.length ≤ 100 * 10 := Nat.mul_le_mul (by omega) z4; rw [sizeLine_eq]; exact Nat.le_trans this (by decide), c.now h Rep.str S⟩
    · exact hk2.elim
  · exact hk.elim
end Mine
end

noncomputable section
open PySem PySem.W PySem.Calls PyProof.Rows PySem.SeqAt
set_option maxRecDepth 100000
namespace Mine
variable {P : Params} {a : Ac} {ρ ρ' : List (Addr × Addr)} {im im' : Im} {σ σ' : Sg} {m m' : Vars} {mu mu' : Im} {s s₀ s' : Shared} {env : Env} {d : Md} {prog : Program} {w : World} {A : Around} {E : Value → Shared → Prop}
  {hb : Heap} {l : List Env} {fr V : List Addr} {L : Addr} {Q : Value → Shared → Prop} {k : PV → Prop} {p q : PV} {u v : Value}
noncomputable abbrev Kn (s : Shared) (im : Im) : Prop := ∀ p ∈ im, s.heap.get? p.1 = some p.2
structure EqF (P : Params) (ρ : List (Addr × Addr)) (im : Im) (s : Shared) (A : Around) (f : PV → PV → Option Bool) : Prop where
  eq : ∀ {p q b v u}, f p q = some b → Rep P ρ im v p → Rep P ρ im u q → EqAt A s v u b
  same : ∀ {p q b v}, f p q = some b → Rep P ρ im v p → Rep P ρ im v q → b = true
theorem peqL_cons {f : PV → PV → Option Bool} {p q : PV} {l k : List PV} {r : Bool} (h : peqL f (p :: l) (q :: k) = some r) : ∃ x y, f p q = some x ∧ peqL f l k = some y ∧ r = (x && y) := by
  simp only [peqL] at h
  split at h
  · rename_i x e
    obtain ⟨y, e2, e3⟩ := Option.map_eq_some_iff.mp h
    exact ⟨x, y, e, e2, e3.symm⟩
  · cases h
theorem peqL_at {f : PV → PV → Option Bool} (F : EqF P ρ im s A f) : ∀ {l k : List PV} {vs us : List Value} {r : Bool}, peqL f l k = some r → Reps P ρ im vs l → Reps P ρ im us k →
    ∃ e : Nat → Bool, (∀ j (h1 : j < vs.toArray.size) (h2 : j < us.toArray.size), EqAt A s vs.toArray[j] us.toArray[j] (e j)) ∧ r = ((List.range (min vs.length us.length)).all e && vs.length == us.length) := by
  intro l
  induction l with
  | nil =>
    intro k vs us r h h1 h2
    cases vs with | cons _ _ => cases h1.len | nil =>
    refine ⟨fun _ => true, fun j z => absurd z (Nat.not_lt_zero _), ?_⟩
    cases k with
    | nil => cases us with | cons _ _ => cases h2.len | nil => cases h; rfl
    | cons _ _ => cases us with | nil => cases h2.len | cons _ _ => cases h; rw [List.length_nil, Nat.zero_min]; rfl
  | cons p l ih =>
    intro k vs us r h h1 h2
    cases vs with | nil => cases h1.len | cons v vs =>
    cases k with
    | nil => cases us with | cons _ _ => cases h2.len | nil => cases h; exact ⟨fun _ => true, fun j _ z => absurd z (Nat.not_lt_zero _), by rw [List.length_nil, Nat.min_zero]; rfl⟩
    | cons q k =>
      cases us with | nil => cases h2.len | cons u us =>
      obtain ⟨x, y, e1, e2, rfl⟩ := peqL_cons h
      obtain ⟨e, a, b⟩ := ih e2 h1.tail h2.tail
      refine ⟨fun j => match j with | 0 => x | j + 1 => e j, fun j z1 z2 => ?_, ?_⟩
      · cases j with
        | zero => exact F.eq e1 h1.head h2.head
        | succ j => exact a j (Nat.lt_of_succ_lt_succ z1) (Nat.lt_of_succ_lt_succ z2)
      · rw [b, List.length_cons, List.length_cons, Nat.succ_min_succ, List.range_succ_eq_map, List.all_cons, List.all_map, Bool.and_assoc]
        congr 2
        exact (Bool.eq_iff_iff.mpr (by simp)).symm
theorem peqL_same {f : PV → PV → Option Bool} (F : EqF P ρ im s A f) : ∀ {l k : List PV} {vs : List Value} {r : Bool}, peqL f l k = some r → Reps P ρ im vs l → Reps P ρ im vs k → r = true := by
  intro l
  induction l with
  | nil =>
    intro k vs r h h1 h2
    cases vs with | cons _ _ => cases h1.len | nil =>
    cases k with | cons _ _ => cases h2.len | nil => cases h; rfl
  | cons p l ih =>
    intro k vs r h h1 h2
    cases vs with | nil => cases h1.len | cons v vs =>
    cases k with | nil => cases h2.len | cons q k =>
    obtain ⟨x, y, e1, e2, rfl⟩ := peqL_cons h
    rw [F.same e1 h1.head h2.head, ih e2 h1.tail h2.tail]; rfl
theorem oct_inj {b c : Array UInt8} (h : octs b = octs c) : b = c := Array.toList_inj.mp ((List.map_inj_right fun _ _ e => UInt8.toNat_inj.mp e).mp h)
theorem leq_str (x y : List Nat) : ((⟨x.toArray⟩ : Str) == ⟨y.toArray⟩) = leq x y := by
  rw [Bool.eq_iff_iff, leq_iff, beq_iff_eq]
  exact ⟨fun e => by have := congrArg (fun z : Str => z.cps.toList) e; simpa using this, fun e => by rw [e]⟩
theorem leq_oct (b c : Array UInt8) : (b.toList == c.toList) = leq (octs b) (octs c) := by
  rw [Bool.eq_iff_iff, leq_iff, beq_iff_eq]
  exact ⟨fun e => congrArg (List.map UInt8.toNat) e, fun e => congrArg Array.toList (oct_inj e)⟩
/-- a plain value's kind -/
theorem Rep.kind (h : Rep P ρ im v p) : (v = .none ∧ p = .none) ∨ (∃ b, v = .bool b) ∨ (∃ i t, v = .int i t) ∨ (∃ x t, v = .str x t) ∨ (∃ x t, v = .bytes x t) ∨ ∃ a, v = .ref a := by
  cases p with
  | none => exact .inl ⟨h, rfl⟩
  | bool b => exact .inr (.inl ⟨b, h⟩)
  | int i => exact .inr (.inr (.inl ⟨i, h⟩))
  | str x => exact .inr (.inr (.inr (.inl ⟨_, h⟩)))
  | bytes x => exact .inr (.inr (.inr (.inr (.inl (h.imp fun _ h => h.imp fun _ h => h.1)))))
  | tup l => exact .inr (.inr (.inr (.inr (.inr (h.imp fun _ h => h.elim fun _ h => h.1)))))
  | lst l => exact .inr (.inr (.inr (.inr (.inr (h.imp fun _ h => h.elim fun _ h => h.elim fun _ h => h.1)))))
  | set l => exact .inr (.inr (.inr (.inr (.inr (h.imp fun _ h => h.elim fun _ h => h.1)))))
  | err f w => exact .inr (.inr (.inr (.inr (.inr (h.elim fun _ h => h.1.imp fun _ h => h.1)))))
  | obj i => exact .inr (.inr (.inr (.inr (.inr (h.imp fun _ h => h.elim fun _ h => h.1)))))
  | cls k => exact .inr (.inr (.inr (.inr (.inr ⟨_, h⟩))))
theorem EqAt.ofRc {b : Bool} (h : RcAt A s v u b) (hf : Rep P ρ im v p) (hs : v = u → b = true) : EqAt A s v u b := by
  intro prog w E Q hQ
  unfold eqBool
  refine wpAny_holding (wpAny_ite_split (fun e => ?_) fun _ => ?_)
  · rw [hs (eq_of_beq e)] at hQ; exact wpAny_bind (wpAny_rule (wpAny_pure hQ))
  · rcases hf.kind with ⟨rfl, _⟩ | ⟨_, rfl⟩ | ⟨_, _, rfl⟩ | ⟨_, _, rfl⟩ | ⟨_, _, rfl⟩ | ⟨_, rfl⟩ <;> exact wpAny_bind (h prog w E _ (wpAny_truthy_bool hQ))
theorem Kn.list (H : Kn s im) {D : Addr} {o : Obj} {vs : List Value} (h : (D, o) ∈ im) (e : ListAt o vs) : s.heap.IsList D vs.toArray := let ⟨n, z⟩ := e.data; ⟨o, H _ h, e.cls, n, z⟩
theorem Kn.tuple (H : Kn s im) {D : Addr} {vs : List Value} (h : (D, tupO vs) ∈ im) : s.heap.IsTuple D vs.toArray := ⟨_, H _ h, rfl, 0, rfl⟩
structure RcF (P : Params) (ρ : List (Addr × Addr)) (im : Im) (s : Shared) (A : Around) (v u : Value) (b : Bool) : Prop where
  eq : RcAt A s v u b
  ne : RcNeAt A s v u (!b)
theorem rc_at {f : PV → PV → Option Bool} (F : EqF P ρ im s A.in1 f) (hu : A.units < cLine) (H : Kn s im) {b : Bool} (h : peqS f p q = some b) (rp : Rep P ρ im v p) (rq : Rep P ρ im u q) : RcF P ρ im s A v u b := by
  unfold peqS at h
  split at h
  · cases rp.none_e
    split at h
    · cases rq.none_e; cases h; exact ⟨RcAt.none_none, RcNeAt.none_none⟩
    · obtain ⟨t, rfl⟩ := rq.str_e; cases h; exact ⟨RcAt.none_str _ _, RcNeAt.none_str _ _⟩
    · obtain ⟨D, o, vs, rfl, h1, h2, h3⟩ := rq.lst_e; cases h; exact ⟨RcAt.none_list (H.list h1 h2) hu, RcNeAt.none_list (H.list h1 h2) hu⟩
    · cases h
  · obtain ⟨t, rfl⟩ := rp.str_e
    split at h
    · obtain ⟨t', rfl⟩ := rq.str_e; cases h; rw [← leq_str]; exact ⟨RcAt.str_str _ _ _ _, RcNeAt.str_str _ _ _ _⟩
    · cases rq.none_e; cases h; exact ⟨RcAt.str_none _ _, RcNeAt.str_none _ _⟩
    · obtain ⟨D, o, vs, rfl, h1, h2, h3⟩ := rq.lst_e; cases h; exact ⟨RcAt.str_list _ _ (H.list h1 h2) hu, RcNeAt.str_list _ _ (H.list h1 h2) hu⟩
    · cases h
  · cases rp.bool_e
    split at h
    · cases rq.bool_e; cases h; exact ⟨RcAt.bool_bool _ _, RcNeAt.bool_bool _ _⟩
    · obtain ⟨D, o, vs, rfl, h1, h2, h3⟩ := rq.lst_e; cases h; exact ⟨RcAt.bool_list _ (H.list h1 h2) hu, RcNeAt.bool_list _ (H.list h1 h2) hu⟩
    · cases h
  · obtain ⟨t, rfl⟩ := rp.int_e
    split at h
    · obtain ⟨t', rfl⟩ := rq.int_e; cases h; exact ⟨RcAt.int_int _ _ _ _, RcNeAt.int_int _ _ _ _⟩
    · cases h
  · obtain ⟨c, t, rfl, rfl⟩ := rp.byt_e
    split at h
    · obtain ⟨c', t', rfl, rfl⟩ := rq.byt_e; cases h
      have e := leq_oct c c'
      refine ⟨fun prog w E Q hQ => eq_bytes (by rw [e]; exact hQ), fun prog w E Q hQ => ne_bytes (by show Q (.bool (!(c.toList == c'.toList))) s; rw [e]; exact hQ)⟩
    · cases h
  · obtain ⟨D, vs, rfl, h1, h2⟩ := rp.tup_e
    split at h
    · obtain ⟨D', us, rfl, h3, h4⟩ := rq.tup_e
      obtain ⟨e, z, rfl⟩ := peqL_at F h h2 h4
      exact ⟨RcAt.tuples (H.tuple h1) (H.tuple h3) hu z, RcNeAt.tuples (H.tuple h1) (H.tuple h3) hu z⟩
    · cases h
  · obtain ⟨D, o, vs, rfl, h1, h1', h2⟩ := rp.lst_e
    split at h
    · obtain ⟨D', o', us, rfl, h3, h3', h4⟩ := rq.lst_e
      split at h
      · rename_i el
        have el' : vs.length = us.length := h2.len.trans (el.trans h4.len.symm)
        obtain ⟨e, z, rfl⟩ := peqL_at F h h2 h4
        rw [el', Nat.min_self, beq_self_eq_true, Bool.and_true]
        have x := RcAt.lists (e := e) (H.list h1 h1') (H.list h3 h3') (by simpa using el') hu z
        have y := RcNeAt.lists (e := e) (H.list h1 h1') (H.list h3 h3') (by simpa using el') hu z
        rw [List.size_toArray, el'] at x y
        exact ⟨x, y⟩
      · rename_i el
        cases h
        have el' : (vs.toArray.size != us.toArray.size) = true := bne_iff_ne.mpr fun z => el (h2.len.symm.trans ((by simpa using z : vs.length = us.length).trans h4.len))
        exact ⟨RcAt.lists_lengths (H.list h1 h1') (H.list h3 h3') el' hu, RcNeAt.lists_lengths (H.list h1 h1') (H.list h3 h3') el' hu⟩
    · cases rq.none_e; cases h; exact ⟨RcAt.list_none (H.list h1 h1') hu, RcNeAt.list_none (H.list h1 h1') hu⟩
    · obtain ⟨t', rfl⟩ := rq.str_e; cases h; exact ⟨RcAt.list_str _ _ (H.list h1 h1') hu, RcNeAt.list_str _ _ (H.list h1 h1') hu⟩
    · cases h
  · cases h
theorem EqF.step {f : PV → PV → Option Bool} (F : EqF P ρ im s A.in1 f) (hu : A.units < cLine) (H : Kn s im) : EqF P ρ im s A (peqS f) := by
  have same : ∀ {p q b v}, peqS f p q = some b → Rep P ρ im v p → Rep P ρ im v q → b = true := by
    intro p q b v h rp rq
    have seq : ∀ {D o o'}, (D, o) ∈ im → (D, o') ∈ im → o = o' := fun h1 h2 => Option.some.inj ((H _ h1).symm.trans (H _ h2))
    unfold peqS at h
    split at h
    · cases rp.none_e
      split at h
      · cases h; rfl
      · obtain ⟨_, e⟩ := rq.str_e; cases e
      · obtain ⟨_, _, _, e, _⟩ := rq.lst_e; cases e
      · cases h
    · obtain ⟨t, rfl⟩ := rp.str_e
      split at h
      · obtain ⟨_, e⟩ := rq.str_e; cases e; cases h; exact leq_iff.mpr rfl
      · cases rq.none_e
      · obtain ⟨_, _, _, e, _⟩ := rq.lst_e; cases e
      · cases h
    · cases rp.bool_e
      split at h
      · cases rq.bool_e; cases h; exact beq_self_eq_true _
      · obtain ⟨_, _, _, e, _⟩ := rq.lst_e; cases e
      · cases h
    · obtain ⟨t, rfl⟩ := rp.int_e
      split at h
      · obtain ⟨_, e⟩ := rq.int_e; cases e; cases h; exact decide_eq_true rfl
      · cases h
    · obtain ⟨c, t, rfl, rfl⟩ := rp.byt_e
      split at h
      · obtain ⟨_, _, e, rfl⟩ := rq.byt_e; cases e; cases h; exact leq_iff.mpr rfl
      · cases h
    · obtain ⟨D, vs, rfl, h1, h2⟩ := rp.tup_e
      split at h
      · obtain ⟨D', us, e, h3, h4⟩ := rq.tup_e
        cases e
        have e := seq h1 h3
        have e : vs = us := by have := (Data.seq.inj (congrArg Obj.data e)).1; simpa using this
        subst e
        exact peqL_same F h h2 h4
      · cases h
    · obtain ⟨D, o, vs, rfl, h1, ⟨_, n, h1'⟩, h2⟩ := rp.lst_e
      split at h
      · obtain ⟨D', o', us, e, h3, ⟨_, n', h3'⟩, h4⟩ := rq.lst_e
        cases e
        cases seq h1 h3
        have e : vs = us := by have := (Data.seq.inj (h1'.symm.trans h3')).1; simpa using this
        subst e
        rw [if_pos (h2.len.symm.trans h4.len)] at h
        exact peqL_same F h h2 h4
      · cases rq.none_e
      · obtain ⟨_, e⟩ := rq.str_e; cases e
      · cases h
    · cases h
  exact ⟨fun h rp rq => Mine.EqAt.ofRc (rc_at F hu H h rp rq).eq rp fun e => same h rp (by rw [e]; exact rq), same⟩
theorem no_some {x : Bool} {R : Prop} (h : (none : Option Bool) = some x) : R := by cases h
theorem EqF.none : EqF P ρ im s A (fun _ _ => Option.none) where
  eq h _ _ := no_some h
  same h _ _ := no_some h
theorem cmp_eq (hu : A.units + 10 < cLine) (H : Kn s im) {b : Bool} (h : peq p q = some b) (rp : Rep P ρ im v p) (rq : Rep P ρ im u q) : RcF P ρ im s A v u b := by
  unfold peq at h
  exact rc_at (.step (.step (.step .none (by show A.units + 1 + 1 + 1 < cLine; omega) H) (by show A.units + 1 + 1 < cLine; omega) H) (by show A.units + 1 < cLine; omega) H) (by omega) H h rp rq
end Mine
end

noncomputable section
open PySem PySem.W PySem.Calls PyProof.Rows PySem.SeqAt
set_option maxRecDepth 100000
namespace Mine
variable {P : Params} {a : Ac} {ρ ρ' : List (Addr × Addr)} {im im' : Im} {σ σ' : Sg} {m m' : Vars} {mu mu' : Im} {s s₀ s' : Shared} {env : Env} {d : Md} {prog : Program} {w : World} {A : Around} {E : Value → Shared → Prop}
  {hb : Heap} {l : List Env} {fr V : List Addr} {L : Addr} {Q : Value → Shared → Prop} {k : PV → Prop} {p q : PV} {u v : Value}
/-- what is being handled -/
noncomputable def HdOk (A : Around) (im : Im) : Prop := A.handled = none ∨ ∃ e cls dx c0 tb c3 c4, A.handled = some (.ref e) ∧ (e, exO cls dx c0 tb .none c3 c4) ∈ im
theorem entry_unchain : entryFor table "proto.unchain" = some Builtin.«proto.unchain» := entryFor_of_tree (by kernel_rfl)
theorem raiseNew_g {α : Type} {e : Addr} {cls a0 tb c2 c3 c4 : Value} {dx : Option Addr} {Q : α → Shared → Prop} (H : HdOk A im) (R : Run hb l fr V s₀ L m ((e, exO cls dx a0 tb c2 c3 c4) :: mu) im s)
    (k : ∀ c2 s', Run hb l fr V s₀ L m ((e, exO cls dx a0 tb c2 c3 c4) :: mu) im s' → E (.ref e) s') : wpAny (model prog w) A (raiseNew (.ref e) : Sem α) Q E s := by
  unfold raiseNew
  refine wpAny_bind (wpAny_handled ?_)
  rcases H with hh | ⟨e', cls', dx', c0, tb', c3', c4', hh, hm⟩
  · rw [hh]
    first | exact wpAny_throw (k _ _ R) | exact wpAny_bind (wpAny_pure (wpAny_throw (k _ _ R)))
  · rw [hh]
    have ne : e ≠ e' := R.H.apart _ (.head _) _ hm
    dsimp only
    rw [if_pos (by simpa using ne.symm)]
    have he := R.H.hmu _ (.head _)
    have he' := R.H.him _ hm
    refine wpAny_bind (wpAny_holding (wpAny_runValue (codeAny_builtin entry_unchain ?_)))
    show wpAny _ _ (field (.ref e') 2 >>= fun r => _) _ _ s
    refine wpAny_bind (wpAny_field he' rfl (x := .none) rfl ?_)
    rw [if_pos (show (Value.none == Value.none) = true from rfl)]
    refine wpAny_pure (wpAny_bind ?_)
    show wpAny _ _ (setField (.ref e) 2 (.ref e')) _ _ s
    refine wpAny_setField he rfl (by simp) (wpAny_throw (k (.ref e') _ ⟨R.H.upd .head (Heap.SameBut.update _ e _) (Heap.get?_update_self (Obj.mapFields (·.setIfInBounds 2 (Value.ref e'))) he rfl), R.oth⟩))
theorem raiseMade_g {α : Type} {cls msg : String} {Q : α → Shared → Prop} (H : HdOk A im) (R : Run hb l fr V s₀ L m mu im s) (hp : PlainExc cls)
    (k : ∀ e t c2 u s', Run hb l fr V s₀ L m ((e, exO (.type cls) none (.ref t) .none c2 .none (.bool false)) :: mu) ((t, tupO [.str msg u]) :: im) s' → E (.ref e) s') (hm : (msg : Str).length ≤ sizeLine) :
    wpAny (model prog w) A (raiseErrorMade cls msg : Sem α) Q E s := by
  unfold raiseErrorMade
  refine wpAny_bind (wpAny_mkStr (wpAny_bind ?_) hm)
  unfold newExc newTuple
  refine wpAny_bind (wpAny_newObj_type ?_)
  refine wpAny_bind (m := firstArgMember _ _) (wpAny_of_eq (a := Value.none) (by simp only [firstArgMember, hp.first]; rfl) ?_)
  rw [hp.own]
  refine wpAny_newObj_type ?_
  have R1 := R.H.push (tupO [.str msg s.toks]) rfl
  have R2 := R1.pushM (exO (.type cls) none (.ref s.heap.objs.size) .none .none .none (.bool false)) rfl
  exact raiseNew_g (H.imp id fun ⟨e, c, x, y, z, w, v, h1, h2⟩ => ⟨e, c, x, y, z, w, v, h1, .tail _ h2⟩) ⟨R2, R.oth⟩ fun c2 s' R' => k _ _ _ _ _ R'
theorem in_octs_g {b : Array UInt8} {c : UInt8} {t u : Tok} (H : HdOk A im) (R : Run hb l fr V s₀ L m mu im s) (h : ∀ s', Run hb l fr V s₀ L m mu im s' → Q (.bool ((octs b).contains c.toNat)) s') :
    wpAny (model prog w) A (compareOp .In (.bytes #[c] u) (.bytes b t)) Q E s := by
  show wpAny _ _ (do return .bool (← contains (.bytes b t) (.bytes #[c] u))) Q E s
  refine wpAny_bind (wpAny_contains_slot (typeIs_bytes s b t) FB.slot_bytes_contains ?_)
  refine wpAny_call (codeAny_call_builtin FB.slot_bytes_contains.plain FB.entry_bytes_contains (FB.slot_bytes_contains.check _ _ _ _ _ _ _ _ (typeIs_bytes s b t) (FB.args_bytes_contains_2 _ _) ?_))
  show wpAny _ _ (Builtin.Bytes.containsIn "bytes.__contains__" (.bytes b t) (.bytes #[c] u) >>= fun r => _) _ _ s
  unfold Builtin.Bytes.containsIn
  refine wpAny_bind (wpAny_bind (wpAny_attempt ?_))
  unfold asIndex
  refine wpAny_bind (wpAny_of_eq (a := none) rfl ?_)
  refine wpAny_bind (wpAny_of_eq (a := none) (by kernel_rfl) ?_)
  refine wpAny_bind (wpAny_of_eq (a := "bytes") (by kernel_rfl) ?_)
  refine raiseMade_g H R plainExc_TypeError (fun e te c2 ue s' R' => ?_) (by decide +kernel)
  refine wpAny_bind (wpAny_of_eq KBy.buffer_eq ?_)
  refine wpAny_bind (wpAny_of_eq KBy.buffer_eq ?_)
  refine wpAny_bind (wpAny_rule (wpAny_pure (wpAny_pure ?_)))
  rw [bfind_some]
  exact wpAny_pure (wpAny_pure (h _ ((R'.lessM (List.sublist_cons_self _ _)).less fun p hp => .tail _ hp)))
theorem oct_one {b : Array UInt8} (h : octs b = [10]) : b = #[10] := oct_inj h
noncomputable def BQ (P : Params) (a : Ac) (ρ : List (Addr × Addr)) (im : Im) (σ : Sg) (k : Bool → Prop) (Q : Bool → Shared → Prop) : Prop := ∀ im' b s', Ext ρ ρ im im' → k b → St P a ρ im' σ s' → Q b s'
theorem rep_none (h : Rep P ρ im v p) : (v == .none) = isNoneP p := by
  cases p with
  | none => cases h.none_e; rfl
  | _ =>
    have h := h.kind
    rcases h with ⟨_, e⟩ | ⟨_, rfl⟩ | ⟨_, _, rfl⟩ | ⟨_, _, rfl⟩ | ⟨_, _, rfl⟩ | ⟨_, rfl⟩
    · cases e
    all_goals rfl
theorem bool_beq (x y : Bool) : (Value.bool x == Value.bool y) = (x == y) := by cases x <;> cases y <;> rfl
theorem is_ok {k : Bool → Prop} (hk : isK p q k) (rp : Rep P ρ im v p) (rq : Rep P ρ im u q) (S : St P a ρ im σ s) (c : BQ P a ρ im σ k fun b => Q (.bool b)) : wpAny (model prog w) A (compareOp .Is v u) Q E s := by
  unfold isK at hk
  split at hk
  · cases rq.none_e; exact is_none (by rw [rep_none rp]; exact c im _ s .refl hk S)
  · split at hk
    · obtain ⟨rfl, hk2⟩ := obD_e hk
      obtain ⟨rfl, h⟩ := obD_e hk2
      cases rp.cls_e; cases rq.cls_e; exact wpAny_is_ref_self (c im _ s .refl h S)
    · exact hk.elim
  · split at hk
    · cases rp.bool_e; cases rq.bool_e; exact wpAny_is_plain rfl (by rw [bool_beq]; exact c im _ s .refl hk S)
    · cases rp.none_e; cases rq.bool_e; exact wpAny_is_plain rfl (c im _ s .refl hk S)
    · exact hk.elim
  · exact hk.elim
theorem isn_ok {k : Bool → Prop} (hk : isK p q fun b => k (!b)) (rp : Rep P ρ im v p) (rq : Rep P ρ im u q) (S : St P a ρ im σ s) (c : BQ P a ρ im σ k fun b => Q (.bool b)) : wpAny (model prog w) A (compareOp .IsNot v u) Q E s := by
  unfold isK at hk
  split at hk
  · cases rq.none_e; exact isNot_none (by rw [rep_none rp]; exact c im _ s .refl hk S)
  · split at hk
    · obtain ⟨rfl, hk2⟩ := obD_e hk
      obtain ⟨rfl, h⟩ := obD_e hk2
      cases rp.cls_e; cases rq.cls_e; exact wpAny_isNot_ref_self (c im _ s .refl h S)
    · exact hk.elim
  · split at hk
    · cases rp.bool_e; cases rq.bool_e; exact wpAny_isNot_plain rfl (by rw [bool_beq]; exact c im _ s .refl hk S)
    · cases rp.none_e; cases rq.bool_e; exact wpAny_isNot_plain rfl (c im _ s .refl hk S)
    · exact hk.elim
  · exact hk.elim
theorem okey_is {p : PV} {v : Value} (h : isKey p = true) (r : Rep P ρ im v p) : isOpt (keyOf p) v = true := by
  cases p <;> first | exact (Bool.false_ne_true h).elim | skip
  · cases r.none_e; rfl
  · obtain ⟨t, rfl⟩ := r.str_e; exact beq_self_eq_true _
theorem keq_is {p q : PV} (h : isKey p = true) (g : isKey q = true) : keq p q = decide (keyOf p = keyOf q) := by
  cases p <;> first | exact (Bool.false_ne_true h).elim | skip
  · cases q <;> first | exact (Bool.false_ne_true g).elim | rfl
  · rename_i x
    cases q <;> first | exact (Bool.false_ne_true g).elim | rfl | skip
    rename_i y
    show leq x y = decide (some (⟨x.toArray⟩ : Str) = some ⟨y.toArray⟩)
    rw [Bool.eq_iff_iff, decide_eq_true_eq, leq_iff]
    exact ⟨fun e => by rw [e], fun e => by injection e with e; injection e with e; exact Array.toList_inj.mpr e |> fun e => by simpa using e⟩
theorem key_any {p : PV} (h : isKey p = true) : ∀ {l : List PV}, l.all isKey = true → decide (keyOf p ∈ l.map keyOf) = l.any (keq p)
  | [], _ => rfl
  | q :: l, g => by
    rw [List.all_cons, Bool.and_eq_true] at g
    rw [List.map_cons, List.any_cons, keq_is h g.1, ← key_any h g.2]
    simp only [List.mem_cons, Bool.decide_or]
theorem St.tok0 (S : St P a ρ im σ s) (tk : Nat) : St P a ρ im σ { s with toks := tk } := let ⟨m, mu, R, M⟩ := S; ⟨m, mu, R.tok _, M⟩
theorem set_at {l : List PV} (rq : Rep P ρ im u (.set l)) (S : St P a ρ im σ s) (hw : w.params = P) : ∃ d m, u = .ref d ∧ l.all isKey = true ∧ s.heap.SetOf (optKind prog w) d (fun k => decide (k ∈ l.map keyOf)) m := by
  obtain ⟨d, o, rfl, h1, ⟨h2, _, m, h3, h4⟩⟩ := rq
  exact ⟨d, m, rfl, h2, (h4 prog w hw).setOf (S.heap h1) h3⟩
theorem in_set {p : PV} {l : List PV} {Q : Value → Shared → Prop} (h : isKey p = true) (rp : Rep P ρ im v p) (rq : Rep P ρ im u (.set l)) (S : St P a ρ im σ s) (hw : w.params = P) (q : ∀ s', St P a ρ im σ s' → Q (.bool (l.any (keq p))) s') : wpAny (model prog w) A (compareOp .In v u) Q E s := by
  obtain ⟨d, m, rfl, h2, hS⟩ := set_at (prog := prog) rq S hw
  have hk := okey_is h rp
  have := q _ (S.tok0 (s.toks + 1))
  rw [← key_any h h2] at this
  exact wpAny_inSet_of hk (isOpt_scan hk) hS this
theorem notin_set {p : PV} {l : List PV} {Q : Value → Shared → Prop} (h : isKey p = true) (rp : Rep P ρ im v p) (rq : Rep P ρ im u (.set l)) (S : St P a ρ im σ s) (hw : w.params = P) (q : ∀ s', St P a ρ im σ s' → Q (.bool (!l.any (keq p))) s') : wpAny (model prog w) A (compareOp .NotIn v u) Q E s := by
  obtain ⟨d, m, rfl, h2, hS⟩ := set_at (prog := prog) rq S hw
  have hk := okey_is h rp
  have := q _ (S.tok0 (s.toks + 1))
  rw [← key_any h h2] at this
  exact wpAny_notInSet_of hk (isOpt_scan hk) hS this
theorem cmp_ok {o : CmpOp} {x : Bool} {k : Bool → Prop} (hk : cmpK o p q x k) (rp : Rep P ρ im v p) (rq : Rep P ρ im u q) (S : St P a ρ im σ s) (c : BQ P a ρ im σ k fun b => Q (.bool b)) (hu : A.units + 10 < cLine) (hx : x = true → HdOk A im) (hw : w.params = P) :
    wpAny (model prog w) A (compareOp o v u) Q E s := by
  have H : Kn s im := fun _ h => S.heap h
  unfold cmpK at hk
  split at hk
  · obtain ⟨b, e, h⟩ := optK_e hk
    exact (cmp_eq hu H e rp rq).eq prog w E Q (c im b s .refl h S)
  · obtain ⟨b, e, h⟩ := optK_e hk
    exact (cmp_eq hu H e rp rq).ne prog w E Q (c im _ s .refl h S)
  · obtain ⟨i, rfl, hk2⟩ := onInt_e hk
    obtain ⟨j, rfl, h⟩ := onInt_e hk2
    obtain ⟨t, rfl⟩ := rp.int_e
    obtain ⟨t', rfl⟩ := rq.int_e
    exact PySem.P.lt_int (c im _ s .refl h S)
  · obtain ⟨i, rfl, hk2⟩ := onInt_e hk
    obtain ⟨j, rfl, h⟩ := onInt_e hk2
    obtain ⟨t, rfl⟩ := rp.int_e
    obtain ⟨t', rfl⟩ := rq.int_e
    exact PySem.P.le_int (c im _ s .refl h S)
  · obtain ⟨i, rfl, hk2⟩ := onInt_e hk
    obtain ⟨j, rfl, h⟩ := onInt_e hk2
    obtain ⟨t, rfl⟩ := rp.int_e
    obtain ⟨t', rfl⟩ := rq.int_e
    exact PySem.P.ge_int (c im _ s .refl h S)
  · obtain ⟨i, rfl, hk2⟩ := onInt_e hk
    obtain ⟨j, rfl, h⟩ := onInt_e hk2
    obtain ⟨t, rfl⟩ := rp.int_e
    obtain ⟨t', rfl⟩ := rq.int_e
    exact PySem.P.gt_int (c im _ s .refl h S)
  · exact is_ok hk rp rq S c
  · exact isn_ok hk rp rq S c
  · unfold inK at hk
    split at hk
    · obtain ⟨h1, h2⟩ := hk
      exact in_set h1 rp rq S hw fun s' S' => c im _ s' .refl h2 S'
    · split at hk
      · obtain ⟨rfl, h⟩ := hk
        obtain ⟨t, rfl⟩ := rp.str_e
        obtain ⟨t', rfl⟩ := rq.str_e
        exact in_text (c im _ s .refl h S)
      · exact hk.elim
    · split at hk
      · obtain ⟨rfl, hk1, h⟩ := hk
        obtain ⟨b, t, rfl, e⟩ := rp.byt_e
        obtain ⟨b', t', rfl, rfl⟩ := rq.byt_e
        cases oct_one e
        obtain ⟨m, mu, R, M⟩ := S
        exact in_octs_g (hx hk1) R fun s' R' => c im _ s' .refl h ⟨m, mu, R', M⟩
      · exact hk.elim
    · exact hk.elim
  · split at hk
    · unfold inK at hk
      obtain ⟨h1, h2⟩ := hk
      exact notin_set h1 rp rq S hw fun s' S' => c im _ s' .refl h2 S'
    · exact hk.elim
theorem truth_ok {k : Bool → Prop} {Q : Bool → Shared → Prop} (hk : truthK p k) (rp : Rep P ρ im v p) (S : St P a ρ im σ s) (c : BQ P a ρ im σ k Q) : wpAny (model prog w) A (truthy v) Q E s := by
  unfold truthK at hk
  split at hk
  · cases rp.none_e; exact truthy_none (c im _ s .refl hk S)
  · cases rp.bool_e; exact wpAny_truthy_bool (c im _ s .refl hk S)
  · obtain ⟨t, rfl⟩ := rp.int_e
    exact PySem.P.truthy_int (c im _ s .refl hk S)
  · obtain ⟨t, rfl⟩ := rp.str_e
    exact PySem.P.truthy_str (by rw [str_len]; have := hk.1; omega) (by rw [str_len]; exact c im _ _ .refl hk.2 S)
  · exact hk.elim
end Mine
end

noncomputable section
open PySem PySem.W PySem.Calls PyProof.Rows PySem.SeqAt
set_option maxRecDepth 100000
namespace Mine
variable {P : Params} {a : Ac} {ρ ρ' : List (Addr × Addr)} {im im' : Im} {σ σ' : Sg} {m m' : Vars} {mu mu' : Im} {s s₀ s' : Shared} {env : Env} {d : Md} {prog : Program} {w : World} {A : Around} {E : Value → Shared → Prop}
  {hb : Heap} {l : List Env} {fr V : List Addr} {L : Addr} {Q : Value → Shared → Prop} {k : PV → Prop} {p q : PV} {u v : Value}
theorem clip_le (n : Nat) (i : Int) : clipAt n i ≤ n := by
  unfold clipAt
  have h : max 0 (min (if i < 0 then i + (n : Int) else i) n) ≤ (n : Int) := Int.max_le.mpr ⟨Int.natCast_nonneg n, Int.min_le_right _ _⟩
  exact Int.toNat_le.mpr h
theorem hi_le (n : Nat) (o : Option Int) : o.elim n (clipAt n) ≤ n := by cases o; exact Nat.le_refl _; exact clip_le _ _
theorem slice_str (x : List Nat) (lo hi : Option Int) : Txt.slice ⟨x.toArray⟩ lo hi = ⟨(sliL x lo hi).toArray⟩ := by
  have e : Builtin.Str.strSliceIndices lo hi 1 (⟨x.toArray⟩ : Str).length = sliceRange (sliceBounds lo hi none x.length).1 (sliceBounds lo hi none x.length).2.1 1 := by
    rw [str_len]; cases lo <;> cases hi <;> rfl
  unfold Txt.slice sliL
  rw [e, sliceBounds_plain]
  simp only [sliceRange_one]
  split
  · rename_i z
    simp only [beq_self_eq_true, Bool.true_and, beq_iff_eq, List.length_map, List.length_range, str_len] at z
    have h1 := hi_le x.length hi
    rw [z]
    rcases Nat.eq_zero_or_pos x.length with h | h
    · rw [List.length_eq_zero_iff.mp h]; simp
    · rw [show lo.elim 0 (clipAt x.length) = 0 by omega, List.drop_zero, List.take_length]
  · exact congrArg Str.mk (congrArg List.toArray (pick_run x.toArray _ _))
theorem slice_oct (b : Array UInt8) (lo hi : Option Int) : octs (KBy.picked b lo hi) = sliL (octs b) lo hi := by
  rw [KBc.picked_eq]
  unfold sliL
  rw [show (octs b).length = b.size from octs_len b]
  show ((b.toList.drop _).take _).map _ = ((b.toList.map _).drop _).take _
  rw [List.map_take, List.map_drop]
theorem Reps.sli {vs : List Value} {l : List PV} (h : Reps P ρ im vs l) (lo hi : Option Int) : Reps P ρ im (sliL vs lo hi) (sliL l lo hi) := by
  unfold sliL; rw [h.len]; exact (h.drop _).take _
/-- a slice's parts -/
inductive Part : Value → Option (Int × Tok) → Prop
  | none : Part .none none
  | int {i t} : Part (.int i t) (some (i, t))
theorem Part.to {v : Value} {o : Option (Int × Tok)} (h : Part v o) : v = partValue o ∧ IsPart v (o.map (·.1)) := by
  cases h with
  | none => exact ⟨rfl, .none⟩
  | int => exact ⟨rfl, .int _ _⟩
theorem sli_ok {vl vu : Value} {lo hi : Option (Int × Tok)} {value : Expr} {lower upper : Option Expr} {pp : Pos} (hk : match p with
      | .str x => x.length ≤ S16 ∧ k (.str (sliL x (lo.map (·.1)) (hi.map (·.1))))
      | .bytes x => x.length ≤ S16 ∧ k (.bytes (sliL x (lo.map (·.1)) (hi.map (·.1))))
      | .lst x => x.length ≤ S16 ∧ k (.lst (sliL x (lo.map (·.1)) (hi.map (·.1))))
      | _ => False) (rp : Rep P ρ im v p) (hl : Part vl lo) (hu : Part vu hi) (S : St P a ρ im σ s) (c : PQ P a ρ im σ k Q) :
    wpAny (model prog w) A (subscriptTail value (.Slice lower upper none pp) v (.ref s.heap.objs.size)) Q E { s with heap := s.heap.push { cls := .type "slice", data := .fields #[vl, vu, .none] } } := by
  have S1 := S.push { cls := .type "slice", data := .fields #[vl, vu, .none] } rfl
  have c1 : PQ P a ρ ((s.heap.objs.size, { cls := .type "slice", data := .fields #[vl, vu, .none] }) :: im) σ k Q := fun im' p v s' x h r S => c im' p v s' (Ext.one.trans x) h r S
  split at hk
  · obtain ⟨z, h⟩ := hk
    obtain ⟨t, rfl⟩ := rp.str_e
    refine tail_any (typeIs_str _ _ _) F.slot_str_getitem.lookup (wpAny_getItem_str_slice (l := lo) (u := hi) (st := none) ⟨_, Heap.get?_push_size _ rfl, rfl, by rw [hl.to.1, hu.to.1]; rfl⟩ rfl
      (post_val_or_str ⟨Nat.le_trans (Txt.slice_le _ _ _) (by rw [str_len, sizeLine_eq]; exact z), fun t' k' => ?_⟩)) rfl
    refine (congrArg (fun z => Q (.str z t') _) (slice_str _ (lo.map (·.1)) (hi.map (·.1)))).mpr ?_
    exact c1.now h Rep.str S1
  · obtain ⟨z, h⟩ := hk
    obtain ⟨b, t, rfl, rfl⟩ := rp.byt_e
    refine tail_any (typeIs_bytes _ _ _) FB.slot_bytes_getitem.lookup (getItem_meets (typeIs_bytes _ _ _) (by decide) FB.slot_bytes_getitem FB.entry_bytes_getitem (FB.args_bytes_getitem_2 _ _) (KBc.meets_slice2 b t _ hl.to.2 hu.to.2)
      ⟨Heap.IsSliceOf.new _ _ _ _, Nat.le_trans (KBc.size_picked_le _ _ _) (by rw [sizeLine_eq, ← octs_len]; exact z), fun t' k' => ?_⟩) rfl
    rw [← slice_oct] at h
    exact c1.now h Rep.bytes S1
  · obtain ⟨z, h⟩ := hk
    obtain ⟨D, o, vs, rfl, h1, h2, h3⟩ := rp.lst_e
    have hL := S.list h1 h2
    refine tail_any (hL.push _).typeIs slot_list_getitem.lookup (wpAny_getItem_list_slice (hL.push _) (Heap.IsSliceOf.new ..) hl.to.2 hu.to.2 .none (by simp) ?_ (by rw [List.size_toArray, h3.len]; exact z)) rfl
    rw [slicePick_plain]
    have r := h3.sli (lo.map (·.1)) (hi.map (·.1))
    unfold sliL at r h
    rw [h3.len] at r
    rename_i x
    have ez : vs.toArray.size = x.length := by rw [List.size_toArray, h3.len]
    rw [ez]
    exact c1 _ _ _ _ .one h (Rep.lst (.head _) ⟨rfl, 0, rfl⟩ (r.up (Ext.one.trans .one))) (S1.push _ rfl)
  · exact hk.elim
theorem item_list {x : List α} {i : Int} {y : α} (h : itemL x i = some y) : (0 ≤ i ∧ x[i.toNat]? = some y) ∨ (i < 0 ∧ -(x.length : Int) ≤ i ∧ x[(i + x.length).toNat]? = some y) := by
  unfold itemL at h
  split at h
  · split at h
    · cases h
    · exact .inr ⟨by assumption, by omega, h⟩
  · exact .inl ⟨by omega, h⟩
theorem item_str (x : List Nat) (i : Int) : itemC ⟨x.toArray⟩ i = itemL x i := by
  unfold itemC itemL seqIndex?
  rw [str_len]
  by_cases h : i < 0
  · by_cases h2 : i + x.length < 0
    · simp [h, h2]; omega
    · have h3 : 0 ≤ i + (x.length : Int) := by omega
      have h4 : i + (x.length : Int) < x.length := by omega
      simp only [if_pos h, if_neg h2, h3, h4, decide_true, Bool.and_self, if_true, Option.bind_some, List.getElem?_toArray]
  · by_cases h2 : i < x.length
    · have h3 : 0 ≤ i := by omega
      simp [h, h2, h3]
    · have h3 : x[i.toNat]? = none := List.getElem?_eq_none (by omega)
      simp [h, h2, h3]
/-- an expression that is no slice -/
noncomputable def noSli : Expr → Bool
  | .Slice .. => false
  | _ => true
theorem subs_of {e : Expr} (h : noSli e = true) (o i : Value) : subscripted e false o i = operate [o, i] (getItem o i) := by
  cases e <;> first | rfl | cases h
/-- what an IndexError's way leads to -/
noncomputable def IxQ (P : Params) (a : Ac) (ρ : List (Addr × Addr)) (im : Im) (σ : Sg) (E : Value → Shared → Prop) : Prop :=
  ∀ e t msg u s' m mu, StM P a ρ im σ m mu → Run a.hb a.l a.fr a.V a.s₀ a.L m ((e, exO (.type "IndexError") none (.ref t) .none .none .none (.bool false)) :: mu) ((t, tupO [.str msg u]) :: im) s' → E (.ref e) s'
theorem sub_ok {value slice : Expr} {h : Bool} {k : R PV → Prop} (hk : subK p q h k) (rp : Rep P ρ im v p) (rq : Rep P ρ im u q) (S : St P a ρ im σ s) (c : PQ P a ρ im σ (fun v => k (.ok v)) Q) (cx : k (.err .ix) → IxQ P a ρ im σ E)
    (hh : h = false → A.handled = none) (hs : noSli slice = true) : wpAny (model prog w) A (subscriptTail value slice v u) Q E s := by
  unfold subK at hk
  obtain ⟨i, rfl, hk2⟩ := onInt_e hk
  clear hk
  obtain ⟨t, rfl⟩ := rq.int_e
  split at hk2
  · rename_i x
    obtain ⟨t', rfl⟩ := rp.str_e
    unfold opt2 at hk2
    split at hk2
    · rename_i c' e
      split at e
      · rename_i hf
        exact item_in hf (by rw [item_str]; exact e) (c.now hk2 (Rep.str (x := [c'])) S) (subs_of hs _ _)
      · cases e
    · rename_i e
      replace hk2 := obD_e hk2
      obtain ⟨m, mu, R, M⟩ := id S
      refine item_out R (hh hk2.1) (fun hf => ?_) (fun e t msg u s' R' => cx hk2.2 e t msg u s' m mu M R') (subs_of hs _ _)
      rw [if_pos hf] at e
      rw [item_str]; exact e
  · rename_i x
    obtain ⟨D, o, vs, rfl, h1, h2, h3⟩ := rp.lst_e
    obtain ⟨z, hk2⟩ := hk2
    obtain ⟨y, e, hy⟩ := optK_e hk2
    have hl := S.list h1 h2
    have z' : x.length ≤ 16777216 := z
    rcases item_list e with ⟨g1, g2⟩ | ⟨g0, g1, g2⟩
    · obtain ⟨y', e1, e2⟩ := h3.at g2
      have := (List.getElem?_eq_some_iff.mp g2).1
      exact tail_any hl.typeIs slot_list_getitem.lookup (wpAny_getItem_list hl g1 (by omega) (by simpa using e1) (c.now hy e2 S)) (subs_of hs _ _)
    · obtain ⟨y', e1, e2⟩ := h3.at g2
      exact tail_any hl.typeIs slot_list_getitem.lookup (wpAny_getItem_list_neg hl g0 (by rw [List.size_toArray, h3.len]; exact g1) (by omega) (by rw [List.size_toArray, h3.len]; simpa using e1) (c.now hy e2 S)) (subs_of hs _ _)
  · rename_i x
    obtain ⟨D, vs, rfl, h1, h3⟩ := rp.tup_e
    obtain ⟨z, hk2⟩ := hk2
    obtain ⟨y, e, hy⟩ := optK_e hk2
    have z' : x.length ≤ 16777216 := z
    have hl := S.heap h1
    have hi : ∃ n : Nat, seqIndex? i vs.toArray.size = some n ∧ x[n]? = some y ∧ -2 ^ 63 ≤ i ∧ i < 2 ^ 63 := by
      rw [List.size_toArray, h3.len]
      rcases item_list e with ⟨g1, g2⟩ | ⟨g0, g1, g2⟩
      · have := (List.getElem?_eq_some_iff.mp g2).1
        have h5 : ¬ i < 0 := by omega
        have h6 : i < x.length := by omega
        exact ⟨_, by simp [seqIndex?, h5, g1, h6], g2, by omega, by omega⟩
      · exact ⟨_, seqIndex_neg g0 g1, g2, by omega, by omega⟩
    obtain ⟨n, g1, g2, g3, g4⟩ := hi
    obtain ⟨y', e1, e2⟩ := h3.at g2
    exact tail_any ⟨_, hl, rfl⟩ F.slot_tuple_getitem.lookup (PySem.P.getItem_tuple (k := n) hl g3 g4 g1 (by simpa using e1) (c.now hy e2 S)) (subs_of hs _ _)
  · exact hk2.elim
end Mine
end

noncomputable section
open PySem PySem.W PySem.Calls PyProof.Rows PySem.SeqAt PySem.Builtin.Str PySem.Builtin
set_option maxRecDepth 100000
namespace Mine
variable {P : Params} {a : Ac} {ρ ρ' : List (Addr × Addr)} {im im' : Im} {σ σ' : Sg} {m m' : Vars} {mu mu' : Im} {s s₀ s' : Shared} {env : Env} {d : Md} {prog : Program} {w : World} {A : Around} {E : Value → Shared → Prop}
  {hb : Heap} {l : List Env} {fr V : List Addr} {L : Addr} {Q : Value → Shared → Prop} {k : PV → Prop} {p q : PV} {u v : Value}
  {K : Frag} {pr : Program} {loose : List Str} {mg mb : Str → Option Value}
theorem St.kept {h' : Heap} {tk : Nat} (S : St P a ρ im σ s) (k : ∀ b o, s.heap.get? b = some o → h'.get? b = some o) : St P a ρ im σ { s with heap := h', toks := tk } :=
  let ⟨m, mu, R, M⟩ := S; ⟨m, mu, ⟨R.H.keeps k, R.oth⟩, M⟩
theorem ints_e {x : List PV} : ∀ {vs : List Value} {ns : List Int}, intsL x = some ns → Reps P ρ im vs x → IntsAre vs ns := by
  induction x with
  | nil => intro vs ns h r; cases h; cases (show vs = [] from r); exact .nil
  | cons y x ih =>
    intro vs ns h r
    obtain ⟨v, ws, rfl, a, b⟩ := r
    cases y with
    | int i =>
      obtain ⟨ms, e, rfl⟩ := Option.map_eq_some_iff.mp h
      obtain ⟨t, rfl⟩ := a
      exact .cons i t (ih e b)
    | _ => cases h
theorem strs_e {x : List PV} : ∀ {vs : List Value} {ys : List (List Nat)}, strsL x = some ys → Reps P ρ im vs x → StrsAre vs (ys.map fun y => ⟨y.toArray⟩) := by
  induction x with
  | nil => intro vs ns h r; cases h; cases (show vs = [] from r); exact .nil
  | cons y x ih =>
    intro vs ns h r
    obtain ⟨v, ws, rfl, a, b⟩ := r
    cases y with
    | str i =>
      obtain ⟨ms, e, rfl⟩ := Option.map_eq_some_iff.mp h
      obtain ⟨t, rfl⟩ := a
      exact .cons _ t (ih e b)
    | _ => cases h
theorem oct_bytes {ns : List Int} (h : ∀ n ∈ ns, 0 ≤ n ∧ n < 256) : octs (byteArr ns) = ns.map Int.toNat := by
  unfold byteArr octs
  rw [List.map_map]
  refine List.map_congr_left fun n hn => ?_
  have := h n hn
  show (n.toNat.toUInt8).toNat = n.toNat
  simp; omega
inductive InstI (P : Params) (h : Heap) (x : Addr) (f : List Nat) (vs : List Value) : Prop
  | mk : ∀ dx t tb c2 c3 c4 es u, InstAt h x (exO (.ref 41) (some dx) (.ref t) tb c2 c3 c4) 41 (some (dictOf es 5)) → Ents P errNames es vs → h.get? x = some (exO (.ref 41) (some dx) (.ref t) tb c2 c3 c4) → h.get? t = some (tupO [.str ⟨f.toArray⟩ u]) → InstI P h x f vs
/-- an exception object -/
theorem St.inst {x : Addr} {f : List Nat} {vs : List Value} (S : St P a ρ im σ s) (h : ErrAt P im x f vs) :
    InstI P s.heap x f vs := by
  obtain ⟨dx, t, tb, c2, c3, c4, h1, ⟨es, h2, h3⟩, u, h4⟩ := h.out
  exact ⟨dx, t, tb, c2, c3, c4, es, u, ⟨S.heap h1, rfl, rfl, S.heap h2⟩, h3, S.heap h1, S.heap h4⟩
noncomputable def biVal : Bi → Value
  | .len => .builtin "len"
  | .ord => .builtin "ord"
  | .str => .type "str"
  | .sum => .builtin "sum"
  | .isstr => .builtin "isinstance"
  | .typ => .type "type"
  | .bytes => .type "bytes"
  | .latin => .type "str"
/-- what else a call of a built-in is given -/
noncomputable def biMore : Bi → Value → Prop
  | .isstr, v => v = .type "str"
  | .latin, v => ∃ t, v = .str (Str.ofString "latin1") t
  | _, _ => False
noncomputable def biTwo : Bi → Bool
  | .isstr => true
  | .latin => true
  | _ => false
structure ErrK (K : Frag) : Prop where
  str : findIn K (.ref 41) "__str__" = some (some (.builtin "BaseException.__str__"))
  mro : mroIn K 41 (.type "BaseException") = some true
theorem cb_ok {b : Bi} {l : List PV} {h : Bool} {vs ws : List Value} (hk : cbK b l h k) (r : Reps P ρ im vs l) (S : St P a ρ im σ s) (X : K.In s.heap) (EK : ErrK K) (c : PQ P a ρ im σ k Q) (hh : h = false → A.handled = none) (hu : A.units + 10 < cLine)
    (hw : match biTwo b with | true => ∃ v, ws = [v] ∧ biMore b v | false => ws = []) : wpAny (model prog w) A (call (biVal b) (vs ++ ws)) Q E s := by
  unfold cbK at hk
  obtain ⟨p, rfl, hp⟩ := one_e hk
  clear hk
  obtain ⟨v, vs', rfl, rp, r2⟩ := r
  cases (show vs' = [] from r2)
  cases b with
  | len =>
    dsimp only at hp
    cases (show ws = [] from hw)
    split at hp
    · obtain ⟨t, rfl⟩ := rp
      exact PySem.P.len_str (by rw [str_len]; have := hp.1; omega) (by rw [str_len]; exact c.now hp.2 Rep.int S)
    · obtain ⟨b, t, rfl, rfl⟩ := rp
      have z : (octs b).length ≤ 16777216 := hp.1
      have h := hp.2
      rw [octs_len] at z h
      exact len_bytes (Nat.le_trans z (by decide)) (c.now h Rep.int S)
    · obtain ⟨D, o, vs, rfl, h1, h2, h3⟩ := rp
      refine kun_lenL (S.list h1 h2) ?_ (Int.ofNat_le.mpr hp.1) (c.now hp.2 Rep.int S)
      rw [List.size_toArray, Reps.len h3]
    · exact hp.elim
  | ord =>
    dsimp only at hp
    cases (show ws = [] from hw)
    obtain ⟨x, rfl, hq⟩ := onStr_e hp
    obtain ⟨t, rfl⟩ := rp
    split at hq
    · exact PySem.P.ord_of_char (c.now hq Rep.int S)
    · exact hq.elim
  | str => exact (show False from hp).elim
  | sum =>
    dsimp only at hp
    cases (show ws = [] from hw)
    obtain ⟨x, rfl, hk0⟩ := onLst_e hp
    obtain ⟨hk1, hk2⟩ := obD_e hk0
    obtain ⟨ns, e, hk⟩ := optK_e hk2
    obtain ⟨D, o, vs, rfl, h1, h2, h3⟩ := rp
    have hi := ints_e e h3
    obtain ⟨xs, hxs⟩ := hi.allInts.items
    have hl := S.list h1 h2
    rw [hxs] at hl
    refine sum_intListG (hh hk1) hl fun h' tk t' hk' => ?_
    have e : ns.sum = preSum (numAt xs) xs.size := by
      rw [preSum_eq, List.take_of_length_le (by simp)]
      have := hi.numsOf
      have h2 : numsOf vs.toArray.toList = numsOf (intItems xs).toList := by rw [hxs]
      rw [show vs.toArray.toList = vs from rfl, this, nums_intItems] at h2
      rw [h2]
    rw [← e]
    exact c.now hk Rep.int (S.kept hk')
  | isstr =>
    dsimp only at hp
    obtain ⟨z, rfl, rfl⟩ := (show ∃ v, ws = [v] ∧ v = .type "str" from hw)
    split at hp
    · obtain ⟨t, rfl⟩ := rp
      exact isinst_str (c.now hp Rep.bool S)
    · obtain ⟨b, t, rfl, rfl⟩ := rp
      exact isinst_bytes (c.now hp Rep.bool S)
    · exact hp.elim
  | typ => exact (show False from hp).elim
  | bytes =>
    dsimp only at hp
    cases (show ws = [] from hw)
    obtain ⟨x, rfl, hk0⟩ := onLst_e hp
    obtain ⟨hk1, hk2, hk4⟩ := obD_e hk0
    obtain ⟨ns, e, hk3, hk⟩ := optK_e hk4
    obtain ⟨D, o, vs, rfl, h1, h2, h3⟩ := rp
    rw [← oct_bytes hk3] at hk
    exact call_bytes_ints (S.list h1 h2) (ints_e e h3) hk3 (by rw [Reps.len h3, sizeLine_eq]; exact hk2) (hh hk1) fun h' t tk hk' => c.now hk Rep.bytes (S.kept hk')
  | latin =>
    dsimp only at hp
    obtain ⟨z, rfl, t', rfl⟩ := (show ∃ v, ws = [v] ∧ ∃ t, v = .str (Str.ofString "latin1") t from hw)
    obtain ⟨x, rfl, hk1, hk2, hk⟩ := onByt_e hp
    obtain ⟨b, t, rfl, rfl⟩ := rp
    rw [octs_len] at hk1 hk2
    exact str_latin hk1 hk2 fun u tk => c.now hk Rep.str S
end Mine
end

noncomputable section
open PySem PySem.W PySem.Calls PyProof.Rows PySem.SeqAt
set_option maxRecDepth 100000
namespace Mine
section
variable {prog : Program} {w : World} {A : Around} {E : Value → Shared → Prop} {s : Shared} {env : Env} {Q : Value → Shared → Prop} {K : Frag}
noncomputable def noStar : Expr → Bool
  | .Starred .. => false
  | _ => true
theorem star_cons {e : Expr} (h : noStar e = true) (rest : List Expr) : starEach (e :: rest) env = (false, eval e env) :: starEach rest env := by
  cases e <;> first | rfl | cases h
theorem star_any (pos : Pos) : ∀ l : List Expr, l.all noStar = true → (backTo pos (starEach l env)).any (·.1) = false := by
  intro l
  induction l with
  | nil => intro _; rfl
  | cons e r ih =>
    intro h
    rw [List.all_cons, Bool.and_eq_true] at h
    rw [star_cons h.1]
    exact ih h.2
theorem args_e {f : Value} {l : List Expr} {pos : Pos} {Q : Args → Shared → Prop} (hl : l.all noStar = true) (h : wpAny (model prog w) A (spliced (backTo pos (starEach l env))) (fun vs s' => Q ⟨vs, []⟩ s') E s) :
    wpAny (model prog w) A (evalArgs f true (backTo pos (starEach l env)) []) Q E s := by
  cases l with
  | nil =>
    unfold evalArgs
    show wpAny _ A (spliced [] >>= _) Q E s
    refine wpAny_bind (wpAny_mono h (fun vs s' h' => wpAny_bind (wpAny_pure (wpAny_holding ?_))) fun _ _ x => x)
    exact wpAny_bind (wpAny_pure (wpAny_pure h'))
  | cons e r =>
    rw [List.all_cons, Bool.and_eq_true] at hl
    rw [star_cons hl.1] at h ⊢
    exact evalArgs_plain h
/-- a call's arguments -/
theorem callW {f : Value} {first : List Value} {l : List Expr} {pos : Pos} (hl : l.all noStar = true) (hk : keepIn K f = true)
    (h : wpAny (model prog w) A (spliced (backTo pos (starEach l env))) (fun vs s₁ => K.In s₁.heap ∧ wpAny (model prog w) A (call f (first ++ vs)) Q E s₁) E s) :
    wpAny (model prog w) A (callWith pos f first (backTo pos (starEach l env)) []) Q E s :=
  callWith_of (by rw [star_any pos l hl]; rfl) (keeps_K hk) (args_e hl h)
theorem callB {f : Value} {first : List Value} {l : List Expr} {pos : Pos} (hl : l.all noStar = true) (hf : (∃ i, f = .builtin i) ∨ ∃ T, f = .type T)
    (h : wpAny (model prog w) A (spliced (backTo pos (starEach l env))) (fun vs s₁ => wpAny (model prog w) A (call f (first ++ vs)) Q E s₁) E s) :
    wpAny (model prog w) A (callWith pos f first (backTo pos (starEach l env)) []) Q E s := by
  rcases hf with ⟨i, rfl⟩ | ⟨T, rfl⟩
  · exact Calls.callWith_builtin (star_any pos l hl) (args_e hl h)
  · exact PySem.callWith_type (star_any pos l hl) (args_e hl h)
noncomputable def noSup : Expr → Bool
  | .Call (.Name ..) [] [] _ => false
  | _ => true
theorem base_of {o : Expr} (h : noSup o = true) (n : Str) (whole : Sem Value) : attributeBase o n env whole = whole := by
  cases o <;> first | rfl | skip
  rename_i f es ks p
  cases f <;> first | rfl | skip
  cases es with
  | cons _ _ => rfl
  | nil =>
    cases ks with
    | cons _ _ => rfl
    | nil => cases h
theorem attr_e {o : Expr} {n : Str} {pos : Pos} (ho : noSup o = true) (h : wpAny (model prog w) A (eval o env) (fun v s₁ => wpAny (model prog w) A (getAttr v n true) Q E s₁) E s) :
    wpAny (model prog w) A (eval (.Attribute o n pos) env) Q E s := by
  rw [arm_eval_Attribute, base_of ho]
  refine wpAny_bind (wpAny_mono h (fun o s₁ h₁ => wpAny_bind (wpAny_standAt (wpAny_bind (wpAny_holding (wpAny_mono h₁ (fun r s₂ h₂ => ?_) fun _ _ x => x))))) fun _ _ x => x)
  exact wpAny_bind (wpAny_letTemporaryGo (wpAny_pure h₂))
theorem meth_e {o : Expr} {n : Str} {apos pos : Pos} {l : List Expr} (ho : noSup o = true) (hp : (apos.endLine == pos.line) = true) (hl : l.all noStar = true) (hn : Nat.blt l.length 20 = true)
    (h : wpAny (model prog w) A (eval o env) (fun v s₁ => ∀ pl, wpAny (model prog w) A (getMethod v n pl) (fun fx s₂ => wpAny (model prog w) A (callWith pos fx.1 fx.2 (backTo pos (starEach l env)) []) Q E s₂) E s₁) E s) :
    wpAny (model prog w) A (eval (.Call (.Attribute o n apos) l [] pos) env) Q E s := by
  have few : methodCallForm (l.length + ([] : List Keyword).length) (backTo pos (starEach l env)) [] = true := by
    have := star_any (env := env) pos l hl
    have h2 : l.length < 20 := Nat.blt_eq.mp hn
    unfold methodCallForm
    rw [Bool.and_eq_true, Bool.and_eq_true]
    refine ⟨⟨?_, rfl⟩, decide_eq_true (by show l.length + 0 + 0 < 30; omega)⟩
    rw [List.any_eq_false] at this
    exact List.all_eq_true.mpr fun x hx => by simpa using this x hx
  show wpAny _ A (attributeBase o n env (eval o env) >>= fun ov => standAt apos.atName >>= fun _ => methodCall o n apos pos env ov (l.length + ([] : List Keyword).length) (backTo pos (starEach l env)) []) Q E s
  rw [base_of ho]
  refine wpAny_bind (wpAny_mono h (fun v s₁ h₁ => wpAny_bind (wpAny_standAt ?_)) fun _ _ x => x)
  unfold methodCall
  rw [few]
  refine wpAny_bind (wpAny_holding (wpAny_mono (h₁ _) (fun fx s₂ h₂ => ?_) fun _ _ x => x))
  have : methodCallPos true o env apos pos = pure pos := by unfold methodCallPos; rw [hp]; rfl
  rw [this]
  exact wpAny_bind (wpAny_pure h₂)
end
end Mine
end

noncomputable section
open PySem PySem.W PySem.Calls PyProof.Rows PySem.SeqAt
set_option maxRecDepth 100000
namespace Mine
noncomputable def attNames : List Str := tokNames ++ errNames
noncomputable def mbName : Mb → Str
  | .join => Str.ofString "join"
  | .split => Str.ofString "split"
  | .count => Str.ofString "count"
  | .rfind => Str.ofString "rfind"
  | .encode => Str.ofString "encode"
  | .decode => Str.ofString "decode"
  | .startswith => Str.ofString "startswith"
/-- a constant's value -/
noncomputable def constIs (x : Const) (v : PV) : Bool := match v with
  | .none => (match x with | .none => true | _ => false)
  | .bool b => (match x with | .bool c => b == c | _ => false)
  | .int i => (match x with | .int j => decide (i = j) | _ => false)
  | .str y => (match x with | .str z => leq y z.cps.toList | _ => false)
  | .bytes y => (match x with | .bytes z => leq y (z.map UInt8.toNat) | _ => false)
  | _ => false
noncomputable def globIs (K : Frag) (sc : Scope) (x : Str) (v : Value) : Bool := sc.names.lookup x == some .globalImplicit && (nsIn K mainGlobals x == some (some v) && !(x == ("__debug__" : Str)))
noncomputable def builtIs (K : Frag) (sc : Scope) (x : Str) (v : Value) : Bool := sc.names.lookup x == some .globalImplicit && (nsIn K mainGlobals x == some none && (bootBuiltins x == some v && (!(x == ("__name__" : Str)) && !(x == ("__debug__" : Str)))))
/-- a method of a tokenizer -/
noncomputable def methIs (K : Frag) (y : Str) (f : Addr) : Bool := findIn K (.ref 133) y == some (some (.ref f)) && (isFn K (.ref f) && (keepIn K (.ref f) && !tokNames.contains y))
structure Ck where
  E : Scope → List Str → Expr → C → Bool
  Es : Scope → List Str → List Expr → List C → Bool
  S : Scope → List Str → Stmt → D → Bool
  Ss : Scope → List Str → List Stmt → List D → Bool
noncomputable def ckOpt (f : Expr → C → Bool) : Option Expr → Option C → Bool
  | none, none => true
  | some e, some c => f e c
  | _, _ => false
noncomputable def ckAll (f : Expr → C → Bool) : List Expr → List C → Bool
  | [], [] => true
  | e :: r, c :: q => f e c && ckAll f r q
  | _, _ => false
/-- a case by the constructor's number -/
noncomputable def at_ (i n : Nat) (k : i = n → Bool) : Bool := if h : i = n then k h else false
theorem at_e {i n : Nat} {k : i = n → Bool} {Q : Prop} (h : at_ i n k = true) (q : ∀ h, k h = true → Q) : Q := by
  unfold at_ at h
  by_cases z : i = n
  · rw [dif_pos z] at h; exact q z h
  · rw [dif_neg z] at h; exact (Bool.false_ne_true h).elim
noncomputable def onConst (e : Expr) (k : Const → Bool) : Bool := at_ e.ctorIdx 19 fun h => Expr.Constant.elim (motive_1 := fun _ => Bool) e h fun c _ _ => k c
theorem onConst_e {e : Expr} {k : Const → Bool} {Q : Prop} (h : onConst e k = true) (q : ∀ c n p, k c = true → e = .Constant c n p → Q) : Q :=
  at_e h fun i h => Expr.Constant.elim (motive_1 := fun e => ∀ i : e.ctorIdx = 19, Expr.Constant.elim (motive_1 := fun _ => Bool) e i (fun c _ _ => k c) = true → (∀ c n p, k c = true → e = .Constant c n p → Q) → Q) e i (fun c n p _ h q => q c n p h rfl) i h q
noncomputable def onName (e : Expr) (k : Str → Bool) : Bool := at_ e.ctorIdx 23 fun h => Expr.Name.elim (motive_1 := fun _ => Bool) e h fun x _ => k x
theorem onName_e {e : Expr} {k : Str → Bool} {Q : Prop} (h : onName e k = true) (q : ∀ x p, k x = true → e = .Name x p → Q) : Q :=
  at_e h fun i h => Expr.Name.elim (motive_1 := fun e => ∀ i : e.ctorIdx = 23, Expr.Name.elim (motive_1 := fun _ => Bool) e i (fun x _ => k x) = true → (∀ x p, k x = true → e = .Name x p → Q) → Q) e i (fun x p _ h q => q x p h rfl) i h q
noncomputable def onAttr (e : Expr) (k : Expr → Str → Pos → Bool) : Bool := at_ e.ctorIdx 20 fun h => Expr.Attribute.elim (motive_1 := fun _ => Bool) e h fun o y p => k o y p
theorem onAttr_e {e : Expr} {k : Expr → Str → Pos → Bool} {Q : Prop} (h : onAttr e k = true) (q : ∀ o y p, k o y p = true → e = .Attribute o y p → Q) : Q :=
  at_e h fun i h => Expr.Attribute.elim (motive_1 := fun e => ∀ i : e.ctorIdx = 20, Expr.Attribute.elim (motive_1 := fun _ => Bool) e i (fun o y p => k o y p) = true → (∀ o y p, k o y p = true → e = .Attribute o y p → Q) → Q) e i (fun o y p _ h q => q o y p h rfl) i h q
noncomputable def onList (e : Expr) (k : List Expr → Bool) : Bool := at_ e.ctorIdx 24 fun h => Expr.List.elim (motive_1 := fun _ => Bool) e h fun es _ => k es
theorem onList_e {e : Expr} {k : List Expr → Bool} {Q : Prop} (h : onList e k = true) (q : ∀ es p, k es = true → e = .List es p → Q) : Q :=
  at_e h fun i h => Expr.List.elim (motive_1 := fun e => ∀ i : e.ctorIdx = 24, Expr.List.elim (motive_1 := fun _ => Bool) e i (fun es _ => k es) = true → (∀ es p, k es = true → e = .List es p → Q) → Q) e i (fun es p _ h q => q es p h rfl) i h q
noncomputable def onTup (e : Expr) (k : List Expr → Bool) : Bool := at_ e.ctorIdx 25 fun h => Expr.Tuple.elim (motive_1 := fun _ => Bool) e h fun es _ _ => k es
theorem onTup_e {e : Expr} {k : List Expr → Bool} {Q : Prop} (h : onTup e k = true) (q : ∀ es n p, k es = true → e = .Tuple es n p → Q) : Q :=
  at_e h fun i h => Expr.Tuple.elim (motive_1 := fun e => ∀ i : e.ctorIdx = 25, Expr.Tuple.elim (motive_1 := fun _ => Bool) e i (fun es _ _ => k es) = true → (∀ es n p, k es = true → e = .Tuple es n p → Q) → Q) e i (fun es n p _ h q => q es n p h rfl) i h q
noncomputable def onCall (e : Expr) (k : Expr → List Expr → List Keyword → Pos → Bool) : Bool := at_ e.ctorIdx 16 fun h => Expr.Call.elim (motive_1 := fun _ => Bool) e h fun f es ks p => k f es ks p
theorem onCall_e {e : Expr} {k : Expr → List Expr → List Keyword → Pos → Bool} {Q : Prop} (h : onCall e k = true) (q : ∀ f es ks p, k f es ks p = true → e = .Call f es ks p → Q) : Q :=
  at_e h fun i h => Expr.Call.elim (motive_1 := fun e => ∀ i : e.ctorIdx = 16, Expr.Call.elim (motive_1 := fun _ => Bool) e i (fun f es ks p => k f es ks p) = true → (∀ f es ks p, k f es ks p = true → e = .Call f es ks p → Q) → Q) e i (fun f es ks p _ h q => q f es ks p h rfl) i h q
noncomputable def onBin (e : Expr) (k : Expr → Operator → Expr → Bool) : Bool := at_ e.ctorIdx 2 fun h => Expr.BinOp.elim (motive_1 := fun _ => Bool) e h fun l o r _ => k l o r
theorem onBin_e {e : Expr} {k : Expr → Operator → Expr → Bool} {Q : Prop} (h : onBin e k = true) (q : ∀ l o r p, k l o r = true → e = .BinOp l o r p → Q) : Q :=
  at_e h fun i h => Expr.BinOp.elim (motive_1 := fun e => ∀ i : e.ctorIdx = 2, Expr.BinOp.elim (motive_1 := fun _ => Bool) e i (fun l o r _ => k l o r) = true → (∀ l o r p, k l o r = true → e = .BinOp l o r p → Q) → Q) e i (fun l o r p _ h q => q l o r p h rfl) i h q
noncomputable def onCmp (e : Expr) (k : Expr → List CmpOp → List Expr → Bool) : Bool := at_ e.ctorIdx 15 fun h => Expr.Compare.elim (motive_1 := fun _ => Bool) e h fun l os rs _ => k l os rs
theorem onCmp_e {e : Expr} {k : Expr → List CmpOp → List Expr → Bool} {Q : Prop} (h : onCmp e k = true) (q : ∀ l os rs p, k l os rs = true → e = .Compare l os rs p → Q) : Q :=
  at_e h fun i h => Expr.Compare.elim (motive_1 := fun e => ∀ i : e.ctorIdx = 15, Expr.Compare.elim (motive_1 := fun _ => Bool) e i (fun l os rs _ => k l os rs) = true → (∀ l os rs p, k l os rs = true → e = .Compare l os rs p → Q) → Q) e i (fun l os rs p _ h q => q l os rs p h rfl) i h q
noncomputable def onBool (e : Expr) (k : BoolOp → List Expr → Bool) : Bool := at_ e.ctorIdx 0 fun h => Expr.BoolOp.elim (motive_1 := fun _ => Bool) e h fun o es _ => k o es
theorem onBool_e {e : Expr} {k : BoolOp → List Expr → Bool} {Q : Prop} (h : onBool e k = true) (q : ∀ o es p, k o es = true → e = .BoolOp o es p → Q) : Q :=
  at_e h fun i h => Expr.BoolOp.elim (motive_1 := fun e => ∀ i : e.ctorIdx = 0, Expr.BoolOp.elim (motive_1 := fun _ => Bool) e i (fun o es _ => k o es) = true → (∀ o es p, k o es = true → e = .BoolOp o es p → Q) → Q) e i (fun o es p _ h q => q o es p h rfl) i h q
noncomputable def onUn (e : Expr) (k : UnaryOp → Expr → Bool) : Bool := at_ e.ctorIdx 3 fun h => Expr.UnaryOp.elim (motive_1 := fun _ => Bool) e h fun o x _ => k o x
theorem onUn_e {e : Expr} {k : UnaryOp → Expr → Bool} {Q : Prop} (h : onUn e k = true) (q : ∀ o x p, k o x = true → e = .UnaryOp o x p → Q) : Q :=
  at_e h fun i h => Expr.UnaryOp.elim (motive_1 := fun e => ∀ i : e.ctorIdx = 3, Expr.UnaryOp.elim (motive_1 := fun _ => Bool) e i (fun o x _ => k o x) = true → (∀ o x p, k o x = true → e = .UnaryOp o x p → Q) → Q) e i (fun o x p _ h q => q o x p h rfl) i h q
noncomputable def onIf (e : Expr) (k : Expr → Expr → Expr → Bool) : Bool := at_ e.ctorIdx 5 fun h => Expr.IfExp.elim (motive_1 := fun _ => Bool) e h fun x y z _ => k x y z
theorem onIf_e {e : Expr} {k : Expr → Expr → Expr → Bool} {Q : Prop} (h : onIf e k = true) (q : ∀ x y z p, k x y z = true → e = .IfExp x y z p → Q) : Q :=
  at_e h fun i h => Expr.IfExp.elim (motive_1 := fun e => ∀ i : e.ctorIdx = 5, Expr.IfExp.elim (motive_1 := fun _ => Bool) e i (fun x y z _ => k x y z) = true → (∀ x y z p, k x y z = true → e = .IfExp x y z p → Q) → Q) e i (fun x y z p _ h q => q x y z p h rfl) i h q
noncomputable def onSub (e : Expr) (k : Expr → Expr → Bool) : Bool := at_ e.ctorIdx 21 fun h => Expr.Subscript.elim (motive_1 := fun _ => Bool) e h fun o q' _ => k o q'
theorem onSub_e {e : Expr} {k : Expr → Expr → Bool} {Q : Prop} (h : onSub e k = true) (q : ∀ o q' p, k o q' = true → e = .Subscript o q' p → Q) : Q :=
  at_e h fun i h => Expr.Subscript.elim (motive_1 := fun e => ∀ i : e.ctorIdx = 21, Expr.Subscript.elim (motive_1 := fun _ => Bool) e i (fun o q' _ => k o q') = true → (∀ o q' p, k o q' = true → e = .Subscript o q' p → Q) → Q) e i (fun o q' p _ h q => q o q' p h rfl) i h q
noncomputable def onSli (e : Expr) (k : Option Expr → Option Expr → Option Expr → Bool) : Bool := at_ e.ctorIdx 26 fun h => Expr.Slice.elim (motive_1 := fun _ => Bool) e h fun l u s _ => k l u s
theorem onSli_e {e : Expr} {k : Option Expr → Option Expr → Option Expr → Bool} {Q : Prop} (h : onSli e k = true) (q : ∀ l u s p, k l u s = true → e = .Slice l u s p → Q) : Q :=
  at_e h fun i h => Expr.Slice.elim (motive_1 := fun e => ∀ i : e.ctorIdx = 26, Expr.Slice.elim (motive_1 := fun _ => Bool) e i (fun l u s _ => k l u s) = true → (∀ l u s p, k l u s = true → e = .Slice l u s p → Q) → Q) e i (fun l u s p _ h q => q l u s p h rfl) i h q
noncomputable def onSet (e : Expr) (k : List Expr → Nat → Bool) : Bool := at_ e.ctorIdx 7 fun h => Expr.Set.elim (motive_1 := fun _ => Bool) e h fun es n _ => k es n
theorem onSet_e {e : Expr} {k : List Expr → Nat → Bool} {Q : Prop} (h : onSet e k = true) (q : ∀ es n p, k es n = true → e = .Set es n p → Q) : Q :=
  at_e h fun i h => Expr.Set.elim (motive_1 := fun e => ∀ i : e.ctorIdx = 7, Expr.Set.elim (motive_1 := fun _ => Bool) e i (fun es n _ => k es n) = true → (∀ es n p, k es n = true → e = .Set es n p → Q) → Q) e i (fun es n p _ h q => q es n p h rfl) i h q
noncomputable def onLC (e : Expr) (k : Expr → List Comprehension → Scope → Bool) : Bool := at_ e.ctorIdx 8 fun h => Expr.ListComp.elim (motive_1 := fun _ => Bool) e h fun x gs sc _ => k x gs sc
theorem onLC_e {e : Expr} {k : Expr → List Comprehension → Scope → Bool} {Q : Prop} (h : onLC e k = true) (q : ∀ x gs sc p, k x gs sc = true → e = .ListComp x gs sc p → Q) : Q :=
  at_e h fun i h => Expr.ListComp.elim (motive_1 := fun e => ∀ i : e.ctorIdx = 8, Expr.ListComp.elim (motive_1 := fun _ => Bool) e i (fun x gs sc _ => k x gs sc) = true → (∀ x gs sc p, k x gs sc = true → e = .ListComp x gs sc p → Q) → Q) e i (fun x gs sc p _ h q => q x gs sc p h rfl) i h q
noncomputable def onAsg1 (e : Stmt) (k : List Expr → Expr → Bool) : Bool := at_ e.ctorIdx 5 fun h => Stmt.Assign.elim (motive_2 := fun _ => Bool) e h fun l v _ => k l v
theorem onAsg1_e {e : Stmt} {k : List Expr → Expr → Bool} {Q : Prop} (h : onAsg1 e k = true) (q : ∀ l v p, k l v = true → e = .Assign l v p → Q) : Q :=
  at_e h fun i h => Stmt.Assign.elim (motive_2 := fun e => ∀ i : e.ctorIdx = 5, Stmt.Assign.elim (motive_2 := fun _ => Bool) e i (fun l v _ => k l v) = true → (∀ l v p, k l v = true → e = .Assign l v p → Q) → Q) e i (fun l v p _ h q => q l v p h rfl) i h q
noncomputable def onAug (e : Stmt) (k : Expr → Operator → Expr → Bool) : Bool := at_ e.ctorIdx 7 fun h => Stmt.AugAssign.elim (motive_2 := fun _ => Bool) e h fun t o v _ => k t o v
theorem onAug_e {e : Stmt} {k : Expr → Operator → Expr → Bool} {Q : Prop} (h : onAug e k = true) (q : ∀ t o v p, k t o v = true → e = .AugAssign t o v p → Q) : Q :=
  at_e h fun i h => Stmt.AugAssign.elim (motive_2 := fun e => ∀ i : e.ctorIdx = 7, Stmt.AugAssign.elim (motive_2 := fun _ => Bool) e i (fun t o v _ => k t o v) = true → (∀ t o v p, k t o v = true → e = .AugAssign t o v p → Q) → Q) e i (fun t o v p _ h q => q t o v p h rfl) i h q
noncomputable def onExp (e : Stmt) (k : Expr → Bool) : Bool := at_ e.ctorIdx 24 fun h => Stmt.Expr.elim (motive_2 := fun _ => Bool) e h fun v _ => k v
theorem onExp_e {e : Stmt} {k : Expr → Bool} {Q : Prop} (h : onExp e k = true) (q : ∀ v p, k v = true → e = .Expr v p → Q) : Q :=
  at_e h fun i h => Stmt.Expr.elim (motive_2 := fun e => ∀ i : e.ctorIdx = 24, Stmt.Expr.elim (motive_2 := fun _ => Bool) e i (fun v _ => k v) = true → (∀ v p, k v = true → e = .Expr v p → Q) → Q) e i (fun v p _ h q => q v p h rfl) i h q
noncomputable def onFor1 (e : Stmt) (k : Expr → Expr → List Stmt → List Stmt → Bool) : Bool := at_ e.ctorIdx 9 fun h => Stmt.For.elim (motive_2 := fun _ => Bool) e h fun t v y z _ => k t v y z
theorem onFor1_e {e : Stmt} {k : Expr → Expr → List Stmt → List Stmt → Bool} {Q : Prop} (h : onFor1 e k = true) (q : ∀ t v y z p, k t v y z = true → e = .For t v y z p → Q) : Q :=
  at_e h fun i h => Stmt.For.elim (motive_2 := fun e => ∀ i : e.ctorIdx = 9, Stmt.For.elim (motive_2 := fun _ => Bool) e i (fun t v y z _ => k t v y z) = true → (∀ t v y z p, k t v y z = true → e = .For t v y z p → Q) → Q) e i (fun t v y z p _ h q => q t v y z p h rfl) i h q
noncomputable def onTry1 (e : Stmt) (k : List Stmt → List ExceptHandler → List Stmt → List Stmt → Bool) : Bool := at_ e.ctorIdx 17 fun h => Stmt.Try.elim (motive_2 := fun _ => Bool) e h fun x hs y z _ => k x hs y z
theorem onTry1_e {e : Stmt} {k : List Stmt → List ExceptHandler → List Stmt → List Stmt → Bool} {Q : Prop} (h : onTry1 e k = true) (q : ∀ x hs y z p, k x hs y z = true → e = .Try x hs y z p → Q) : Q :=
  at_e h fun i h => Stmt.Try.elim (motive_2 := fun e => ∀ i : e.ctorIdx = 17, Stmt.Try.elim (motive_2 := fun _ => Bool) e i (fun x hs y z _ => k x hs y z) = true → (∀ x hs y z p, k x hs y z = true → e = .Try x hs y z p → Q) → Q) e i (fun x hs y z p _ h q => q x hs y z p h rfl) i h q
noncomputable def onRaise1 (e : Stmt) (k : Option Expr → Option Expr → Bool) : Bool := at_ e.ctorIdx 16 fun h => Stmt.Raise.elim (motive_2 := fun _ => Bool) e h fun v c _ => k v c
theorem onRaise1_e {e : Stmt} {k : Option Expr → Option Expr → Bool} {Q : Prop} (h : onRaise1 e k = true) (q : ∀ v c p, k v c = true → e = .Raise v c p → Q) : Q :=
  at_e h fun i h => Stmt.Raise.elim (motive_2 := fun e => ∀ i : e.ctorIdx = 16, Stmt.Raise.elim (motive_2 := fun _ => Bool) e i (fun v c _ => k v c) = true → (∀ v c p, k v c = true → e = .Raise v c p → Q) → Q) e i (fun v c p _ h q => q v c p h rfl) i h q
noncomputable def onRet (e : Stmt) (k : Option Expr → Bool) : Bool := at_ e.ctorIdx 3 fun h => Stmt.Return.elim (motive_2 := fun _ => Bool) e h fun v _ => k v
theorem onRet_e {e : Stmt} {k : Option Expr → Bool} {Q : Prop} (h : onRet e k = true) (q : ∀ v p, k v = true → e = .Return v p → Q) : Q :=
  at_e h fun i h => Stmt.Return.elim (motive_2 := fun e => ∀ i : e.ctorIdx = 3, Stmt.Return.elim (motive_2 := fun _ => Bool) e i (fun v _ => k v) = true → (∀ v p, k v = true → e = .Return v p → Q) → Q) e i (fun v p _ h q => q v p h rfl) i h q
noncomputable def onIfS (e : Stmt) (k : Expr → List Stmt → List Stmt → Bool) : Bool := at_ e.ctorIdx 12 fun h => Stmt.If.elim (motive_2 := fun _ => Bool) e h fun t x y _ => k t x y
theorem onIfS_e {e : Stmt} {k : Expr → List Stmt → List Stmt → Bool} {Q : Prop} (h : onIfS e k = true) (q : ∀ t x y p, k t x y = true → e = .If t x y p → Q) : Q :=
  at_e h fun i h => Stmt.If.elim (motive_2 := fun e => ∀ i : e.ctorIdx = 12, Stmt.If.elim (motive_2 := fun _ => Bool) e i (fun t x y _ => k t x y) = true → (∀ t x y p, k t x y = true → e = .If t x y p → Q) → Q) e i (fun t x y p _ h q => q t x y p h rfl) i h q
noncomputable def onWhl (e : Stmt) (k : Expr → List Stmt → List Stmt → Bool) : Bool := at_ e.ctorIdx 11 fun h => Stmt.While.elim (motive_2 := fun _ => Bool) e h fun t x y _ => k t x y
theorem onWhl_e {e : Stmt} {k : Expr → List Stmt → List Stmt → Bool} {Q : Prop} (h : onWhl e k = true) (q : ∀ t x y p, k t x y = true → e = .While t x y p → Q) : Q :=
  at_e h fun i h => Stmt.While.elim (motive_2 := fun e => ∀ i : e.ctorIdx = 11, Stmt.While.elim (motive_2 := fun _ => Bool) e i (fun t x y _ => k t x y) = true → (∀ t x y p, k t x y = true → e = .While t x y p → Q) → Q) e i (fun t x y p _ h q => q t x y p h rfl) i h q
noncomputable def onBrk (e : Stmt) : Bool := at_ e.ctorIdx 26 fun _ => true
theorem onBrk_e {e : Stmt} {Q : Prop} (h : onBrk e = true) (q : ∀ p, e = .Break p → Q) : Q :=
  at_e h fun i h => Stmt.Break.elim (motive_2 := fun e => ∀ i : e.ctorIdx = 26, true = true → (∀ p, e = .Break p → Q) → Q) e i (fun p _ h q => q p rfl) i h q
theorem and2 {a b : Bool} {Q : Prop} (h : (a && b) = true) (q : a = true → b = true → Q) : Q := (fun g => q g.1 g.2) ((Bool.and_eq_true _ _).mp h)
theorem and3 {a b c : Bool} {Q : Prop} (h : (a && (b && c)) = true) (q : a = true → b = true → c = true → Q) : Q := and2 h fun x h => and2 h (q x)
theorem and4 {a b c d : Bool} {Q : Prop} (h : (a && (b && (c && d))) = true) (q : a = true → b = true → c = true → d = true → Q) : Q := and2 h fun x h => and3 h (q x)
theorem and5 {a b c d e : Bool} {Q : Prop} (h : (a && (b && (c && (d && e)))) = true) (q : a = true → b = true → c = true → d = true → e = true → Q) : Q := and2 h fun x h => and4 h (q x)
theorem and6 {a b c d e f : Bool} {Q : Prop} (h : (a && (b && (c && (d && (e && f))))) = true) (q : a = true → b = true → c = true → d = true → e = true → f = true → Q) : Q := and2 h fun x h => and5 h (q x)
theorem and7 {a b c d e f g : Bool} {Q : Prop} (h : (a && (b && (c && (d && (e && (f && g)))))) = true) (q : a = true → b = true → c = true → d = true → e = true → f = true → g = true → Q) : Q := and2 h fun x h => and6 h (q x)
theorem not_e {a : Bool} (h : (!a) = true) : a = false := by rwa [Bool.not_eq_true'] at h
noncomputable def constE (e : Expr) (v : PV) : Bool := onConst e fun c => constIs c v
noncomputable def simIs (sc : Scope) (ns : List Str) (e : Expr) (c : C) : Bool := match c with
  | .k v => constE e v
  | .v i => onName e fun x => slotIs sc ns x i
  | _ => false
noncomputable def cNone (c : Const) : Bool := match c with
  | .none => true
  | _ => false
theorem cNone_e {c : Const} (h : cNone c = true) : c = .none := by
  cases c <;> first | rfl | exact (Bool.false_ne_true h).elim
noncomputable def onOne {α : Type} (l : List α) (k : α → Bool) : Bool := match l with
  | [] => false
  | a :: r => r.isEmpty && k a
theorem onOne_e {α : Type} {l : List α} {k : α → Bool} {Q : Prop} (h : onOne l k = true) (q : ∀ a, k a = true → l = [a] → Q) : Q := by
  cases l with
  | nil => exact (Bool.false_ne_true h).elim
  | cons a r =>
    have h := (Bool.and_eq_true _ _).mp (show (r.isEmpty && k a) = true from h)
    exact q a h.2 (congrArg (a :: ·) (List.isEmpty_iff.mp h.1))
noncomputable def onSome {α : Type} (l : Option α) (k : α → Bool) : Bool := match l with
  | some a => k a
  | none => false
theorem onSome_e {α : Type} {l : Option α} {k : α → Bool} {Q : Prop} (h : onSome l k = true) (q : ∀ a, k a = true → l = some a → Q) : Q := by
  cases l with
  | none => exact (Bool.false_ne_true h).elim
  | some a => exact q a h rfl
noncomputable def onAsg (st : Stmt) (k : Expr → Expr → Bool) : Bool := onAsg1 st fun l e => onOne l fun t => k t e
theorem onAsg_e {st : Stmt} {k : Expr → Expr → Bool} {Q : Prop} (h : onAsg st k = true) (q : ∀ t e p, k t e = true → st = .Assign [t] e p → Q) : Q :=
  onAsg1_e h fun l e p h es => onOne_e h fun t h el => q t e p h (by rw [es, el])
noncomputable def onFor (st : Stmt) (k : Expr → Expr → List Stmt → Bool) : Bool := onFor1 st fun t e y z => z.isEmpty && k t e y
theorem onFor_e {st : Stmt} {k : Expr → Expr → List Stmt → Bool} {Q : Prop} (h : onFor st k = true) (q : ∀ t e y p, k t e y = true → st = .For t e y [] p → Q) : Q :=
  onFor1_e h fun t e y z p h es => (have g := (Bool.and_eq_true _ _).mp h; q t e y p g.2 (by rw [es, List.isEmpty_iff.mp g.1]))
noncomputable def onTry (st : Stmt) (k : List Stmt → Option Expr → Option Str → List Stmt → Bool) : Bool := onTry1 st fun x hs y z => y.isEmpty && (z.isEmpty && onOne hs fun h => match h with | .ExceptHandler t n b _ => !b.isEmpty && k x t n b)
theorem onTry_e {st : Stmt} {k : List Stmt → Option Expr → Option Str → List Stmt → Bool} {Q : Prop} (h : onTry st k = true) (q : ∀ x t n b bs hp p, k x t n (b :: bs) = true → st = .Try x [.ExceptHandler t n (b :: bs) hp] [] [] p → Q) : Q := by
  refine onTry1_e h fun x hs y z p h es => ?_
  have h := (Bool.and_eq_true _ _).mp h
  have g := (Bool.and_eq_true _ _).mp h.2
  refine onOne_e g.2 fun a k e => ?_
  cases a with
  | ExceptHandler t n b hp =>
    have k := (Bool.and_eq_true _ _).mp k
    cases b with
    | nil => exact (Bool.false_ne_true k.1).elim
    | cons b bs => exact q x t n b bs hp p k.2 (by rw [es, e, List.isEmpty_iff.mp h.1, List.isEmpty_iff.mp g.1])
noncomputable def onRaise (st : Stmt) (k : Expr → Expr → Bool) : Bool := onRaise1 st fun e c => onSome e fun e => onSome c fun c => k e c
theorem onRaise_e {st : Stmt} {k : Expr → Expr → Bool} {Q : Prop} (h : onRaise st k = true) (q : ∀ e c p, k e c = true → st = .Raise (some e) (some c) p → Q) : Q :=
  onRaise1_e h fun v u p h es => onSome_e h fun e h e1 => onSome_e h fun c h e2 => q e c p h (by rw [es, e1, e2])
noncomputable def onIsNone {α : Type} (o : Option α) : Bool := match o with
  | none => true
  | some _ => false
theorem onIsNone_e {α : Type} {o : Option α} (h : onIsNone o = true) : o = none := by
  cases o with
  | none => rfl
  | some _ => exact (Bool.false_ne_true h).elim
noncomputable def cStr (c : Const) (k : Str → Bool) : Bool := match c with
  | .str y => k y
  | _ => false
theorem cStr_e {c : Const} {k : Str → Bool} {Q : Prop} (h : cStr c k = true) (q : ∀ y, k y = true → c = .str y → Q) : Q := by
  cases c <;> first | exact (Bool.false_ne_true h).elim | exact q _ h rfl
noncomputable def onTwo {α : Type} (l : List α) (k : α → α → Bool) : Bool := match l with
  | [] => false
  | a :: r => onOne r fun b => k a b
theorem onTwo_e {α : Type} {l : List α} {k : α → α → Bool} {Q : Prop} (h : onTwo l k = true) (q : ∀ a b, k a b = true → l = [a, b] → Q) : Q := by
  cases l with
  | nil => exact (Bool.false_ne_true h).elim
  | cons a r => exact onOne_e h fun b h e => q a b h (by rw [e])
noncomputable def cutName (sc : Scope) (y : Str × NameKind) : Bool := y.2 != .cell && (y.2 != .local || sc.names.lookup y.1 == some .local)
noncomputable def callIs (f : Str → List Expr → Bool) (e : Expr) : Bool := onCall e fun g l ks _ => ks.isEmpty && onName g fun x => l.all noStar && f x l
noncomputable def mcallIs (f : Expr → Str → List Expr → Bool) (e : Expr) : Bool := onCall e fun g l ks pos => ks.isEmpty && onAttr g fun o y ap => noSup o && (ap.endLine == pos.line && (l.all noStar && (Nat.blt l.length 20 && f o y l)))
noncomputable def notSet (e : Expr) : Bool := !Nat.beq e.ctorIdx 7
/-- a block's names where it stands -/
noncomputable def relS (sc' sc : Scope) : Scope := { sc' with names := sc'.names.map fun (n, k) => if (k == NameKind.free && sc.kind == .function && sc.names.lookup n == some .cell) then (n, NameKind.cell) else (n, k) }
/-- the captured name -/
noncomputable def capNs (ns : List Str) (cap : Option Nat) : List Str := match cap with
  | none => []
  | some j => (match ns[j]? with | some x => [x] | none => [])
noncomputable def capOk (sc : Scope) (ns : List Str) (cap : Option Nat) : Bool := match cap with
  | none => true
  | some j => onSome ns[j]? fun x => cellIs sc ns x j
noncomputable def ifIs (w : Ck) (sc : Scope) (ns : List Str) (ifs : List Expr) (ts : Option C) : Bool := match ts with
  | none => ifs.isEmpty
  | some c => onOne ifs fun e => w.E sc ns e c
noncomputable def itIs (K : Frag) (w : Ck) (sc : Scope) (ns : List Str) (e : Expr) (it : C) : Bool := match it with
  | .rng a b => callIs (fun x es => onTwo es fun e1 e2 => builtIs K sc x (.type "range") && (w.E sc ns e1 a && w.E sc ns e2 b)) e
  | c => w.E sc ns e c
noncomputable def compIs (K : Frag) (w : Ck) (sc : Scope) (ns : List Str) (e : Expr) (elt : C) (ts : Option C) (cap : Option Nat) (it : C) (k : Scope → Bool) : Bool := onLC e fun x gs sc' => onOne gs fun g => onName g.target fun y =>
  (g.is_async == 0 && (notSet g.iter && (itIs K w sc ns g.iter it && capOk sc ns cap))) &&
  ((sc'.kind == .function && (sc'.names.all (cutName sc') && (sc'.names.filter (fun z => z.2 == .free) == (capNs ns cap).map (fun x => (x, NameKind.free)) && (!(capNs ns cap).contains y && (capNs ns cap).all fun x => sc'.names.lookup x == some .free)))) &&
  (w.E (relS sc' sc) (y :: capNs ns cap) x elt && (ifIs w (relS sc' sc) (y :: capNs ns cap) g.ifs ts && (slotIs (relS sc' sc) (y :: capNs ns cap) y 0 && k sc'))))
noncomputable def moreIs (K : Frag) (sc : Scope) (b : Bi) (l : List Expr) : Bool := match l with
  | [] => !biTwo b
  | e :: r => r.isEmpty && (match b with
    | .isstr => onName e fun y => builtIs K sc y (.type "str")
    | .latin => onConst e fun c => cStr c fun y => y == Str.ofString "latin1"
    | _ => false)
noncomputable def ckE (K : Frag) (w : Ck) (sc : Scope) (ns : List Str) (e : Expr) (c : C) : Bool := match c with
  | .k v => onConst e fun x => constIs x v
  | .v i => onName e fun x => slotIs sc ns x i
  | .g b => onName e fun x => globIs K sc x (.ref (clsAt b))
  | .sget n => onAttr e fun o y _ => onName o fun x => slotIs sc ns x 0 && errNames[n]? == some y
  | .bin o a b => onBin e fun l op r => op == o && (w.E sc ns l a && w.E sc ns r b)
  | .cmp o a b => onCmp e fun l ops rs => onOne ops fun op => onOne rs fun r => op == o && (!behindInMarks op r && (w.E sc ns l a && w.E sc ns r b))
  | .cmp2 .. => false
  | .bop o l => onBool e fun op es => op == o && ckAll (w.E sc ns) es l
  | .not a => onUn e fun op x => op == .Not && w.E sc ns x a
  | .neg a => onUn e fun op x => op == .USub && w.E sc ns x a
  | .ife t a b => onIf e fun x y z => w.E sc ns x t && (w.E sc ns y a && w.E sc ns z b)
  | .tup l => onTup e fun es => es.all noStar && w.Es sc ns es l
  | .lst l => onList e fun es => es.all noStar && w.Es sc ns es l
  | .get a n => onAttr e fun o y _ => noSup o && (attNames[n]? == some y && w.E sc ns o a)
  | .cal f l => callIs (fun x es => globIs K sc x (.ref f) && (keepIn K (.ref f) && (!Nat.beq f 38 && w.Es sc ns es l))) e
  | .mk k l => callIs (fun x es => globIs K sc x (.ref (clsAt k)) && (keepIn K (.ref (clsAt k)) && w.Es sc ns es l)) e
  | .mt a f l => mcallIs (fun o y es => methIs K y f && (!Nat.beq f 38 && (w.E sc ns o a && w.Es sc ns es l))) e
  | .cb b l => callIs (fun x es => match es, l with
    | e :: more, [c] => builtIs K sc x (biVal b) && (w.E sc ns e c && moreIs K sc b more)
    | _, _ => false) e
  | .mb m a l => mcallIs (fun o y es => y == mbName m && (w.E sc ns o a && w.Es sc ns es l)) e
  | .sub a i => onSub e fun o q => noSli q && (w.E sc ns o a && w.E sc ns q i)
  | .sli a lo hi => onSub e fun o q => onSli q fun l u st => onIsNone st && (w.E sc ns o a && (ckOpt (w.E sc ns) l lo && ckOpt (w.E sc ns) u hi))
  | .comp elt ts cap it => compIs K w sc ns e elt ts cap it fun _ => true
  | .rng _ _ => false
  | .min a b => callIs (fun x es => onTwo es fun e1 e2 => builtIs K sc x (.builtin "min") && (w.E sc ns e1 a && w.E sc ns e2 b)) e
  | .pick .. => false
  | .cv i => onName e fun x => cellIs sc ns x i
  | .set l => onSet e fun es n => Nat.beq n 0 && (Nat.ble es.length 30 && ckAll (simIs sc ns) es l)
/-- an expression whose truth is its value's -/
noncomputable def plainT (e : Expr) : Bool := !Nat.beq e.ctorIdx 15 && (!Nat.beq e.ctorIdx 0 && (!Nat.beq e.ctorIdx 5 && !Nat.beq e.ctorIdx 3))
noncomputable def isTest (c : C) : Bool := match c with
  | .cmp .. => true
  | .cmp2 .. => true
  | .bop .. => true
  | .not .. => true
  | .neg .. => true
  | .ife .. => true
  | _ => false
noncomputable def ckX (K : Frag) (w : Ck) (sc : Scope) (ns : List Str) (e : Expr) (c : C) : Bool := (isTest c || plainT e) && ckE K w sc ns e c
noncomputable def ckEs (w : Ck) (sc : Scope) (ns : List Str) (es : List Expr) (l : List C) : Bool := match es, l with
  | [], [] => true
  | e :: r, c :: q => w.E sc ns e c && w.Es sc ns r q
  | _, _ => false
end Mine
end

noncomputable section
open PySem PySem.W PySem.Calls PyProof.Rows PySem.SeqAt
set_option maxRecDepth 100000
namespace Mine
/-- an exception's traceback -/
noncomputable def TbOk (mu : Im) (e : Addr) (tb : Value) : Prop := tb = .none ∨ ∃ T oT st, tb = .ref T ∧ T ≠ e ∧ (T, oT) ∈ mu ∧ TbAt oT st
inductive FlPe (P : Params) (ρ : List (Addr × Addr)) (im mu : Im) (f : List PV) (x : List Nat) (v : Value) : Prop
  | mk : ∀ e dx t tb c2 c3 c4 vs, v = .ref e → (e, exO (.ref 41) (some dx) (.ref t) tb c2 c3 c4) ∈ mu → TbOk mu e tb → (∃ es, (dx, dictOf es 5) ∈ im ∧ Ents P errNames es vs) → (∃ u, (t, tupO [.str ⟨x.toArray⟩ u]) ∈ im) → Reps P ρ im vs f → FlPe P ρ im mu f x v
/-- an exception on its way -/
noncomputable def Flight (P : Params) (ρ : List (Addr × Addr)) (im mu : Im) : Ex → Value → Prop
  | .ix, v => ∃ e t tb c3 c4, v = .ref e ∧ (e, exO (.type "IndexError") none (.ref t) tb .none c3 c4) ∈ mu ∧ TbOk mu e tb
  | .pe f x, v => FlPe P ρ im mu f x v
noncomputable def StX (P : Params) (a : Ac) (ρ : List (Addr × Addr)) (im : Im) (σ : Sg) (x : Ex) (v : Value) (s : Shared) : Prop :=
  ∃ m mu, Run a.hb a.l a.fr a.V a.s₀ a.L m mu im s ∧ StM P a ρ im σ m mu ∧ Flight P ρ im mu x v
structure Base where
  K : Frag
  pr : Program
  loose : List Str
  mg : Str → Option Value
  mb : Str → Option Value
  prog : Program
  w : World
/-- an activation's code object -/
noncomputable def CodeAt (h : Heap) (v : Value) : Prop := ∃ c o vs, v = .ref c ∧ h.get? c = some o ∧ o.data = .fields vs
structure Ct (B : Base) (a : Ac) (env : Env) (A : Around) (d : Md) (im : Im) : Prop where
  N : EnvOk a env
  O : AOk a A d
  S : Sta B.K B.pr B.loose B.mg B.mb a.hb
  EK : ErrK B.K
  hx : d.x = true → HdOk A im
  dd : d.d ≤ 200
  fe : d.c = true → ∃ l' F, a.l = env :: l' ∧ env.frame = some F
  ro : d.c = true → a.ro = false
  cd : CodeAt a.hb env.code
variable {B : Base} {P : Params} {a : Ac} {ρ ρ' ρ'' : List (Addr × Addr)} {im im' im'' : Im} {σ σ' : Sg} {m m' : Vars} {mu mu' : Im} {s s₀ s' : Shared} {env : Env} {d : Md} {A : Around} {E : Value → Shared → Prop} {Q : Value → Shared → Prop}
theorem HdOk.up (m : ∀ p ∈ im, p ∈ im') (h : HdOk A im) : HdOk A im' := h.imp id fun ⟨e, c, x, y, z, w, v, h1, h2⟩ => ⟨e, c, x, y, z, w, v, h1, m _ h2⟩
theorem Ct.up (C : Ct B a env A d im) (x : Ext ρ ρ' im im') : Ct B a env A d im' := ⟨C.N, C.O, C.S, C.EK, fun h => (C.hx h).up x.m, C.dd, C.fe, C.ro, C.cd⟩
theorem Ct.hu (C : Ct B a env A d im) : A.units + 10 < cLine := by
  have h1 := C.O.un
  have h2 := C.dd
  show A.units + 10 < 9900
  omega
theorem St.kin (S : St P a ρ im σ s) (C : Ct B a env A d im) : B.K.In s.heap := let ⟨_, _, R, _⟩ := S; R.kin C.S
noncomputable def KE {α : Type} (P : Params) (a : Ac) (ρ : List (Addr × Addr)) (im : Im) (K : Kt α) (E : Value → Shared → Prop) : Prop :=
  ∀ ρ' im' σ' x v s', Ext ρ ρ' im im' → K (.err x) σ' → StX P a ρ' im' σ' x v s' → E v s'
theorem KE.up {α : Type} {K : Kt α} (h : KE P a ρ im K E) (x : Ext ρ ρ' im im') : KE P a ρ' im' K E := fun r i σ' e v s' y k S => h r i σ' e v s' (x.trans y) k S
theorem KQ.up {K : Kt PV} (h : KQ P a ρ im K Q) (x : Ext ρ ρ' im im') : KQ P a ρ' im' K Q := fun r i σ' p v s' y k R S => h r i σ' p v s' (x.trans y) k R S
theorem KQ.pq {K : Kt PV} (h : KQ P a ρ im K Q) : PQ P a ρ im σ (fun v => K (.ok v) σ) Q := fun i p v s' x k R S => h ρ i σ p v s' x k R S
theorem KQ.bq {K : Kt PV} (h : KQ P a ρ im K Q) : BQ P a ρ im σ (fun b => K (.ok (.bool b)) σ) fun b => Q (.bool b) := fun i b s' x k S => h ρ i σ _ _ s' x k Rep.bool S
noncomputable def SndE (B : Base) (P : Params) (w : Wd) (ck : Ck) : Prop := ∀ {a env A d ρ im σ s e c K Q E}, ck.E env.scope a.names e c = true → w.E d c σ K → Ct B a env A d im → St P a ρ im σ s → KQ P a ρ im K Q → KE P a ρ im K E →
  wpAny (model B.prog B.w) A (eval e env) Q E s
noncomputable def KQs (P : Params) (a : Ac) (ρ : List (Addr × Addr)) (im : Im) (K : Kt (List PV)) (Q : List Value → Shared → Prop) : Prop :=
  ∀ ρ' im' σ' p v s', Ext ρ ρ' im im' → K (.ok p) σ' → Reps P ρ' im' v p → St P a ρ' im' σ' s' → Q v s'
noncomputable def SndEs (B : Base) (P : Params) (w : Wd) (ck : Ck) : Prop := ∀ {a env A d ρ im σ s es l K Q E} {pos : Pos}, ck.Es env.scope a.names es l = true → es.all noStar = true → w.Es d l σ K → Ct B a env A d im → St P a ρ im σ s → KQs P a ρ im K Q → KE P a ρ im K E →
  wpAny (model B.prog B.w) A (spliced (backTo pos (starEach es env))) Q E s
noncomputable def KQb (P : Params) (a : Ac) (ρ : List (Addr × Addr)) (im : Im) (K : Kt Bool) (Q : Bool → Shared → Prop) : Prop := ∀ ρ' im' σ' b s', Ext ρ ρ' im im' → K (.ok b) σ' → St P a ρ' im' σ' s' → Q b s'
theorem KQb.up {K : Kt Bool} {Q : Bool → Shared → Prop} (h : KQb P a ρ im K Q) (x : Ext ρ ρ' im im') : KQb P a ρ' im' K Q := fun r i σ' b s' y k S => h r i σ' b s' (x.trans y) k S
noncomputable def SndT (B : Base) (P : Params) (w : Wd) (ck : Ck) : Prop := ∀ {a env A d ρ im σ s e c K Q E}, ck.E env.scope a.names e c = true → w.T d c σ K → Ct B a env A d im → St P a ρ im σ s → KQb P a ρ im K Q → KE P a ρ im K E →
  wpAny (model B.prog B.w) A (isTrue e env (eval e env)) Q E s
variable {w : Wd} {ck : Ck} {e : Expr} {K : Kt PV}
theorem e_bin {o : Operator} {x y : C} (I : SndE B P w ck) (hc : ckE B.K ck env.scope a.names e (.bin o x y) = true) (h : stepE w d (.bin o x y) σ K) (C : Ct B a env A d im) (S : St P a ρ im σ s) (q : KQ P a ρ im K Q) (qe : KE P a ρ im K E) :
    wpAny (model B.prog B.w) A (eval e env) Q E s := by
  refine onBin_e hc fun l op r _ hk e0 => ?_
  clear hc
  subst e0
  · refine and3 hk fun ho h1 h2 => ?_
    cases eq_of_beq ho
    exact wpAny_BinOp (I h1 h C S (fun _ _ _ p v s1 x1 k1 r1 S1 => I h2 k1 (C.up x1) S1 (fun _ _ _ p2 v2 s2 x2 k2 r2 S2 => bin_ok k2 (r1.up x2) r2 S2 ((q.up x1).up x2).pq) (qe.up x1)) qe)
theorem e_cmp {o : CmpOp} {x y : C} (I : SndE B P w ck) (hP : P = B.w.params) (hc : ckE B.K ck env.scope a.names e (.cmp o x y) = true) (h : stepE w d (.cmp o x y) σ K) (C : Ct B a env A d im) (S : St P a ρ im σ s) (q : KQ P a ρ im K Q) (qe : KE P a ρ im K E) :
    wpAny (model B.prog B.w) A (eval e env) Q E s := by
  refine onCmp_e hc fun l ops rs _ h' e0 => onOne_e h' fun op h'' e1 => onOne_e h'' fun r hk e2 => ?_
  clear hc h' h''
  subst e0 e1 e2
  · refine and4 hk fun ho hm h1 h2 => ?_
    replace hm := not_e hm
    cases eq_of_beq ho
    exact wpAny_Compare1 (I h1 h C S (fun _ _ _ p v s1 x1 k1 r1 S1 => I h2 k1 (C.up x1) S1 (fun _ _ _ p2 v2 s2 x2 k2 r2 S2 => cmp_ok k2 (r1.up x2) r2 S2 ((q.up x1).up x2).bq C.hu (fun z => ((C.up x1).up x2).hx z) hP.symm) (qe.up x1)) qe) hm
end Mine
end

noncomputable section
open PySem PySem.W PySem.Calls PyProof.Rows PySem.SeqAt
set_option maxRecDepth 100000
namespace Mine
variable {B : Base} {P : Params} {a : Ac} {ρ ρ' ρ'' : List (Addr × Addr)} {im im' im'' : Im} {σ σ' : Sg} {m m' : Vars} {mu mu' : Im} {s s₀ s' : Shared} {env : Env} {d : Md} {A : Around} {E : Value → Shared → Prop} {Q : Value → Shared → Prop}
theorem key_is (P : Params) (n x : Str) (u : Tok) (v : Value) : (⟨PyData.keyHash P n, .str n u, v⟩ : DictEntry).key.isStr x = (n == x) := rfl
theorem Ents.no {ns : List Str} {es : List DictEntry} {vs : List Value} (h : Ents P ns es vs) {x : Str} (hx : ns.contains x = false) : es.any (·.key.isStr x) = false ∧ es.find? (·.key.isStr x) = none := by
  induction h with
  | nil => exact ⟨rfl, rfl⟩
  | @cons n u v ns es vs _ ih =>
    rw [List.contains_cons, Bool.or_eq_false_iff] at hx
    obtain ⟨i1, i2⟩ := ih hx.2
    have e : (n == x) = false := by
      have := hx.1
      rw [beq_eq_false_iff_ne] at this ⊢
      exact this.symm
    exact ⟨by rw [List.any_cons, key_is, e]; exact i1, by rw [List.find?_cons, key_is, e]; exact i2⟩
theorem Ents.ref {ns : List Str} {es : List DictEntry} {vs : List Value} (h : Ents P ns es vs) : es.any (·.refKey) = false := by
  induction h with
  | nil => rfl
  | cons _ ih => rw [List.any_cons, ih]; rfl
theorem Ents.len {ns : List Str} {es : List DictEntry} {vs : List Value} (h : Ents P ns es vs) : es.length = ns.length ∧ vs.length = ns.length := by
  induction h with
  | nil => exact ⟨rfl, rfl⟩
  | cons _ ih => exact ⟨congrArg (· + 1) ih.1, congrArg (· + 1) ih.2⟩
theorem Ents.get {ns : List Str} {es : List DictEntry} {vs : List Value} (h : Ents P ns es vs) (nd : ns.Nodup) {i : Nat} {x : Str} {v : Value} (e : ns[i]? = some x) (ev : vs[i]? = some v) : getL x es = some (some v) := by
  have : ∃ z, es.find? (·.key.isStr x) = some z ∧ z.val = v := by
    induction h generalizing i with
    | nil => cases e
    | @cons n u w ns es vs _ ih =>
      cases i with
      | zero => cases e; cases ev; exact ⟨_, by rw [List.find?_cons, key_is, beq_self_eq_true], rfl⟩
      | succ i =>
        have ne : (n == x) = false := beq_eq_false_iff_ne.mpr fun z => (List.nodup_cons.mp nd).1 (by rw [z]; exact List.mem_of_getElem? e)
        rw [List.find?_cons, key_is, ne]
        exact ih (List.nodup_cons.mp nd).2 e ev
  obtain ⟨z, h1, h2⟩ := this
  unfold getL
  rw [h1, ← h2]
theorem Ents.miss {ns : List Str} {es : List DictEntry} {vs : List Value} (h : Ents P ns es vs) {x : Str} (hx : ns.contains x = false) : getL x es = some none := by
  unfold getL
  rw [(h.no hx).2, h.ref]; rfl
theorem Ents.put {ns : List Str} {es : List DictEntry} {vs : List Value} (h : Ents P ns es vs) (nd : ns.Nodup) {i : Nat} {x : Str} (hs : Int) (k v : Value) (e : ns[i]? = some x) : Ents P ns (putL x hs k v es) (lset vs i v) ∧ es.any (·.key.isStr x) = true := by
  induction h generalizing i with
  | nil => cases e
  | @cons n u w ns es vs h ih =>
    cases i with
    | zero =>
      cases e
      exact ⟨by unfold putL; rw [key_is, beq_self_eq_true, if_pos rfl]; exact .cons h, by rw [List.any_cons, key_is, beq_self_eq_true]; rfl⟩
    | succ i =>
      have ne : (n == x) = false := beq_eq_false_iff_ne.mpr fun z => (List.nodup_cons.mp nd).1 (by rw [z]; exact List.mem_of_getElem? e)
      obtain ⟨i1, i2⟩ := ih (List.nodup_cons.mp nd).2 e
      exact ⟨by unfold putL; rw [key_is, ne, if_neg Bool.false_ne_true]; exact .cons i1, by rw [List.any_cons, i2, Bool.or_true]⟩
theorem Ents.new {ns : List Str} {es : List DictEntry} {vs : List Value} (h : Ents P ns es vs) {x : Str} {u : Tok} {v : Value} (hx : ns.contains x = false) : Ents P (ns ++ [x]) (putL x (PyData.keyHash P x) (.str x u) v es) (vs ++ [v]) := by
  induction h with
  | nil => exact .cons .nil
  | @cons n u w ns es vs h ih =>
    rw [List.contains_cons, Bool.or_eq_false_iff] at hx
    have e : (n == x) = false := by
      have := hx.1
      rw [beq_eq_false_iff_ne] at this ⊢
      exact this.symm
    unfold putL
    rw [key_is, e, if_neg Bool.false_ne_true]
    exact .cons (ih hx.2)
theorem tok_nd : tokNames.Nodup := by decide +kernel
theorem err_nd : errNames.Nodup := by decide +kernel
theorem take_at {α : Type} {l : List α} {k n : Nat} {x : α} (h : l[n]? = some x) (z : n < k) : (l.take k)[n]? = some x := by rw [List.getElem?_take, if_pos z]; exact h
theorem take_new {l : List Str} (nd : l.Nodup) {n : Nat} {x : Str} (h : l[n]? = some x) : (l.take n).contains x = false ∧ l.take (n + 1) = l.take n ++ [x] := by
  refine ⟨?_, by rw [List.take_add_one, h]; rfl⟩
  cases q : (l.take n).contains x with
  | false => rfl
  | true =>
    obtain ⟨i, z⟩ := List.getElem?_of_mem (List.contains_iff_mem.mp q)
    rw [List.getElem?_take] at z
    split at z
    · rename_i lt
      exact absurd rfl (names_ne nd z h (Nat.ne_of_lt lt))
    · cases z
noncomputable def attOk (K : Frag) (C : Addr) (n : Str) : Bool := (match findIn K (.ref C) n with | some a => noGet K a | none => false) && takerIn K C n == some none
structure KOk (K : Frag) : Prop extends ErrK K where
  tg : plainGet K 133 (Str.ofString "") = true
  td : hasDictIn K 133 = true
  ts : findIn K (.ref 133) "__setattr__" = some (some (.builtin "object.__setattr__"))
  tp : plainOver K 133 = true
  ta : tokNames.all (attOk K 133) = true
  eg : plainGetE K 41 = true
  ed : hasDictIn K 41 = true
  es : findIn K (.ref 41) "__setattr__" = some (some (.builtin "object.__setattr__"))
  eo : excOver K 41 = true
  ea : errNames.all (attOk K 41) = true
  pp : ∃ p rest, findIn K (.ref 133) (Str.ofString "pos") = some (some (.ref p)) ∧ specialIn K (.ref p) "__get__" = some (some (.builtin "property.__get__")) ∧ takesIn K (.ref p) = some true ∧ recIn K p "property" = some (.ref 100 :: rest)
theorem att_of {K : Frag} {C : Addr} {l : List Str} {n : Nat} {x : Str} (h : l.all (attOk K C) = true) (e : l[n]? = some x) : (∃ a, findIn K (.ref C) x = some a ∧ noGet K a = true) ∧ takerIn K C x = some none := by
  have := List.all_eq_true.mp h x (List.mem_of_getElem? e)
  unfold attOk at this
  rw [Bool.and_eq_true, beq_iff_eq] at this
  refine ⟨?_, this.2⟩
  have h := this.1
  split at h
  · exact ⟨_, by assumption, h⟩
  · cases h
theorem Rep.handed {p : PV} {v : Value} (h : Rep P ρ im v p) : handedIn v = true := by
  rcases h.kind with ⟨rfl, _⟩ | ⟨_, rfl⟩ | ⟨_, _, rfl⟩ | ⟨_, _, rfl⟩ | ⟨_, _, rfl⟩ | ⟨_, rfl⟩ <;> rfl
/-- a field of a tokenizer -/
theorem get_tok {i n : Nat} {f : List PV} {v : PV} {x : Str} {k : PV → Prop} {u : Value} (KO : KOk B.K) (C : Ct B a env A d im) (S : St P a ρ im σ s) (r : Rep P ρ im u (.obj i)) (hf : σ.objs[i]? = some f) (hv : f[n]? = some v) (hx : tokNames[n]? = some x)
    (h : k v) (c : PQ P a ρ im σ k Q) : wpAny (model B.prog B.w) A (getAttr u x true) Q E s := by
  obtain ⟨m, mu, R, M⟩ := id S
  obtain ⟨y, D, rfl, h1⟩ := r
  obtain ⟨y', D', es, vs, h2, h3, h4, h5, h6⟩ := M.objs i f hf
  rw [h1] at h2; cases h2
  obtain ⟨z, e1, e2⟩ := h6.at hv
  obtain ⟨⟨at', g1, g2⟩, _⟩ := att_of KO.ta hx
  have lt := (List.getElem?_eq_some_iff.mp hv).1
  exact get_i R C.S (instAt R h3 h4) KO.tg KO.td g1 g2 (h5.get (tok_nd.sublist (List.take_sublist _ _)) (take_at hx lt) e1) e2.handed (c.now h e2 S)
/-- a field of an error -/
theorem get_err {n : Nat} {f : List PV} {w : List Nat} {v : PV} {x : Str} {k : PV → Prop} {u : Value} (KO : KOk B.K) (C : Ct B a env A d im) (S : St P a ρ im σ s) (r : Rep P ρ im u (.err f w)) (hv : f[n]? = some v) (hx : errNames[n]? = some x)
    (h : k v) (c : PQ P a ρ im σ k Q) : wpAny (model B.prog B.w) A (getAttr u x true) Q E s := by
  obtain ⟨vs, ⟨y, rfl, h1⟩, h2⟩ := r
  obtain ⟨dx, t, tb, c2, c3, c4, es, u, I, h3, h4, h5⟩ := S.inst h1
  obtain ⟨z, e1, e2⟩ := Reps.at h2 hv
  obtain ⟨⟨at', g1, g2⟩, _⟩ := att_of KO.ea hx
  exact get_exc (S.kin C) I KO.eg (findObj_own KO.ed g1 g2 (h3.get err_nd hx e1)) e2.handed (c.now h e2 S)
end Mine
end

noncomputable section
open PySem PySem.W PySem.Calls PyProof.Rows PySem.SeqAt
set_option maxRecDepth 100000
namespace Mine
variable {B : Base} {P : Params} {a : Ac} {ρ ρ' ρ'' : List (Addr × Addr)} {im im' im'' : Im} {σ σ' : Sg} {m m' : Vars} {mu mu' : Im} {s s₀ s' : Shared} {env : Env} {d : Md} {A A' : Around} {E : Value → Shared → Prop} {Q : Value → Shared → Prop}
  {w : Wd} {ck : Ck} {e : Expr} {K : Kt PV}
structure Near (A A' : Around) : Prop where
  fr : A'.frames = A.frames
  dep : A'.depth ≤ A.depth + 1
  hn : A'.handled = A.handled
  un : A'.units ≤ A.units + 15
theorem Near.refl : Near A A := ⟨rfl, Nat.le_succ _, rfl, Nat.le_add_right _ _⟩
structure KF (P : Params) (a : Ac) (ρ : List (Addr × Addr)) (im : Im) (σ : Sg) (K : R PV → List (List PV) → Prop) (R : Result → Shared → Prop) : Prop where
  ok : ∀ ρ' im' o p v s', Ext ρ ρ' im im' → K (.ok p) o → Rep P ρ' im' v p → St P a ρ' im' { σ with objs := o } s' → R (.ok (.ret v)) s'
  err : ∀ ρ' im' o x v s', Ext ρ ρ' im im' → K (.err x) o → StX P a ρ' im' { σ with objs := o } x v s' → R (.error v) s'
/-- calls of own functions -/
noncomputable def SndF (B : Base) (P : Params) (w : Wd) : Prop := ∀ {a env A A' d ρ im σ s f vs l K R}, f ≠ 38 → w.F d f l σ.objs K → Ct B a env A d im → Near A A' → St P a ρ im σ s → Reps P ρ im vs l → KF P a ρ im σ K R →
  codeAny (model B.prog B.w) A' (.call (.ref f) ⟨vs, []⟩) R s
/-- a tokenizer is made -/
noncomputable def SndM (B : Base) (P : Params) (w : Wd) : Prop := ∀ {a env A d ρ im σ s vs l Q E} {K : R PV → List (List PV) → Prop}, w.F { d with d := d.d + 1 } 58 (.obj σ.objs.length :: l) (σ.objs ++ [[]]) K → Ct B a env A d im → St P a ρ im σ s → Reps P ρ im vs l →
  (∀ ρ' im' o v s', Ext ρ ρ' im im' → K (.ok .none) o → Rep P ρ' im' v (.obj σ.objs.length) → St P a ρ' im' { σ with objs := o } s' → Q v s') → (∀ p o, K (.ok p) o → p = .none) →
  (∀ ρ' im' o x v s', Ext ρ ρ' im im' → K (.err x) o → StX P a ρ' im' { σ with objs := o } x v s' → E v s') → wpAny (model B.prog B.w) A (call (.ref 133) vs) Q E s
/-- an error is made -/
noncomputable def SndI (B : Base) (P : Params) (w : Wd) : Prop := ∀ {a env A d ρ im σ s vs l Q E} {K : R PV → List (List PV) → Prop}, w.F { d with d := d.d + 1 } 38 l σ.objs K → Ct B a env A d im → St P a ρ im σ s → Reps P ρ im vs l →
  (∀ ρ' im' o f x m mu s' e dx t c2 c3 c4 vs, Ext ρ ρ' im im' → K (.ok (.err f x)) o → StM P a ρ' im' { σ with objs := o } m mu → (∃ es, (dx, dictOf es 5) ∈ im' ∧ Ents P errNames es vs) → (∃ u, (t, tupO [.str ⟨x.toArray⟩ u]) ∈ im') → Reps P ρ' im' vs f →
    Run a.hb a.l a.fr a.V a.s₀ a.L m ((e, exO (.ref 41) (some dx) (.ref t) .none c2 c3 c4) :: mu) im' s' → Q (.ref e) s') → wpAny (model B.prog B.w) A (call (.ref 41) vs) Q E s
theorem bkd {α β : Type} {K : Kt β} {f : α → Sg → Prop} {x : α} (h : bk K f (.ok x) σ) : f x σ := h
theorem e_k {v : PV} (hc : ckE B.K ck env.scope a.names e (.k v) = true) (h : stepE w d (.k v) σ K) (S : St P a ρ im σ s) (q : KQ P a ρ im K Q) : wpAny (model B.prog B.w) A (eval e env) Q E s := by
  refine onConst_e hc fun x _ _ hk e0 => ?_
  clear hc
  subst e0
  have q' : ∀ (u : Value) (tk : Nat), Rep P ρ im u v → Q u { s with toks := tk } := fun u tk r => q ρ im σ v u { s with toks := tk } .refl h r S
  clear q h
  revert hk q'
  generalize hx : constIs x v = bb
  intro hk q'
  unfold constIs at hx
  cases v <;> first | (subst hx; exact (Bool.false_ne_true hk).elim) | skip
  · cases x <;> first | (subst hx; exact (Bool.false_ne_true hk).elim) | exact wpAny_Constant_none (q' _ _ rfl)
  · cases x <;> first | (subst hx; exact (Bool.false_ne_true hk).elim) | skip
    subst hx
    cases eq_of_beq hk
    exact wpAny_Constant_bool (q' _ _ rfl)
  · cases x <;> first | (subst hx; exact (Bool.false_ne_true hk).elim) | skip
    subst hx
    cases of_decide_eq_true hk
    exact wpAny_Constant_int (q' _ _ Rep.int)
  · cases x <;> first | (subst hx; exact (Bool.false_ne_true hk).elim) | skip
    subst hx
    have e := leq_iff.mp hk
    subst e
    exact wpAny_Constant_str (q' _ _ Rep.str)
  · cases x <;> first | (subst hx; exact (Bool.false_ne_true hk).elim) | skip
    subst hx
    have e := leq_iff.mp hk
    subst e
    exact Constant_bytes (q' _ _ ⟨_, _, rfl, by simp [octs]⟩)
theorem e_v {i : Nat} (hc : ckE B.K ck env.scope a.names e (.v i) = true) (h : stepE w d (.v i) σ K) (C : Ct B a env A d im) (S : St P a ρ im σ s) (q : KQ P a ρ im K Q) : wpAny (model B.prog B.w) A (eval e env) Q E s := by
  refine onName_e hc fun x _ hk e0 => ?_
  clear hc
  subst e0
  exact wpAny_Name (load_v hk C.N S h q) (slot_of hk).2.2
theorem glob_of {K : Frag} {sc : Scope} {x : Str} {v : Value} (h : globIs K sc x v = true) : sc.names.lookup x = some .globalImplicit ∧ nsIn K mainGlobals x = some (some v) ∧ (x == ("__debug__" : Str)) = false := by
  simp only [globIs, Bool.and_eq_true, beq_iff_eq, Bool.not_eq_true'] at h
  exact h
theorem glob_e {x : Str} {v : Value} {pos : Pos} (hc : globIs B.K env.scope x v = true) (C : Ct B a env A d im) (S : St P a ρ im σ s) (h : Q v s) : wpAny (model B.prog B.w) A (eval (.Name x pos) env) Q E s :=
  let ⟨_, _, R, _⟩ := S
  let ⟨h1, h2, h3⟩ := glob_of hc
  name_g R C.S h2 h C.N.glob C.N.kind h1 h3
theorem built_e {x : Str} {v : Value} {pos : Pos} (hc : builtIs B.K env.scope x v = true) (C : Ct B a env A d im) (S : St P a ρ im σ s) (h : Q v s) : wpAny (model B.prog B.w) A (eval (.Name x pos) env) Q E s := by
  simp only [builtIs, Bool.and_eq_true, beq_iff_eq, Bool.not_eq_true'] at hc
  obtain ⟨_, _, R, _⟩ := S
  exact name_b R C.S hc.2.1 hc.2.2.1 (beq_eq_false_iff_ne.mp hc.2.2.2.1) h C.N.glob C.N.bi C.N.kind hc.1 hc.2.2.2.2
theorem e_g {b : Bool} (hc : ckE B.K ck env.scope a.names e (.g b) = true) (h : stepE w d (.g b) σ K) (C : Ct B a env A d im) (S : St P a ρ im σ s) (q : KQ P a ρ im K Q) : wpAny (model B.prog B.w) A (eval e env) Q E s := by
  refine onName_e hc fun x _ hk e0 => ?_
  clear hc
  subst e0
  exact glob_e hk C S (q ρ im σ _ _ s .refl h Rep.cls S)
theorem e_not {x : C} (I : SndE B P w ck) (hc : ckE B.K ck env.scope a.names e (.not x) = true) (h : stepE w d (.not x) σ K) (C : Ct B a env A d im) (S : St P a ρ im σ s) (q : KQ P a ρ im K Q) (qe : KE P a ρ im K E) : wpAny (model B.prog B.w) A (eval e env) Q E s := by
  refine onUn_e hc fun o x _ hk e0 => ?_
  clear hc
  subst e0
  refine and2 hk fun ho hk => ?_
  cases eq_of_beq ho
  exact wpAny_UnaryOp (I hk h C S (fun _ _ _ p v s1 x1 k1 r1 S1 => not_value (truth_ok (bkd k1) r1 S1 fun i b s' x' k' S' => q _ _ _ _ _ s' (x1.trans x') k' Rep.bool S')) qe)
theorem e_neg {x : C} (I : SndE B P w ck) (hc : ckE B.K ck env.scope a.names e (.neg x) = true) (h : stepE w d (.neg x) σ K) (C : Ct B a env A d im) (S : St P a ρ im σ s) (q : KQ P a ρ im K Q) (qe : KE P a ρ im K E) : wpAny (model B.prog B.w) A (eval e env) Q E s := by
  refine onUn_e hc fun o x _ hk e0 => ?_
  clear hc
  subst e0
  refine and2 hk fun ho hk => ?_
  cases eq_of_beq ho
  refine wpAny_UnaryOp (I hk h C S (fun _ _ _ p v s1 x1 k1 r1 S1 => ?_) qe)
  obtain ⟨i, rfl, k2⟩ := onInt_e k1
  obtain ⟨t, rfl⟩ := r1
  exact PySem.P.neg_int (q _ _ _ _ _ _ x1 k2 Rep.int S1)
theorem e_ife {t x y : C} (I : SndE B P w ck) (J : SndT B P w ck) (hc : ckE B.K ck env.scope a.names e (.ife t x y) = true) (h : stepE w d (.ife t x y) σ K) (C : Ct B a env A d im) (S : St P a ρ im σ s) (q : KQ P a ρ im K Q) (qe : KE P a ρ im K E) :
    wpAny (model B.prog B.w) A (eval e env) Q E s := by
  refine onIf_e hc fun x y z _ hk e0 => ?_
  clear hc
  subst e0
  refine and3 hk fun h0 h1 h2 => ?_
  refine wpAny_IfExp (J h0 h C S (fun _ _ _ b s1 x1 k1 S1 => ?_) qe)
  cases b
  · exact I h2 k1 (C.up x1) S1 (q.up x1) (qe.up x1)
  · exact I h1 k1 (C.up x1) S1 (q.up x1) (qe.up x1)
theorem e_tup {l : List C} (I : SndEs B P w ck) (hc : ckE B.K ck env.scope a.names e (.tup l) = true) (h : stepE w d (.tup l) σ K) (C : Ct B a env A d im) (S : St P a ρ im σ s) (q : KQ P a ρ im K Q) (qe : KE P a ρ im K E) : wpAny (model B.prog B.w) A (eval e env) Q E s := by
  refine onTup_e hc fun es _ _ hk e0 => ?_
  clear hc
  subst e0
  rw [Bool.and_eq_true] at hk
  rw [arm_eval_Tuple]
  exact wpAny_bind (wpAny_standAt (wpAny_bind (I hk.2 hk.1 h C S (fun _ _ _ p v s1 x1 k1 r1 S1 => newT_ok S1 r1 (by rw [Reps.len r1]; exact Nat.le_trans (obD_e k1).1 (by decide)) (obD_e k1).2 (q.up x1).pq) qe)))
theorem e_lst {l : List C} (I : SndEs B P w ck) (hc : ckE B.K ck env.scope a.names e (.lst l) = true) (h : stepE w d (.lst l) σ K) (C : Ct B a env A d im) (S : St P a ρ im σ s) (q : KQ P a ρ im K Q) (qe : KE P a ρ im K E) : wpAny (model B.prog B.w) A (eval e env) Q E s := by
  refine onList_e hc fun es _ hk e0 => ?_
  clear hc
  subst e0
  rw [Bool.and_eq_true] at hk
  rw [arm_eval_List]
  exact wpAny_bind (wpAny_standAt (wpAny_bind (I hk.2 hk.1 h C S (fun _ _ _ p v s1 x1 k1 r1 S1 => newL_ok S1 r1 (by rw [Reps.len r1]; exact Nat.le_trans (obD_e k1).1 (by decide)) (obD_e k1).2 (q.up x1).pq) qe)))
theorem e_sub {x y : C} (I : SndE B P w ck) (hc : ckE B.K ck env.scope a.names e (.sub x y) = true) (h : stepE w d (.sub x y) σ K) (C : Ct B a env A d im) (S : St P a ρ im σ s) (q : KQ P a ρ im K Q) (qe : KE P a ρ im K E) :
    wpAny (model B.prog B.w) A (eval e env) Q E s := by
  refine onSub_e hc fun o q' _ hk e0 => ?_
  clear hc
  subst e0
  refine and3 hk fun h0 h1 h2 => ?_
  refine Subscript_ (I h1 h C S (fun _ _ _ p v s1 x1 k1 r1 S1 => I h2 k1 (C.up x1) S1 (fun _ _ _ p2 v2 s2 x2 k2 r2 S2 => sub_ok (bkd k2) (r1.up x2) r2 S2 ((q.up x1).up x2).pq ?_ C.O.hn h0) (qe.up x1)) qe)
  intro k3 e t msg u s' m mu M R
  exact qe _ _ _ _ _ s' (x1.trans x2) k3 ⟨m, _, R.less fun _ z => .tail _ z, M.up .refl .refl fun _ z => .tail _ z, e, t, _, _, _, rfl, .head _, .inl rfl⟩
noncomputable def RepO (P : Params) (ρ : List (Addr × Addr)) (im : Im) (v : Value) : Option PV → Prop
  | none => v = .none
  | some p => Rep P ρ im v p
theorem part_of {o : Option Expr} {c : Option C} (I : SndE B P w ck) (hc : ckOpt (ck.E env.scope a.names) o c = true) {f : Option PV → Sg → Prop} (h : stepE.optE w d c σ K f) (C : Ct B a env A d im) (S : St P a ρ im σ s) (qe : KE P a ρ im K E)
    (q : ∀ ρ' im' σ' p v s', Ext ρ ρ' im im' → f p σ' → RepO P ρ' im' v p → St P a ρ' im' σ' s' → Q v s') : wpAny (model B.prog B.w) A (evalPart o env) Q E s := by
  cases o with
  | none =>
    cases c with
    | none => rw [evalPart_none]; exact wpAny_pure (q ρ im σ none _ s .refl h rfl S)
    | some c => cases hc
  | some e =>
    cases c with
    | none => cases hc
    | some c => rw [evalPart_some]; exact I hc h C S (fun ρ' im' σ' p v s' x k r S' => q ρ' im' σ' (some p) v s' x k r S') qe
theorem bound_of {o : Option PV} {v : Value} {f : Option Int → Prop} (h : sliK.boundK o f) (r : RepO P ρ im v o) : ∃ b, Part v b ∧ f (b.map (·.1)) := by
  cases o with
  | none => cases r; exact ⟨_, .none, h⟩
  | some p =>
    obtain ⟨i, rfl, h⟩ := onInt_e h
    obtain ⟨t, rfl⟩ := r
    exact ⟨_, .int, h⟩
theorem e_sli {x : C} {lo hi : Option C} (I : SndE B P w ck) (hc : ckE B.K ck env.scope a.names e (.sli x lo hi) = true) (h : stepE w d (.sli x lo hi) σ K) (C : Ct B a env A d im) (S : St P a ρ im σ s) (q : KQ P a ρ im K Q) (qe : KE P a ρ im K E) :
    wpAny (model B.prog B.w) A (eval e env) Q E s := by
  refine onSub_e hc fun o sl _ h' e0 => onSli_e h' fun l u st _ hk e1 => ?_
  clear hc h'
  subst e0 e1
  rw [Bool.and_eq_true, Bool.and_eq_true, Bool.and_eq_true] at hk
  obtain ⟨hs, hk⟩ := hk
  cases onIsNone_e hs
  · obtain ⟨h0, h1, h2⟩ := hk
    refine Subscript_ (I h0 h C S (fun _ _ _ p v s1 x1 k1 r1 S1 => wpAny_Slice (part_of I h1 (bkd k1) (C.up x1) S1 (qe.up x1) fun _ _ _ p2 v2 s2 x2 k2 r2 S2 => part_of I h2 k2 ((C.up x1).up x2) S2 ((qe.up x1).up x2) fun _ _ _ p3 v3 s3 x3 k3 r3 S3 => ?_)) qe)
    rw [evalPart_none]
    refine wpAny_pure ?_
    obtain ⟨b, hb, k4⟩ := bound_of k3 r2
    obtain ⟨b', hb', k5⟩ := bound_of k4 r3
    exact sli_ok k5 ((r1.up x2).up x3) hb hb' S3 (((q.up x1).up x2).up x3).pq
end Mine
end

noncomputable section
open PySem PySem.W PySem.Calls PyProof.Rows PySem.SeqAt
set_option maxRecDepth 100000
namespace Mine
variable {B : Base} {P : Params} {a : Ac} {ρ ρ' ρ'' : List (Addr × Addr)} {im im' im'' : Im} {σ σ' : Sg} {m m' : Vars} {mu mu' : Im} {s s₀ s' : Shared} {env : Env} {d : Md} {A A' : Around} {E : Value → Shared → Prop} {Q : Value → Shared → Prop}
  {w : Wd} {ck : Ck} {e : Expr} {K : Kt PV}
theorem Reps.two {v u : Value} {p q : PV} (a : Rep P ρ im v p) (b : Rep P ρ im u q) : Reps P ρ im [v, u] [p, q] := .cons a (.cons b .nil)
theorem e_cmp2 {o p : CmpOp} {x y z : C} (I : SndE B P w ck) (hP : P = B.w.params) (hc : ckE B.K ck env.scope a.names e (.cmp2 o p x y z) = true) (h : stepE w d (.cmp2 o p x y z) σ K) (C : Ct B a env A d im) (S : St P a ρ im σ s) (q : KQ P a ρ im K Q) (qe : KE P a ρ im K E) :
    wpAny (model B.prog B.w) A (eval e env) Q E s :=
  (Bool.false_ne_true hc).elim
theorem bop_ok {o : BoolOp} {pos : Pos} (I : SndE B P w ck) : ∀ {l : List C} {es : List Expr} {ρ im σ s}, ckAll (ck.E env.scope a.names) es l = true → bopK (w.E d) o l σ K → Ct B a env A d im → St P a ρ im σ s → KQ P a ρ im K Q → KE P a ρ im K E →
    wpAny (model B.prog B.w) A (eval (.BoolOp o es pos) env) Q E s := by
  intro l
  induction l with
  | nil => intro es ρ im σ s _ h; exact h.elim
  | cons c r ih =>
    intro es ρ im σ s hc h C S q qe
    cases es with
    | nil => cases hc
    | cons e es =>
      have hc := (Bool.and_eq_true _ _).mp (show (ck.E env.scope a.names e c && ckAll (ck.E env.scope a.names) es r) = true from hc)
      cases r with
      | nil =>
        cases es with
        | cons _ _ => cases hc.2
        | nil => exact BoolOp_one (I hc.1 h C S q qe)
      | cons c2 r =>
        cases es with
        | nil => cases hc.2
        | cons e2 es =>
          cases o
          · exact BoolOp_and (I hc.1 h C S (fun ρ' im' σ' p v s' x1 k1 r1 S1 => truth_ok (bkd k1) r1 S1 fun i b s2 x2 k2 S2 => by
              cases b
              · exact q _ _ _ _ _ _ (x1.trans x2) k2 (r1.up x2) S2
              · exact ih hc.2 k2 ((C.up x1).up x2) S2 ((q.up x1).up x2) ((qe.up x1).up x2)) qe)
          · exact BoolOp_or (I hc.1 h C S (fun ρ' im' σ' p v s' x1 k1 r1 S1 => truth_ok (bkd k1) r1 S1 fun i b s2 x2 k2 S2 => by
              cases b
              · exact ih hc.2 k2 ((C.up x1).up x2) S2 ((q.up x1).up x2) ((qe.up x1).up x2)
              · exact q _ _ _ _ _ _ (x1.trans x2) k2 (r1.up x2) S2) qe)
theorem e_bop {o : BoolOp} {l : List C} (I : SndE B P w ck) (hc : ckE B.K ck env.scope a.names e (.bop o l) = true) (h : stepE w d (.bop o l) σ K) (C : Ct B a env A d im) (S : St P a ρ im σ s) (q : KQ P a ρ im K Q) (qe : KE P a ρ im K E) :
    wpAny (model B.prog B.w) A (eval e env) Q E s := by
  refine onBool_e hc fun op es _ hk e0 => ?_
  clear hc
  subst e0
  rw [Bool.and_eq_true] at hk
  cases eq_of_beq hk.1
  exact bop_ok I hk.2 h C S q qe
theorem e_sget {n : Nat} (KO : KOk B.K) (hc : ckE B.K ck env.scope a.names e (.sget n) = true) (h : stepE w d (.sget n) σ K) (C : Ct B a env A d im) (S : St P a ρ im σ s) (q : KQ P a ρ im K Q) : wpAny (model B.prog B.w) A (eval e env) Q E s := by
  refine onAttr_e hc fun o y py h' e0 => onName_e h' fun x px hk e1 => ?_
  clear hc h'
  subst e0 e1
  · refine and2 hk fun h0 h1 => ?_
    dsimp only [stepE] at h
    split at h
    · rename_i f wo hs
      obtain ⟨v, hv, h⟩ := optK_e h
      obtain ⟨m, mu, R, M⟩ := id S
      obtain ⟨x', dx, c0, c2, c3, c4, n1, n2, n3, n4, n5⟩ := M.self _ _ hs
      obtain ⟨hx, hl, hd⟩ := slot_of h0
      rw [hx] at n1; cases n1
      rcases n2 with ⟨_, n2⟩ | ⟨c, n2, _⟩
      · obtain ⟨fn, f1, f2⟩ := R.H.ns
        refine attr_e rfl (wpAny_Name (wpAny_loadName_local C.N.kind hl (C.N.L ▸ f1) (f2 _ _ n2) ?_) hd)
        cases n5 with
        | nil => cases hv
        | cons d1 d0 d2 d3 =>
          obtain ⟨z, e1, e2⟩ := Reps.at d3 hv
          have lt := (List.getElem?_eq_some_iff.mp hv).1
          obtain ⟨⟨at', g1, g2⟩, _⟩ := att_of KO.ea (eq_of_beq h1)
          exact get_exc (R.kin C.S) (instE R n3 d1) KO.eg (findObj_own KO.ed g1 g2 (d2.get (err_nd.sublist (List.take_sublist _ _)) (take_at (eq_of_beq h1) lt) e1)) e2.handed (q _ _ _ _ _ _ .refl h e2 ⟨m, mu, R.tok _, M⟩)
      · rw [C.N.noc x hl] at n2; cases n2
    · exact h.elim
end Mine
end

noncomputable section
open PySem PySem.W PySem.Calls PyProof.Rows PySem.SeqAt
set_option maxRecDepth 100000
namespace Mine
variable {B : Base} {P : Params} {a : Ac} {ρ ρ' ρ'' : List (Addr × Addr)} {im im' im'' : Im} {σ σ' : Sg} {m m' : Vars} {mu mu' : Im} {s s₀ s' : Shared} {env : Env} {d : Md} {A A' : Around} {E : Value → Shared → Prop} {Q : Value → Shared → Prop}
  {w : Wd} {ck : Ck} {e : Expr} {K : Kt PV}
theorem Call_e {F : Md → Nat → List PV → List (List PV) → (R PV → List (List PV) → Prop) → Prop} {f : Nat} {l : List PV} {o : List (List PV)} {K : R PV → List (List PV) → Prop} (h : Call F d f l o K) : F d f l o K := by
  unfold Call at h; exact h
theorem att_tok {n : Nat} {y : Str} (h : attNames[n]? = some y) (z : n < 5) : tokNames[n]? = some y := by
  unfold attNames at h
  rwa [List.getElem?_append_left (by exact z)] at h
theorem att_err {n : Nat} {y : Str} (h : attNames[n]? = some y) (z : Nat.ble 5 n = true) : errNames[n - 5]? = some y := by
  unfold attNames at h
  rwa [List.getElem?_append_right (by exact Nat.le_of_ble_eq_true z)] at h
theorem StM.size (M : StM P a ρ im σ m mu) {i : Nat} {f : List PV} (h : σ.objs[i]? = some f) : f.length ≤ 5 := by
  obtain ⟨x, D, es, vs, _, _, _, h4, h5⟩ := M.objs i f h
  have h6 := h4.len.2
  rw [Reps.len h5, List.length_take] at h6
  exact h6 ▸ Nat.min_le_right _ _
theorem handed_of {v : Value} {Q : Value → Shared → Prop} {p : PV} (r : Rep P ρ im v p) (h : Q v s) : wpAny (model B.prog B.w) A (handedOut v) Q E s := handed_on r.handed h
theorem Near.in1 : Near A A.in1 := ⟨rfl, Nat.le_succ _, rfl, Nat.le_add_right _ 14 |> fun _ => by show A.units + 1 ≤ A.units + 15; omega⟩
theorem get_pos {i : Nat} {u : Value} {k : R PV → List (List PV) → Prop} (SF : SndF B P w) (KO : KOk B.K) (h : w.F d 100 [.obj i] σ.objs k) (C : Ct B a env A d im) (S : St P a ρ im σ s) (r : Rep P ρ im u (.obj i)) (ne : ∀ x o, ¬ k (.err x) o)
    (q : ∀ ρ' im' o p v s', Ext ρ ρ' im im' → k (.ok p) o → Rep P ρ' im' v p → St P a ρ' im' { σ with objs := o } s' → Q v s') : wpAny (model B.prog B.w) A (getAttr u (Str.ofString "pos") true) Q E s := by
  obtain ⟨m, mu, R, M⟩ := id S
  obtain ⟨y, D, rfl, h1⟩ := r
  have lt : i < σ.objs.length := by rw [M.len]; exact (List.getElem?_eq_some_iff.mp h1).1
  obtain ⟨y', D', es, vs, h2, h3, h4, h5, h6⟩ := M.objs i _ (List.getElem?_eq_getElem lt)
  rw [h1] at h2; cases h2
  obtain ⟨p, rest, p1, p2, p3, p4⟩ := KO.pp
  have I := instAt R h3 h4
  have X := R.kin C.S
  have tg : plainGet B.K 133 (Str.ofString "pos") = true := KO.tg
  refine get_bind X I (plainGet_of tg).1 (findObj_data (by obtain ⟨cd, hc, _⟩ := any_some KO.td; rw [hc]; rfl) p1 p2 p3) (plainGet_of tg).2 (wpAny_call (prop_get (s := { s with toks := s.toks + 1 }) X p4 ?_))
  refine SF (by decide) h C .in1 ⟨m, mu, R.tok _, M⟩ (.cons ⟨y, D, rfl, h1⟩ .nil) ⟨fun ρ' im' o p v s' x k r S' => ?_, fun ρ' im' o x v s' _ k _ => (ne _ _ k).elim⟩
  exact handed_of r (q _ _ _ _ _ _ x k r S')
theorem e_get {x : C} {n : Nat} (I : SndE B P w ck) (SF : SndF B P w) (KO : KOk B.K) (hc : ckE B.K ck env.scope a.names e (.get x n) = true) (h : stepE w d (.get x n) σ K) (C : Ct B a env A d im) (S : St P a ρ im σ s) (q : KQ P a ρ im K Q) (qe : KE P a ρ im K E) :
    wpAny (model B.prog B.w) A (eval e env) Q E s := by
  refine onAttr_e hc fun o y _ hk e0 => ?_
  clear hc
  subst e0
  refine and3 hk fun h0 h1 h2 => ?_
  have h1 := eq_of_beq h1
  refine attr_e h0 (I h2 h C S (fun _ _ σ1 p v s1 x1 k1 r1 S1 => ?_) qe)
  have k1 := bkd k1
  cases p <;> first | exact (show False from k1).elim | skip
  · rename_i f wd
    cases z : Nat.ble 5 n with
    | false => dsimp only at k1; rw [z] at k1; exact False.elim k1
    | true =>
      dsimp only at k1; rw [z] at k1
      obtain ⟨v', hv, k1⟩ := optK_e (f := fun v => K (.ok v) σ1) k1
      exact get_err KO (C.up x1) S1 r1 hv (att_err h1 z) k1 (q.up x1).pq
  · rename_i i
    cases z : n == 7 with
    | true =>
      dsimp only at k1; rw [z] at k1
      cases eq_of_beq z
      cases (show some (Str.ofString "pos") = some _ from h1)
      refine get_pos SF KO (Call_e k1) (C.up x1) S1 r1 (fun _ _ k => k) fun ρ' im' o p v s' x k r S' => q _ _ _ _ _ _ (x1.trans x) k r S'
    | false =>
      dsimp only at k1; rw [z] at k1
      obtain ⟨f, hf, k1⟩ := optK_e (f := fun f => optK f[n]? fun v => K (.ok v) σ1) k1
      obtain ⟨v', hv, k1⟩ := optK_e k1
      have lt : n < 5 := Nat.lt_of_lt_of_le (List.getElem?_eq_some_iff.mp hv).1 (let ⟨_, _, _, M⟩ := S1; M.size hf)
      exact get_tok KO (C.up x1) S1 r1 hf hv (att_tok h1 lt) k1 (q.up x1).pq
theorem callIs_e {f : Str → List Expr → Bool} {e : Expr} (h : callIs f e = true) : ∃ x px l pos, e = .Call (.Name x px) l [] pos ∧ l.all noStar = true ∧ f x l = true := by
  refine onCall_e h fun g l ks pos h1 e1 => ?_
  have k := (Bool.and_eq_true _ _).mp h1
  refine onName_e k.2 fun x px h2 e2 => ?_
  exact ⟨x, px, l, pos, by rw [e1, e2, List.isEmpty_iff.mp k.1], (Bool.and_eq_true _ _).mp h2⟩
theorem mcallIs_e {f : Expr → Str → List Expr → Bool} {e : Expr} (h : mcallIs f e = true) : ∃ o y ap l pos, e = .Call (.Attribute o y ap) l [] pos ∧ noSup o = true ∧ (ap.endLine == pos.line) = true ∧ l.all noStar = true ∧ Nat.blt l.length 20 = true ∧ f o y l = true := by
  refine onCall_e h fun g l ks pos h1 e1 => ?_
  have k := (Bool.and_eq_true _ _).mp h1
  refine onAttr_e k.2 fun o y ap h2 e2 => ?_
  have k1 := (Bool.and_eq_true _ _).mp h2
  have k2 := (Bool.and_eq_true _ _).mp k1.2
  have k3 := (Bool.and_eq_true _ _).mp k2.2
  exact ⟨o, y, ap, l, pos, by rw [e1, e2, List.isEmpty_iff.mp k.1], k1.1, k2.1, k3.1, (Bool.and_eq_true _ _).mp k3.2⟩
theorem e_cal {f : Nat} {l : List C} (I : SndEs B P w ck) (SF : SndF B P w) (hc : ckE B.K ck env.scope a.names e (.cal f l) = true) (h : stepE w d (.cal f l) σ K) (C : Ct B a env A d im) (S : St P a ρ im σ s) (q : KQ P a ρ im K Q) (qe : KE P a ρ im K E) :
    wpAny (model B.prog B.w) A (eval e env) Q E s := by
  dsimp only [ckE] at hc
  obtain ⟨x, px, l', pos, rfl, hl, h1⟩ := callIs_e hc
  refine and4 h1 fun h1 h2 h3 h4 => ?_
  refine wpAny_Call_Name_kw (glob_e h1 C S (callW hl h2 (I h4 hl h C S (fun _ _ _ p v s1 x1 k1 r1 S1 => ⟨S1.kin (C.up x1), ?_⟩) qe)))
  exact wpAny_call (SF (Nat.ne_of_beq_eq_false (not_e h3)) (Call_e (bkd k1)) (C.up x1) .refl S1 r1 ⟨fun _ _ _ _ _ _ x k r S' => q _ _ _ _ _ _ (x1.trans x) k r S', fun _ _ _ _ _ _ x k S' => qe _ _ _ _ _ _ (x1.trans x) k S'⟩)
theorem e_mt {x : C} {f : Nat} {l : List C} (I : SndE B P w ck) (J : SndEs B P w ck) (SF : SndF B P w) (KO : KOk B.K) (hc : ckE B.K ck env.scope a.names e (.mt x f l) = true) (h : stepE w d (.mt x f l) σ K) (C : Ct B a env A d im) (S : St P a ρ im σ s) (q : KQ P a ρ im K Q) (qe : KE P a ρ im K E) :
    wpAny (model B.prog B.w) A (eval e env) Q E s := by
  dsimp only [ckE] at hc
  obtain ⟨o, y, ap, l', pos, rfl, ho, hp, hl, hn, h1⟩ := mcallIs_e hc
  refine and4 h1 fun h1 h2 h3 h4 => ?_
  unfold methIs at h1
  refine and4 h1 fun g1 g2 g3 g4 => ?_
  replace g1 := eq_of_beq g1
  replace g4 := not_e g4
  refine meth_e ho hp hl hn (I h3 h C S (fun _ _ σ1 p v s1 x1 k1 r1 S1 => ?_) qe)
  have k1 := bkd k1
  cases p <;> first | exact (show False from k1).elim | skip
  dsimp only at k1
  intro pl
  obtain ⟨m, mu, R, M⟩ := id S1
  rename_i i _
  obtain ⟨Y, D, rfl, z1⟩ := id r1
  have lt : i < σ1.objs.length := by rw [M.len]; exact (List.getElem?_eq_some_iff.mp z1).1
  obtain ⟨y', D', es, vs, z2, z3, z4, z5, z6⟩ := M.objs i _ (List.getElem?_eq_getElem lt)
  rw [z1] at z2; cases z2
  have C1 := C.up x1
  have tg : plainGet B.K 133 y = true := KO.tg
  refine meth_i R C1.S (instAt R z3 z4) tg g1 g2 (z5.miss ?_) ?_
  · cases q : (tokNames.take (σ1.objs[i]).length).contains y with
    | false => rfl
    | true => rw [List.contains_iff_mem.mpr (List.mem_of_mem_take (List.contains_iff_mem.mp q))] at g4; cases g4
  · refine callW hl g3 (J h4 hl k1 C1 S1 (fun _ _ _ p v s2 x2 k2 r2 S2 => ⟨S2.kin (C1.up x2), ?_⟩) (qe.up x1))
    exact wpAny_call (SF (Nat.ne_of_beq_eq_false (not_e h2)) (Call_e (bkd k2)) (C1.up x2) .refl S2 (.cons (r1.up x2) r2) ⟨fun _ _ _ _ _ _ x k r S' => (q.up x1) _ _ _ _ _ _ (x2.trans x) k r S', fun _ _ _ _ _ _ x k S' => (qe.up x1) _ _ _ _ _ _ (x2.trans x) k S'⟩)
end Mine
end

noncomputable section
open PySem PySem.W PySem.Calls PyProof.Rows PySem.SeqAt
set_option maxRecDepth 100000
namespace Mine
variable {B : Base} {P : Params} {a : Ac} {ρ ρ' ρ'' : List (Addr × Addr)} {im im' im'' : Im} {σ σ' : Sg} {m m' : Vars} {mu mu' : Im} {s s₀ s' : Shared} {env : Env} {d : Md} {A A' : Around} {E : Value → Shared → Prop} {Q : Value → Shared → Prop}
  {w : Wd} {ck : Ck} {e : Expr} {K : Kt PV}
theorem spl_cons {e : Expr} {es : List Expr} {pos : Pos} {Q : List Value → Shared → Prop} (he : noStar e = true) (h : wpAny (model B.prog B.w) A (eval e env) (fun v s₁ => wpAny (model B.prog B.w) A (spliced (backTo pos (starEach es env))) (fun vs s₂ => Q (v :: vs) s₂) E s₁) E s) :
    wpAny (model B.prog B.w) A (spliced (backTo pos (starEach (e :: es) env))) Q E s := spliced_more h (star_cons he es)
theorem spl_nil {pos : Pos} {Q : List Value → Shared → Prop} (h : Q [] s) : wpAny (model B.prog B.w) A (spliced (backTo pos (starEach [] env))) Q E s := wpAny_items_nil h
theorem e_mk {b : Bool} {l : List C} (I : SndEs B P w ck) (SM : SndM B P w) (SI : SndI B P w) (hc : ckE B.K ck env.scope a.names e (.mk b l) = true) (h : stepE w d (.mk b l) σ K) (C : Ct B a env A d im) (S : St P a ρ im σ s) (q : KQ P a ρ im K Q) (qe : KE P a ρ im K E) :
    wpAny (model B.prog B.w) A (eval e env) Q E s := by
  dsimp only [ckE] at hc
  obtain ⟨x, px, l', pos, rfl, hl, h1⟩ := callIs_e hc
  refine and3 h1 fun h1 h2 h4 => ?_
  refine wpAny_Call_Name_kw (glob_e h1 C S (callW hl h2 (I h4 hl h C S (fun _ _ σ1 p v s1 x1 k1 r1 S1 => ⟨S1.kin (C.up x1), ?_⟩) qe)))
  have k1 := bkd k1
  cases b with
  | false =>
    dsimp only at k1
    refine SM (Call_e k1) (C.up x1) S1 r1 (fun ρ' im' o v s' x k r S' => q _ _ _ _ _ _ (x1.trans x) k r S') ?_ fun _ _ _ _ _ _ x k S' => qe _ _ _ _ _ _ (x1.trans x) k S'
    intro p o k
    cases p <;> first | exact False.elim k | rfl
  | true =>
    dsimp only at k1
    refine SI (Call_e k1) (C.up x1) S1 r1 fun ρ' im' o f x m mu s' e dx t c2 c3 c4 vs X k M h1 h2 h3 R => ?_
    obtain ⟨es, h1, h1'⟩ := h1
    obtain ⟨u, h2⟩ := h2
    have y : Ext ρ' ρ' im' ((e, exO (.ref 41) (some dx) (.ref t) .none c2 c3 c4) :: im') := .one
    exact q _ _ _ _ _ _ ((x1.trans X).trans y) k ⟨vs, ⟨e, rfl, ⟨dx, t, .none, c2, c3, c4, .head _, ⟨es, .tail _ h1, h1'⟩, u, .tail _ h2⟩⟩, Reps.up y h3⟩ ⟨m, mu, ⟨R.H.fix, R.oth⟩, M.up y (NewI.ofM R (.head _)) fun _ z => z⟩
theorem biVal_b (b : Bi) : (∃ i, biVal b = .builtin i) ∨ ∃ T, biVal b = .type T := by cases b <;> first | exact .inl ⟨_, rfl⟩ | exact .inr ⟨_, rfl⟩
theorem more_ok {b : Bi} {l : List Expr} {pos : Pos} {Q : List Value → Shared → Prop} (h : moreIs B.K env.scope b l = true) (C : Ct B a env A d im) (S : St P a ρ im σ s)
    (q : ∀ vs s', St P a ρ im σ s' → (match biTwo b with | true => ∃ v, vs = [v] ∧ biMore b v | false => vs = []) → Q vs s') : wpAny (model B.prog B.w) A (spliced (backTo pos (starEach l env))) Q E s := by
  cases l with
  | nil =>
    refine spl_nil (q _ _ S ?_)
    cases z : biTwo b with
    | false => rfl
    | true => (have h : (!biTwo b) = true := h); rw [z] at h; cases h
  | cons e r =>
    have h := (Bool.and_eq_true _ _).mp h
    cases List.isEmpty_iff.mp h.1
    cases b <;> first | exact (Bool.false_ne_true h.2).elim | skip
    · exact onName_e h.2 fun y p h1 e1 => e1 ▸ spl_cons rfl (built_e h1 C S (spl_nil (q _ _ S ⟨_, rfl, rfl⟩)))
    · refine onConst_e h.2 fun c n p h1 e1 => cStr_e h1 fun y h2 e2 => ?_
      subst e2; subst e1
      cases eq_of_beq h2
      exact spl_cons rfl (wpAny_Constant_str (spl_nil (q _ _ (S.kept fun _ _ z => z) ⟨_, rfl, _, rfl⟩)))
theorem e_cb {b : Bi} {l : List C} (I : SndE B P w ck) (hc : ckE B.K ck env.scope a.names e (.cb b l) = true) (h : stepE w d (.cb b l) σ K) (C : Ct B a env A d im) (S : St P a ρ im σ s) (q : KQ P a ρ im K Q) (qe : KE P a ρ im K E) :
    wpAny (model B.prog B.w) A (eval e env) Q E s := by
  dsimp only [ckE] at hc
  obtain ⟨x, px, l', pos, rfl, hl, h1⟩ := callIs_e hc
  dsimp only [stepE] at h
  cases l with
  | nil => exact h.elim
  | cons c l =>
    cases l with
    | cons _ _ => exact h.elim
    | nil =>
      cases l' with
      | nil => cases h1
      | cons e0 l' =>
        refine and3 h1 fun h1 h2 h3 => ?_
        have hs : noStar e0 = true := by rw [List.all_cons, Bool.and_eq_true] at hl; exact hl.1
        refine wpAny_Call_Name_kw (built_e h1 C S (callB hl (biVal_b b) (spl_cons hs (I h2 h C S (fun _ _ σ1 p v s1 x1 k1 r1 S1 => more_ok h3 (C.up x1) S1 fun vs s2 S2 hv => ?_) qe))))
        exact cb_ok (vs := [v]) (bkd k1) (.cons r1 .nil) S2 (S2.kin (C.up x1)) C.EK (q.up x1).pq C.O.hn C.hu hv
theorem s_es {l : List C} {es : List Expr} {pos : Pos} {K : Kt (List PV)} {Q : List Value → Shared → Prop} (I : SndE B P w ck) (J : SndEs B P w ck) (hc : ckEs ck env.scope a.names es l = true) (hl : es.all noStar = true) (h : stepEs w d l σ K) (C : Ct B a env A d im) (S : St P a ρ im σ s)
    (q : KQs P a ρ im K Q) (qe : KE P a ρ im K E) : wpAny (model B.prog B.w) A (spliced (backTo pos (starEach es env))) Q E s := by
  cases es with
  | nil =>
    cases l with
    | nil => exact spl_nil (q _ _ _ _ _ _ .refl h .nil S)
    | cons _ _ => cases hc
  | cons e es =>
    cases l with
    | nil => cases hc
    | cons c l =>
      have hc := (Bool.and_eq_true _ _).mp (show (ck.E env.scope a.names e c && ck.Es env.scope a.names es l) = true from hc)
      rw [List.all_cons, Bool.and_eq_true] at hl
      exact spl_cons hl.1 (I hc.1 h C S (fun _ _ _ p v s1 x1 k1 r1 S1 => J hc.2 hl.2 (bkd k1) (C.up x1) S1 (fun _ _ _ ps vs s2 x2 k2 r2 S2 => q _ _ _ _ _ _ (x1.trans x2) k2 (.cons (r1.up x2) r2) S2) fun _ _ _ _ _ _ x k S' => qe _ _ _ _ _ _ (x1.trans x) k S') qe)
theorem allT_ok {o : BoolOp} (I : SndT B P w ck) : ∀ {l : List C} {es : List Expr} {ρ im σ s} {K : Kt Bool} {Q : Bool → Shared → Prop}, ckAll (ck.E env.scope a.names) es l = true → allK (w.T d) o l σ K → Ct B a env A d im → St P a ρ im σ s → KQb P a ρ im K Q → KE P a ρ im K E →
    wpAny (model B.prog B.w) A (allTrue o es env) Q E s := by
  intro l
  induction l with
  | nil =>
    intro es ρ im σ s K Q hc h C S q qe
    cases es with
    | cons _ _ => cases hc
    | nil =>
      cases o
      · exact wpAny_allTrue_And_nil (q _ _ _ _ _ .refl h S)
      · exact wpAny_allTrue_Or_nil (q _ _ _ _ _ .refl h S)
  | cons c r ih =>
    intro es ρ im σ s K Q hc h C S q qe
    cases es with
    | nil => cases hc
    | cons e es =>
      have hc := (Bool.and_eq_true _ _).mp (show (ck.E env.scope a.names e c && ckAll (ck.E env.scope a.names) es r) = true from hc)
      cases o
      · refine wpAny_allTrue_And_cons (I hc.1 h C S (fun ρ' im' σ' b s' x1 k1 S1 => ?_) qe)
        cases b
        · exact q _ _ _ _ _ x1 k1 S1
        · exact ih hc.2 k1 (C.up x1) S1 (q.up x1) (qe.up x1)
      · refine wpAny_allTrue_Or_cons (I hc.1 h C S (fun ρ' im' σ' b s' x1 k1 S1 => ?_) qe)
        cases b
        · exact ih hc.2 k1 (C.up x1) S1 (q.up x1) (qe.up x1)
        · exact q _ _ _ _ _ x1 k1 S1
theorem t_plain {c : C} {K : Kt Bool} {Q : Bool → Shared → Prop} (I : SndE B P w ck) (hc : ck.E env.scope a.names e c = true) (h : w.E d c σ (bk K fun v σ => truthK v fun t => K (.ok t) σ)) (C : Ct B a env A d im) (S : St P a ρ im σ s) (q : KQb P a ρ im K Q) (qe : KE P a ρ im K E)
    (he : ∀ whole, isTrue e env whole = (do let v ← whole; standAt e.pos; holding [v] (truthy v))) : wpAny (model B.prog B.w) A (isTrue e env (eval e env)) Q E s :=
  isTrue_plain (I hc h C S (fun _ _ _ p v s1 x1 k1 r1 S1 => truth_ok (bkd k1) r1 S1 fun i b s' x' k' S' => q _ _ _ _ _ (x1.trans x') k' S') qe) (he _)
end Mine
end

noncomputable section
open PySem PySem.W PySem.Calls PyProof.Rows PySem.SeqAt
set_option maxRecDepth 100000
namespace Mine
variable {B : Base} {P : Params} {a : Ac} {ρ ρ' ρ'' : List (Addr × Addr)} {im im' im'' : Im} {σ σ' : Sg} {m m' : Vars} {mu mu' : Im} {s s₀ s' : Shared} {env : Env} {d : Md} {A A' : Around} {E : Value → Shared → Prop} {Q : Value → Shared → Prop}
  {w : Wd} {ck : Ck} {e : Expr} {K : Kt PV}
variable {w' : Wd} {ck' : Ck} {Kb : Kt Bool} {Qb : Bool → Shared → Prop}
theorem isTrue_of {e : Expr} {env : Env} (h : plainT e = true) : ∀ whole, isTrue e env whole = (do let v ← whole; standAt e.pos; holding [v] (truthy v)) := by
  cases e <;> first | exact fun _ => rfl | cases h
theorem s_t {c : C} (hP : P = B.w.params) (I : SndE B P w ck) (J : SndT B P w ck) (I' : SndE B P w' ck') (hE : ck'.E = ckX B.K ck) (hw : w'.E = stepE w) (hc : ckX B.K ck env.scope a.names e c = true) (h : stepT w d c σ Kb) (C : Ct B a env A d im) (S : St P a ρ im σ s)
    (q : KQb P a ρ im Kb Qb) (qe : KE P a ρ im Kb E) : wpAny (model B.prog B.w) A (isTrue e env (eval e env)) Qb E s := by
  have pl := fun (h : stepE w d c σ (bk Kb fun v σ => truthK v fun t => Kb (.ok t) σ)) he => t_plain (E := E) (Q := Qb) (K := Kb) (A := A) (s := s) I' (e := e) (c := c) (d := d) (σ := σ) (by rw [hE]; exact hc) (by rw [hw]; exact h) C S q qe he
  have hc2 := (Bool.and_eq_true _ _).mp hc
  clear hc
  obtain ⟨ht, hc⟩ := hc2
  cases c with
  | cmp o x y =>
    refine onCmp_e hc fun l ops rs _ h' e0 => onOne_e h' fun op h'' e1 => onOne_e h'' fun r hk e2 => ?_
    clear hc h' h''
    subst e0 e1 e2
    · refine and4 hk fun ho hm h1 h2 => ?_
      replace hm := not_e hm
      cases eq_of_beq ho
      exact wpAny_isTrue_Compare1 (I h1 h C S (fun _ _ _ p v s1 x1 k1 r1 S1 => I h2 k1 (C.up x1) S1 (fun _ _ _ p2 v2 s2 x2 k2 r2 S2 => cmp_ok (bkd k2) (r1.up x2) r2 S2 (fun i b s3 x3 k3 S3 => wpAny_truthy_bool (q _ _ _ _ _ ((x1.trans x2).trans x3) k3 S3)) C.hu (fun z => ((C.up x1).up x2).hx z) hP.symm) (qe.up x1)) qe) hm
  | cmp2 o p x y z => exact (Bool.false_ne_true hc).elim
  | bop o l =>
    refine onBool_e hc fun op es _ hk e0 => ?_
    clear hc
    subst e0
    rw [Bool.and_eq_true] at hk
    cases eq_of_beq hk.1
    exact wpAny_isTrue_BoolOp (allT_ok J hk.2 h C S q qe)
  | not x =>
    refine onUn_e hc fun o x _ hk e0 => ?_
    clear hc
    subst e0
    refine and2 hk fun ho hk => ?_
    cases eq_of_beq ho
    exact wpAny_isTrue_Not (J hk h C S (fun _ _ _ b s1 x1 k1 S1 => q _ _ _ _ _ x1 k1 S1) qe)
  | ife t x y =>
    refine onIf_e hc fun x y z _ hk e0 => ?_
    clear hc
    subst e0
    refine and3 hk fun h0 h1 h2 => ?_
    refine isTrue_IfExp (J h0 h C S (fun _ _ _ b s1 x1 k1 S1 => ?_) qe)
    cases b
    · exact J h2 k1 (C.up x1) S1 (q.up x1) (qe.up x1)
    · exact J h1 k1 (C.up x1) S1 (q.up x1) (qe.up x1)
  | neg x =>
    refine onUn_e hc fun o x _ hk e0 => ?_
    clear hc
    subst e0
    rw [Bool.and_eq_true] at hk
    cases eq_of_beq hk.1
    exact pl h fun _ => rfl
  | _ => exact pl h (isTrue_of ht)
end Mine
end

noncomputable section
open PySem PySem.W PySem.Calls PyProof.Rows PySem.SeqAt
set_option maxRecDepth 100000
namespace Mine
variable {B : Base} {P : Params} {a : Ac} {ρ ρ' ρ'' : List (Addr × Addr)} {im im' im'' : Im} {σ σ' : Sg} {m m' : Vars} {mu mu' : Im} {s s₀ s' : Shared} {env : Env} {d : Md} {A A' : Around} {E : Value → Shared → Prop} {Q : Value → Shared → Prop}
  {w : Wd} {ck : Ck} {e : Expr} {K : Kt PV}
/-- a method is found -/
theorem mb_get {prog : Program} {w : World} {m : Mb} {p : PV} {v : Value} {pl : Sem Bool} {Q : Value × List Value → Shared → Prop} (h : (mbFn m p).isSome = true) (r : Rep P ρ im v p) (k : ∀ f, mbFn m p = some f → Q (.builtin f, [v]) s) :
    wpAny (model prog w) A (getMethod v (mbName m) pl) Q E s := by
  unfold mbFn at h k
  cases p <;> first | cases h | skip
  · obtain ⟨t, rfl⟩ := r
    cases m <;> first | cases h | skip
    · exact GM.join (k _ rfl)
    · exact GM.split (k _ rfl)
    · exact GM.count (k _ rfl)
    · exact GM.rfind (k _ rfl)
    · exact meth_encode (k _ rfl)
    · exact GM.startswith (k _ rfl)
  · obtain ⟨b, t, rfl, rfl⟩ := r
    cases m <;> first | cases h | skip
    · exact meth_split_b (k _ rfl)
    · exact meth_count_b (k _ rfl)
    · exact meth_rfind_b (k _ rfl)
    · exact meth_decode (k _ rfl)
theorem nlK_e {l : List PV} {f : Bool → Int → Prop} (h : nlK l f) : ∃ p, (l = [.str [10], .int 0, .int p] ∧ f true p) ∨ (l = [.bytes [10], .int 0, .int p] ∧ f false p) := by
  cases l with
  | nil => exact h.elim
  | cons a l =>
    cases l with
    | nil => exact h.elim
    | cons b l =>
      cases b <;> first | exact (show False from h).elim | skip
      cases l with
      | nil => exact h.elim
      | cons c l =>
        cases c <;> first | exact (show False from h).elim | skip
        cases l with
        | cons _ _ => exact h.elim
        | nil =>
          obtain ⟨rfl, h⟩ := h
          cases a <;> first | exact (show False from h).elim | skip
          · obtain ⟨rfl, h⟩ := h; exact ⟨_, .inl ⟨rfl, h⟩⟩
          · obtain ⟨rfl, h⟩ := h; exact ⟨_, .inr ⟨rfl, h⟩⟩
theorem nl_str : (⟨[10].toArray⟩ : Str) = Str.ofString "\n" := by decide +kernel
theorem Reps.three {a b c : PV} {vs : List Value} (h : Reps P ρ im vs [a, b, c]) : ∃ x y z, vs = [x, y, z] ∧ Rep P ρ im x a ∧ Rep P ρ im y b ∧ Rep P ρ im z c := by
  obtain ⟨x, _, rfl, h1, y, _, rfl, h2, z, _, rfl, h3, h4⟩ := h
  cases (show _ = [] from h4)
  exact ⟨x, y, z, rfl, h1, h2, h3⟩
theorem Reps.pair {a b : PV} {vs : List Value} (h : Reps P ρ im vs [a, b]) : ∃ x y, vs = [x, y] ∧ Rep P ρ im x a ∧ Rep P ρ im y b := by
  obtain ⟨x, _, rfl, h1, y, _, rfl, h2, h4⟩ := h
  cases (show _ = [] from h4)
  exact ⟨x, y, rfl, h1, h2⟩
theorem Reps.one {a : PV} {vs : List Value} (h : Reps P ρ im vs [a]) : ∃ x, vs = [x] ∧ Rep P ρ im x a := by
  obtain ⟨x, _, rfl, h1, h4⟩ := h
  cases (show _ = [] from h4)
  exact ⟨x, rfl, h1⟩
theorem asc_str : (⟨sAscii.toArray⟩ : Str) = Str.ofString "ascii" := by decide +kernel
theorem back_str : (⟨sBack.toArray⟩ : Str) = Str.ofString "backslashreplace" := by decide +kernel
end Mine
end

noncomputable section
open PySem PySem.W PySem.Calls PyProof.Rows PySem.SeqAt
set_option maxRecDepth 100000
namespace Mine
variable {B : Base} {P : Params} {a : Ac} {ρ ρ' ρ'' : List (Addr × Addr)} {im im' im'' : Im} {σ σ' : Sg} {m m' : Vars} {mu mu' : Im} {s s₀ s' : Shared} {env : Env} {d : Md} {A A' : Around} {E : Value → Shared → Prop} {Q : Value → Shared → Prop}
  {w : Wd} {ck : Ck} {e : Expr} {K : Kt PV}
theorem St.tk (S : St P a ρ im σ s) (tk : Nat) : St P a ρ im σ { s with toks := tk } := S.kept fun _ _ z => z
theorem starts_eq (x y : List Nat) : Txt.startswith ⟨x.toArray⟩ ⟨y.toArray⟩ = List.isPrefixOf y x := by
  rw [Bool.eq_iff_iff, List.isPrefixOf_iff_prefix, List.prefix_iff_eq_take]
  unfold Txt.startswith Builtin.Str.subAt
  rw [Bool.and_eq_true, decide_eq_true_eq, beq_iff_eq, Nat.zero_add, str_len, str_len]
  refine ⟨fun h => ?_, fun h => ⟨?_, ?_⟩⟩
  · have := congrArg Array.toList h.2
    rw [Array.toList_extract] at this
    simpa using this.symm
  · have := congrArg List.length h
    rw [List.length_take] at this
    exact Nat.le_trans (Nat.le_of_eq this) (Nat.min_le_right _ _)
  · apply Array.ext'
    rw [Array.toList_extract]
    simpa using h.symm
theorem mb_ok {prog : Program} {w : World} {m : Mb} {p : PV} {v : Value} {l : List PV} {vs : List Value} {f : String} {k : PV → Prop} (hk : mbK m p l k) (hf : mbFn m p = some f) (rp : Rep P ρ im v p) (r : Reps P ρ im vs l) (S : St P a ρ im σ s) (c : PQ P a ρ im σ k Q) :
    wpAny (model prog w) A (call (.builtin f) ([v] ++ vs)) Q E s := by
  cases m with
  | join =>
    obtain ⟨x, rfl, hk⟩ := onStr_e hk
    cases hf
    obtain ⟨t, rfl⟩ := rp
    obtain ⟨y, rfl, hk⟩ := one_e hk
    obtain ⟨u, rfl, ru⟩ := r.one
    obtain ⟨y, rfl, hz, hk⟩ := onLst_e hk
    obtain ⟨ys, hy, hw, hk⟩ := optK_e hk
    obtain ⟨D, o, us, rfl, h1, h2, h3⟩ := Rep.lst_e ru
    refine join_listW (S.list h1 h2) (strs_e hy h3) (by rw [str_len]; exact hz) ?_ fun t' tk => c.now hk ⟨t', rfl⟩ (S.tk tk)
    rw [List.map_map, List.length_map]
    exact Nat.le_trans (Nat.le_of_eq (by congr 3 <;> first | done | (funext z; exact str_len z))) hw
  | split => exact (show False from hk).elim
  | count =>
    dsimp only [mbK] at hk
    obtain ⟨q, ⟨rfl, hk2⟩ | ⟨rfl, hk2⟩⟩ := nlK_e hk
    · cases p <;> first | exact (show False from hk2).elim | skip
      · cases hf
        obtain ⟨t, rfl⟩ := rp
        obtain ⟨_, _, _, rfl, ⟨u, rfl⟩, ⟨_, rfl⟩, ⟨_, rfl⟩⟩ := r.three
        rw [nl_str]
        exact count_t (c.now hk2.2 Rep.int (S.tk _))
      · cases hk2.1
    · cases p <;> first | exact (show False from hk2).elim | skip
      · cases hk2.1
      · cases hf
        obtain ⟨b, t, rfl, rfl⟩ := rp
        obtain ⟨_, _, _, rfl, ⟨z, u, rfl, hz⟩, ⟨_, rfl⟩, ⟨_, rfl⟩⟩ := r.three
        cases oct_one hz
        exact count_b (c.now hk2.2 Rep.int (S.tk _))
  | rfind =>
    dsimp only [mbK] at hk
    obtain ⟨q, ⟨rfl, hk2⟩ | ⟨rfl, hk2⟩⟩ := nlK_e hk
    · cases p <;> first | exact (show False from hk2).elim | skip
      · cases hf
        obtain ⟨t, rfl⟩ := rp
        obtain ⟨_, _, _, rfl, ⟨u, rfl⟩, ⟨_, rfl⟩, ⟨_, rfl⟩⟩ := r.three
        rw [nl_str]
        exact rfind_t (c.now hk2.2 Rep.int (S.tk _))
      · cases hk2.1
    · cases p <;> first | exact (show False from hk2).elim | skip
      · cases hk2.1
      · cases hf
        obtain ⟨b, t, rfl, rfl⟩ := rp
        obtain ⟨_, _, _, rfl, ⟨z, u, rfl, hz⟩, ⟨_, rfl⟩, ⟨_, rfl⟩⟩ := r.three
        cases oct_one hz
        exact rfind_b (c.now hk2.2 Rep.int (S.tk _))
  | encode =>
    obtain ⟨x, rfl, hk2⟩ := onStr_e hk
    clear hk
    cases hf
    obtain ⟨t, rfl⟩ := rp
    split at hk2
    · obtain ⟨b, rfl, hk3⟩ := onStr_e hk2
      clear hk2
      obtain ⟨c', rfl, rfl, rfl, hk4⟩ := onStr_e hk3
      obtain ⟨y, hy, hz, hk5⟩ := optK_e hk4
      obtain ⟨b, e1, rfl, e2⟩ := enc_ok hy hz
      obtain ⟨_, _, rfl, ⟨u, rfl⟩, ⟨u', rfl⟩⟩ := r.pair
      rw [asc_str, back_str]
      exact encode_r e1 e2 fun u tk => c.now hk5 Rep.bytes (S.tk tk)
    · exact hk2.elim
  | decode =>
    obtain ⟨x, rfl, hk⟩ := onByt_e hk
    cases hf
    obtain ⟨b, t, rfl, rfl⟩ := rp
    obtain ⟨y, rfl, hk⟩ := one_e hk
    obtain ⟨u, rfl, ru⟩ := r.one
    obtain ⟨y, rfl, rfl, h1, h3, hk⟩ := onStr_e hk
    obtain ⟨u, rfl⟩ := ru
    rw [asc_str]
    refine decode_all (fun p hp => h1 _ (List.mem_of_getElem? (octs_get hp))) (by rw [← octs_len]; exact h3) fun u tk => c.now hk Rep.str (S.tk tk)
  | startswith =>
    obtain ⟨x, rfl, hk⟩ := onStr_e hk
    cases hf
    obtain ⟨t, rfl⟩ := rp
    obtain ⟨y, rfl, hk⟩ := one_e hk
    obtain ⟨y, rfl, -, hk⟩ := onStr_e hk
    obtain ⟨u, rfl, ru⟩ := r.one
    obtain ⟨u, rfl⟩ := ru
    exact SC.startswith (starts_eq x y ▸ c.now hk Rep.bool S)
theorem e_mb {m : Mb} {x : C} {l : List C} (I : SndE B P w ck) (J : SndEs B P w ck) (hc : ckE B.K ck env.scope a.names e (.mb m x l) = true) (h : stepE w d (.mb m x l) σ K) (C : Ct B a env A d im) (S : St P a ρ im σ s) (q : KQ P a ρ im K Q) (qe : KE P a ρ im K E) :
    wpAny (model B.prog B.w) A (eval e env) Q E s := by
  dsimp only [ckE] at hc
  obtain ⟨o, y, ap, l', pos, rfl, ho, hp, hl, hn, h1⟩ := mcallIs_e hc
  refine and3 h1 fun h1 h3 h4 => ?_
  cases eq_of_beq h1
  refine meth_e ho hp hl hn (I h3 h C S (fun _ _ σ1 p v s1 x1 k1 r1 S1 => ?_) qe)
  obtain ⟨hs, k1⟩ := obD_e (bkd k1)
  intro pl
  refine mb_get hs r1 fun f hf => callB hl (.inl ⟨_, rfl⟩) (J h4 hl k1 (C.up x1) S1 (fun _ _ _ p v s2 x2 k2 r2 S2 => ?_) (qe.up x1))
  exact mb_ok (bkd k2) hf (r1.up x2) r2 S2 ((q.up x1).up x2).pq
theorem e_pick {l : List (Int × List Nat)} {i : Nat} (hc : ckE B.K ck env.scope a.names e (.pick l i) = true) (h : stepE w d (.pick l i) σ K) (C : Ct B a env A d im) (S : St P a ρ im σ s) (q : KQ P a ρ im K Q) : wpAny (model B.prog B.w) A (eval e env) Q E s :=
  (Bool.false_ne_true hc).elim
theorem kds_of {K : Frag} {h : Heap} {v : Value} {q : Str} (X : K.In h) (e : codeIn K v q = true) : CodeAt h v := by
  unfold codeIn at e
  split at e
  · rename_i c
    split at e
    · rename_i e1
      exact ⟨_, _, _, rfl, X _ _ e1, rfl⟩
    · cases e
  · cases e
theorem main_ok {M : Model} {Q : Bool → Shared → Prop} {hb : Heap} (h : CodeAt hb env.code) (k : ∀ b o, hb.get? b = some o → s.heap.get? b = some o) (q : ∀ b, Q b s) : wpAny M A (inMainModule env) Q E s := by
  obtain ⟨c, o, vs, e, ho, hd⟩ := h
  unfold inMainModule
  try dsimp only
  rw [e]
  split
  · exact wpAny_pure (q _)
  · refine wpAny_bind (wpAny_fieldsOf (k _ _ ho) hd ?_)
    split
    · exact wpAny_bind (wpAny_askSetting (wpAny_pure (q _)))
    · exact wpAny_pure (q _)
theorem sim_plain {c : C} {e : Expr} {sc : Scope} {ns : List Str} (h : simIs sc ns e c = true) : kdsPlain e = true := by
  cases c <;> first | exact (Bool.false_ne_true h).elim | skip
  · exact onConst_e h fun _ _ _ _ e0 => by rw [e0]; rfl
  · exact onName_e h fun _ _ _ e0 => by rw [e0]; rfl
theorem sim_ok {prog : Program} {w : World} {c : C} {p : PV} {Q : Value → Shared → Prop} (hc : simIs env.scope a.names e c = true) (hv : simV σ c = some p) (N : EnvOk a env) (R : Run a.hb a.l a.fr a.V a.s₀ a.L m mu im s) (M : StM P a ρ im σ m mu)
    (q : ∀ v tk, Rep P ρ im v p → Q v { s with toks := tk }) : wpAny (model prog w) A (eval e env) Q E s := by
  cases c <;> first | exact (Bool.false_ne_true hc).elim | skip
  · cases hv
    refine onConst_e hc fun x _ _ hk e0 => ?_
    subst e0
    unfold constIs at hk
    split at hk
    · cases x <;> first | exact (Bool.false_ne_true hk).elim | exact wpAny_Constant_none (q _ s.toks rfl)
    · cases x <;> first | exact (Bool.false_ne_true hk).elim | (cases eq_of_beq hk; exact wpAny_Constant_bool (q _ s.toks rfl))
    · cases x <;> first | exact (Bool.false_ne_true hk).elim | (cases of_decide_eq_true hk; exact wpAny_Constant_int (q _ _ Rep.int))
    · cases x <;> first | exact (Bool.false_ne_true hk).elim | (have e := leq_iff.mp hk; subst e; exact wpAny_Constant_str (q _ _ Rep.str))
    · cases x <;> first | exact (Bool.false_ne_true hk).elim | (have e := leq_iff.mp hk; subst e; exact Constant_bytes (q _ _ ⟨_, _, rfl, by simp [octs]⟩))
    · exact (Bool.false_ne_true hk).elim
  · rename_i i
    refine onName_e hc fun x px hk e0 => ?_
    subst e0
    have hv : σ.vars[i]? = some (some p) := by
      unfold simV at hv
      dsimp only at hv
      split at hv
      · rename_i o e; rw [e, hv]
      · cases hv
    obtain ⟨x', u, g1, g2, g3⟩ := M.vars i _ hv
    obtain ⟨hx, _, hd⟩ := slot_of hk
    rw [hx] at g1; cases g1
    exact wpAny_Name (ld_v hk N R g2 (q u s.toks g3)) hd
theorem sims_ok {prog : Program} {w : World} {R' : List Value → Shared → Prop} (N : EnvOk a env) (M : StM P a ρ im σ m mu) : ∀ {l : List C} {es : List Expr} {ps : List PV} {s : Shared}, ckAll (simIs env.scope a.names) es l = true → simVs σ l = some ps → ps.all isKey = true → Run a.hb a.l a.fr a.V a.s₀ a.L m mu im s →
    (∀ vs tk, KeysAre (ps.map keyOf) vs → R' vs { s with toks := tk }) → KdsAll (model prog w) A E env es R' s
  | [], [], ps, s, _, hv, _, _, q => by cases hv; exact q [] s.toks rfl
  | [], _ :: _, _, _, h, _, _, _, _ => (Bool.false_ne_true h).elim
  | _ :: _, [], _, _, h, _, _, _, _ => (Bool.false_ne_true h).elim
  | c :: l, e :: es, ps, s, h, hv, hk, R, q => by
    refine and2 h fun h1 h2 => ?_
    unfold simVs at hv
    cases e1 : simV σ c with
    | none => rw [e1] at hv; cases hv
    | some p =>
      rw [e1] at hv
      dsimp only at hv
      cases e2 : simVs σ l with
      | none => rw [e2] at hv; cases hv
      | some qs =>
        rw [e2] at hv
        cases hv
        rw [List.all_cons, Bool.and_eq_true] at hk
        exact sim_ok h1 e1 N R M fun v tk r => sims_ok N M h2 e2 hk.2 (s := { s with toks := tk }) (R.tok _) fun vs tk' k => q (v :: vs) tk' ⟨v, vs, rfl, okey_is hk.1 r, k⟩
/-- an object of a fresh place becomes known -/
theorem St.adopt {h' : Heap} {d : Addr} {o : Obj} {tk : Nat} (S : St P a ρ im σ s) (keep : ∀ b o, s.heap.get? b = some o → h'.get? b = some o) (hn : s.heap.get? d = none) (e : h'.get? d = some o) : St P a ρ ((d, o) :: im) σ { s with heap := h', toks := tk } := by
  obtain ⟨m, mu, R, M⟩ := S
  have R1 := (R.H.gainM (R.H.keeps keep) hn e (fun p hp z => by have := R.H.hmu p hp; rw [z, hn] at this; cases this) fun p hp z => by have := R.H.him p hp; rw [z, hn] at this; cases this).fix
  refine ⟨m, mu, ⟨R1, R.oth⟩, M.up .one (fun q hq => ?_) fun _ h => h⟩
  rcases List.mem_cons.mp hq with rfl | hq
  · exact .inr (R.H.evo.fresh hn).symm
  · exact .inl hq
theorem e_set {l : List C} (hP : P = B.w.params) (hc : ckE B.K ck env.scope a.names e (.set l) = true) (h : stepE w d (.set l) σ K) (C : Ct B a env A d im) (S : St P a ρ im σ s) (q : KQ P a ρ im K Q) : wpAny (model B.prog B.w) A (eval e env) Q E s := by
  refine onSet_e hc fun es n p hk e0 => and3 hk fun h1 h2 h3 => ?_
  clear hc hk
  subst e0
  cases Nat.eq_of_beq_eq_true h1
  obtain ⟨ps, hv, h⟩ := optK_e h
  obtain ⟨hkey, h⟩ := obD_e h
  obtain ⟨hz, h⟩ := obD_e h
  obtain ⟨m, mu, R, M⟩ := id S
  have hp : ∀ {l : List Mine.C} {es : List Expr}, ckAll (simIs env.scope a.names) es l = true → es.all kdsPlain = true := by
    intro l
    induction l with
    | nil => intro es h; cases es with | nil => rfl | cons _ _ => cases h
    | cons c l ih =>
      intro es h
      cases es with
      | nil => rfl
      | cons e es => exact and2 h fun g1 g2 => by rw [List.all_cons, sim_plain g1, ih g2]; rfl
  refine Set_made (ks := ps.map keyOf) (fun k => main_ok C.cd R.H.stays k) (hp h3) (Nat.le_of_ble_eq_true h2) (by rw [List.length_map]; exact hz) (fun R' s' kp hg hd ho k => ?_) fun h' o' n tk g1 g2 g3 g4 => ?_
  · exact sims_ok C.N M h3 hv hkey ⟨R.H.keeps kp, hg.trans R.oth.1, hd.trans R.oth.2.1, ho.trans R.oth.2.2⟩ k
  · refine q _ _ _ _ _ _ .one h ⟨_, o', rfl, .head _, hkey, g2.1.1, n, g3, fun prog w hw => g2.transport rfl ?_⟩ (S.adopt g4 (get_size _) g1)
    show hashOpt w.params = hashOpt B.w.params
    rw [hw, hP]
theorem cell_of {sc : Scope} {ns : List Str} {x : Str} {i : Nat} (h : cellIs sc ns x i = true) : ns[i]? = some x ∧ sc.names.lookup x = some .cell ∧ (x == ("__debug__" : Str)) = false :=
  and3 h fun h1 h2 h3 => ⟨eq_of_beq h1, eq_of_beq h2, not_e h3⟩
theorem CellAt.at {c : Addr} {v : Option Value} (z : CellAt a mu c v) (R : Run a.hb a.l a.fr a.V a.s₀ a.L m mu im s) : s.heap.IsCell c v :=
  z.elim (fun ⟨o, h, d⟩ => ⟨o, R.H.hmu _ h, d⟩) fun ⟨o, h, d, h1, h2⟩ => ⟨o, R.H.evo.keep h h1 h2, d⟩
theorem e_cv {i : Nat} (hc : ckE B.K ck env.scope a.names e (.cv i) = true) (h : stepE w d (.cv i) σ K) (C : Ct B a env A d im) (S : St P a ρ im σ s) (q : KQ P a ρ im K Q) : wpAny (model B.prog B.w) A (eval e env) Q E s := by
  refine onName_e hc fun x px hk e0 => ?_
  subst e0
  obtain ⟨hx, hl, hd⟩ := cell_of hk
  dsimp only [stepE] at h
  split at h
  · rename_i v hv
    obtain ⟨m, mu, R, M⟩ := id S
    obtain ⟨x', u, g1, g2, g3⟩ := M.vars i _ hv
    rw [hx] at g1; cases g1
    obtain ⟨c, n1, n2⟩ := C.N.cells x hl
    rcases g2 with ⟨z, _⟩ | ⟨c', z, hm⟩
    · rw [n2] at z; cases z
    · rw [n2] at z; cases z
      exact wpAny_Name (wpAny_loadName_cell C.N.kind hl n1 (hm.at R) (q _ _ _ _ _ _ .refl h g3 S)) hd
  · exact h.elim
end Mine
end

noncomputable section
open PySem PySem.W PySem.Calls PyProof.Rows PySem.SeqAt
set_option maxRecDepth 100000
namespace Mine
variable {B : Base} {P : Params} {a : Ac} {ρ ρ' ρ'' : List (Addr × Addr)} {im im' im'' : Im} {σ σ' : Sg} {m m' : Vars} {mu mu' : Im} {s s₀ s' : Shared} {env : Env} {d : Md} {A A' : Around} {E : Value → Shared → Prop} {Q : Value → Shared → Prop}
  {w : Wd} {ck : Ck} {e : Expr} {K : Kt PV}
section
variable {hb h₀ h h' : Heap} {l l' : List Env} {fr V : List Addr} {L L' : Addr} {mr mi : Im}
theorem live_ne {a b : Addr} {o : Obj} (e : h.get? a = some o) (n : h.get? b = none) : b ≠ a := fun z => by rw [z, e] at n; cases n
theorem RunH.callN (R : RunH hb l fr V h₀ L m mu im h) (hp : mu.Perm (mr ++ mi)) (R' : RunH hb l' (frs l) (mi.map (·.1)) h L' m' mu' im' h') (ff : h'.FunFrames hb l) (hs : ∀ a ∈ frs l, a ∈ frs l')
    (n : ∀ q ∈ im', q ∈ im ∨ h.get? q.1 = none ∨ q.1 ∈ mi.map (·.1)) : RunH hb l fr V h₀ L m (mr ++ mu') im' h' := by
  have R1 := R.perm hp
  have nd := R1.nodup
  rw [List.map_append, List.nodup_append] at nd
  obtain ⟨nd1, nd2, nd3⟩ := nd
  have off : ∀ p ∈ mr, p.1 ∉ mi.map (·.1) := fun p hp z => nd3 _ (List.mem_map.mpr ⟨p, hp, rfl⟩) _ z rfl
  have mi' : ∀ {b}, b ∈ mi.map (·.1) → ∃ p ∈ mr ++ mi, b = p.1 := fun z => by
    obtain ⟨p, h1, rfl⟩ := List.mem_map.mp z
    exact ⟨p, List.mem_append_right _ h1, rfl⟩
  obtain ⟨oL, hL⟩ : ∃ o, h.get? L = some o := by
    obtain ⟨_, ⟨o, _, _, e, _⟩, _⟩ := R.ns
    exact ⟨o, e⟩
  have neL : ∀ {b}, b ∈ mi.map (·.1) ∨ h.get? b = none → b ≠ L := fun z => z.elim (fun z => by obtain ⟨p, h1, rfl⟩ := mi' z; exact (R1.offm p h1).1) fun z => live_ne hL z
  have nef : ∀ {b}, b ∈ mi.map (·.1) ∨ h.get? b = none → b ∉ frs l := fun z => z.elim (fun z => by obtain ⟨p, h1, rfl⟩ := mi' z; exact (R1.offm p h1).2.1) fun z y => by
    obtain ⟨_, o, e⟩ := frs_base R.ff y
    rw [z] at e; cases e
  have nem : ∀ {b} {p : Addr × Obj}, p ∈ mr → b ∈ mi.map (·.1) ∨ h.get? b = none → p.1 ≠ b := fun hp z e => z.elim (fun z => off _ hp (e ▸ z)) fun z => live_ne (R1.hmu _ (List.mem_append_left _ hp)) z e.symm
  refine ⟨R'.stays, ff, nsw_slots R.ns fun oL hL => let ⟨sl, a, _⟩ := R'.evo L oL hL (fun z => neL (.inl z) rfl); ⟨sl, a⟩,
    R.evo.comp R'.evo (fun b q => by obtain ⟨p, h1, rfl⟩ := mi' q; exact (R1.offm p h1).2.2.2.symm) (fun b q => R.sub b q), fun p hp => ?_, R'.him, ?_, fun p hp q hq => ?_, fun p hp => ?_, fun q hq => ?_, R.L0, R.sub⟩
  · rcases List.mem_append.mp hp with z | z
    · exact R'.evo.keep (R1.hmu p (List.mem_append_left _ z)) (off p z) (R1.offm p (List.mem_append_left _ z)).2.1
    · exact R'.hmu p z
  · rw [List.map_append, List.nodup_append]
    refine ⟨nd1, R'.nodup, fun a ha b hb e => ?_⟩
    obtain ⟨p, h1, rfl⟩ := List.mem_map.mp ha
    obtain ⟨q, h2, rfl⟩ := List.mem_map.mp hb
    exact nem h1 (R'.offm q h2).2.2.2 e
  · rcases List.mem_append.mp hp with z | z
    · rcases n q hq with y | y
      · exact R1.apart p (List.mem_append_left _ z) q y
      · exact nem z y.symm
    · exact R'.apart p z q hq
  · rcases List.mem_append.mp hp with z | z
    · exact R1.offm p (List.mem_append_left _ z)
    · have y := R'.offm p z
      exact ⟨neL y.2.2.2, fun x => y.2.1 (hs _ x), y.2.2.1, y.2.2.2.elim (fun x => by obtain ⟨p, h1, e⟩ := mi' x; rw [e]; exact (R1.offm p h1).2.2.2) fun x => by
        by_cases hv : p.1 ∈ V
        · exact .inl hv
        · exact .inr (by
            cases q : h₀.get? p.1 with
            | none => rfl
            | some o => obtain ⟨sl, e, _⟩ := R.evo p.1 o q hv; rw [x] at e; cases e)⟩
  · rcases n q hq with y | y
    · exact R.offi q y
    · exact ⟨neL y.symm, nef y.symm⟩
end
/-- which of the mutable objects a call is handed -/
noncomputable def ofObjs (ρ : List (Addr × Addr)) (p : Addr × Obj) : Bool := ρ.any fun x => Nat.beq x.2 p.1
theorem split_perm (ρ : List (Addr × Addr)) : ∀ mu : Im, mu.Perm (mu.filter (fun p => !ofObjs ρ p) ++ mu.filter (ofObjs ρ))
  | [] => .nil
  | p :: r => by
    have ih := split_perm ρ r
    cases z : ofObjs ρ p with
    | true =>
      rw [List.filter_cons_of_neg (by rw [z]; decide), List.filter_cons_of_pos z]
      exact (ih.cons p).trans List.perm_middle.symm
    | false =>
      rw [List.filter_cons_of_pos (by rw [z]; rfl), List.filter_cons_of_neg (by rw [z]; decide)]
      exact ih.cons p
theorem two_perm {α : Type} {p q : α} {l : List α} (hp : p ∈ l) (hq : q ∈ l) (ne : q ≠ p) : ∃ r, l.Perm (p :: q :: r) := by
  obtain ⟨x, y, rfl⟩ := List.append_of_mem hp
  have hq' : q ∈ x ++ y := by
    rcases List.mem_append.mp hq with z | z
    · exact List.mem_append_left _ z
    · exact List.mem_append_right _ ((List.mem_cons.mp z).resolve_left ne)
  obtain ⟨u, v, e⟩ := List.append_of_mem hq'
  exact ⟨u ++ v, List.perm_middle.trans (List.Perm.cons p (e ▸ List.perm_middle))⟩
theorem one_perm {α : Type} {p : α} {l : List α} (hp : p ∈ l) : ∃ r, l.Perm (p :: r) := by
  obtain ⟨x, y, rfl⟩ := List.append_of_mem hp
  exact ⟨x ++ y, List.perm_middle⟩
end Mine
end

noncomputable section
open PySem PySem.W PySem.Calls PyProof.Rows PySem.SeqAt
set_option maxRecDepth 100000
namespace Mine
variable {B : Base} {P : Params} {a : Ac} {ρ ρ' ρ'' : List (Addr × Addr)} {im im' im'' : Im} {σ σ' : Sg} {m m' : Vars} {mu mu' : Im} {s s₀ s' : Shared} {env : Env} {d : Md} {A A' : Around} {E : Value → Shared → Prop} {Q : Value → Shared → Prop}
  {w : Wd} {ck : Ck} {e : Expr} {K : Kt PV}
theorem StM.fl (S : StM P a ρ im σ m mu) (hs : σ.self = none) (k : ∀ p ∈ mu, (∀ ts, p.2.data ≠ .fields ts) → p ∈ mu') : StM P a ρ im σ m mu' :=
  have lo : ∀ {x u}, Loc a m mu x u → Loc a m mu' x u := fun h => h.imp id fun ⟨c, e, z⟩ => ⟨c, e, z.to fun _ h d => k _ h fun _ z => nomatch d.symm.trans z⟩
  { vars := fun i v e => let ⟨x', u, h1, h2, h3⟩ := S.vars i v e; ⟨x', u, h1, lo h2, h3⟩
    acc := fun i D l e => let ⟨x', o, vs, h1, h2, h3, h4, h5⟩ := S.acc i D l e; ⟨x', o, vs, h1, lo h2, k _ h3 (fun ts z => let ⟨_, q⟩ := h4.at.data; nomatch q.symm.trans z), h4, h5⟩
    self := fun f wo e => by rw [hs] at e; cases e
    objs := fun i f e => let ⟨x', D, es, vs, h1, h2, h3, h4, h5⟩ := S.objs i f e; ⟨x', D, es, vs, h1, h2, k _ h3 (fun _ z => nomatch z), h4, h5⟩
    len := S.len
    nd := S.nd
    nw := S.nw
    cel := fun r x c e => let ⟨v, z⟩ := S.cel r x c e; ⟨v, z.to fun _ h d => k _ h fun _ z => nomatch d.symm.trans z⟩ }
section
variable {M : Model} {hb : Heap} {l : List Env} {fr V : List Addr} {L F x T : Addr} {oT : Obj} {cls a0 tb c2 c3 c4 st : Value} {dx : Option Addr} {R' : Unit → Shared → Prop}
theorem note_gen (R : Run hb (env :: l) fr V s₀ L m ((T, oT) :: (x, exO cls dx a0 (.ref T) c2 c3 c4) :: mu) im s) (hT : TbAt oT st) (hn : (st == rawInt F) = false) (hA : A.frames = some (env :: l)) (hF : env.frame = some F)
    (k : ∀ T oT s', TbAt oT (rawInt F) → Run hb (env :: l) fr V s₀ L m ((T, oT) :: (x, exO cls dx a0 (.ref T) c2 c3 c4) :: mu) im s' → R' () s') : wpAny M A (noteFrame (.ref x) env) R' E s := by
  obtain ⟨ts, hd, h3⟩ := hT
  unfold noteFrame
  simp only [hF]
  refine wpAny_bind (wpAny_field (R.H.hmu _ (.tail _ (.head _))) rfl (x := .ref T) rfl ?_)
  rw [if_pos (show (Value.ref T != Value.none) = true from by simp)]
  refine wpAny_bind (wpAny_field (R.H.hmu _ (.head _)) hd h3 ?_)
  rw [hn, if_neg Bool.false_ne_true]
  refine wpAny_bind (wpAny_setField (R.H.hmu _ (.head _)) hd (Array.getElem?_eq_some_iff.mp h3).1 ?_)
  have he := Heap.get?_update_self (Obj.mapFields (·.setIfInBounds 3 Value.none)) (R.H.hmu _ (.head _)) (Obj.isFreed_of_fields (Obj.data_mapFields hd _))
  have R1 : Run hb (env :: l) fr V s₀ L m ((T, Obj.mapFields (·.setIfInBounds 3 Value.none) oT) :: (x, exO cls dx a0 (.ref T) c2 c3 c4) :: mu) im { s with heap := s.heap.update T (Obj.mapFields (·.setIfInBounds 3 Value.none)) } := ⟨R.H.upd .head (Heap.SameBut.update _ T _) he, R.oth⟩
  exact entry_r (R1.lessM (List.sublist_cons_self _ _)) hA hF k
/-- an exception's frame is noted -/
theorem note_any (R : Run hb (env :: l) fr V s₀ L m mu im s) (he : (x, exO cls dx a0 tb c2 c3 c4) ∈ mu) (ht : TbOk mu x tb) (hA : A.frames = some (env :: l)) (hF : env.frame = some F)
    (k : ∀ T oT r s', T ≠ x → TbAt oT (rawInt F) → (∀ p ∈ mu, (∀ ts, p.2.data ≠ .fields ts) → p ∈ r) → Run hb (env :: l) fr V s₀ L m ((T, oT) :: (x, exO cls dx a0 (.ref T) c2 c3 c4) :: r) im s' → R' () s') : wpAny M A (noteFrame (.ref x) env) R' E s := by
  have nx : ∀ {T : Addr} {oT : Obj} {o : Obj} {r : Im} {s' : Shared}, Run hb (env :: l) fr V s₀ L m ((T, oT) :: (x, o) :: r) im s' → T ≠ x := fun R z => by
    have := R.H.nodup
    rw [List.map_cons, List.map_cons, List.nodup_cons] at this
    exact this.1 (z ▸ .head _)
  rcases ht with rfl | ⟨T, oT, st, rfl, ne, hT, hst⟩
  · obtain ⟨r, pr⟩ := one_perm he
    refine note_new ⟨R.H.perm pr, R.oth⟩ hA hF fun T oT s' h1 R2 => k T oT r s' (nx R2) h1 (fun p hp nf => ?_) R2
    exact (List.mem_cons.mp (pr.mem_iff.mp hp)).resolve_left fun z => nf #[a0, .none, c2, c3, c4, .none] (by rw [z])
  · obtain ⟨r, pr⟩ := two_perm hT he (fun z => ne (congrArg Prod.fst z).symm)
    have kp : ∀ p ∈ mu, (∀ ts, p.2.data ≠ .fields ts) → p ∈ r := fun p hp nf => by
      rcases List.mem_cons.mp (pr.mem_iff.mp hp) with z | z
      · obtain ⟨ts, hd, _⟩ := hst; exact absurd (z ▸ hd) (nf ts)
      · exact (List.mem_cons.mp z).resolve_left fun z => nf #[a0, .ref T, c2, c3, c4, .none] (by rw [z])
    have R1 : Run hb (env :: l) fr V s₀ L m ((T, oT) :: (x, exO cls dx a0 (.ref T) c2 c3 c4) :: r) im s := ⟨R.H.perm pr, R.oth⟩
    cases z : st == rawInt F with
    | true => exact note_again R1 (eq_of_beq z ▸ hst) hF (k T oT r s ne (eq_of_beq z ▸ hst) kp R1)
    | false => exact note_gen R1 hst z hA hF fun T oT s' h1 R2 => k T oT r s' (nx R2) h1 kp R2
/-- an exception leaves a function -/
theorem leave_any (R : Run hb (env :: l) fr V s₀ L m mu im s) (he : (x, exO cls dx a0 tb c2 c3 c4) ∈ mu) (ht : TbOk mu x tb) (hA : A.frames = some (env :: l)) (hF : env.frame = some F)
    (k : ∀ T oT r s', T ≠ x → TbAt oT .none → (∀ p ∈ mu, (∀ ts, p.2.data ≠ .fields ts) → p ∈ r) → Run hb (env :: l) fr V s₀ L m ((T, oT) :: (x, exO cls dx a0 (.ref T) c2 c3 c4) :: r) im s' → R' () s') : wpAny M A (leaving env (.ref x)) R' E s := by
  unfold leaving
  exact wpAny_bind (note_any R he ht hA hF fun T oT r s' ne h1 kp R2 => flight_r (f := none) R2 h1 fun oT' s'' h2 R3 => k T oT' r s'' ne h2 kp R3)
end
/-- a flight through a frame's end -/
theorem fly_leave {x : Ex} {v : Value} {F : Addr} {l' : List Env} {M : Model} {R' : Unit → Shared → Prop} (X : StX P a ρ im σ x v s) (hs : σ.self = none) (hl : a.l = env :: l') (hA : A.frames = some a.l) (hF : env.frame = some F) (k : ∀ s', StX P a ρ im σ x v s' → R' () s') :
    wpAny M A (leaving env v) R' E s := by
  obtain ⟨m, mu, R, S, Fl⟩ := X
  rw [hl] at R hA
  cases x with
  | ix =>
    obtain ⟨e, t, tb, c3, c4, rfl, h1, h2⟩ := Fl
    exact leave_any R h1 h2 hA hF fun T oT r s' ne hT kp R2 => k s' ⟨m, _, hl ▸ R2, S.fl hs fun p hp nf => .tail _ (.tail _ (kp p hp nf)), e, t, _, _, _, rfl, .tail _ (.head _), .inr ⟨T, oT, _, rfl, ne, .head _, hT⟩⟩
  | pe f w =>
    obtain ⟨e, dx, t, tb, c2, c3, c4, vs, rfl, h1, h2, h3, h4, h5⟩ := Fl
    exact leave_any R h1 h2 hA hF fun T oT r s' ne hT kp R2 => k s' ⟨m, _, hl ▸ R2, S.fl hs fun p hp nf => .tail _ (.tail _ (kp p hp nf)), e, dx, t, _, _, _, _, vs, rfl, .tail _ (.head _), .inr ⟨T, oT, _, rfl, ne, .head _, hT⟩, h3, h4, h5⟩
end Mine
end

noncomputable section
open PySem PySem.W PySem.Calls PyProof.Rows PySem.SeqAt
set_option maxRecDepth 100000
namespace Mine
variable {B : Base} {P : Params} {a : Ac} {ρ ρ' ρ'' : List (Addr × Addr)} {im im' im'' : Im} {σ σ' : Sg} {m m' : Vars} {mu mu' : Im} {s s₀ s' : Shared} {env : Env} {d : Md} {A A' : Around} {E : Value → Shared → Prop} {Q : Value → Shared → Prop}
  {w : Wd} {ck : Ck} {e : Expr} {K : Kt PV}
noncomputable def FlR (P : Params) (ρ : List (Addr × Addr)) (im : Im) (f : Fl) (fl : Flow) : Prop := match f with
  | .next => fl = .next
  | .brk => fl = .brk
  | .ret p => ∃ v, fl = .ret v ∧ Rep P ρ im v p
noncomputable def KQf (P : Params) (a : Ac) (ρ : List (Addr × Addr)) (im : Im) (K : Kt Fl) (Q : Flow → Shared → Prop) : Prop :=
  ∀ ρ' im' σ' f fl s', Ext ρ ρ' im im' → K (.ok f) σ' → FlR P ρ' im' f fl → St P a ρ' im' σ' s' → Q fl s'
theorem KQf.up {K : Kt Fl} {Q : Flow → Shared → Prop} (h : KQf P a ρ im K Q) (x : Ext ρ ρ' im im') : KQf P a ρ' im' K Q := fun r i σ' f fl s' y k F S => h r i σ' f fl s' (x.trans y) k F S
noncomputable def SndS (B : Base) (P : Params) (w : Wd) (ck : Ck) : Prop := ∀ {a env A d ρ im σ s st c K Q E}, ck.S env.scope a.names st c = true → w.S d c σ K → Ct B a env A d im → St P a ρ im σ s → KQf P a ρ im K Q → KE P a ρ im K E →
  wpAny (model B.prog B.w) A (exec st env) Q E s
noncomputable def SndSs (B : Base) (P : Params) (w : Wd) (ck : Ck) : Prop := ∀ {a env A d ρ im σ s st c K Q E}, ck.Ss env.scope a.names st c = true → w.Ss d c σ K → Ct B a env A d im → St P a ρ im σ s → KQf P a ρ im K Q → KE P a ρ im K E →
  wpAny (model B.prog B.w) A (execs st env) Q E s
/-- an own function -/
inductive FnAt (B : Base) (ck : Ck) (f : Addr) (fn : Fn) : Prop
  | mk : ∀ oc od osl name qual params body scope cl dV kV doc pm an cdv ct ns dvs, (B.K.lookup f = some ⟨oc, od, .func (fnX name qual params body scope cl dV kV doc pm an cdv ct), osl⟩) → (codeIn B.K cdv qual = true) → ((∀ x ∈ scope.names, x.2 ≠ .cell)) → (scope.isCoroutine = false) → (scope.isGenerator = false) → (scope.kind = .function) → (ck.Ss scope ns body fn.body = true) → (ns.Nodup) → (fn.np ≤ ns.length) → ((∀ y ∈ ns.take fn.np, scope.names.lookup y = some .local)) → ((∀ P, Reps P [] [] dvs fn.dv)) → (∀ s vs, B.K.In s.heap → fn.np - fn.dv.length ≤ vs.length → vs.length ≤ fn.np → BindsTo s (fnX name qual params body scope cl dV kV doc pm an cdv ct) ⟨vs, []⟩ ((ns.take fn.np).zip (vs ++ dvs.drop (fn.dv.length + vs.length - fn.np)))) → FnAt B ck f fn
theorem inO {i : Nat} {x D : Addr} {o : Obj} (e : ρ[i]? = some (x, D)) (h : (D, o) ∈ mu) : (D, o) ∈ mu.filter (ofObjs ρ) :=
  List.mem_filter.mpr ⟨h, List.any_eq_true.mpr ⟨(x, D), List.mem_of_getElem? e, Nat.beq_refl D⟩⟩
theorem StM.offO (M : StM P a ρ im σ m mu) {m1 : Vars} {mu1 im1 : Im} (R : Run a.hb a.l a.fr a.V a.s₀ a.L m1 mu1 im1 s) (sub : ∀ p ∈ mu, p ∈ mu1) {p : Addr × Obj} (h : p ∈ mu) (nd : ∀ es n, p.2 ≠ dictOf es n) : ∀ x ∈ ρ, x.2 ≠ p.1 := by
  intro x h1 z
  obtain ⟨i, lt, e⟩ := List.getElem_of_mem h1
  have lt' : i < σ.objs.length := by rw [M.len]; exact lt
  obtain ⟨y, D, es, vs, g1, _, g3, _, _⟩ := M.objs i _ (List.getElem?_eq_getElem lt')
  rw [List.getElem?_eq_getElem lt, e] at g1
  cases g1
  exact absurd (congrArg Prod.snd (R.fn (sub _ h) (sub _ g3) z.symm)) (nd _ _)
/-- back from a call -/
theorem back_m {b : Ac} {τ : Sg} {m2 : Vars} {mu1 mu2 mr mi im1 : Im} (R : Run a.hb a.l a.fr a.V a.s₀ a.L m mu1 im1 s) (M : StM P a ρ im σ m mu) (e1 : b.hb = a.hb) (e2 : ∀ h : Heap, h.FunFrames a.hb b.l → h.FunFrames a.hb a.l) (fsub : ∀ x ∈ frs a.l, x ∈ frs b.l) (e3 : b.fr = frs a.l) (e4 : b.V = mi.map (·.1))
    (e5 : b.s₀ = s) (hp : mu1.Perm (mr ++ mi)) (sub : ∀ p ∈ mu, p ∈ mu1) (hm : ∀ p ∈ mu, (∀ x ∈ ρ, x.2 ≠ p.1) → p ∈ mr) (nw1 : NewI a a.i0 im1) (i0 : b.i0 = im1)
    (X : Ext ρ ρ' im im') (R2 : Run b.hb b.l b.fr b.V b.s₀ b.L m2 mu2 im' s') (M2 : StM P b ρ' im' τ m2 mu2) : Run a.hb a.l a.fr a.V a.s₀ a.L m (mr ++ mu2) im' s' ∧ StM P a ρ' im' { σ with objs := τ.objs } m (mr ++ mu2) := by
  have n := M2.nw
  obtain ⟨bhb, bl, bfr, bV, bs, bL, bc, bn, bi, bm⟩ := b
  cases e1; cases e3; cases e4; cases e5; cases i0
  have H := R.H.callN hp R2.H (e2 _ R2.H.ff) fsub n
  have inr : ∀ {p}, p ∈ mu → (∀ es n, p.2 ≠ dictOf es n) → p ∈ mr ++ mu2 := fun h nd => List.mem_append_left _ (hm _ h (M.offO R sub h nd))
  have lm : ∀ {x u}, Loc a m mu x u → Loc a m (mr ++ mu2) x u := fun h => h.imp id fun ⟨c, e, z⟩ => ⟨c, e, z.to fun _ h d => inr h fun _ _ z => nomatch d.symm.trans (congrArg Obj.data z)⟩
  refine ⟨⟨H, R2.oth.1.trans R.oth.1, R2.oth.2.1.trans R.oth.2.1, R2.oth.2.2.trans R.oth.2.2⟩, fun i v e => ?_, fun i D l e => ?_, fun f wo e => ?_, fun i f e => ?_, M2.len, M2.nd, nw1.trans fun q hq => (n q hq).imp id fun z => ?_, fun r x c e => let ⟨v, z⟩ := M.cel r x c e; ⟨v, z.to fun _ h d => inr h fun _ _ z => nomatch d.symm.trans (congrArg Obj.data z)⟩⟩
  · obtain ⟨x, u, h1, h2, h3⟩ := M.vars i v e
    exact ⟨x, u, h1, lm h2, h3.up X⟩
  · obtain ⟨x, o, vs, h1, h2, h3, h4, h5⟩ := M.acc i D l e
    exact ⟨x, o, vs, h1, lm h2, inr h3 (fun _ _ z => let ⟨_, q⟩ := h4.at.data; nomatch q.symm.trans (congrArg Obj.data z)), h4, h5.up X⟩
  · obtain ⟨x, dx, c0, c2, c3, c4, h1, h2, h3, h4, h5⟩ := M.self f wo e
    refine ⟨x, dx, c0, c2, c3, c4, h1, lm h2, inr h3 (fun _ _ z => nomatch congrArg Obj.data z), fun w e => ?_, ?_⟩
    · obtain ⟨u, g2⟩ := h4 w e
      exact ⟨u, inr g2 fun _ _ z => nomatch congrArg Obj.data z⟩
    · cases h5 with
      | nil => exact .nil
      | @cons dd es vs _ g1 g0 g2 g3 =>
        have g1' : (dd, dictOf es es.length) ∈ mr := hm _ g1 g0
        refine .cons (List.mem_append_left _ g1') (fun p hp z => ?_) g2 (g3.up X)
        obtain ⟨j, lt, e⟩ := List.getElem_of_mem hp
        have lt' : j < τ.objs.length := by rw [M2.len]; exact lt
        obtain ⟨y, D, es', vs', k1, _, k3, _⟩ := M2.objs j _ (List.getElem?_eq_getElem lt')
        rw [List.getElem?_eq_getElem lt, e] at k1
        cases k1
        have nn := H.nodup
        rw [List.map_append, List.nodup_append] at nn
        exact nn.2.2 _ (List.mem_map.mpr ⟨_, g1', rfl⟩) _ (List.mem_map.mpr ⟨_, k3, rfl⟩) z.symm
  · obtain ⟨x, D, es, vs, h1, h2, h3, h4, h5⟩ := M2.objs i f e
    exact ⟨x, D, es, vs, h1, h2, List.mem_append_right _ h3, h4, h5⟩
  · have offm := (R.H.perm hp).offm
    refine z.elim (fun z => (R.H.evo.fresh z).symm) fun z => ?_
    obtain ⟨p, k1, e⟩ := List.mem_map.mp z
    rw [← e]
    exact (offm p (List.mem_append_right _ k1)).2.2.2.symm
end Mine
end

noncomputable section
open PySem PySem.W PySem.Calls PyProof.Rows PySem.SeqAt
set_option maxRecDepth 100000
namespace Mine
variable {B : Base} {P : Params} {a : Ac} {ρ ρ' ρ'' : List (Addr × Addr)} {im im' im'' : Im} {σ σ' : Sg} {m m' : Vars} {mu mu' : Im} {s s₀ s' : Shared} {env : Env} {d : Md} {A A' : Around} {E : Value → Shared → Prop} {Q : Value → Shared → Prop}
  {w : Wd} {ck : Ck} {e : Expr} {K : Kt PV}
theorem vals_e {vs : List PV} {n i : Nat} {v : PV} (h : (vs.map some ++ List.replicate n none)[i]? = some (some v)) : vs[i]? = some v := by
  rw [List.getElem?_append] at h
  split at h
  · rw [List.getElem?_map] at h
    cases z : vs[i]? with
    | none => rw [z] at h; cases h
    | some u => rw [z] at h; cases h; rfl
  · have := List.mem_of_getElem? h
    cases List.eq_of_mem_replicate this
theorem zip_look : ∀ {ns : List Str} {vs : List Value} {i : Nat} {x : Str} {u : Value}, ns.Nodup → ns[i]? = some x → vs[i]? = some u → vmap (ns.zip vs).reverse x = some u := by
  intro ns
  induction ns with
  | nil => intro vs i x u _ h; cases h
  | cons n ns ih =>
    intro vs i x u nd h1 h2
    cases vs with
    | nil => cases h2
    | cons v vs =>
      rw [List.zip_cons_cons, List.reverse_cons]
      have nd' := List.nodup_cons.mp nd
      unfold vmap
      rw [List.lookup_append]
      cases i with
      | zero =>
        cases h1; cases h2
        have : (ns.zip vs).reverse.lookup n = none := by
          cases q : (ns.zip vs).reverse.lookup n with
          | none => rfl
          | some z =>
            obtain ⟨l1, l2, e, _⟩ := List.lookup_eq_some_iff.mp q
            have : (n, z) ∈ (ns.zip vs).reverse := by rw [e]; exact List.mem_append_right _ (.head _)
            exact absurd (List.of_mem_zip (List.mem_reverse.mp this)).1 nd'.1
        rw [this]
        simp
      | succ i =>
        have := ih nd'.2 h1 h2
        unfold vmap at this
        rw [this]; rfl
theorem lt_np {i v n np : Nat} (h1 : np - n ≤ v) (h2 : v ≤ np) (h3 : i < v + (n - (n + v - np))) : i < np := by omega
theorem stepF_e {Γ : Nat → Option Fn} {w : Wd} {f : Nat} {l : List PV} {o : List (List PV)} {K : R PV → List (List PV) → Prop} (ne : f ≠ 38) (h : stepF Γ w d f l o K) : ∃ fn, Γ f = some fn ∧ d.d < 100 ∧ fn.np - fn.dv.length ≤ l.length ∧ l.length ≤ fn.np ∧
    w.Ss { d with d := d.d + 1, c := true } fn.body ⟨l.map some ++ (fn.dv.drop (fn.dv.length + l.length - fn.np)).map some ++ List.replicate fn.nv none, none, none, o⟩ fun r σ => match r with
      | .ok (.ret v) => K (.ok v) σ.objs
      | .ok .next => K (.ok .none) σ.objs
      | .ok .brk => False
      | .err x => obD (σ.self = none) (K (.err x) σ.objs) := by
  unfold stepF at h
  cases z : Γ f with
  | none => rw [z] at h; exact h.elim
  | some fn =>
    rw [z] at h
    obtain ⟨h1, h2⟩ := h
    refine ⟨fn, rfl, h1, ?_⟩
    split at h2
    · exact absurd rfl ne
    · have h3 := obD_e h2
      exact ⟨h3.1, obD_e h3.2⟩
theorem Flight.up {x : Ex} {v : Value} (h : Flight P ρ im mu x v) (k : ∀ p ∈ mu, p ∈ mu') : Flight P ρ im mu' x v := by
  have t : ∀ {e tb}, TbOk mu e tb → TbOk mu' e tb := fun h => h.imp id fun ⟨T, oT, st, h1, h2, h3, h4⟩ => ⟨T, oT, st, h1, h2, k _ h3, h4⟩
  cases x with
  | ix => obtain ⟨e, t', tb, c3, c4, h1, h2, h3⟩ := h; exact ⟨e, t', tb, c3, c4, h1, k _ h2, t h3⟩
  | pe f w => obtain ⟨e, dx, t', tb, c2, c3, c4, vs, h1, h2, h3, h4, h5, h6⟩ := h; exact ⟨e, dx, t', tb, c2, c3, c4, vs, h1, k _ h2, t h3, h4, h5, h6⟩
theorem outO {p : Addr × Obj} (h : p ∈ mu) (ne : ∀ x ∈ ρ, x.2 ≠ p.1) : p ∈ mu.filter fun p => !ofObjs ρ p :=
  List.mem_filter.mpr ⟨h, by
    cases z : ofObjs ρ p with
    | false => rfl
    | true =>
      obtain ⟨x, k1, k2⟩ := List.any_eq_true.mp z
      exact absurd (Nat.eq_of_beq_eq_true k2) (ne x k1)⟩
theorem Ac.ext0 {vs ws : List PV} : vs.map some ++ ws.map some = (vs ++ ws).map (some : PV → Option PV) := List.map_append.symm
noncomputable abbrev Ac.sub (a : Ac) (env' : Env) (mu : Im) (ρ : List (Addr × Addr)) (s : Shared) (L : Addr) (ns : List Str) (im : Im) : Ac := ⟨a.hb, env' :: a.l, frs a.l, (mu.filter (ofObjs ρ)).map (·.1), s, L, [], ns, im, 0, false⟩
theorem f_ok {Γ : Nat → Option Fn} (hG : ∀ f fn, Γ f = some fn → f ≠ 38 → ∃ ck, FnAt B ck f fn ∧ SndSs B P w ck) : SndF B P (w.step Γ) := by
  intro a env A A' d ρ im σ s f vs l K R hne h C N S r k
  obtain ⟨fn, g, hd, h1, h2, h⟩ := stepF_e hne h
  obtain ⟨ck, FA, I⟩ := hG f fn g hne
  obtain ⟨oc, od, osl, name, qual, params, body, scope, cl, dV, kV, doc, pm, an, cdv, ct, ns, dvs, ho, hcd, hcell, hco, hgen, hk, hck, hnd, hnp, hloc, hdv, hb⟩ := FA
  obtain ⟨m, mu, R0, M⟩ := S
  have R1 := R0.H.perm (split_perm ρ mu)
  have hvl := r.len
  have rw' : Reps P ρ im (vs ++ dvs.drop (fn.dv.length + vs.length - fn.np)) (l ++ fn.dv.drop (fn.dv.length + l.length - fn.np)) := by
    rw [hvl]
    exact r.app ((hdv P).up ⟨fun i x e => (by cases e), fun p h => (by cases h)⟩ |>.drop _)
  refine enter ((mu.filter (ofObjs ρ)).map (·.1)) (mu.filter (ofObjs ρ)) im C.S R0.H.stays R0.H.ff ho hcd ?hroom (hb s vs (R0.kin C.S) (hvl ▸ h1) (hvl ▸ h2)) ?hloc rfl (fun q hq => R0.H.hmu q (List.mem_filter.mp hq).1) R0.H.him ?nodup
    (fun q hq => R0.H.apart q (List.mem_filter.mp hq).1) (fun q hq => ⟨(R0.H.offm q (List.mem_filter.mp hq).1).2.1, (R0.H.offm q (List.mem_filter.mp hq).1).2.2.1, List.mem_map.mpr ⟨q, hq, rfl⟩⟩) (fun q hq => (R0.H.offi q hq).2) ?h hcell hco hgen hk
  case hroom =>
    have h1 := N.dep
    have h2 := C.O.dep
    show A'.depth < recursionLimit
    simp only [recursionLimit]
    omega
  case hloc => exact fun y hy => hloc _ (List.of_mem_zip hy).1
  case nodup => exact ((List.filter_sublist (p := ofObjs ρ)).map _).nodup R0.H.nodup
  case h =>
    intro L s' env' B' R'
    have hfr : B'.frames = some (env' :: a.l) := by
      show A'.frames.map (env' :: ·) = _
      rw [N.fr, C.O.fr]; rfl
    have Cn : Ct B (a.sub env' mu ρ s L ns im) env' B' { d with d := d.d + 1, c := true } im := by
      refine ⟨⟨rfl, hk, rfl, rfl, hnd, fun _ _ => rfl, fun x z => absurd rfl (hcell _ (mem_lookup z)), fun _ _ _ z => nomatch z⟩, ⟨hfr, ?_, ?_, fun z => ?_⟩, C.S, C.EK, fun z => ?_, ?_, fun _ => ?_, fun _ => rfl, kds_of C.S.X hcd⟩
      · have h1 := N.dep
        have h2 := C.O.dep
        show A'.depth + 1 ≤ 2 * (d.d + 1) + 310
        omega
      · have h1 := N.un
        have h2 := C.O.un
        show A'.units + 3 ≤ 20 * (d.d + 1) + 200
        omega
      · exact (N.hn : A'.handled = A.handled).trans (C.O.hn z)
      · have := C.hx z
        unfold HdOk at this ⊢
        rw [show B'.handled = A.handled from N.hn]
        exact this
      · show d.d + 1 ≤ 200
        omega
      · exact ⟨_, _, rfl, rfl⟩
    have Sn : St P (a.sub env' mu ρ s L ns im) ρ im ⟨l.map some ++ (fn.dv.drop (fn.dv.length + l.length - fn.np)).map some ++ List.replicate fn.nv none, none, none, σ.objs⟩ s' := by
      refine ⟨_, _, R', fun i v e => ?_, fun _ _ _ e => (nomatch e), fun _ _ e => (nomatch e), fun i f e => ?_, M.len, M.nd, .refl, fun _ _ _ e => nomatch e⟩
      · rw [Ac.ext0] at e
        have e2 := vals_e e
        obtain ⟨u, e3, ru⟩ := rw'.at e2
        have lt : i < fn.np := by
          have h3 := (List.getElem?_eq_some_iff.mp e2).1
          rw [List.length_append, List.length_drop] at h3
          exact lt_np h1 h2 h3
        have lt2 : i < ns.length := Nat.lt_of_lt_of_le lt hnp
        refine ⟨ns[i], u, List.getElem?_eq_getElem lt2, .inl ⟨rfl, zip_look ((List.take_sublist _ _).nodup hnd) (take_at (List.getElem?_eq_getElem lt2) lt) e3⟩, ru⟩
      · obtain ⟨x, D, es, ws, g1, g2, g3, g4, g5⟩ := M.objs i f e
        exact ⟨x, D, es, ws, g1, g2, inO g1 g3, g4, g5⟩
    have bk0 : ∀ {ρ' im' σ' s'' m2 mu2}, Ext ρ ρ' im im' → Run a.hb (env' :: a.l) (frs a.l) ((mu.filter (ofObjs ρ)).map (·.1)) s L m2 mu2 im' s'' → StM P (a.sub env' mu ρ s L ns im) ρ' im' σ' m2 mu2 → _ := fun {ρ' im' σ' s'' m2 mu2} X R2 M2 =>
      back_m (b := a.sub env' mu ρ s L ns im) (mr := mu.filter fun p => !ofObjs ρ p) (mi := mu.filter (ofObjs ρ)) R0 M rfl (fun _ h => h.2.2) (fun x hx => by
        obtain ⟨y, h1, h2⟩ := List.mem_filterMap.mp hx
        exact List.mem_filterMap.mpr ⟨y, .tail _ h1, h2⟩) rfl rfl rfl (split_perm ρ mu) (fun _ h => h) (fun p hp ne => outO hp ne) M.nw rfl X R2 M2
    have bk : ∀ {ρ' im' σ' s''}, Ext ρ ρ' im im' → St P (a.sub env' mu ρ s L ns im) ρ' im' σ' s'' → St P a ρ' im' { σ with objs := σ'.objs } s'' := fun X S2 => by
      obtain ⟨m2, mu2, R2, M2⟩ := S2
      exact ⟨m, _, bk0 X R2 M2⟩
    refine I hck h Cn Sn (fun ρ' im' σ' f fl s'' X k' FR S2 => ?_) fun ρ' im' σ' x v s'' X k' S2 => ?_
    · cases f with
      | next => exact k.ok ρ' im' σ'.objs .none _ s'' X k' ((show fl = .next from FR) ▸ rfl) (bk X S2)
      | brk => exact k'.elim
      | ret p =>
        obtain ⟨v, rfl, rv⟩ := FR
        exact k.ok ρ' im' σ'.objs p v s'' X k' rv (bk X S2)
    · obtain ⟨hs, k'⟩ := obD_e k'
      refine fly_leave S2 hs rfl hfr rfl fun s3 S3 => k.err ρ' im' σ'.objs x v s3 X k' ?_
      obtain ⟨m2, mu2, R2, M2, F2⟩ := S3
      obtain ⟨R4, M4⟩ := bk0 X R2 M2
      exact ⟨m, _, R4, M4, F2.up fun p hp => List.mem_append_right _ hp⟩
end Mine
end

noncomputable section
open PySem PySem.W PySem.Calls PyProof.Rows PySem.SeqAt
set_option maxRecDepth 100000
namespace Mine
variable {B : Base} {P : Params} {a : Ac} {ρ ρ' ρ'' : List (Addr × Addr)} {im im' im'' : Im} {σ σ' : Sg} {m m' : Vars} {mu mu' : Im} {s s₀ s' : Shared} {env : Env} {d : Md} {A A' : Around} {E : Value → Shared → Prop} {Q : Value → Shared → Prop}
  {w : Wd} {ck : Ck} {e : Expr} {K : Kt PV}
/-- no comprehension of its own statement -/
noncomputable def plainV (e : Expr) : Bool := !Nat.beq e.ctorIdx 8 && (!Nat.beq e.ctorIdx 9 && !Nat.beq e.ctorIdx 10)
theorem swaps_of {e : Expr} (h : plainV e = true) (t : Option Expr) (n : Nat) (env : Env) : swapsWith e t n env = pure false := by
  cases e <;> first | rfl | cases h
theorem inter_of (h : env.scope.kind = .function) : interactive env = false := by
  unfold interactive; rw [h]; rfl
theorem lset_lset {α : Type} {u v : α} : ∀ (l : List α) (i : Nat), lset (lset l i u) i v = lset l i v
  | [], _ => rfl
  | _ :: _, 0 => rfl
  | a :: r, i + 1 => congrArg (a :: ·) (lset_lset r i)
theorem asg_e {i : Nat} (h : asgOk σ i = true) : (∀ j D l, σ.acc = some (j, D, l) → j ≠ i) ∧ (σ.self = none ∨ i ≠ 0) := by
  unfold asgOk at h
  rw [Bool.and_eq_true] at h
  refine ⟨fun j D l e => ?_, ?_⟩
  · rw [e] at h
    exact Nat.ne_of_beq_eq_false (Bool.not_eq_true' _ ▸ h.1)
  · cases z : σ.self with
    | none => exact .inl rfl
    | some _ =>
      rw [z] at h
      exact .inr (Nat.ne_of_beq_eq_false (Bool.not_eq_true' _ ▸ h.2))
/-- a variable is set -/
theorem st_put {x : Str} {i : Nat} {u : Value} {v : PV} {Q : Unit → Shared → Prop} (hk : slotIs env.scope a.names x i = true) (N : EnvOk a env) (S : St P a ρ im σ s) (ok : asgOk σ i = true) (r : Rep P ρ im u v) (q : ∀ s', St P a ρ im (σ.put i v) s' → Q () s') :
    wpAny (model B.prog B.w) A (storeName env x u) Q E s := by
  obtain ⟨m, mu, R, M⟩ := S
  obtain ⟨h1, h2⟩ := asg_e ok
  obtain ⟨hx, hl, _⟩ := slot_of hk
  refine store_m hk N R fun s' R' => q s' ⟨_, _, R', ?_⟩
  have M2 := (M.turn (u := u) N.nd hx h1 h2).setV hx (Loc.here (N.noc x hl)) r
  unfold Sg.put at M2 ⊢
  dsimp only at M2
  rw [lset_lset] at M2
  exact M2
noncomputable def ckS (K : Frag) (w : Ck) (sc : Scope) (ns : List Str) (st : Stmt) (c : D) : Bool := match c with
  | .wall => true
  | .brk => onBrk st
  | .ret0 => onRet st onIsNone
  | .ret c => onRet st fun v => onSome v fun e => w.E sc ns e c
  | .ex c => onExp st fun e => plainV e && w.E sc ns e c
  | .cuts .. => false
  | .asgc i c => onAsg st fun tg e => onName tg fun y => slotIs sc ns y i && (match c with
    | .comp elt ts cap it => compIs K w sc ns e elt ts cap it fun sc' => tg.pos.line == e.pos.line && !(sc'.names.any fun z => z.1 == y && (z.2 == .local || z.2 == .cell))
    | _ => false)
  | .casg i c => onAsg st fun t e => onName t fun x => cellIs sc ns x i && (plainV e && w.E sc ns e c)
  | .asg i c => onAsg st fun t e => onName t fun x => slotIs sc ns x i && (plainV e && w.E sc ns e c)
  | .aug i o c => onAug st fun t op e => onName t fun x => op == o && (slotIs sc ns x i && w.E sc ns e c)
  | .mls i l => onAsg st fun t e => onName t fun x => onList e fun es => slotIs sc ns x i && (es.all noStar && w.Es sc ns es l)
  | .app i c => onExp st fun e => onCall e fun f es ks pos => ks.isEmpty && onAttr f fun o y ap => onName o fun x => onOne es fun e => slotIs sc ns x i && (y == Str.ofString "append" && (ap.endLine == pos.line && (noStar e && w.E sc ns e c)))
  | .ext .. => false
  | .sat a n c => onAsg st fun t e => onAttr t fun o y _ => tokNames[n]? == some y && (plainV e && (w.E sc ns e c && w.E sc ns o a))
  | .sset n c => onAsg st fun t e => onAttr t fun o y _ => onName o fun x => slotIs sc ns x 0 && (errNames[n]? == some y && (plainV e && w.E sc ns e c))
  | .sup _ => false
  | .iff c a b => onIfS st fun t x y => w.E sc ns t c && (w.Ss sc ns x a && w.Ss sc ns y b)
  | .whl c a => onWhl st fun t x z => z.isEmpty && (w.E sc ns t c && w.Ss sc ns x a)
  | .for_ i it b => onFor st fun t e y => onName t fun x => slotIs sc ns x i && (notSet e && (w.Ss sc ns y b && (match it with
      | .of c => w.E sc ns e c
      | .range c => callIs (fun x es => builtIs K sc x (.type "range") && onOne es fun e => w.E sc ns e c) e)))
  | .tryIx a h => onTry st fun x t n b => onIsNone n && onSome t fun t => onName t fun y => w.Ss sc ns x a && (w.Ss sc ns b h && builtIs K sc y (.type "IndexError"))
  | .tryPe a i h => onTry st fun x t n b => onSome n fun n => onSome t fun t => onName t fun y => w.Ss sc ns x a && (w.Ss sc ns b h && (globIs K sc y (.ref 41) && slotIs sc ns n i))
  | .raise l => onRaise st fun e c => onConst c fun c => cNone c && onCall e fun f es ks _ => ks.isEmpty && onName f fun y => globIs K sc y (.ref 41) && (keepIn K (.ref 41) && (es.all noStar && w.Es sc ns es l))
noncomputable def ckSs (w : Ck) (sc : Scope) (ns : List Str) (st : List Stmt) (c : List D) : Bool := match st, c with
  | [], [] => true
  | e :: r, c :: q => w.S sc ns e c && w.Ss sc ns r q
  | _, _ => false
variable {st : Stmt} {Kf : Kt Fl} {Qf : Flow → Shared → Prop}
theorem s_ex {c : C} (I : SndE B P w ck) (hc : ckS B.K ck env.scope a.names st (.ex c) = true) (h : stepS w d (.ex c) σ Kf) (C : Ct B a env A d im) (S : St P a ρ im σ s) (q : KQf P a ρ im Kf Qf) (qe : KE P a ρ im Kf E) : wpAny (model B.prog B.w) A (exec st env) Qf E s := by
  refine onExp_e hc fun e _ hk e0 => ?_
  clear hc
  subst e0
  rw [Bool.and_eq_true] at hk
  exact wpAny_Expr_any (I hk.2 h C S (fun _ _ _ p v s1 x1 k1 r1 S1 => q _ _ _ .next _ _ x1 k1 rfl S1) qe) (inter_of C.N.kind) (swaps_of hk.1 _ _ _)
theorem s_asg {i : Nat} {c : C} (I : SndE B P w ck) (hc : ckS B.K ck env.scope a.names st (.asg i c) = true) (h : stepS w d (.asg i c) σ Kf) (C : Ct B a env A d im) (S : St P a ρ im σ s) (q : KQf P a ρ im Kf Qf) (qe : KE P a ρ im Kf E) : wpAny (model B.prog B.w) A (exec st env) Qf E s := by
  dsimp only [ckS] at hc
  refine onAsg_e hc fun t e pos hc1 es => ?_
  refine onName_e hc1 fun x px hc2 et => ?_
  clear hc hc1
  have hc := hc2
  clear hc2
  subst et; subst es
  · refine and3 hc fun h0 h1 h2 => ?_
    exact wpAny_Assign_Name (I h2 h C S (fun _ _ _ p v s1 x1 k1 r1 S1 => st_put h0 C.N S1 (obD_e (bkd k1)).1 r1 fun s' S' => q _ _ _ .next _ _ x1 (obD_e (bkd k1)).2 rfl S') qe) (swaps_of h1 _ _ _)
theorem store_cell {M : Model} {x : Str} {c : Addr} {o : Obj} {v₀ : Option Value} {u : Value} {Q : Unit → Shared → Prop} (hk : env.scope.kind = .function) (hl : env.kindOf x = some .cell) (hc : env.cells.lookup x = some c) (hv : s.heap.get? c = some o) (hd : o.data = .cell v₀)
    (h : ∀ h', h'.get? c = some { o with data := .cell (some u) } → Heap.SameBut c s.heap h' → Q () { s with heap := h' }) : wpAny M A (storeName env x u) Q E s := by
  unfold storeName
  simp only [hl, hk]
  refine wpAny_bind (wpAny_cellOf hc ?_)
  unfold cellSet
  refine wpAny_bind (wpAny_load hv ?_)
  rw [hd]
  exact wpAny_update hv (h _ (Heap.get?_update_self _ hv rfl) (Heap.SameBut.update ..))
theorem UpdL.ofMem {d : Addr} {o o' : Obj} : ∀ {mu : Im}, (d, o) ∈ mu → ∃ mu', UpdL d o o' mu mu' ∧ ∀ q ∈ mu, q ≠ (d, o) → q ∈ mu'
  | p :: r, h => by
    by_cases e : p = (d, o)
    · subst e
      exact ⟨_, .head, fun q hq ne => (List.mem_cons.mp hq).elim (fun z => absurd z ne) fun z => .tail _ z⟩
    · obtain ⟨r', U, k⟩ := UpdL.ofMem (o' := o') ((List.mem_cons.mp h).resolve_left fun z => e z.symm)
      exact ⟨p :: r', .tail U, fun q hq ne => (List.mem_cons.mp hq).elim (fun z => z ▸ .head _) fun z => .tail _ (k q z ne)⟩
theorem StM.putC (M : StM P a ρ im σ m mu) {x : Str} {i : Nat} {c : Addr} {o o' : Obj} {v₀ : Option Value} {u : Value} {v : PV} (N : EnvOk a env) (hx : a.names[i]? = some x) (hc : a.cells.lookup x = some c) (hd : o.data = .cell v₀) (hd' : o'.data = .cell (some u))
    (hm : (c, o') ∈ mu') (kp : ∀ q ∈ mu, q ≠ (c, o) → q ∈ mu') (ha : ∀ j D l, σ.acc = some (j, D, l) → j ≠ i) (hs : σ.self = none) (hr : Rep P ρ im u v) : StM P a ρ im (σ.put i v) m mu' := by
  have kc : ∀ q ∈ mu, (∀ v, q.2.data ≠ .cell v) → q ∈ mu' := fun q hq n => kp q hq fun z => n v₀ (by rw [z]; exact hd)
  have lo : ∀ {y u'}, y ≠ x → Loc a m mu y u' → Loc a m mu' y u' := fun ne h => h.imp id fun ⟨c', e, z⟩ => ⟨c', e, z.to fun _ h _ => kp _ h fun q => ne (N.cinj _ _ c ((show c' = c from congrArg Prod.fst q) ▸ e) hc)⟩
  exact { vars := fun j v' e => by
            rcases lset_get e with ⟨rfl, z⟩ | ⟨ne, z⟩
            · cases z; exact ⟨x, u, hx, .inr ⟨c, hc, .inl ⟨o', hm, hd'⟩⟩, hr⟩
            · obtain ⟨y, u', h1, h2, h3⟩ := M.vars j v' z
              exact ⟨y, u', h1, lo (names_ne N.nd h1 hx ne) h2, h3⟩
          acc := fun j D l e => let ⟨y, o', vs, h1, h2, h3, h4, h5⟩ := M.acc j D l e; ⟨y, o', vs, h1, lo (names_ne N.nd h1 hx (ha j D l e)) h2, kc _ h3 (fun _ z => let ⟨_, q⟩ := h4.at.data; nomatch q.symm.trans z), h4, h5⟩
          self := fun f wo e => by rw [show (σ.put i v).self = none from hs] at e; cases e
          objs := fun j f e => let ⟨y, D', es, vs, h1, h2, h3, h4, h5⟩ := M.objs j f e; ⟨y, D', es, vs, h1, h2, kc _ h3 (fun _ z => nomatch z), h4, h5⟩
          len := M.len
          nd := M.nd
          nw := M.nw
          cel := fun r y c' e => by
            by_cases z : c' = c
            · subst z; exact ⟨some u, o', hm, hd'⟩
            · obtain ⟨v', h⟩ := M.cel r y c' e
              exact ⟨v', h.to fun _ h _ => kp _ h fun q => z (congrArg Prod.fst q)⟩ }
/-- a captured variable is set -/
theorem st_putc {x : Str} {i : Nat} {u : Value} {v : PV} {Q : Unit → Shared → Prop} (hk : cellIs env.scope a.names x i = true) (N : EnvOk a env) (S : St P a ρ im σ s) (ok : asgOk σ i = true) (hs : σ.self = none) (ro : a.ro = false) (r : Rep P ρ im u v) (q : ∀ s', St P a ρ im (σ.put i v) s' → Q () s') :
    wpAny (model B.prog B.w) A (storeName env x u) Q E s := by
  obtain ⟨m, mu, R, M⟩ := S
  obtain ⟨h1, _⟩ := asg_e ok
  obtain ⟨hx, hl, _⟩ := cell_of hk
  obtain ⟨c, n1, n2⟩ := N.cells x hl
  obtain ⟨v₀, o, hm, hd⟩ := M.cel ro x c n2
  obtain ⟨mu', U, kp⟩ := UpdL.ofMem (o' := { o with data := .cell (some u) }) hm
  refine store_cell N.kind hl n1 (R.H.hmu _ hm) hd fun h' g1 g2 => q _ ⟨m, mu', ⟨R.H.upd U g2 g1, R.oth⟩, M.putC N hx n2 hd rfl U.mem' kp h1 hs r⟩
theorem s_casg {i : Nat} {c : C} (I : SndE B P w ck) (hc : ckS B.K ck env.scope a.names st (.casg i c) = true) (h : stepS w d (.casg i c) σ Kf) (C : Ct B a env A d im) (S : St P a ρ im σ s) (q : KQf P a ρ im Kf Qf) (qe : KE P a ρ im Kf E) : wpAny (model B.prog B.w) A (exec st env) Qf E s := by
  refine onAsg_e hc fun t e pos hc1 es => ?_
  refine onName_e hc1 fun x px hc2 et => ?_
  clear hc hc1
  subst et; subst es
  refine and3 hc2 fun h0 h1 h2 => ?_
  obtain ⟨dc, h⟩ := obD_e h
  exact wpAny_Assign_Name (I h2 h C S (fun _ _ _ p v s1 x1 k1 r1 S1 => st_putc h0 C.N S1 (obD_e (bkd k1)).1 (obD_e (obD_e (bkd k1)).2).1 (C.ro dc) r1 fun s' S' => q _ _ _ .next _ _ x1 (obD_e (obD_e (bkd k1)).2).2 rfl S') qe) (swaps_of h1 _ _ _)
theorem s_ret {c : C} (I : SndE B P w ck) (hc : ckS B.K ck env.scope a.names st (.ret c) = true) (h : stepS w d (.ret c) σ Kf) (C : Ct B a env A d im) (S : St P a ρ im σ s) (q : KQf P a ρ im Kf Qf) (qe : KE P a ρ im Kf E) : wpAny (model B.prog B.w) A (exec st env) Qf E s := by
  refine onRet_e hc fun v _ h' e0 => onSome_e h' fun e hk e1 => ?_
  clear hc h'
  subst e0 e1
  exact wpAny_Return_some (I hk h C S (fun _ _ _ p v s1 x1 k1 r1 S1 => q _ _ _ (.ret p) _ _ x1 k1 ⟨v, rfl, r1⟩ S1) qe)
theorem s_ret0 (hc : ckS B.K ck env.scope a.names st .ret0 = true) (h : stepS w d .ret0 σ Kf) (S : St P a ρ im σ s) (q : KQf P a ρ im Kf Qf) : wpAny (model B.prog B.w) A (exec st env) Qf E s := by
  refine onRet_e hc fun v _ hk e0 => ?_
  clear hc
  subst e0
  cases onIsNone_e hk
  exact wpAny_Return_none (q _ _ _ (.ret .none) _ _ .refl h ⟨_, rfl, rfl⟩ S)
theorem s_brk (hc : ckS B.K ck env.scope a.names st .brk = true) (h : stepS w d .brk σ Kf) (S : St P a ρ im σ s) (q : KQf P a ρ im Kf Qf) : wpAny (model B.prog B.w) A (exec st env) Qf E s := by
  refine onBrk_e hc fun _ e0 => ?_
  subst e0
  exact wpAny_Break (q _ _ _ .brk _ _ .refl h rfl S)
theorem s_iff {c : C} {x y : List D} (J : SndT B P w ck) (Is : SndSs B P w ck) (hc : ckS B.K ck env.scope a.names st (.iff c x y) = true) (h : stepS w d (.iff c x y) σ Kf) (C : Ct B a env A d im) (S : St P a ρ im σ s) (q : KQf P a ρ im Kf Qf) (qe : KE P a ρ im Kf E) :
    wpAny (model B.prog B.w) A (exec st env) Qf E s := by
  refine onIfS_e hc fun t x y _ hk e0 => ?_
  clear hc
  subst e0
  · refine and3 hk fun h0 h1 h2 => ?_
    refine wpAny_If (J h0 h C S (fun _ _ _ b s1 x1 k1 S1 => ?_) qe)
    cases b
    · exact Is h2 k1 (C.up x1) S1 (q.up x1) (qe.up x1)
    · exact Is h1 k1 (C.up x1) S1 (q.up x1) (qe.up x1)
theorem s_ss {l : List D} {sts : List Stmt} (I : SndS B P w ck) (Is : SndSs B P w ck) (hc : ckSs ck env.scope a.names sts l = true) (h : stepSs w d l σ Kf) (C : Ct B a env A d im) (S : St P a ρ im σ s) (q : KQf P a ρ im Kf Qf) (qe : KE P a ρ im Kf E) :
    wpAny (model B.prog B.w) A (execs sts env) Qf E s := by
  cases sts with
  | nil =>
    cases l with
    | nil => exact wpAny_execs_nil (q _ _ _ .next _ _ .refl h rfl S)
    | cons _ _ => cases hc
  | cons st sts =>
    cases l with
    | nil => cases hc
    | cons c l =>
      have hc := (Bool.and_eq_true _ _).mp (show (ck.S env.scope a.names st c && ck.Ss env.scope a.names sts l) = true from hc)
      refine wpAny_execs_cons (I hc.1 h C S (fun ρ' im' σ' f fl s1 x1 k1 F1 S1 => ?_) qe)
      cases f with
      | next => cases (show fl = .next from F1); exact Is hc.2 (bkd k1) (C.up x1) S1 (q.up x1) (qe.up x1)
      | brk => cases (show fl = .brk from F1); exact q _ _ _ .brk _ _ x1 k1 rfl S1
      | ret p => obtain ⟨v, rfl, r⟩ := F1; exact q _ _ _ (.ret p) _ _ x1 k1 ⟨v, rfl, r⟩ S1
end Mine
end

noncomputable section
open PySem PySem.W PySem.Calls PyProof.Rows PySem.SeqAt
set_option maxRecDepth 100000
namespace Mine
variable {B : Base} {P : Params} {a : Ac} {ρ ρ' ρ'' : List (Addr × Addr)} {im im' im'' : Im} {σ σ' : Sg} {m m' : Vars} {mu mu' : Im} {s s₀ s' : Shared} {env : Env} {d : Md} {A A' : Around} {E : Value → Shared → Prop} {Q : Value → Shared → Prop}
  {w : Wd} {ck : Ck} {e : Expr} {K : Kt PV}
/-- a flight out of a loop -/
theorem fly_loop {x : Ex} {v : Value} {F : Addr} {l' : List Env} (X : StX P a ρ im σ x v s) (hs : σ.self = none) (hl : a.l = env :: l') (hA : A'.frames = some a.l) (hF : env.frame = some F) (k : ∀ s', StX P a ρ im σ x v s' → E v s') :
    notedBy (model B.prog B.w) A' env (cameBackBy (model B.prog B.w) A env E) v s := by
  obtain ⟨m, mu, R, S, Fl⟩ := X
  rw [hl] at R hA
  have end_ : ∀ {e T : Addr} {oT : Obj} {cls a0 c2 c3 c4 : Value} {dx : Option Addr} {r : Im} {s' : Shared}, TbAt oT (rawInt F) → Run a.hb (env :: l') a.fr a.V a.s₀ a.L m ((T, oT) :: (e, exO cls dx a0 (.ref T) c2 c3 c4) :: r) im s' →
      (∀ oT s', TbAt oT (rawInt F) → Run a.hb (env :: l') a.fr a.V a.s₀ a.L m ((T, oT) :: (e, exO cls dx a0 (.ref T) c2 c3 c4) :: r) im s' → E (.ref e) s') → cameBackBy (model B.prog B.w) A env E (.ref e) s' := fun {e T oT cls a0 c2 c3 c4 dx r s'} hT R' k' => by
    unfold cameBackBy
    refine wpAny_bind (wpAny_field (R'.H.hmu _ (.tail _ (.head _))) rfl (x := .ref T) rfl ?_)
    rw [if_neg (by simp)]
    rw [hF]
    exact flight_r (f := some F) R' hT k'
  cases x with
  | ix =>
    obtain ⟨e, t, tb, c3, c4, rfl, h1, h2⟩ := Fl
    exact note_any R h1 h2 hA hF fun T oT r s' ne hT kp R2 => end_ hT R2 fun oT s' hT R3 => k s' ⟨m, _, hl ▸ R3, S.fl hs fun p hp nf => .tail _ (.tail _ (kp p hp nf)), e, t, _, _, _, rfl, .tail _ (.head _), .inr ⟨T, oT, _, rfl, ne, .head _, hT⟩⟩
  | pe f w =>
    obtain ⟨e, dx, t, tb, c2, c3, c4, vs, rfl, h1, h2, h3, h4, h5⟩ := Fl
    exact note_any R h1 h2 hA hF fun T oT r s' ne hT kp R2 => end_ hT R2 fun oT s' hT R3 => k s' ⟨m, _, hl ▸ R3, S.fl hs fun p hp nf => .tail _ (.tail _ (kp p hp nf)), e, dx, t, _, _, _, _, vs, rfl, .tail _ (.head _), .inr ⟨T, oT, _, rfl, ne, .head _, hT⟩, h3, h4, h5⟩
theorem WLoop_e {F : Md → C → List D → Sg → Kt Fl → Prop} {c : C} {b : List D} {K : Kt Fl} (h : WLoop F d c b σ K) : F d c b σ K := by unfold WLoop at h; exact h
theorem Loop_e {F : Md → Nat → List PV → List D → Sg → Kt Fl → Prop} {i : Nat} {l : List PV} {b : List D} {K : Kt Fl} (h : Loop F d i l b σ K) : F d i l b σ K := by unfold Loop at h; exact h
variable {st : Stmt} {Kf : Kt Fl} {Qf : Flow → Shared → Prop} {Γ : Nat → Option Fn}
theorem while_ok {n : Nat} {c : C} {b : List D} {test : Expr} {body : List Stmt} (H : ∀ m, m < n → SndT B P (W Γ m) ck ∧ SndSs B P (W Γ m) ck) (h1 : ck.E env.scope a.names test c = true) (h2 : ck.Ss env.scope a.names body b = true) (h : (W Γ n).Wh d c b σ (lk Kf)) (dc : d.c = true)
    (C : Ct B a env A d im) (S : St P a ρ im σ s) (q : KQf P a ρ im Kf Qf) (qe : KE P a ρ im Kf E) :
    codeAny (model B.prog B.w) A (.whileLoop test body [] env) (fun r s' => match r with | .ok f => Qf f s' | .error e => cameBackBy (model B.prog B.w) A env E e s') s := by
  obtain ⟨l', F, hl, hF⟩ := C.fe dc
  refine codeAny_whileLoop (fun k s => k ≤ n ∧ ∃ ρ' im' σ', Ext ρ ρ' im im' ∧ (W Γ k).Wh d c b σ' (lk Kf) ∧ St P a ρ' im' σ' s) (fun k s hI => ?_) n ⟨Nat.le_refl _, ρ, im, σ, .refl, h, S⟩
  obtain ⟨hk, ρ1, im1, σ1, X, h, S⟩ := hI
  cases k with
  | zero => exact False.elim h
  | succ k =>
    obtain ⟨J, Is⟩ := H k hk
    have C1 := C.up X
    have err : ∀ {ρ' im' σ' x v s'}, Ext ρ ρ' im im' → lk Kf (.err x) σ' → StX P a ρ' im' σ' x v s' → notedBy (model B.prog B.w) A env (cameBackBy (model B.prog B.w) A env E) v s' := fun Y k SX => fly_loop SX (obD_e k).1 hl C.O.fr hF fun s' SX' => qe _ _ _ _ _ _ Y (obD_e k).2 SX'
    refine J (d := d) h1 (show (W Γ k).T d c σ1 _ from h) C1 S (fun ρ2 im2 σ2 t s2 X2 k2 S2 => ?_) fun ρ' im' σ' x v s' Y k SX => err (X.trans Y) k SX
    cases t with
    | false => exact wpAny_execs_nil (q _ _ _ .next _ _ (X.trans X2) k2 rfl S2)
    | true =>
      refine Is h2 (bkd k2) (C1.up X2) S2 (fun ρ3 im3 σ3 f fl s3 X3 k3 F3 S3 => ?_) fun ρ' im' σ' x v s' Y k SX => err ((X.trans X2).trans Y) k SX
      cases f with
      | next => cases (show fl = .next from F3); exact ⟨k, Nat.lt_succ_self _, Nat.le_of_succ_le hk, ρ3, im3, σ3, (X.trans X2).trans X3, k3, S3⟩
      | brk => cases (show fl = .brk from F3); exact q _ _ _ .next _ _ ((X.trans X2).trans X3) k3 rfl S3
      | ret p => obtain ⟨v, rfl, r⟩ := F3; exact q _ _ _ (.ret p) _ _ ((X.trans X2).trans X3) k3 ⟨v, rfl, r⟩ S3
theorem s_whl {n : Nat} {c : C} {b : List D} (H : ∀ m, m < n → SndT B P (W Γ m) ck ∧ SndSs B P (W Γ m) ck) (hc : ckS B.K ck env.scope a.names st (.whl c b) = true) (h : stepS (W Γ n) d (.whl c b) σ Kf) (C : Ct B a env A d im) (S : St P a ρ im σ s) (q : KQf P a ρ im Kf Qf) (qe : KE P a ρ im Kf E) :
    wpAny (model B.prog B.w) A (exec st env) Qf E s := by
  refine onWhl_e hc fun t x z p hc1 es => and3 hc1 fun hz h1 h2 => ?_
  cases List.isEmpty_iff.mp hz
  subst es
  exact wpAny_While (while_ok H h1 h2 (WLoop_e (obD_e h).2) (obD_e h).1 C S q qe)
end Mine
end

noncomputable section
open PySem PySem.W PySem.Calls PyProof.Rows PySem.SeqAt
set_option maxRecDepth 100000
namespace Mine
variable {B : Base} {P : Params} {a : Ac} {ρ ρ' ρ'' : List (Addr × Addr)} {im im' im'' : Im} {σ σ' : Sg} {m m' : Vars} {mu mu' : Im} {s s₀ s' : Shared} {env : Env} {d : Md} {A A' : Around} {E : Value → Shared → Prop} {Q : Value → Shared → Prop}
  {w : Wd} {ck : Ck} {e : Expr} {K : Kt PV}
/-- an iterator's object -/
noncomputable def itKind (o : Obj) : Prop := o.cls ≠ .type "set" ∧ (∀ vs, o ≠ tupO vs) ∧ o.cls ≠ .type "list" ∧ (∀ dx a tb c2 c3 c4, o ≠ exO (.ref 41) dx a tb c2 c3 c4) ∧ (∀ d, o ≠ instObj 133 d) ∧ ∀ es n, o ≠ dictOf es n
section
variable {I : Addr}
/-- what an iterator is not needed for -/
noncomputable def Off (I : Addr) (im im' : Im) : Prop := (∀ p ∈ im, p.1 = I → itKind p.2) ∧ ∀ p ∈ im, p.1 ≠ I → p ∈ im'
theorem Off.go (h : Off I im im') {p : Addr × Obj} (hp : p ∈ im) (n : ¬ itKind p.2) : p ∈ im' := h.2 p hp fun z => n (h.1 p hp z)
theorem ErrAt.off (h : Off I im im') {x : Addr} {w : List Nat} {vs : List Value} (e : ErrAt P im x w vs) : ErrAt P im' x w vs :=
  ⟨e.out.imp fun _ e => e.imp fun _ e => e.imp fun _ e => e.imp fun _ e => e.imp fun _ e => e.imp fun _ e =>
    ⟨h.go e.1 fun z => z.2.2.2.1 _ _ _ _ _ _ rfl, e.2.1.imp fun _ e => ⟨h.go e.1 fun z => z.2.2.2.2.2 _ _ rfl, e.2⟩, e.2.2.imp fun _ e => h.go e fun z => z.2.1 _ rfl⟩⟩
mutual
theorem RepV.off (h : Off I im im') : ∀ (p : PV) (v : Value), RepV P ρ im p v → RepV P ρ im' p v
  | .none, _, r => r
  | .bool _, _, r => r
  | .int _, _, r => r
  | .str _, _, r => r
  | .bytes _, _, r => r
  | .tup l, _, r => r.imp fun _ r => r.imp fun vs r => ⟨r.1, h.go r.2.1 fun z => z.2.1 _ rfl, RepL.off h l vs r.2.2⟩
  | .lst l, _, r => r.imp fun _ r => r.imp fun _ r => r.imp fun vs r => ⟨r.1, h.go r.2.1 fun z => z.2.2.1 r.2.2.1.cls, r.2.2.1, RepL.off h l vs r.2.2.2⟩
  | .set _, _, r => r.imp fun _ r => r.imp fun _ r => ⟨r.1, h.go r.2.1 fun z => z.1 r.2.2.cls, r.2.2⟩
  | .err f _, _, r => r.imp fun vs r => ⟨r.1.imp fun _ r => ⟨r.1, r.2.off h⟩, RepL.off h f vs r.2⟩
  | .obj _, _, r => r
  | .cls _, _, r => r
theorem RepL.off (h : Off I im im') : ∀ (l : List PV) (vs : List Value), RepL P ρ im l vs → RepL P ρ im' l vs
  | [], _, r => r
  | p :: l, _, r => r.imp fun v r => r.imp fun ws r => ⟨r.1, RepV.off h p v r.2.1, RepL.off h l ws r.2.2⟩
end
theorem StM.off (h : Off I im im') (n : NewI a a.i0 im') (S : StM P a ρ im σ m mu) : StM P a ρ im' σ m mu where
  vars i v e := let ⟨x', u, h1, h2, h3⟩ := S.vars i v e; ⟨x', u, h1, h2, RepV.off h _ _ h3⟩
  acc i D l e := let ⟨x', o, vs, h1, h2, h3, h4, h5⟩ := S.acc i D l e; ⟨x', o, vs, h1, h2, h3, h4, RepL.off h _ _ h5⟩
  self f wo e := by
    obtain ⟨x', dx, c0, c2, c3, c4, h1, h2, h3, h4, h5⟩ := S.self f wo e
    refine ⟨x', dx, c0, c2, c3, c4, h1, h2, h3, h4, ?_⟩
    cases h5 with
    | nil => exact .nil
    | cons z1 z0 z2 z3 => exact .cons z1 z0 z2 (RepL.off h _ _ z3)
  objs i f e := let ⟨x', D, es, vs, h1, h2, h3, h4, h5⟩ := S.objs i f e; ⟨x', D, es, vs, h1, h.go h2 (fun z => z.2.2.2.2.1 _ rfl), h3, h4, RepL.off h _ _ h5⟩
  len := S.len
  nd := S.nd
  nw := n
  cel := S.cel
theorem RunH.unfix {hb h₀ h : Heap} {l : List Env} {fr V : List Addr} {L : Addr} {o : Obj} (R : RunH hb l fr V h₀ L m mu im h) (hm : (I, o) ∈ im) (h1 : hb.get? I = none) (h2 : I ∈ V ∨ h₀.get? I = none) :
    RunH hb l fr V h₀ L m ((I, o) :: mu) (im.filter fun p => !Nat.beq p.1 I) h := by
  have F := R.offi _ hm
  have ne : ∀ p ∈ im.filter (fun p => !Nat.beq p.1 I), p ∈ im ∧ p.1 ≠ I := fun p hp => by
    obtain ⟨a, b⟩ := List.mem_filter.mp hp
    rw [Bool.not_eq_true'] at b
    exact ⟨a, Nat.ne_of_beq_eq_false b⟩
  refine ⟨R.stays, R.ff, R.ns, R.evo, fun p hp => ?_, fun p hp => R.him p (ne p hp).1, ?_, fun p hp q hq => ?_, fun p hp => ?_, fun p hp => R.offi p (ne p hp).1, R.L0, R.sub⟩
  · rcases List.mem_cons.mp hp with rfl | hp
    · exact R.him _ hm
    · exact R.hmu p hp
  · rw [List.map_cons, List.nodup_cons]
    refine ⟨fun z => ?_, R.nodup⟩
    obtain ⟨p, a, b⟩ := List.mem_map.mp z
    exact R.apart p a _ hm b
  · rcases List.mem_cons.mp hp with rfl | hp
    · exact (ne q hq).2.symm
    · exact R.apart p hp q (ne q hq).1
  · rcases List.mem_cons.mp hp with rfl | hp
    · exact ⟨F.1, F.2, h1, h2⟩
    · exact R.offm p hp
end
end Mine
end

noncomputable section
open PySem PySem.W PySem.Calls PyProof.Rows PySem.SeqAt
set_option maxRecDepth 100000
namespace Mine
variable {B : Base} {P : Params} {a : Ac} {ρ ρ' ρ'' : List (Addr × Addr)} {im im' im'' : Im} {σ σ' : Sg} {m m' : Vars} {mu mu' : Im} {s s₀ s' : Shared} {env : Env} {d : Md} {A A' : Around} {E : Value → Shared → Prop} {Q : Value → Shared → Prop}
  {w : Wd} {ck : Ck} {e : Expr} {K : Kt PV}
section
variable {hb h h' : Heap} {l : List Env} {fr V : List Addr} {L : Addr}
theorem RunH.drop {h₀ h h' : Heap} {d : Addr} {o : Obj} (R : RunH hb l fr V h₀ L m ((d, o) :: mu) im h) (k : ∀ b o, b ≠ d → h.get? b = some o → h'.get? b = some o) : RunH hb l fr V h₀ L m mu im h' := by
  have D := R.offm _ (.head _)
  have nd := R.nodup
  simp only [List.map_cons, List.nodup_cons] at nd
  have e : Evo (frs l) [d] h h' := fun b o z n => ⟨o.slots, k b o (fun q => n (by rw [q]; exact .head _)) z, fun _ => rfl⟩
  refine ⟨fun b o z => k b o (fun q => by have := D.2.2.1; dsimp only at this; rw [← q, z] at this; cases this) (R.stays b o z), ff_evo e R.ff (fun a ha z => D.2.1 (by rw [List.mem_singleton.mp z] at ha; exact ha)),
    nsw_slots R.ns fun oL hL => let ⟨sl, a, _⟩ := e L oL hL (fun q => D.1 (List.mem_singleton.mp q).symm); ⟨sl, a⟩,
    R.evo.comp e (fun b q => by rw [List.mem_singleton.mp q]; exact D.2.2.2.symm) (fun b q => R.sub b q), fun p hp => k _ _ (fun z => nd.1 (List.mem_map.mpr ⟨p, hp, z⟩)) (R.hmu p (.tail _ hp)),
    fun p hp => k _ _ (fun z => R.apart _ (.head _) p hp z.symm) (R.him p hp), nd.2, fun p hp => R.apart p (.tail _ hp), fun p hp => R.offm p (.tail _ hp), R.offi, R.L0, R.sub⟩
theorem RunH.bump {h₀ : Heap} {d : Addr} {o o' : Obj} (R : RunH hb l fr V h₀ L m ((d, o) :: mu) im h) (k : ∀ b o, b ≠ d → h.get? b = some o → h'.get? b = some o) (hd : h'.get? d = some o') : RunH hb l fr V h₀ L m ((d, o') :: mu) im h' := by
  have D := R.offm _ (.head _)
  have e : Evo (frs l) [d] h h' := fun b o z n => ⟨o.slots, k b o (fun q => n (by rw [q]; exact .head _)) z, fun _ => rfl⟩
  exact R.call1 .head (fun b o z => k b o (fun q => by have := D.2.2.1; dsimp only at this; rw [← q, z] at this; cases this) (R.stays b o z)) (ff_evo e R.ff (fun a ha z => D.2.1 (by rw [List.mem_singleton.mp z] at ha; exact ha))) e hd
end
theorem beqN_off {x y : Nat} (h : x ≠ y) : Nat.beq x y = false := by
  cases z : Nat.beq x y with
  | false => rfl
  | true => exact absurd (Nat.eq_of_beq_eq_true z) h
structure ItOk (prog : Program) (w : World) (A : Around) (I : Addr) (fp : List Addr) (n : Nat) (Pt : Nat → Value → Prop) (Stt : Nat → Heap → Prop) : Prop where
  W : Walks prog w A I fp [I] n Pt Stt
  kind : ∀ i h, Stt i h → ∃ o, h.get? I = some o ∧ itKind o
theorem it_of {o : Obj} {T : String} (h : o.cls = .type T) (h1 : T ≠ "tuple") (h2 : T ≠ "list") (h3 : T ≠ "dict") (h4 : T ≠ "set") : itKind o :=
  ⟨fun z => h4 (Value.type.inj (h.symm.trans z)), fun vs z => (by rw [z] at h; exact h1 (Value.type.inj h).symm), fun z => h2 (Value.type.inj (h.symm.trans z)), fun dx a tb c2 c3 c4 z => (by rw [z] at h; cases h), fun d z => (by rw [z] at h; cases h), fun es n z => (by rw [z] at h; exact h3 (Value.type.inj h).symm)⟩
variable {Kf : Kt Fl} {Qf : Flow → Shared → Prop} {Γ : Nat → Option Fn}
inductive ForI (Γ : Nat → Option Fn) (P : Params) (a : Ac) (d : Md) (b : List D) (l : List PV) (Kf : Kt Fl) (i : Nat) (I : Addr) (Stt : Nat → Heap → Prop) (n : Nat) (ρ : List (Addr × Addr)) (im : Im) (k : Nat) (s' : Shared) : Prop
  | mk : k ≤ n → ∀ j ρ' im' σ' m mu o, j ≤ l.length → Ext ρ ρ' im im' → (W Γ k).For d i (l.drop j) b σ' (lk Kf) → Run a.hb a.l a.fr a.V a.s₀ a.L m mu im' s' → (I, o) ∈ im' → itKind o → StM P a ρ' im' σ' m mu → Stt j s'.heap → ForI Γ P a d b l Kf i I Stt n ρ im k s'
theorem for_ok {n i : Nat} {x : Str} {px : Pos} {l : List PV} {b : List D} {body : List Stmt} {o : Obj} {fp : List Addr} {Pt : Nat → Value → Prop} {Stt : Nat → Heap → Prop} (H : ∀ m, m < n → SndSs B P (W Γ m) ck) (hx : slotIs env.scope a.names x i = true) (h2 : ck.Ss env.scope a.names body b = true)
    (It : ItOk B.prog B.w A s.heap.objs.size fp l.length Pt Stt) (hP : ∀ j u, j < l.length → Pt j u → ∃ q, l[j]? = some q ∧ Rep P ρ im u q) (st0 : Stt 0 (s.heap.push o)) (hfp : ∀ b ∈ fp, b = s.heap.objs.size ∨ ∃ o, (b, o) ∈ im) (ho : o.isFreed = false) (ik : itKind o)
    (h : (W Γ n).For d i l b σ (lk Kf)) (dc : d.c = true) (C : Ct B a env A d im) (S : St P a ρ im σ s) (q : KQf P a ρ im Kf Qf) (qe : KE P a ρ im Kf E) :
    codeAny (model B.prog B.w) A (.forLoop (.Name x px) (.ref s.heap.objs.size) body [] env) (fun r s' => match r with | .ok f => Qf f s' | .error e => cameBackBy (model B.prog B.w) A env E e s') { s with heap := s.heap.push o } := by
  obtain ⟨l', F, hl, hF⟩ := C.fe dc
  obtain ⟨m, mu, R, M⟩ := S
  generalize hI : s.heap.objs.size = I at *
  have gI : s.heap.get? I = none := hI ▸ get_size _
  have hI1 : a.hb.get? I = none := by
    cases z : a.hb.get? I with
    | none => rfl
    | some o => rw [R.H.stays _ _ z] at gI; cases gI
  have hI2 : I ∈ a.V ∨ a.s₀.heap.get? I = none := R.H.evo.fresh gI
  have hI3 : ∀ p ∈ im, p.1 ≠ I := fun p hp z => by have := R.H.him p hp; rw [z, gI] at this; cases this
  have mf : ∀ {im' : Im} {p : Addr × Obj}, p ∈ im' → p.1 ≠ I → p ∈ im'.filter fun p => !Nat.beq p.1 I := fun hp ne => List.mem_filter.mpr ⟨hp, by rw [Bool.not_eq_true']; exact beqN_off ne⟩
  refine codeAny_forLoop_any (fun k s' => ForI Γ P a d b l Kf i I Stt n ρ im k s')
    (fun k s' hI => ?_) n ⟨Nat.le_refl _, 0, ρ, (I, o) :: im, σ, m, mu, o, Nat.zero_le _, .one, h, ⟨hI ▸ R.H.push o ho, R.oth⟩, .head _, ik, M.up .one (hI ▸ NewI.push R) (fun _ z => z), st0⟩
  obtain ⟨hk, j, ρ1, im1, σ1, m1, mu1, o1, hj, X, h, R1, hm, ik1, M1, st⟩ := hI
  have err : ∀ {ρ' im' σ' x v s'}, Ext ρ ρ' im im' → lk Kf (.err x) σ' → StX P a ρ' im' σ' x v s' → notedBy (model B.prog B.w) A env (cameBackBy (model B.prog B.w) A env E) v s' := fun Y k SX => fly_loop SX (obD_e k).1 hl C.O.fr hF fun s' SX' => qe _ _ _ _ _ _ Y (obD_e k).2 SX'
  cases k with
  | zero => exact False.elim h
  | succ k =>
    have U := R1.H.unfix hm hI1 hI2
    rcases Nat.lt_or_eq_of_le hj with hlt | rfl
    · refine It.W.item j s' _ _ hlt st fun u h' tk hP' st' hk' => ?_
      obtain ⟨o2, ho2, ik2⟩ := It.kind _ _ st'
      have R3 := (U.bump (fun b o hb z => hk' b o (fun q => hb (List.mem_singleton.mp q)) z) ho2).fix
      have off : Off I im1 ((I, o2) :: im1.filter fun p => !Nat.beq p.1 I) := ⟨fun p hp z => (by
        have e1 := R1.H.him p hp
        have e2 := R1.H.him _ hm
        rw [z] at e1
        exact Option.some.inj (e1.symm.trans e2) ▸ ik1), fun p hp z => .tail _ (mf hp z)⟩
      have nw : NewI a a.i0 ((I, o2) :: im1.filter fun p => !Nat.beq p.1 I) := fun q hq => (List.mem_cons.mp hq).elim (fun z => .inr (z ▸ hI2.symm)) fun z => M1.nw q (List.mem_filter.mp z).1
      have S3 : St P a ρ1 ((I, o2) :: im1.filter fun p => !Nat.beq p.1 I) σ1 { s' with heap := h', toks := tk } := ⟨m1, mu1, ⟨R3, R1.oth⟩, M1.off off nw⟩
      have X3 : Ext ρ ρ1 im ((I, o2) :: im1.filter fun p => !Nat.beq p.1 I) := ⟨X.r, fun p hp => .tail _ (mf (X.m p hp) (hI3 p hp))⟩
      obtain ⟨q0, e0, r0⟩ := hP j u hlt hP'
      have ed : l.drop j = q0 :: l.drop (j + 1) := by rw [List.drop_eq_getElem_cons hlt, Option.some.inj ((List.getElem?_eq_getElem hlt).symm.trans e0)]
      have h3 : stepFor (W Γ k) d i (l.drop j) b σ1 (lk Kf) := h
      rw [ed] at h3
      obtain ⟨ok, h3⟩ := obD_e h3
      refine wpAny_pure ?_
      refine wpAny_assign_Name (st_put hx C.N S3 ok (r0.up X3) fun s4 S4 => ?_)
      refine H k hk h2 h3 (C.up X3) S4 (fun ρ5 im5 σ5 f fl s5 X5 k5 F5 S5 => ?_) fun ρ' im' σ' x v s' Y k SX => err (X3.trans Y) k SX
      cases f with
      | brk => cases (show fl = .brk from F5); exact q _ _ _ .next _ _ (X3.trans X5) k5 rfl S5
      | ret p => obtain ⟨v, rfl, r⟩ := F5; exact q _ _ _ (.ret p) _ _ (X3.trans X5) k5 ⟨v, rfl, r⟩ S5
      | next =>
        cases (show fl = .next from F5)
        obtain ⟨m5, mu5, R5, M5⟩ := S5
        refine ⟨k, Nat.lt_succ_self _, Nat.le_of_succ_le hk, j + 1, ρ5, im5, σ5, m5, mu5, o2, hlt, X3.trans X5, k5, R5, X5.m _ (.head _), ik2, M5, It.W.frame _ _ _ st' fun b hb ob hob => ?_⟩
        have kp : ∀ {p : Addr × Obj}, p ∈ (I, o2) :: im1.filter (fun p => !Nat.beq p.1 I) → h'.get? p.1 = some ob → s5.heap.get? p.1 = some ob := fun hp e => by
          have e1 := R3.him _ hp
          rw [e] at e1
          cases e1
          exact R5.H.him _ (X5.m _ hp)
        rcases hfp b hb with rfl | ⟨oo, hoo⟩
        · exact kp (.head _) hob
        · exact kp (.tail _ (mf (X.m _ hoo) (hI3 _ hoo))) hob
    · refine It.W.done s' _ _ st fun h' tk hk' => ?_
      have R3 := U.drop (h' := h') fun b o hb z => hk' b o (fun q => hb (List.mem_singleton.mp q)) z
      have off : Off I im1 (im1.filter fun p => !Nat.beq p.1 I) := ⟨fun p hp z => (by
        have e1 := R1.H.him p hp
        have e2 := R1.H.him _ hm
        rw [z] at e1
        exact Option.some.inj (e1.symm.trans e2) ▸ ik1), fun p hp z => mf hp z⟩
      have X3 : Ext ρ ρ1 im (im1.filter fun p => !Nat.beq p.1 I) := ⟨X.r, fun p hp => mf (X.m p hp) (hI3 p hp)⟩
      have h3 : stepFor (W Γ k) d i (l.drop l.length) b σ1 (lk Kf) := h
      rw [List.drop_length] at h3
      exact wpAny_execs_nil (q _ _ _ .next _ _ X3 h3 rfl ⟨m1, mu1, ⟨R3, R1.oth⟩, M1.off off fun q hq => M1.nw q (List.mem_filter.mp hq).1⟩)
end Mine
end

noncomputable section
open PySem PySem.W PySem.Calls PyProof.Rows PySem.SeqAt
set_option maxRecDepth 100000
namespace Mine
variable {B : Base} {P : Params} {a : Ac} {ρ ρ' ρ'' : List (Addr × Addr)} {im im' im'' : Im} {σ σ' : Sg} {m m' : Vars} {mu mu' : Im} {s s₀ s' : Shared} {env : Env} {d : Md} {A A' : Around} {E : Value → Shared → Prop} {Q : Value → Shared → Prop}
  {w : Wd} {ck : Ck} {e : Expr} {K : Kt PV}
noncomputable def itemsOf (v : PV) : Option (List PV) := match v with
  | .lst l => some l
  | .tup l => some l
  | .str x => some (x.map fun c => .str [c])
  | _ => none
theorem itemsK_e {v : PV} {k : List PV → Prop} (h : itemsK v k) : ∃ l, itemsOf v = some l ∧ k l := by
  cases v <;> first | exact (show False from h).elim | exact ⟨_, rfl, h.2⟩
theorem fold_of {e : Expr} (h : notSet e = true) (x : Value) : foldedSetIterable e env x = pure x := by
  cases e <;> first | rfl | cases h
/-- an iterator is made -/
theorem iter_ok {p : PV} {v : Value} {l : List PV} {E' : Value → Shared → Prop} (e : itemsOf p = some l) (rp : Rep P ρ im v p) (hh : A.handled = none) (S : St P a ρ im σ s)
    (k : ∀ o fp Pt Stt, ItOk B.prog B.w A s.heap.objs.size fp l.length Pt Stt → (∀ j u, Pt j u → ∃ q, l[j]? = some q ∧ Rep P ρ im u q) → Stt 0 (s.heap.push o) → (∀ b ∈ fp, b = s.heap.objs.size ∨ ∃ o, (b, o) ∈ im) → o.isFreed = false → itKind o →
      Q (.ref s.heap.objs.size) { s with heap := s.heap.push o }) : wpAny (model B.prog B.w) A (pyIter v) Q E' s := by
  cases p <;> first | cases e | skip
  · rename_i x
    obtain ⟨t, rfl⟩ := rp
    have n1 : ∀ {y : Str} {j u}, y = ⟨x.toArray⟩ → SignAt y j u → ∃ q, (x.map fun c => PV.str [c])[j]? = some q ∧ Rep P ρ im u q := fun {y j u} e h => by
      subst e
      obtain ⟨c, u', hc, rfl⟩ := h
      refine ⟨.str [c], ?_, _, rfl⟩
      rw [List.getElem?_map]
      have : x[j]? = some c := by simpa using hc
      rw [this]; rfl
    have n2 : (x.map fun c => PV.str [c]).length = (⟨x.toArray⟩ : Str).length := by rw [List.length_map, str_len]
    rw [n2] at k
    cases ha : (⟨x.toArray⟩ : Str).cps.all (· < 128)
    · refine wpAny_pyIter_wide ha ?_
      exact k _ _ _ _ ⟨Walks.strWide hh _ _ t, fun i h st => let ⟨o, ho, hc, _⟩ := st; ⟨o, ho, it_of hc (by decide) (by decide) (by decide) (by decide)⟩⟩ (fun j u h => n1 rfl h) ⟨_, Heap.get?_push_size _ rfl, rfl, rfl⟩ (fun b hb => .inl (List.mem_singleton.mp hb)) rfl (it_of rfl (by decide) (by decide) (by decide) (by decide))
    · refine wpAny_pyIter_ascii ha ?_
      exact k _ _ _ _ ⟨Walks.strAscii hh _ _ t, fun i h st => let ⟨o, ho, hc, _⟩ := st; ⟨o, ho, it_of hc (by decide) (by decide) (by decide) (by decide)⟩⟩ (fun j u h => n1 rfl h) ⟨_, Heap.get?_push_size _ rfl, rfl, rfl⟩ (fun b hb => .inl (List.mem_singleton.mp hb)) rfl (it_of rfl (by decide) (by decide) (by decide) (by decide))
  · obtain ⟨D, vs, rfl, h1, h3⟩ := Rep.tup_e rp
    have hl := S.tuple h1
    refine wpAny_pyIter_tuple hl ?_
    have hlt : D < s.heap.objs.size := by obtain ⟨_, e, _⟩ := hl; exact Heap.lt_size e
    have W := Walks.tuple (prog := B.prog) (w := B.w) hh s.heap.objs.size D (Nat.ne_of_lt hlt) vs.toArray
    simp only [List.size_toArray, List.getElem?_toArray] at W
    rw [h3.len] at W
    refine k _ _ _ _ ⟨W, fun i h st => let ⟨o, ho, hc, _⟩ := st.1; ⟨o, ho, it_of hc (by decide) (by decide) (by decide) (by decide)⟩⟩ (fun j u h => h3.at' h) ⟨⟨_, Heap.get?_push_size _ rfl, rfl, rfl⟩, let ⟨o, a, b⟩ := hl; ⟨o, Heap.get?_push_of_some _ a, b⟩⟩ (fun b hb => ?_) rfl (it_of rfl (by decide) (by decide) (by decide) (by decide))
    rcases List.mem_cons.mp hb with rfl | hb
    · exact .inl rfl
    · rw [List.mem_singleton.mp hb]; exact .inr ⟨_, h1⟩
  · obtain ⟨D, o, vs, rfl, h1, h2, h3⟩ := Rep.lst_e rp
    have hl := S.list h1 h2
    refine wpAny_pyIter_list hl ?_
    have hlt : D < s.heap.objs.size := by obtain ⟨_, e, _⟩ := hl; exact Heap.lt_size e
    have W := Walks.list (prog := B.prog) (w := B.w) hh s.heap.objs.size D (Nat.ne_of_lt hlt) vs.toArray
    simp only [List.size_toArray, List.getElem?_toArray] at W
    rw [h3.len] at W
    refine k _ _ _ _ ⟨W, fun i h st => let ⟨o, ho, hc, _⟩ := st.1; ⟨o, ho, it_of hc (by decide) (by decide) (by decide) (by decide)⟩⟩ (fun j u h => h3.at' h) ⟨⟨_, Heap.get?_push_size _ rfl, rfl, rfl⟩, hl.push _⟩ (fun b hb => ?_) rfl (it_of rfl (by decide) (by decide) (by decide) (by decide))
    rcases List.mem_cons.mp hb with rfl | hb
    · exact .inl rfl
    · rw [List.mem_singleton.mp hb]; exact .inr ⟨_, h1⟩
variable {st : Stmt} {Kf : Kt Fl} {Qf : Flow → Shared → Prop} {Γ : Nat → Option Fn}
theorem s_for {n i : Nat} {c : C} {b : List D} (I : SndE B P (W Γ n) ck) (H : ∀ m, m < n → SndSs B P (W Γ m) ck) (hc : ckS B.K ck env.scope a.names st (.for_ i (.of c) b) = true) (h : stepS (W Γ n) d (.for_ i (.of c) b) σ Kf) (C : Ct B a env A d im) (S : St P a ρ im σ s)
    (q : KQf P a ρ im Kf Qf) (qe : KE P a ρ im Kf E) : wpAny (model B.prog B.w) A (exec st env) Qf E s := by
  dsimp only [ckS] at hc
  refine onFor_e hc fun t e y pos hc1 es => ?_
  refine onName_e hc1 fun x px hc2 et => ?_
  clear hc hc1
  have hc := hc2
  clear hc2
  subst et; subst es
  · refine and4 hc fun h0 h1 h2 h3 => ?_
    obtain ⟨dc, h⟩ := obD_e h
    obtain ⟨dh, h⟩ := obD_e h
    refine wpAny_For (I h3 h C S (fun ρ1 im1 σ1 p v s1 x1 k1 r1 S1 => ?_) qe) (fold_of h1)
    obtain ⟨l, e, k2⟩ := itemsK_e (bkd k1)
    exact iter_ok e r1 (C.O.hn dh) S1 fun o fp Pt Stt It hP st0 hfp ho ik => for_ok H h0 h2 It (fun j u _ h => hP j u h) st0 hfp ho ik (Loop_e k2) dc (C.up x1) S1 (q.up x1) (qe.up x1)
end Mine
end

noncomputable section
open PySem PySem.W PySem.Calls PyProof.Rows PySem.SeqAt
set_option maxRecDepth 100000
namespace Mine
variable {B : Base} {P : Params} {a : Ac} {ρ ρ' ρ'' : List (Addr × Addr)} {im im' im'' : Im} {σ σ' : Sg} {m m' : Vars} {mu mu' : Im} {s s₀ s' : Shared} {env : Env} {d : Md} {A A' : Around} {E : Value → Shared → Prop} {Q : Value → Shared → Prop}
  {w : Wd} {ck : Ck} {e : Expr} {K : Kt PV}
variable {st : Stmt} {Kf : Kt Fl} {Qf : Flow → Shared → Prop} {Γ : Nat → Option Fn}
theorem iadd_ok {p q : PV} {v u : Value} {k : PV → Prop} (nl : ∀ l, p ≠ .lst l) (hk : addK p q k) (rp : Rep P ρ im v p) (rq : Rep P ρ im u q) (S : St P a ρ im σ s) (c : PQ P a ρ im σ k Q) : wpAny (model B.prog B.w) A (inplaceOp .Add v u) Q E s := by
  unfold addK at hk
  split at hk
  · obtain ⟨j, rfl, h⟩ := onInt_e hk
    obtain ⟨t, rfl⟩ := rp.int_e
    obtain ⟨t', rfl⟩ := rq.int_e
    exact wpAny_iadd_int (c.now h Rep.int (S.tk _))
  · obtain ⟨j, rfl, z, h⟩ := onStr_e hk
    obtain ⟨t, rfl⟩ := rp.str_e
    obtain ⟨t', rfl⟩ := rq.str_e
    exact PySem.P.iadd_str (add_made S z h c)
  · exact absurd rfl (nl _)
  · exact hk.elim
theorem s_aug {i : Nat} {o : Operator} {c : C} (I : SndE B P w ck) (hc : ckS B.K ck env.scope a.names st (.aug i o c) = true) (h : stepS w d (.aug i o c) σ Kf) (C : Ct B a env A d im) (S : St P a ρ im σ s) (q : KQf P a ρ im Kf Qf) (qe : KE P a ρ im Kf E) :
    wpAny (model B.prog B.w) A (exec st env) Qf E s := by
  dsimp only [ckS] at hc
  refine onAug_e hc fun t op e pos hc1 es => ?_
  refine onName_e hc1 fun x px hc2 et => ?_
  clear hc hc1
  have hc := hc2
  clear hc2
  subst et; subst es
  · refine and3 hc fun ho h0 h1 => ?_
    cases eq_of_beq ho
    refine wpAny_AugAssign_Name (load_v h0 C.N S h fun ρ1 im1 σ1 p v s1 x1 k1 r1 S1 => I h1 (bkd k1) (C.up x1) S1 (fun ρ2 im2 σ2 p2 v2 s2 x2 k2 r2 S2 => ?_) fun _ _ _ _ _ _ x k S' => qe _ _ _ _ _ _ (x1.trans x) k S')
    have k2 := bkd k2
    cases o <;> first | exact (show False from k2).elim | skip
    · have k3 : (∀ l, p ≠ .lst l) ∧ asgOk σ2 i = true ∧ addK p p2 fun v => Kf (.ok .next) (σ2.put i v) := by
        dsimp only at k2
        split at k2
        · exact k2.elim
        · rename_i hn; exact ⟨hn, obD_e k2⟩
      exact iadd_ok (k := fun v => Kf (.ok .next) (σ2.put i v)) k3.1 k3.2.2 (r1.up x2) r2 S2 fun im3 p3 v3 s3 x3 k4 r3 S3 => st_put h0 C.N S3 k3.2.1 r3 fun s4 S4 => q _ _ _ .next _ _ ((x1.trans x2).trans x3) k4 rfl S4
    · obtain ⟨ok, k3⟩ := obD_e k2
      obtain ⟨i1, rfl, k3⟩ := onInt_e k3
      obtain ⟨j1, rfl, ⟨g1, g2⟩, k3⟩ := onInt_e k3
      obtain ⟨t, rfl⟩ := (r1.up x2).int_e
      obtain ⟨t', rfl⟩ := r2.int_e
      refine PySem.AutoIntOps.ifloordiv_1 (fun z => by rw [beq_iff_eq] at z; omega) (by rw [PyProof.noPylong_small g2]; decide) ?_
      exact st_put h0 C.N (S2.tk _) ok Rep.int fun s4 S4 => q _ _ _ .next _ _ (x1.trans x2) k3 rfl S4
theorem s_forR {n i : Nat} {c : C} {b : List D} (I : SndE B P (W Γ n) ck) (H : ∀ m, m < n → SndSs B P (W Γ m) ck) (hc : ckS B.K ck env.scope a.names st (.for_ i (.range c) b) = true) (h : stepS (W Γ n) d (.for_ i (.range c) b) σ Kf) (C : Ct B a env A d im) (S : St P a ρ im σ s)
    (q : KQf P a ρ im Kf Qf) (qe : KE P a ρ im Kf E) : wpAny (model B.prog B.w) A (exec st env) Qf E s := by
  dsimp only [ckS] at hc
  refine onFor_e hc fun t e y pos hc1 es => ?_
  refine onName_e hc1 fun x px hc2 et => ?_
  clear hc hc1
  have hc := hc2
  clear hc2
  subst et; subst es
  · refine and4 hc fun h0 h1 h2 h3 => ?_
    obtain ⟨dc, h⟩ := obD_e h
    obtain ⟨dh, h⟩ := obD_e h
    obtain ⟨y, py, es, pos', rfl, hl, h5⟩ := callIs_e h3
    refine and2 h5 fun h6 h4 => ?_
    refine onOne_e h4 fun e0 h4' ee => ?_
    clear h4
    have h4 := h4'
    clear h4'
    subst ee
    · have hs : noStar e0 = true := by rw [List.all_cons, Bool.and_eq_true] at hl; exact hl.1
      refine wpAny_For (wpAny_Call_Name_kw (built_e h6 C S (callB hl (.inr ⟨_, rfl⟩) (spl_cons hs (I h4 h C S (fun ρ1 im1 σ1 p v s1 x1 k1 r1 S1 => spl_nil ?_) qe))))) (fold_of rfl)
      obtain ⟨j, rfl, hj0, hj, k2⟩ := onInt_e (bkd k1)
      obtain ⟨t, rfl⟩ := r1
      have S2 := (S1.push { cls := .type "range", data := .fields #[.int 0 s1.toks, .int j t, .int 1 (s1.toks + 1)] } rfl).tk (s1.toks + 1 + 1)
      refine call_range_1 ?_
      have g : ({ s1 with heap := s1.heap.push { cls := .type "range", data := .fields #[.int 0 s1.toks, .int j t, .int 1 (s1.toks + 1)] }, toks := s1.toks + 1 + 1 } : Shared).heap.get? s1.heap.objs.size = some { cls := .type "range", data := .fields #[.int 0 s1.toks, .int j t, .int 1 (s1.toks + 1)] } := Heap.get?_push_size _ rfl
      obtain ⟨n', rfl⟩ := Int.eq_ofNat_of_zero_le hj0
      refine wpAny_pyIter_range g (PySem.small_one (by omega) (by omega) (by omega) (by omega)) ?_
      have hsz : Builtin.Range.rangeSize 0 n' 1 = (n' : Int) := by rw [PySem.rangeSize_one]; split <;> omega
      rw [hsz]
      have W' := Walks.range (prog := B.prog) (w := B.w) (C.O.hn dh) (s1.heap.push { cls := .type "range", data := .fields #[.int 0 s1.toks, .int n' t, .int 1 (s1.toks + 1)] }).objs.size 0 1 n'
      simp only [Int.mul_one, Int.zero_add] at W'
      have el : ((List.range (n' : Int).toNat).map fun (k : Nat) => PV.int (k : Int)).length = n' := by rw [List.length_map, List.length_range]; rfl
      refine for_ok (l := (List.range (n' : Int).toNat).map fun (k : Nat) => PV.int (k : Int)) (Pt := fun i v => ∃ t, v = .int (i : Int) t) (Stt := fun i h => IsRangeIter h (s1.heap.push { cls := .type "range", data := .fields #[.int 0 s1.toks, .int n' t, .int 1 (s1.toks + 1)] }).objs.size i ((n' : Int) - i) 1) H h0 h2 ⟨by rw [el]; exact W', fun i h st => ⟨_, st, it_of rfl (by decide) (by decide) (by decide) (by decide)⟩⟩ (fun j u hj hu => ?_) ?_ (fun b hb => .inl (List.mem_singleton.mp hb)) rfl (it_of rfl (by decide) (by decide) (by decide) (by decide)) (Loop_e k2) dc ((C.up x1).up (Ext.one (ρ := ρ1))) S2 ((q.up x1).up .one) ((qe.up x1).up .one)
      · obtain ⟨u', rfl⟩ := hu
        rw [el] at hj
        refine ⟨.int j, ?_, u', rfl⟩
        rw [List.getElem?_map, List.getElem?_range (by exact hj)]; rfl
      · have := Heap.get?_push_size (s1.heap.push { cls := .type "range", data := .fields #[.int 0 s1.toks, .int n' t, .int 1 (s1.toks + 1)] }) (o := ({ cls := .type "range_iterator", data := .fields #[rawInt 0, rawInt n', rawInt 1] } : Obj)) rfl
        simpa using this
end Mine
end

noncomputable section
open PySem PySem.W PySem.Calls PyProof.Rows PySem.SeqAt
set_option maxRecDepth 100000
namespace Mine
variable {B : Base} {P : Params} {a : Ac} {ρ ρ' ρ'' : List (Addr × Addr)} {im im' im'' : Im} {σ σ' : Sg} {m m' : Vars} {mu mu' : Im} {s s₀ s' : Shared} {env : Env} {d : Md} {A A' : Around} {E : Value → Shared → Prop} {Q : Value → Shared → Prop}
  {w : Wd} {ck : Ck} {e : Expr} {K : Kt PV}
variable {st : Stmt} {Kf : Kt Fl} {Qf : Flow → Shared → Prop}
theorem built_of {K : Frag} {sc : Scope} {x : Str} {v : Value} (hc : builtIs K sc x v = true) : nsIn K mainGlobals x = some none ∧ bootBuiltins x = some v ∧ x ≠ "__name__" ∧ sc.names.lookup x = some .globalImplicit ∧ (x == ("__debug__" : Str)) = false := by
  simp only [builtIs, Bool.and_eq_true, beq_iff_eq, Bool.not_eq_true'] at hc
  exact ⟨hc.2.1, hc.2.2.1, beq_eq_false_iff_ne.mp hc.2.2.2.1, hc.1, hc.2.2.2.2⟩
/-- in a handler -/
theorem Ct.inH {e : Addr} {cls : Value} {dx : Option Addr} {c0 tb c3 c4 : Value} (C : Ct B a env A d im) (h : (e, exO cls dx c0 tb .none c3 c4) ∈ im) : Ct B a env (A.mark (some (.ref e))) { d with h := true } im :=
  ⟨C.N, ⟨C.O.fr, C.O.dep, C.O.un, fun z => nomatch z⟩, C.S, C.EK, fun _ => .inr ⟨e, cls, dx, c0, tb, c3, c4, rfl, h⟩, C.dd, C.fe, C.ro, C.cd⟩
theorem s_tryIx {x y : List D} (Is : SndSs B P w ck) (hc : ckS B.K ck env.scope a.names st (.tryIx x y) = true) (h : stepS w d (.tryIx x y) σ Kf) (C : Ct B a env A d im) (S : St P a ρ im σ s) (q : KQf P a ρ im Kf Qf) (qe : KE P a ρ im Kf E) :
    wpAny (model B.prog B.w) A (exec st env) Qf E s := by
  dsimp only [ckS] at hc
  refine onTry_e hc fun x t n b bs hp pos hc1 es => ?_
  have hn := (Bool.and_eq_true _ _).mp hc1
  refine onSome_e hn.2 fun t' hc2 et => ?_
  refine onName_e hc2 fun y py hc3 ey => ?_
  cases onIsNone_e hn.1
  clear hc hc1 hc2
  have hc := hc3
  clear hc3
  subst ey; subst et; subst es
  · refine and3 hc fun h1 h2 h3 => ?_
    obtain ⟨dc, h⟩ := obD_e h
    obtain ⟨l', F, hl, hF⟩ := C.fe dc
    obtain ⟨g1, g2, g3, g4, g5⟩ := built_of h3
    refine wpAny_Try_except (Is h1 h C S (fun ρ1 im1 σ1 f fl s1 x1 k1 F1 S1 => ?_) fun ρ1 im1 σ1 ex v s1 x1 k1 SX => ?_)
    · cases f with
      | next => cases (show fl = .next from F1); exact wpAny_execs_nil (q _ _ _ .next _ _ x1 k1 rfl S1)
      | brk => cases (show fl = .brk from F1); exact q _ _ _ .brk _ _ x1 k1 rfl S1
      | ret p => obtain ⟨v, rfl, r⟩ := F1; exact q _ _ _ (.ret p) _ _ x1 k1 ⟨v, rfl, r⟩ S1
    · cases ex with
      | pe f w => exact k1.elim
      | ix =>
        obtain ⟨hs, k1⟩ := obD_e k1
        obtain ⟨m, mu, R, M, e, t, tb, c3, c4, rfl, he, htb⟩ := SX
        have hA : A.frames = some (env :: l') := hl ▸ C.O.fr
        rw [hl] at R
        refine note_any R he htb hA hF fun T oT r s2 ne hT kp R2 => flight_r (f := none) R2 hT fun oT2 s3 hT2 R3 => ?_
        refine wpAny_handleBy_builtin (X := "IndexError") (T := "IndexError") (b := true) PySem.F.isExc_IndexError PySem.F.notTuple_IndexError PySem.F.self_IndexError (name_b R3 C.S g1 g2 g3 ⟨rfl, ⟨_, R3.H.hmu _ (.tail _ (.head _)), rfl⟩, ?_⟩ C.N.glob C.N.bi C.N.kind g4 g5)
        refine flight_r (f := none) R3 hT2 fun oT3 s4 hT3 R4 => ?_
        have M4 : StM P a ρ1 im1 σ1 m ((T, oT3) :: (e, exO (.type "IndexError") none (.ref t) (.ref T) .none c3 c4) :: r) := M.fl hs fun p hp nf => .tail _ (.tail _ (kp p hp nf))
        have R5 : Run a.hb (env :: l') a.fr a.V a.s₀ a.L m ((e, exO (.type "IndexError") none (.ref t) (.ref T) .none c3 c4) :: (T, oT3) :: r) im1 s4 := ⟨R4.H.perm (List.Perm.swap _ _ _), R4.oth⟩
        have R6 := hl ▸ R5.fix
        have x2 : Ext ρ1 ρ1 im1 ((e, exO (.type "IndexError") none (.ref t) (.ref T) .none c3 c4) :: im1) := .one
        have M6 : StM P a ρ1 ((e, exO (.type "IndexError") none (.ref t) (.ref T) .none c3 c4) :: im1) σ1 m ((T, oT3) :: r) := (M.fl hs fun p hp nf => .tail _ (kp p hp nf)).up x2 (NewI.ofM (hl ▸ R5) (.head _)) fun _ z => z
        exact Is h2 k1 ((C.up (x1.trans x2)).inH (.head _)) ⟨m, _, R6, M6⟩ (fun ρ' im' σ' f fl s' X k F S => q _ _ _ f _ _ ((x1.trans x2).trans X) k F S) fun ρ' im' σ' x v s' X k SX => fly_loop SX (obD_e k).1 hl C.O.fr hF fun s'' SX' => qe _ _ _ _ _ _ ((x1.trans x2).trans X) (obD_e k).2 SX'
end Mine
end

noncomputable section
open PySem PySem.W PySem.Calls PyProof.Rows PySem.SeqAt
set_option maxRecDepth 100000
namespace Mine
variable {B : Base} {P : Params} {a : Ac} {ρ ρ' ρ'' : List (Addr × Addr)} {im im' im'' : Im} {σ σ' : Sg} {m m' : Vars} {mu mu' : Im} {s s₀ s' : Shared} {env : Env} {d : Md} {A A' : Around} {E : Value → Shared → Prop} {Q : Value → Shared → Prop}
  {w : Wd} {ck : Ck} {e : Expr} {K : Kt PV}
variable {st : Stmt} {Kf : Kt Fl} {Qf : Flow → Shared → Prop}
theorem StM.noacc (M : StM P a ρ im σ m mu) : StM P a ρ im { σ with acc := none } m mu := ⟨M.vars, fun _ _ _ e => (nomatch e), M.self, M.objs, M.len, M.nd, M.nw, M.cel⟩
theorem StM.setacc (M : StM P a ρ im { σ with acc := none } m mu) {i D : Nat} {x : Str} {l : List PV} {vs : List Value} {n : Nat} (hx : a.names[i]? = some x) (hl : Loc a m mu x (.ref D)) (hm : (D, listO vs n) ∈ mu) (r : Reps P ρ im vs l) : StM P a ρ im { σ with acc := some (i, D, l) } m mu :=
  ⟨M.vars, fun _ _ _ e => by cases e; exact ⟨x, _, vs, hx, hl, hm, ⟨n, rfl⟩, r⟩, M.self, M.objs, M.len, M.nd, M.nw, M.cel⟩
theorem s_mls {i : Nat} {l : List C} (I : SndEs B P w ck) (hc : ckS B.K ck env.scope a.names st (.mls i l) = true) (h : stepS w d (.mls i l) σ Kf) (C : Ct B a env A d im) (S : St P a ρ im σ s) (q : KQf P a ρ im Kf Qf) (qe : KE P a ρ im Kf E) :
    wpAny (model B.prog B.w) A (exec st env) Qf E s := by
  dsimp only [ckS] at hc
  refine onAsg_e hc fun t e pos hc1 es => ?_
  refine onName_e hc1 fun x px hc2 et => ?_
  refine onList_e hc2 fun el lp hc3 ee => ?_
  clear hc hc1 hc2
  have hc := hc3
  clear hc3
  subst et; subst ee; subst es
  · refine and3 hc fun h0 h1 h2 => ?_
    refine wpAny_Assign_Name ?_ (swaps_of rfl _ _ _)
    rw [arm_eval_List]
    refine wpAny_bind (wpAny_standAt (wpAny_bind (I h2 h1 h C S (fun ρ1 im1 σ1 ps vs s1 x1 k1 r1 S1 => ?_) qe)))
    obtain ⟨hs, _, k2⟩ := obD_e (bkd k1)
    obtain ⟨hz, k2⟩ := obD_e k2
    refine wpAny_newObj_type ?_ (by show vs.toArray.size ≤ sizeLine; rw [List.size_toArray, Reps.len r1]; exact Nat.le_trans hz (by decide))
    obtain ⟨m, mu, R, M⟩ := S1
    obtain ⟨hx, hl, _⟩ := slot_of h0
    have R2 : Run a.hb a.l a.fr a.V a.s₀ a.L m ((s1.heap.objs.size, listO vs 0) :: mu) im1 { s1 with heap := s1.heap.push (listO vs 0) } := ⟨R.H.pushM (listO vs 0) rfl, R.oth⟩
    refine store_m h0 C.N R2 fun s' R' => q _ _ _ .next _ _ x1 (k2 s1.heap.objs.size) rfl ⟨_, _, R', ?_⟩
    have M2 := ((M.noacc.up .refl .refl fun p (hp : p ∈ mu) => List.Mem.tail (s1.heap.objs.size, listO vs 0) hp).turn (u := .ref s1.heap.objs.size) C.N.nd hx (fun _ _ _ e => nomatch e) (.inl hs))
    exact M2.setacc (σ := { σ1 with vars := lset σ1.vars i none }) hx (Loc.here (C.N.noc _ hl)) (.head _) r1
theorem s_app {i : Nat} {c : C} (I : SndE B P w ck) (hc : ckS B.K ck env.scope a.names st (.app i c) = true) (h : stepS w d (.app i c) σ Kf) (C : Ct B a env A d im) (S : St P a ρ im σ s) (q : KQf P a ρ im Kf Qf) (qe : KE P a ρ im Kf E) :
    wpAny (model B.prog B.w) A (exec st env) Qf E s := by
  dsimp only [ckS] at hc
  refine onExp_e hc fun e0 pos2 hc1 es => ?_
  refine onCall_e hc1 fun f el ks pos hc2 ef => ?_
  have hks := (Bool.and_eq_true _ _).mp hc2
  refine onAttr_e hks.2 fun o y ap hc3 eo => ?_
  refine onName_e hc3 fun x px hc4 ex => ?_
  refine onOne_e hc4 fun e hc5 ee => ?_
  cases List.isEmpty_iff.mp hks.1
  clear hc hc1 hc2 hc3 hc4
  have hc := hc5
  clear hc5
  subst ee; subst ex; subst eo; subst ef; subst es
  · refine and5 hc fun h0 hy hp he h1 => ?_
    cases eq_of_beq hy
    obtain ⟨hx, hl, hd⟩ := slot_of h0
    dsimp only [stepS] at h
    split at h
    · rename_i j D l0 e0
      replace h := obD_e h
      obtain ⟨rfl, h⟩ := h
      obtain ⟨m, mu, R, M⟩ := id S
      obtain ⟨x', o, vs, g1, g2, g3, g4, g5⟩ := M.acc _ _ _ e0
      rw [hx] at g1; cases g1
      rcases g2 with ⟨_, g2⟩ | ⟨c', g2, _⟩
      · obtain ⟨fn, f1, f2⟩ := R.H.ns
        obtain ⟨n, rfl⟩ := g4.ex
        refine wpAny_Expr_any (meth_e rfl hp (by rw [List.all_cons, he]; rfl) rfl (wpAny_Name (wpAny_loadName_local C.N.kind hl (C.N.L ▸ f1) (f2 _ _ g2) fun pl => ?_) hd)) (inter_of C.N.kind) (swaps_of rfl _ _ _)
        refine getMethod_list_append (R.H.hmu _ g3) rfl rfl (callB (by rw [List.all_cons, he]; rfl) (.inl ⟨_, rfl⟩) (spl_cons he (I h1 h C S (fun ρ1 im1 σ1 p v s1 x1 k1 r1 S1 => spl_nil ?_) qe)))
        have k1 := bkd k1
        split at k1
        · rename_i j' D' l1 e1
          replace k1 := obD_e k1
          obtain ⟨rfl, rfl, hz, k1⟩ := k1
          obtain ⟨m1, mu1, R1, M1⟩ := S1
          obtain ⟨x2, o2, vs2, b1, b2, b3, b4, b5⟩ := M1.acc _ _ _ e1
          rw [hx] at b1; cases b1
          obtain ⟨n2, rfl⟩ := b4.ex
          refine append_at (R1.H.hmu _ b3) (fun h' sb hg => ?_) (by rw [List.size_toArray, Reps.len b5]; exact Nat.le_of_lt hz)
          have eo : ({ cls := .type "list", data := .seq (vs2.toArray.push v) (n2 + 1) } : Obj) = listO (vs2 ++ [v]) (n2 + 1) := by simp [listO]
          rw [eo] at hg
          obtain ⟨mu2, U, kp⟩ := updM (o' := listO (vs2 ++ [v]) (n2 + 1)) b3
          have kp2 : ∀ p ∈ mu1, notList p.2 → p ∈ mu2 := fun p hp nl => kp p hp fun z => nl.elim (fun nl => nl (by rw [R1.fn hp b3 z])) fun ⟨_, d⟩ => by rw [R1.fn hp b3 z] at d; exact nomatch d
          exact q _ _ _ .next _ _ x1 k1 rfl ⟨m1, mu2, ⟨R1.H.upd U sb hg, R1.oth⟩, (M1.toks .refl .refl kp2).setacc hx (b2.to kp2) U.mem' (b5.app (.cons r1 .nil))⟩
        · exact k1.elim
      · rw [C.N.noc _ hl] at g2; cases g2
    · exact h.elim
end Mine
end

noncomputable section
open PySem PySem.W PySem.Calls PyProof.Rows PySem.SeqAt
set_option maxRecDepth 100000
namespace Mine
variable {B : Base} {P : Params} {a : Ac} {ρ ρ' ρ'' : List (Addr × Addr)} {im im' im'' : Im} {σ σ' : Sg} {m m' : Vars} {mu mu' : Im} {s s₀ s' : Shared} {env : Env} {d : Md} {A A' : Around} {E : Value → Shared → Prop} {Q : Value → Shared → Prop}
  {w : Wd} {ck : Ck} {e : Expr} {K : Kt PV}
variable {st : Stmt} {Kf : Kt Fl} {Qf : Flow → Shared → Prop}
/-- a tokenizer's fields change -/
theorem StM.setO (M : StM P a ρ im σ m mu) (R : Run a.hb a.l a.fr a.V a.s₀ a.L m mu im s) {i : Nat} {x D : Addr} {es es' : List DictEntry} {vs' : List Value} {f' : List PV} (hs : σ.self = none) (h1 : ρ[i]? = some (x, D)) (h2 : (x, instObj 133 D) ∈ im) (h3 : (D, dictOf es es.length) ∈ mu)
    (U : UpdL D (dictOf es es.length) (dictOf es' es'.length) mu mu') (kp : ∀ q ∈ mu, q.1 ≠ D → q ∈ mu') (h4 : Ents P (tokNames.take f'.length) es' vs') (h5 : Reps P ρ im vs' f') : StM P a ρ im { σ with objs := lset σ.objs i f' } m mu' := by
  have kp2 : ∀ p ∈ mu, (∀ es n, p.2 ≠ dictOf es n) → p ∈ mu' := fun p hp nd => kp p hp fun z => nd _ _ (congrArg Prod.snd (R.fn hp h3 z))
  have lo : ∀ {x u}, Loc a m mu x u → Loc a m mu' x u := fun h => h.imp id fun ⟨c, e, z⟩ => ⟨c, e, z.to fun _ h d => kp2 _ h fun _ _ z => nomatch d.symm.trans (congrArg Obj.data z)⟩
  refine ⟨fun i v e => let ⟨x', u, h1, h2, h3⟩ := M.vars i v e; ⟨x', u, h1, lo h2, h3⟩,
    fun i D l e => let ⟨x', o, vs, h1, h2, h3, h4, h5⟩ := M.acc i D l e; ⟨x', o, vs, h1, lo h2, kp2 _ h3 (fun _ _ z => let ⟨_, q⟩ := h4.at.data; nomatch q.symm.trans (congrArg Obj.data z)), h4, h5⟩,
    fun f wo e => (by rw [show σ.self = none from hs] at e; cases e), fun j f e => ?_, (by rw [lset_len]; exact M.len), M.nd, M.nw, fun r x c e => let ⟨v, z⟩ := M.cel r x c e; ⟨v, z.to fun _ h d => kp2 _ h fun _ _ z => nomatch d.symm.trans (congrArg Obj.data z)⟩⟩
  rcases lset_get e with ⟨rfl, rfl⟩ | ⟨ne, e⟩
  · exact ⟨x, D, es', vs', h1, h2, U.mem', h4, h5⟩
  · obtain ⟨x2, D2, es2, vs2, g1, g2, g3, g4, g5⟩ := M.objs j f e
    refine ⟨x2, D2, es2, vs2, g1, g2, kp _ g3 fun z => ne ?_, g4, g5⟩
    obtain ⟨l1, e1⟩ := List.getElem?_eq_some_iff.mp g1
    obtain ⟨l2, e2⟩ := List.getElem?_eq_some_iff.mp h1
    have a1 : (ρ.map (·.2))[j]'(by rw [List.length_map]; exact l1) = (ρ.map (·.2))[i]'(by rw [List.length_map]; exact l2) := by rw [List.getElem_map, List.getElem_map, e1, e2]; exact z
    exact (List.getElem_inj M.nd).mp a1
theorem s_sat {x c : C} {n : Nat} (I : SndE B P w ck) (KO : KOk B.K) (hP : P = B.w.params) (hc : ckS B.K ck env.scope a.names st (.sat x n c) = true) (h : stepS w d (.sat x n c) σ Kf) (C : Ct B a env A d im) (S : St P a ρ im σ s) (q : KQf P a ρ im Kf Qf) (qe : KE P a ρ im Kf E) :
    wpAny (model B.prog B.w) A (exec st env) Qf E s := by
  subst hP
  dsimp only [ckS] at hc
  refine onAsg_e hc fun t e0 pos hc1 es => ?_
  refine onAttr_e hc1 fun o y py hc2 et => ?_
  clear hc hc1
  have hc := hc2
  clear hc2
  subst et; subst es
  · refine and4 hc fun h0 h1 h2 h3 => ?_
    have hy := eq_of_beq h0
    refine plainObj_wpAny_Assign_Attribute (I h2 h C S (fun ρ1 im1 σ1 p v s1 x1 k1 r1 S1 => I h3 (bkd k1) (C.up x1) S1 (fun ρ2 im2 σ2 po vo s2 x2 k2 r2 S2 => ?_) fun _ _ _ _ _ _ x k S' => qe _ _ _ _ _ _ (x1.trans x) k S') qe) (swaps_of h1 _ _ _)
    have k2 := bkd k2
    cases po <;> first | exact (show False from k2).elim | skip
    rename_i i _
    obtain ⟨hs, k2⟩ := obD_e k2
    obtain ⟨f, hf, k2⟩ := optK_e k2
    obtain ⟨m, mu, R, M⟩ := S2
    obtain ⟨Y, D, rfl, z1⟩ := r2
    obtain ⟨Y', D', es, vs, g1, g2, g3, g4, g5⟩ := M.objs i f hf
    rw [z1] at g1; cases g1
    have ht := (att_of KO.ta hy).2
    have C2 := (C.up x1).up x2
    have rv := r1.up x2
    have len := g4.len
    cases hb : Nat.blt n f.length with
    | true =>
      rw [hb] at k2
      have lt : n < f.length := Nat.blt_eq.mp hb
      have nd := tok_nd.sublist (List.take_sublist f.length tokNames)
      obtain ⟨u, e1, _⟩ := g5.at (List.getElem?_eq_getElem lt)
      obtain ⟨E1, an⟩ := g4.put nd (PyData.keyHash B.w.params y) (.str y (s2.toks + 1)) v (take_at hy lt)
      have le := E1.len.1.trans len.1.symm
      obtain ⟨mu', U, kp⟩ := updM (o' := dictOf (putL y (PyData.keyHash B.w.params y) (.str y (s2.toks + 1)) v es) (putL y (PyData.keyHash B.w.params y) (.str y (s2.toks + 1)) v es).length) g3
      refine set_i R C2.S (instAt R g2 g3) rfl KO.ts KO.tp ht KO.td (by rw [g4.get nd (take_at hy lt) e1]; rfl) (congrArg (Prod.mk _) ((if_pos an).trans le.symm)) U (by rw [E1.len.1, List.length_take]; exact Nat.le_trans (Nat.min_le_right _ _) (by decide)) fun s' R' => ?_
      refine q _ _ _ .next _ _ (x1.trans x2) k2 rfl ⟨m, mu', R', ?_⟩
      exact M.setO R hs z1 g2 g3 U kp (by rw [lset_len]; exact E1) (g5.set rv n)
    | false =>
      rw [hb] at k2
      replace k2 := obD_e k2
      obtain ⟨rfl, k2⟩ := k2
      replace k2 := (obD_e k2).2
      obtain ⟨nc, tk⟩ := take_new tok_nd hy
      have E1 := g4.new (u := s2.toks + 1) (v := v) nc
      rw [← tk] at E1
      have le : (putL y (PyData.keyHash B.w.params y) (.str y (s2.toks + 1)) v es).length = es.length + 1 := by rw [E1.len.1, tk, List.length_append, len.1]; rfl
      obtain ⟨mu', U, kp⟩ := updM (o' := dictOf (putL y (PyData.keyHash B.w.params y) (.str y (s2.toks + 1)) v es) (es.length + 1)) g3
      refine set_i R C2.S (instAt R g2 g3) rfl KO.ts KO.tp ht KO.td (by rw [g4.miss nc]; rfl) (congrArg (Prod.mk _) (if_neg (by rw [(g4.no nc).1]; decide))) U (by rw [E1.len.1, List.length_take]; exact Nat.le_trans (Nat.min_le_right _ _) (by decide)) fun s' R' => ?_
      refine q _ _ _ .next _ _ (x1.trans x2) k2 rfl ⟨m, mu', R', ?_⟩
      rw [← le] at U
      exact M.setO R hs z1 g2 g3 U kp (by rw [List.length_append]; exact E1) (g5.app (.cons rv .nil))
end Mine
end

noncomputable section
open PySem PySem.W PySem.Calls PyProof.Rows PySem.SeqAt
set_option maxRecDepth 100000
namespace Mine
variable {B : Base} {P : Params} {a : Ac} {ρ ρ' ρ'' : List (Addr × Addr)} {im im' im'' : Im} {σ σ' : Sg} {m m' : Vars} {mu mu' : Im} {s s₀ s' : Shared} {env : Env} {d : Md} {A A' : Around} {E : Value → Shared → Prop} {Q : Value → Shared → Prop}
  {w : Wd} {ck : Ck} {e : Expr} {K : Kt PV}
variable {st : Stmt} {Kf : Kt Fl} {Qf : Flow → Shared → Prop}
/-- the own exception's class -/
inductive ExcC (K : Frag) : Prop
  | mk : ∀ nm q N oN bs sn sub ab col dd k0 k1 k2 k3 k5, K.lookup 41 = some (excClassObj nm q 41 N bs [.type "Exception", .type "BaseException", .type "object"] true sn sub ab col dd k0 k1 k2 k3 k5 "Exception.__new__") → K.lookup N = some oN → keysStr oN = true → nsIn K N "__init__" = some (some (.ref 38)) → ExcC K
structure ExcK (K : Frag) : Prop where
  cls : ExcC K
  fn : typeIn K (.ref 38) = some (.type "function")
theorem vmap_del (m : Vars) {x n : Str} {u : Value} (h : vmap (m.filter fun p => !(p.1 == n)) x = some u) : x ≠ n ∧ vmap m x = some u := by
  induction m with
  | nil => cases h
  | cons p r ih =>
    unfold vmap at h ih ⊢
    rw [List.filter_cons] at h
    by_cases hp : p.1 = n
    · rw [if_neg (by rw [beq_iff_eq.mpr hp]; decide)] at h
      obtain ⟨h1, h2⟩ := ih h
      refine ⟨h1, ?_⟩
      rw [List.lookup_cons, beq_eq_false_iff_ne.mpr fun z => h1 (z.trans hp)]
      exact h2
    · rw [if_pos (by rw [beq_eq_false_iff_ne.mpr hp]; rfl), List.lookup_cons] at h
      rw [List.lookup_cons]
      split at h
      · rename_i z; exact ⟨fun q => hp ((eq_of_beq z).symm.trans q), h⟩
      · exact ih h
theorem vmap_keep (m : Vars) {x n : Str} {u : Value} (ne : x ≠ n) (h : vmap m x = some u) : vmap (m.filter fun p => !(p.1 == n)) x = some u := by
  induction m with
  | nil => cases h
  | cons p r ih =>
    unfold vmap at h ih ⊢
    rw [List.lookup_cons] at h
    rw [List.filter_cons]
    split at h
    · rename_i z
      have e := eq_of_beq z
      rw [if_pos (by rw [beq_eq_false_iff_ne.mpr fun q => ne (e.trans q)]; rfl), List.lookup_cons, z]
      exact h
    · rename_i z
      split
      · rw [List.lookup_cons, z]; exact ih h
      · exact ih h
theorem StM.gone (S : StM P a ρ im σ m mu) {x : Str} {i : Nat} (nd : a.names.Nodup) (hx : a.names[i]? = some x) (ha : ∀ j D l, σ.acc = some (j, D, l) → j ≠ i) (hs : σ.self = none ∨ i ≠ 0) :
    StM P a ρ im { σ with vars := lset σ.vars i none } (m.filter fun p => !(p.1 == x)) mu :=
  have lo : ∀ {y v}, Loc a m mu y v → y ≠ x → Loc a (m.filter fun p => !(p.1 == x)) mu y v := fun h ne => h.imp (fun h => ⟨h.1, vmap_keep _ ne h.2⟩) id
  { vars := fun j v e => by
      obtain ⟨ne, e⟩ := lset_none e
      obtain ⟨y, v', h1, h2, h3⟩ := S.vars j v e
      exact ⟨y, v', h1, lo h2 (names_ne nd h1 hx ne), h3⟩
    acc := fun j D l e => let ⟨y, o, vs, h1, h2, h3, h4, h5⟩ := S.acc j D l e; ⟨y, o, vs, h1, lo h2 (names_ne nd h1 hx (ha j D l e)), h3, h4, h5⟩
    self := fun f wo e => by
      obtain ⟨y, dx, c0, c2, c3, c4, h1, h2, h3, h4, h5⟩ := S.self f wo e
      exact ⟨y, dx, c0, c2, c3, c4, h1, lo h2 (names_ne nd h1 hx (hs.resolve_left (by rw [e]; exact fun z => nomatch z)).symm), h3, h4, h5⟩
    objs := S.objs
    len := S.len
    nd := S.nd
    nw := S.nw
    cel := S.cel }
/-- a handler's name goes -/
theorem name_goes {x : Str} {i : Nat} {pos : Pos} {Q : Unit → Shared → Prop} (hk : slotIs env.scope a.names x i = true) (N : EnvOk a env) (S : St P a ρ im σ s) (ok : asgOk σ i = true) (q : ∀ s', St P a ρ im { σ with vars := lset σ.vars i none } s' → Q () s') :
    wpAny (model B.prog B.w) A (do bindName env x .none; unbindBehindTheSuite env x pos) Q E s := by
  obtain ⟨m, mu, R, M⟩ := S
  obtain ⟨h1, h2⟩ := asg_e ok
  obtain ⟨hx, hl, _⟩ := slot_of hk
  obtain ⟨f, n1, n2⟩ := R.H.ns
  refine wpAny_nameGoes_keeps hl (N.L ▸ n1) (by rw [N.kind]; rfl) fun h' v hn hs => ?_
  refine q _ ⟨_, mu, R.of (R.H.setNs ⟨_, N.L ▸ hn, fun y u e => ?_⟩ (N.L ▸ hs) fun _ => ns_notFields (N.L ▸ hn)), M.gone N.nd hx h1 h2⟩
  obtain ⟨g1, g2⟩ := vmap_del m e
  exact (if_neg g1).trans (n2 _ _ g2)
/-- in a handler of an own exception -/
theorem Ct.inP {v : Value} (C : Ct B a env A d im) : Ct B a env (A.mark (some v)) { d with h := true, x := false } im :=
  ⟨C.N, ⟨C.O.fr, C.O.dep, C.O.un, fun z => nomatch z⟩, C.S, C.EK, (fun z => nomatch z), C.dd, C.fe, C.ro, C.cd⟩
theorem s_tryPe {x y : List D} {i : Nat} (Is : SndSs B P w ck) (EO : ExcK B.K) (hc : ckS B.K ck env.scope a.names st (.tryPe x i y) = true) (h : stepS w d (.tryPe x i y) σ Kf) (C : Ct B a env A d im) (S : St P a ρ im σ s) (q : KQf P a ρ im Kf Qf) (qe : KE P a ρ im Kf E) :
    wpAny (model B.prog B.w) A (exec st env) Qf E s := by
  dsimp only [ckS] at hc
  refine onTry_e hc fun x t n' b bs hp pos hc1 es => ?_
  refine onSome_e hc1 fun n hc2 en => ?_
  refine onSome_e hc2 fun t' hc3 et => ?_
  refine onName_e hc3 fun y py hc4 ey => ?_
  clear hc hc1 hc2 hc3
  have hc := hc4
  clear hc4
  subst ey; subst et; subst en; subst es
  · refine and4 hc fun h1 h2 h3 h4 => ?_
    obtain ⟨dc, h⟩ := obD_e h
    obtain ⟨l', F, hl, hF⟩ := C.fe dc
    refine wpAny_Try_except (Is h1 h C S (fun ρ1 im1 σ1 f fl s1 x1 k1 F1 S1 => ?_) fun ρ1 im1 σ1 ex v s1 x1 k1 SX => ?_)
    · cases f with
      | next => cases (show fl = .next from F1); exact wpAny_execs_nil (q _ _ _ .next _ _ x1 k1 rfl S1)
      | brk => cases (show fl = .brk from F1); exact q _ _ _ .brk _ _ x1 k1 rfl S1
      | ret p => obtain ⟨v, rfl, r⟩ := F1; exact q _ _ _ (.ret p) _ _ x1 k1 ⟨v, rfl, r⟩ S1
    · cases ex with
      | ix => exact k1.elim
      | pe f w =>
        obtain ⟨hs, k1⟩ := obD_e k1
        obtain ⟨ok, k1⟩ := obD_e k1
        obtain ⟨m, mu, R, M, e, dx, t, tb, c2, c3, c4, vs, rfl, he, htb, hd, ht, hv⟩ := SX
        have hA : A.frames = some (env :: l') := hl ▸ C.O.fr
        rw [hl] at R
        refine note_any R he htb hA hF fun T oT r s2 ne hT kp R2 => flight_r (f := none) R2 hT fun oT2 s3 hT2 R3 => ?_
        refine wpAny_handleBy_cons (codeAny_handlers_test (glob_e h3 (C.up x1).inP (P := P) (ρ := ρ1) (σ := σ1) ⟨m, _, hl ▸ R3, M.fl hs fun p hp nf => .tail _ (.tail _ (kp p hp nf))⟩ ?_)) (by intro q; cases q)
        obtain ⟨nm, qn, N, oN, bs, sn, sub, ab, col, dd, k0, k1', k2, k3, k5, hC, _⟩ := EO.cls
        obtain ⟨hh, g, dr, tk, os⟩ := s3
        refine wpAny_excMatches_sub_self (C := 41) (R3.kin C.S _ _ hC) (R3.H.hmu _ (.tail _ (.head _))) rfl rfl (codeAny_handlers_suite_as ?_)
        refine flight_r (f := none) R3 hT2 fun oT3 s4 hT3 R4 => ?_
        have M4 : StM P a ρ1 im1 σ1 m ((T, oT3) :: r) := M.fl hs fun p hp nf => .tail _ (kp p hp nf)
        have R5 : Run a.hb (env :: l') a.fr a.V a.s₀ a.L m ((e, exO (.ref 41) (some dx) (.ref t) (.ref T) c2 c3 c4) :: (T, oT3) :: r) im1 s4 := ⟨R4.H.perm (List.Perm.swap _ _ _), R4.oth⟩
        have R6 := hl ▸ R5.fix
        have x2 : Ext ρ1 ρ1 im1 ((e, exO (.ref 41) (some dx) (.ref t) (.ref T) c2 c3 c4) :: im1) := .one
        have M6 := M4.up x2 (NewI.ofM (hl ▸ R5) (.head _)) fun _ z => z
        have rv : Rep P ρ1 ((e, exO (.ref 41) (some dx) (.ref t) (.ref T) c2 c3 c4) :: im1) (.ref e) (.err f w) := ⟨vs, ⟨e, rfl, ⟨dx, t, .ref T, c2, c3, c4, .head _, hd.imp fun _ h => ⟨.tail _ h.1, h.2⟩, ht.imp fun _ h => .tail _ h⟩⟩, Reps.up x2 hv⟩
        refine st_put h4 C.N ⟨m, _, R6, M6⟩ ok rv fun s5 S5 => ?_
        refine Is h2 k1 (C.up (x1.trans x2)).inP S5 (fun ρ' im' σ' f fl s' X k F S => ?_) fun ρ' im' σ' x v s' X k SX => k.elim
        exact name_goes h4 C.N S (obD_e k).1 fun s'' S' => q _ _ _ f _ _ ((x1.trans x2).trans X) (obD_e k).2 F S'
end Mine
end

noncomputable section
open PySem PySem.W PySem.Calls PyProof.Rows PySem.SeqAt
set_option maxRecDepth 100000
namespace Mine
variable {B : Base} {P : Params} {a : Ac} {ρ ρ' ρ'' : List (Addr × Addr)} {im im' im'' : Im} {σ σ' : Sg} {m m' : Vars} {mu mu' : Im} {s s₀ s' : Shared} {env : Env} {d : Md} {A A' : Around} {E : Value → Shared → Prop} {Q : Value → Shared → Prop}
  {w : Wd} {ck : Ck} {e : Expr} {K : Kt PV}
variable {st : Stmt} {Kf : Kt Fl} {Qf : Flow → Shared → Prop}
theorem HdOk.of (C : Ct B a env A d im) (h : (d.x || !d.h) = true) : HdOk A im := by
  cases z : d.x with
  | true => exact C.hx z
  | false =>
    rw [z, Bool.false_or, Bool.not_eq_true'] at h
    exact .inl (C.O.hn h)
section
variable {M : Model} {hb : Heap}
theorem notType {v : Addr} {o : Obj} {vs : Array Value} {Q : Bool → Shared → Prop} (ho : s.heap.get? v = some o) (hd : o.data = .fields vs) (q : Q false s) : wpAny M A (isType (.ref v)) Q E s := by
  simp only [isType, loadHead]
  refine wpAny_bind (wpAny_loadPart ho ?_)
  rw [hd]
  exact wpAny_pure q
inductive RaiseI (A : Around) (hb : Heap) (E : Value → Shared → Prop) (v : Value) (s₁ : Shared) : Prop
  | mk : ∀ l fr V s₀ L m e dx od im mu a0 c2 c3 c4, v = .ref e → HdOk A im → Run hb l fr V s₀ L m ((e, exO (.ref 41) (some dx) a0 .none c2 c3 c4) :: mu) im s₁ → s₁.heap.get? dx = some od →
      (∀ c2 s', Run hb l fr V s₀ L m ((e, exO (.ref 41) (some dx) a0 .none c2 .none (.bool true)) :: mu) im s' → E (.ref e) s') → RaiseI A hb E v s₁
/-- raise of a new own exception, from None -/
theorem raise_new {K : Frag} {p : Program} {loose : List Str} {mg mb : Str → Option Value} {prog : Program} {w : World} {x c : Sem Value} (hc : ∀ (Q : Value → Shared → Prop) s, Q .none s → wpAny (model prog w) A c Q E s) (S : Sta K p loose mg mb hb) (EK : ErrK K) (EO : ExcK K)
    (h : wpAny (model prog w) A x (fun v s₁ => RaiseI A hb E v s₁) E s) :
    wpAny (model prog w) A (raiseStmt env (some x) (some c)) Qf E s := by
  unfold raiseStmt
  dsimp only
  refine wpAny_bind (wpAny_mono h (fun v s₁ h₁ => ?_) fun _ _ x => x)
  obtain ⟨l, fr, V, s₀, L, m, e, dx, od, im, mu, a0, c2, c3, c4, rfl, H, R, hd, k⟩ := h₁
  have he := R.H.hmu _ (.head _)
  have I : InstAt s₁.heap e (exO (.ref 41) (some dx) a0 .none c2 c3 c4) 41 (some od) := ⟨he, rfl, rfl, hd⟩
  refine wpAny_bind (wpAny_holding (hc _ _ (wpAny_bind (wpAny_pure ?_))))
  refine wpAny_bind (wpAny_holding ?_)
  unfold excFromValue isExcClass
  refine wpAny_bind (wpAny_bind (notType he rfl ?_))
  simp only [Bool.false_eq_true, if_false]
  refine wpAny_pure ?_
  simp only [Bool.false_eq_true, if_false]
  have sub : Looks (model prog w) s₁.heap (isInstance (.ref e) (.type "BaseException")) true := I.type.andThen (looks_mroIn (R.kin S) EK.mro)
  refine wpAny_bind (sub.here ?_)
  simp only [if_true]
  refine wpAny_pure ?_
  rw [if_pos (show (Value.none == Value.none) = true from rfl)]
  refine wpAny_bind (wpAny_pure ?_)
  have D1 := Heap.get?_update_self (Obj.mapFields (·.setIfInBounds 3 Value.none)) he rfl
  have R1 : Run hb l fr V s₀ L m ((e, exO (.ref 41) (some dx) a0 .none c2 .none c4) :: mu) im { s₁ with heap := s₁.heap.update e (Obj.mapFields (·.setIfInBounds 3 Value.none)) } := ⟨R.H.upd .head (Heap.SameBut.update _ e _) D1, R.oth⟩
  refine wpAny_bind (wpAny_setField he rfl (by simp) ?_)
  have he1 := R1.H.hmu _ (.head _)
  have D2 := Heap.get?_update_self (Obj.mapFields (·.setIfInBounds 4 (Value.bool true))) he1 rfl
  have R2 : Run hb l fr V s₀ L m ((e, exO (.ref 41) (some dx) a0 .none c2 .none (.bool true)) :: mu) im { s₁ with heap := (s₁.heap.update e (Obj.mapFields (·.setIfInBounds 3 Value.none))).update e (Obj.mapFields (·.setIfInBounds 4 (Value.bool true))) } := ⟨R1.H.upd .head (Heap.SameBut.update _ e _) D2, R.oth⟩
  refine wpAny_bind (wpAny_setField he1 rfl (by simp) ?_)
  have he2 := R2.H.hmu _ (.head _)
  refine wpAny_bind (notType he2 rfl ?_)
  simp only [Bool.false_eq_true, if_false]
  obtain ⟨nm, qn, N, oN, bs, sn, sub', ab, col, dd, k0, k1', k2, k3, k5, hC, _⟩ := EO.cls
  have HC := R2.kin S _ _ hC
  unfold raisedInstance
  refine wpAny_bind (wpAny_bind ?_)
  have L1 : Looks (model prog w) (Shared.heap { s₁ with heap := (s₁.heap.update e (Obj.mapFields (·.setIfInBounds 3 Value.none))).update e (Obj.mapFields (·.setIfInBounds 4 (Value.bool true))) }) (typeOf (.ref e)) (.ref 41) := (Looks.ld he2).andThen .now
  have L2 : Looks (model prog w) (Shared.heap { s₁ with heap := (s₁.heap.update e (Obj.mapFields (·.setIfInBounds 3 Value.none))).update e (Obj.mapFields (·.setIfInBounds 4 (Value.bool true))) }) (typeOf (.ref 41)) (.type "type") := (Looks.ld HC).andThen .now
  refine L1.here (wpAny_bind (L2.here ?_))
  rw [if_pos (show (Value.type "type" == Value.type "type") = true from by decide)]
  refine wpAny_pure ?_
  refine wpAny_bind ?_
  unfold setFlight
  refine wpAny_bind (wpAny_field he2 rfl (x := .none) rfl ?_)
  rw [if_neg (by decide)]
  exact wpAny_pure (raiseNew_g H R2 k)
end
theorem s_raise {l : List C} (I : SndEs B P w ck) (SI : SndI B P w) (EO : ExcK B.K) (hc : ckS B.K ck env.scope a.names st (.raise l) = true) (h : stepS w d (.raise l) σ Kf) (C : Ct B a env A d im) (S : St P a ρ im σ s) (qe : KE P a ρ im Kf E) :
    wpAny (model B.prog B.w) A (exec st env) Qf E s := by
  dsimp only [ckS] at hc
  refine onRaise_e hc fun e c pos hc1 es => ?_
  refine onConst_e hc1 fun cn n p hc2 ec => ?_
  have hn := (Bool.and_eq_true _ _).mp hc2
  refine onCall_e hn.2 fun f el ks p2 hc3 ee => ?_
  have hk := (Bool.and_eq_true _ _).mp hc3
  refine onName_e hk.2 fun y py hc4 ef => ?_
  cases cNone_e hn.1
  cases List.isEmpty_iff.mp hk.1
  clear hc hc1 hc2 hc3
  have hc := hc4
  clear hc4
  subst ef; subst ee; subst ec; subst es
  · refine and4 hc fun h0 h1 h2 h3 => ?_
    obtain ⟨hx, h⟩ := obD_e h
    rw [arm_exec_Raise]
    refine wpAny_bind (wpAny_standAt (raise_new (fun Q s hq => wpAny_bind (wpAny_Constant_none (wpAny_bind (wpAny_standAt (wpAny_pure hq))))) C.S C.EK EO ?_))
    refine wpAny_bind (wpAny_Call_Name_kw (glob_e h0 C S (callW h2 h1 (I h3 h2 h C S (fun ρ1 im1 σ1 p v s1 x1 k1 r1 S1 => ⟨S1.kin (C.up x1), ?_⟩) qe))))
    refine SI (Call_e (bkd k1)) (C.up x1) S1 r1 fun ρ' im' o f x m mu s' e dx t c2 c3 c4 vs X k M g1 g2 g3 R => wpAny_bind (wpAny_standAt (wpAny_pure ?_))
    obtain ⟨es, g1, g1'⟩ := g1
    refine ⟨_, _, _, _, _, m, e, dx, _, im', mu, _, _, _, _, rfl, HdOk.of ((C.up x1).up X) hx, R, R.H.him _ g1, fun c2 s' R' => ?_⟩
    exact qe _ _ _ (.pe f x) _ s' (x1.trans X) k ⟨m, _, R', M.up .refl .refl fun _ z => .tail _ z, e, dx, t, _, c2, _, _, vs, rfl, .head _, .inl rfl, ⟨es, g1, g1'⟩, g2, g3⟩
end Mine
end

noncomputable section
open PySem PySem.W PySem.Calls PyProof.Rows PySem.SeqAt
set_option maxRecDepth 100000
namespace Mine
variable {B : Base} {P : Params} {a : Ac} {ρ ρ' ρ'' : List (Addr × Addr)} {im im' im'' : Im} {σ σ' : Sg} {m m' : Vars} {mu mu' : Im} {s s₀ s' : Shared} {env : Env} {d : Md} {A A' : Around} {E : Value → Shared → Prop} {Q : Value → Shared → Prop}
  {w : Wd} {ck : Ck} {e : Expr} {K : Kt PV}
variable {st : Stmt} {Kf : Kt Fl} {Qf : Flow → Shared → Prop}
theorem s_ext {i : Nat} {l : List C} (I : SndEs B P w ck) (hc : ckS B.K ck env.scope a.names st (.ext i l) = true) (h : stepS w d (.ext i l) σ Kf) (C : Ct B a env A d im) (S : St P a ρ im σ s) (q : KQf P a ρ im Kf Qf) (qe : KE P a ρ im Kf E) :
    wpAny (model B.prog B.w) A (exec st env) Qf E s :=
  (Bool.false_ne_true hc).elim
end Mine
end

noncomputable section
open PySem PySem.W PySem.Calls PyProof.Rows PySem.SeqAt
set_option maxRecDepth 100000
namespace Mine
variable {B : Base} {P : Params} {a : Ac} {ρ ρ' ρ'' : List (Addr × Addr)} {im im' im'' : Im} {σ σ' : Sg} {m m' : Vars} {mu mu' : Im} {s s₀ s' : Shared} {env : Env} {d : Md} {A A' : Around} {E : Value → Shared → Prop} {Q : Value → Shared → Prop}
  {w : Wd} {ck : Ck} {e : Expr} {K : Kt PV}
variable {st : Stmt} {Kf : Kt Fl} {Qf : Flow → Shared → Prop}
/-- one mutable object changes -/
theorem StM.chg (M : StM P a ρ im σ m mu) (R : Run a.hb a.l a.fr a.V a.s₀ a.L m mu im s) {D : Addr} {o : Obj} (h : (D, o) ∈ mu) (hc : ∀ v, o.data ≠ .cell v) (hl : ∀ vs n, o ≠ listO vs n) (hr : ∀ p ∈ ρ, p.2 ≠ D) (k : ∀ q ∈ mu, q.1 ≠ D → q ∈ mu') :
    StM P a ρ im { σ with self := none } m mu' := by
  have kp : ∀ p ∈ mu, p.2 ≠ o → p ∈ mu' := fun p hp n => k p hp fun z => n (congrArg Prod.snd (R.fn hp h z))
  have lo : ∀ {x u}, Loc a m mu x u → Loc a m mu' x u := fun h => h.imp id fun ⟨c, e, z⟩ => ⟨c, e, z.to fun _ h d => kp _ h fun z => hc _ ((congrArg Obj.data z).symm.trans d)⟩
  exact { vars := fun i v e => let ⟨x, u, h1, h2, h3⟩ := M.vars i v e; ⟨x, u, h1, lo h2, h3⟩
          acc := fun i D l e => let ⟨x, o', vs, h1, h2, h3, h4, h5⟩ := M.acc i D l e; ⟨x, o', vs, h1, lo h2, kp _ h3 (fun z => let ⟨n, q⟩ := h4.ex; hl vs n (z.symm.trans q)), h4, h5⟩
          self := fun f wo e => nomatch e
          objs := fun i f e => let ⟨x, D', es, vs, h1, h2, h3, h4, h5⟩ := M.objs i f e; ⟨x, D', es, vs, h1, h2, k _ h3 (hr _ (List.mem_of_getElem? h1)), h4, h5⟩
          len := M.len
          nd := M.nd
          nw := M.nw
          cel := fun r x c e => let ⟨v, z⟩ := M.cel r x c e; ⟨v, z.to fun _ h d => kp _ h fun z => hc _ ((congrArg Obj.data z).symm.trans d)⟩ }
theorem StM.setself (M : StM P a ρ im { σ with self := none } m mu) {x : Str} {dx : Option Addr} {c0 : Addr} {c2 c3 c4 : Value} {f : List PV} {wo : Option (List Nat)} (h1 : a.names[0]? = some x) (h2 : Loc a m mu x (.ref a.me)) (h3 : (a.me, exO (.ref 41) dx (.ref c0) .none c2 c3 c4) ∈ mu)
    (h4 : ∀ w, wo = some w → ∃ u, (c0, tupO [.str ⟨w.toArray⟩ u]) ∈ mu) (h5 : SelfD P ρ im mu dx f) : StM P a ρ im { σ with self := some (f, wo) } m mu :=
  ⟨M.vars, M.acc, fun f' wo' e => by cases e; exact ⟨x, dx, c0, c2, c3, c4, h1, h2, h3, h4, h5⟩, M.objs, M.len, M.nd, M.nw, M.cel⟩
theorem StM.dictNe (M : StM P a ρ im σ m mu) (R : Run a.hb a.l a.fr a.V a.s₀ a.L m mu im s) {D : Addr} {o : Obj} (h : (D, o) ∈ mu) (nd : ∀ es n, o ≠ dictOf es n) : ∀ p ∈ ρ, p.2 ≠ D := M.offO R (fun _ h => h) h nd
theorem StM.addM (M : StM P a ρ im σ m mu) (p : Addr × Obj) : StM P a ρ im σ m (p :: mu) := M.up .refl .refl fun _ z => .tail _ z
/-- an attribute of the error under construction -/
theorem s_sset {n : Nat} {c : C} (I : SndE B P w ck) (KO : KOk B.K) (hP : P = B.w.params) (hc : ckS B.K ck env.scope a.names st (.sset n c) = true) (h : stepS w d (.sset n c) σ Kf) (C : Ct B a env A d im) (S : St P a ρ im σ s) (q : KQf P a ρ im Kf Qf) (qe : KE P a ρ im Kf E) :
    wpAny (model B.prog B.w) A (exec st env) Qf E s := by
  subst hP
  dsimp only [ckS] at hc
  refine onAsg_e hc fun t e0 pos hc1 es => ?_
  refine onAttr_e hc1 fun o y py hc2 et => ?_
  refine onName_e hc2 fun x px hc3 eo => ?_
  clear hc hc1 hc2
  have hc := hc3
  clear hc3
  subst eo; subst et; subst es
  · refine and4 hc fun h0 hy h1 h2 => ?_
    have hy := eq_of_beq hy
    obtain ⟨hx, hl, hd⟩ := slot_of h0
    refine plainObj_wpAny_Assign_Attribute (I h2 h C S (fun ρ1 im1 σ1 p v s1 x1 k1 r1 S1 => ?_) qe) (swaps_of h1 _ _ _)
    have k1 := bkd k1
    split at k1
    · rename_i f wo hs
      replace k1 := obD_e k1
      obtain ⟨rfl, k1⟩ := k1
      obtain ⟨n5, k1⟩ := obD_e k1
      obtain ⟨m, mu, R, M⟩ := S1
      obtain ⟨x', dx, c0, c2, c3, c4, g1, g2, g3, g4, g5⟩ := M.self _ _ hs
      rw [hx] at g1; cases g1
      rcases g2 with ⟨g2', g2⟩ | ⟨c, g2, _⟩
      · obtain ⟨fn, f1, f2⟩ := R.H.ns
        refine wpAny_Name (wpAny_loadName_local C.N.kind hl (C.N.L ▸ f1) (f2 _ _ g2) ?_) hd
        have ht := (att_of KO.ea hy).2
        obtain ⟨nc, tk⟩ := take_new err_nd hy
        have C1 := C.up x1
        have gT : ∀ {mu' : Im} {D : Addr} {o : Obj}, (∀ q ∈ mu, q.1 ≠ D → q ∈ mu') → (D, o) ∈ mu → (∀ w u, o ≠ tupO [.str w u]) → ∀ w, wo = some w → ∃ u, (c0, tupO [.str ⟨w.toArray⟩ u]) ∈ mu' := fun k hD no w e => let ⟨u, z⟩ := g4 w e; ⟨u, k _ z fun z' => no _ _ (congrArg Prod.snd (R.fn hD z z'.symm))⟩
        cases g5 with
        | nil =>
          obtain ⟨mu', U, kp⟩ := updM (o' := exO (.ref 41) (some s1.heap.objs.size) (.ref c0) .none c2 c3 c4) g3
          refine set_e0 R C1.S KO.es KO.eo ht KO.ed U fun u s' R' => ?_
          have dne := M.dictNe R g3 fun _ _ z => nomatch congrArg Obj.data z
          have M2 := ((M.chg R g3 (fun _ z => nomatch z) (fun _ _ z => nomatch congrArg Obj.data z) dne kp).addM (s1.heap.objs.size, dictOf [⟨PyData.keyHash B.w.params y, .str y u, v⟩] 1))
          have fresh : ∀ p ∈ ρ1, p.2 ≠ s1.heap.objs.size := fun p hp z => by
            obtain ⟨i, lt, e⟩ := List.getElem_of_mem hp
            have lt' : i < σ1.objs.length := by rw [M.len]; exact lt
            obtain ⟨_, D, es, vs, k1, _, k3, _, _⟩ := M.objs i _ (List.getElem?_eq_getElem lt')
            rw [List.getElem?_eq_getElem lt, e] at k1
            cases k1
            have := R.H.hmu _ k3
            dsimp only at this z
            rw [z, get_size] at this; cases this
          refine q _ _ _ .next _ _ x1 k1 rfl ⟨m, _, R', M2.setself (dx := some s1.heap.objs.size) (c0 := c0) (c2 := c2) (c3 := c3) (c4 := c4) hx (.inl ⟨g2', g2⟩) (.tail _ U.mem') (fun w e => let ⟨u, z⟩ := gT kp g3 (fun _ _ z => nomatch congrArg Obj.data z) w e; ⟨u, .tail _ z⟩) ?_⟩
          refine .cons (es := [⟨PyData.keyHash B.w.params y, .str y u, v⟩]) (vs := [v]) (.head _) fresh ?_ (.cons r1 .nil)
          show Ents _ (errNames.take (([] : List PV).length + 1)) _ _
          rw [tk]
          exact .cons .nil
        | @cons dd es vs _ d1 d0 d2 d3 =>
          have len := d2.len
          have E1 := d2.new (u := s1.toks + 1) (v := v) nc
          rw [← tk] at E1
          have le : (putL y (PyData.keyHash B.w.params y) (.str y (s1.toks + 1)) v es).length = es.length + 1 := by rw [E1.len.1, tk, List.length_append, len.1]; rfl
          obtain ⟨mu', U, kp⟩ := updM (o' := dictOf (putL y (PyData.keyHash B.w.params y) (.str y (s1.toks + 1)) v es) (es.length + 1)) d1
          refine set_e R C1.S g3 d1 KO.es KO.eo ht KO.ed (by rw [d2.miss nc]; rfl) (congrArg (Prod.mk _) (if_neg (by rw [(d2.no nc).1]; decide))) U (by rw [E1.len.1, List.length_take]; exact Nat.le_trans (Nat.min_le_right _ _) (by decide)) fun s' R' => ?_
          have M2 := M.chg R d1 (fun _ z => nomatch z) (fun _ _ z => nomatch congrArg Obj.data z) d0 kp
          have ne : a.me ≠ dd := fun z => nomatch congrArg Obj.data (congrArg Prod.snd (R.fn g3 d1 z))
          refine q _ _ _ .next _ _ x1 k1 rfl ⟨m, _, R', M2.setself (dx := some dd) (c0 := c0) (c2 := c2) (c3 := c3) (c4 := c4) hx (.inl ⟨g2', g2⟩) (kp _ g3 ne) (gT kp d1 (fun _ _ z => nomatch congrArg Obj.data z)) ?_⟩
          rw [← le] at U
          exact .cons U.mem' d0 (by rw [List.length_append]; exact E1) (Reps.app d3 (.cons r1 .nil))
      · rw [C.N.noc x hl] at g2; cases g2
    · exact k1.elim
end Mine
end

noncomputable section
open PySem PySem.W PySem.Calls PyProof.Rows PySem.SeqAt
set_option maxRecDepth 100000
namespace Mine
variable {B : Base} {P : Params} {a : Ac} {ρ ρ' ρ'' : List (Addr × Addr)} {im im' im'' : Im} {σ σ' : Sg} {m m' : Vars} {mu mu' : Im} {s s₀ s' : Shared} {env : Env} {d : Md} {A A' : Around} {E : Value → Shared → Prop} {Q : Value → Shared → Prop}
  {w : Wd} {ck : Ck} {e : Expr} {K : Kt PV}
variable {st : Stmt} {Kf : Kt Fl} {Qf : Flow → Shared → Prop}
noncomputable def supIs (f : Expr → Bool) (st : Stmt) : Bool := onExp st fun e => onCall e fun g es ks pos => ks.isEmpty && onAttr g fun o y ap => onCall o fun h as ks2 _ => as.isEmpty && (ks2.isEmpty && onName h fun x => onOne es fun e =>
    x == Str.ofString "super" && (y == Str.ofString "__init__" && (ap.endLine == pos.line && (noStar e && f e))))
noncomputable def supC (c : D) : Option C := match c with
  | .sup c => some c
  | _ => none
theorem supC_e {c : D} {c' : C} (h : supC c = some c') : c = .sup c' := by cases c <;> cases h; rfl
noncomputable def ckInit (w : Ck) (sc : Scope) (ns : List Str) : List Stmt → List D → Bool
  | e :: r, c :: q => (match supC c with
    | some c => r.isEmpty && (q.isEmpty && supIs (fun e => w.E sc ns e c) e)
    | none => w.S sc ns e c && ckInit w sc ns r q)
  | _, _ => false
/-- what super() needs -/
inductive SupAt (B : Base) (env : Env) (x0 : Str) : Prop
  | mk : ∀ q scope L f cda cc fd ar vs file tf oc ccl cl od cdd cld osl ccs csl cdD, (env = ksEnv q scope L f (.ref cda) cc) → (B.K.lookup f = some ⟨oc, od, .func fd, osl⟩) → ((fd.params.posonlyargs ++ fd.params.args).head? = some ar) → (ar.arg = x0) → (B.K.lookup cda = some ⟨ccl, cdd, .fields vs, ccs⟩) → (vs[2]? = some (.str file tf)) → (((B.prog.main.file : Str) == file) = true) → (B.K.lookup cc = some ⟨cl, cld, .cell (some (.ref 41)), csl⟩) → (clsIn B.K 41 = some cdD) → (mroIn B.K 41 (.ref 41) = some true) → (nsIn B.K mainGlobals "super" = some none) → (nsIn B.K cStatics "thirdparty.any" = some none) → (scope.names.lookup ("super" : Str) = some .globalImplicit) → (scope.names.lookup ("__class__" : Str) = some .free) → (scope.names.lookup x0 = some .local) → (scope.kind = .function) → ((B.prog.main.scope.names.lookup ("super" : Str)).isSome = false) → SupAt B env x0
theorem boot_super : bootBuiltins "super" = some (.type "super") := by first | boot_by_name | rfl | kernel_rfl
theorem meth_at {prog : Program} {w : World} {c : Code} {o e : Expr} {n : Str} {apos pos : Pos} {Q : Value → Shared → Prop} (he : noStar e = true) (hp : (apos.endLine == pos.line) = true)
    (h : PySem.wpAt (model prog w) A c (attributeBase o n env (eval o env)) (fun v s₁ => ∀ pl, wpAny (model prog w) A (getMethod v n pl) (fun fx s₂ => wpAny (model prog w) A (callWith pos fx.1 fx.2 (backTo pos (starEach [e] env)) []) Q E s₂) E s₁) E s) :
    PySem.wpAt (model prog w) A c (eval (.Call (.Attribute o n apos) [e] [] pos) env) Q E s := by
  have few : methodCallForm (([e] : List Expr).length + ([] : List Keyword).length) (backTo pos (starEach [e] env)) [] = true := by
    rw [star_cons he]; rfl
  have mp : methodCallPos true o env apos pos = pure pos := by unfold methodCallPos; rw [hp]; rfl
  show PySem.wpAt _ A c (attributeBase o n env (eval o env) >>= fun ov => standAt apos.atName >>= fun _ => methodCall o n apos pos env ov (([e] : List Expr).length + ([] : List Keyword).length) (backTo pos (starEach [e] env)) []) Q E s
  refine PySem.wpAt_bind (PySem.wpAt_mono h (fun v s₁ h₁ => PySem.wpAt_of_wpAny (wpAny_bind (wpAny_standAt ?_))) fun _ _ x => x)
  unfold methodCall
  rw [few]
  refine wpAny_bind (wpAny_holding (wpAny_mono (h₁ _) (fun fx s₂ h₂ => ?_) fun _ _ x => x))
  rw [mp]
  exact wpAny_bind (wpAny_pure h₂)
/-- super().__init__(words), the last statement -/
theorem sup_ok {c : C} {body : List Stmt} {x0 : Str} {Kf : Kt Fl} (I : SndE B P w ck) (KO : KOk B.K) (SU : SupAt B env x0) (hx0 : a.names[0]? = some x0) (hc : supIs (fun e => ck.E env.scope a.names e c) st = true) (h : stepS w d (.sup c) σ Kf) (C : Ct B a env A d im) (S : St P a ρ im σ s)
    (q : KQf P a ρ im Kf Qf) (qe : KE P a ρ im Kf E) : PySem.wpAt (model B.prog B.w) A (.func body env) (execs [st] env) Qf E s := by
  unfold supIs at hc
  refine onExp_e hc fun e0 pos' hc1 es => ?_
  refine onCall_e hc1 fun g el ks pos hc2 eg => ?_
  have hk := (Bool.and_eq_true _ _).mp hc2
  refine onAttr_e hk.2 fun o y ap hc3 eo => ?_
  refine onCall_e hc3 fun h' as ks2 p1 hc4 eh => ?_
  have hk2 := (Bool.and_eq_true _ _).mp hc4
  have hk3 := (Bool.and_eq_true _ _).mp hk2.2
  refine onName_e hk3.2 fun x p0 hc5 ex => ?_
  refine onOne_e hc5 fun e hc6 ee => ?_
  cases List.isEmpty_iff.mp hk.1
  cases List.isEmpty_iff.mp hk2.1
  cases List.isEmpty_iff.mp hk3.1
  clear hk hk2 hk3 hc hc1 hc2 hc3 hc4 hc5
  have hc := hc6
  clear hc6
  subst ee; subst ex; subst eh; subst eo; subst eg; subst es
  · refine and5 hc fun hx hy hp he hce => ?_
    cases eq_of_beq hx
    cases eq_of_beq hy
    refine ks_wpAt_execs_cons (ks_wpAt_Expr_any ?_ (inter_of C.N.kind) (swaps_of rfl _ _ _))
    refine meth_at he hp ?_
    obtain ⟨qn, scope, L, f, cda, cc, fd, ar, vs, file, tf, oc, ccl, cl, od, cdd, cld, osl, ccs, csl, cdD, rfl, u1, u2, rfl, u4, u5, u6, u7, u8, u9, u10, u11, u12, u13, u14, u15, u16⟩ := SU
    have hL : L = a.L := C.N.L
    subst hL
    obtain ⟨m, mu, R, M⟩ := id S
    obtain ⟨⟨f0, wo⟩, hs⟩ := Option.isSome_iff_exists.mp (obD_e h).1
    obtain ⟨x', dx, c0, c2, c3, c4, g1, g2, g3, g4, g5⟩ := M.self _ _ hs
    rw [hx0] at g1; cases g1
    have IA : ∃ odx, InstAt s.heap a.me (exO (.ref 41) dx (.ref c0) .none c2 c3 c4) 41 odx := by
      cases g5 with
      | nil => exact ⟨_, instE0 R g3⟩
      | cons d1 => exact ⟨_, instE R g3 d1⟩
    obtain ⟨odx, IA⟩ := IA
    rcases g2 with ⟨g2', g2⟩ | ⟨c', g2, _⟩
    · refine node_r R C.S u1 u2 g2 IA u4 u5 u6 u7 u8 u9 u10 (by decide +kernel) u12 u13 u14 u15 u16 boot_super fun so s1 n1 R1 pl => ?_
      have IA1 : ∃ odx, InstAt s1.heap a.me (exO (.ref 41) dx (.ref c0) .none c2 c3 c4) 41 odx := by
        cases g5 with
        | nil => exact ⟨_, instE0 R1 g3⟩
        | cons d1 => exact ⟨_, instE R1 g3 d1⟩
      obtain ⟨odx1, IA1⟩ := IA1
      refine superInit_get R1 C.S (.head _) IA1 u11 rfl KO.eo fun qq s2 n2 R2 => ?_
      have x2 : Ext ρ ρ im ((qq, mwObj "Exception.__init__" a.me) :: (so, ks_superObj 41 a.me 41) :: im) := ⟨fun _ _ e => e, fun _ e => .tail _ (.tail _ e)⟩
      have nw2 : NewI a im ((qq, mwObj "Exception.__init__" a.me) :: (so, ks_superObj 41 a.me 41) :: im) := fun p hp => by
        rcases List.mem_cons.mp hp with rfl | hp
        · exact .inr (R1.H.evo.fresh n2).symm
        · rcases List.mem_cons.mp hp with rfl | hp
          · exact .inr (R.H.evo.fresh n1).symm
          · exact .inl hp
      refine callWith_mw1 (id := "Exception.__init__") (x := a.me) (spl_cons he (I hce (obD_e h).2 (C.up x2) ⟨m, mu, R2, M.up x2 nw2 fun _ z => z⟩ (fun ρ3 im3 σ3 p3 v3 s3 x3 k3 r3 S3 => spl_nil ?_) (qe.up x2))) (star_cons he _) rfl
      obtain ⟨y, rfl, k4⟩ := onStr_e (bkd k3)
      obtain ⟨tv, rfl⟩ := r3
      split at k4
      · rename_i f3 wo3 hs3
        obtain ⟨hf5, k4⟩ := obD_e k4
        obtain ⟨m3, mu3, R3, M3⟩ := S3
        obtain ⟨x', dx3, c03, c23, c33, c43, b1, b2, b3, b4, b5⟩ := M3.self _ _ hs3
        rw [hx0] at b1; cases b1
        refine ⟨R3.H.him _ (x3.m _ (.head _)), ?_⟩
        have hdx : ∀ d, dx3 = some d → ∃ od, (d, od) ∈ mu3 := fun d e => by
          cases b5 with
          | nil => cases e
          | cons d1 => cases e; exact ⟨_, d1⟩
        refine superInit_call C.S KO.eo rfl R3 (x3.m _ (.head _)) b3 hdx ⟨_, rfl⟩ fun t s4 R4 => ?_
        obtain ⟨mu4, U, kp⟩ := updM (o' := exO (.ref 41) dx3 (.ref t) .none c23 c33 c43) b3
        have R5 := R4 _ U
        have dne := M3.dictNe R3 b3 fun _ _ z => nomatch congrArg Obj.data z
        have M4 := ((M3.chg R3 b3 (fun _ z => nomatch z) (fun _ _ z => nomatch congrArg Obj.data z) dne kp).addM (t, tupO [.str ⟨y.toArray⟩ tv]))
        refine wpAt_of_wpAny (wpAny_execs_nil (q _ _ _ .next _ _ (x2.trans x3) k4 rfl ⟨m3, _, R5, M4.setself hx0 ?_ (.tail _ U.mem') (fun w e => by cases e; exact ⟨tv, .head _⟩) ?_⟩))
        · exact b2.imp id fun ⟨c, e, z⟩ => ⟨c, e, z.to fun _ h d => .tail _ (kp _ h fun z' => nomatch d.symm.trans (congrArg Obj.data (congrArg Prod.snd (R3.fn h b3 z'))))⟩
        · cases b5 with
          | nil => exact .nil
          | @cons dd es vs _ d1 d0 d2 d3 => exact .cons (.tail _ (kp _ d1 fun z' => nomatch congrArg Obj.data (congrArg Prod.snd (R3.fn d1 b3 z')))) d0 d2 d3
      · exact k4.elim
    · rw [C.N.noc _ u14] at g2; cases g2
end Mine
end

noncomputable section
open PySem PySem.W PySem.Calls PyProof.Rows PySem.SeqAt
set_option maxRecDepth 100000
namespace Mine
variable {B : Base} {P : Params} {a : Ac} {ρ ρ' ρ'' : List (Addr × Addr)} {im im' im'' : Im} {σ σ' : Sg} {m m' : Vars} {mu mu' : Im} {s s₀ s' : Shared} {env : Env} {d : Md} {A A' : Around} {E : Value → Shared → Prop} {Q : Value → Shared → Prop}
  {w : Wd} {ck : Ck} {e : Expr} {K : Kt PV} {Γ : Nat → Option Fn}
variable {st : Stmt} {Kf : Kt Fl} {Qf : Flow → Shared → Prop}
theorem init_ok {body : List Stmt} {x0 : Str} (KO : KOk B.K) (SU : SupAt B env x0) (hx0 : a.names[0]? = some x0) : ∀ {l : List D} {sts : List Stmt} {n : Nat} {ρ im σ s}, (∀ m, m < n → SndS B P (W Γ m) ck ∧ SndE B P (W Γ m) ck) → ckInit ck env.scope a.names sts l = true → (W Γ n).Ss d l σ Kf → Ct B a env A d im → St P a ρ im σ s →
    KQf P a ρ im Kf Qf → KE P a ρ im Kf E → PySem.wpAt (model B.prog B.w) A (.func body env) (execs sts env) Qf E s := by
  intro l
  induction l with
  | nil => intro sts n ρ im σ s _ hc; cases sts <;> cases hc
  | cons c l ih =>
    intro sts n ρ im σ s H hc h C S q qe
    cases n with
    | zero => exact False.elim h
    | succ n =>
      have h : (W Γ n).S d c σ (bk Kf fun f σ => match f with | .next => (W Γ n).Ss d l σ Kf | f => Kf (.ok f) σ) := h
      cases sts with | nil => cases hc | cons e r =>
      have hc : (match supC c with
        | some c => r.isEmpty && (l.isEmpty && supIs (fun e => ck.E env.scope a.names e c) e)
        | none => ck.S env.scope a.names e c && ckInit ck env.scope a.names r l) = true := hc
      cases hsc : supC c with
      | some c' =>
        rw [hsc] at hc
        cases supC_e hsc
        refine and3 hc fun hr hl hc => ?_
        cases List.isEmpty_iff.mp hr
        cases List.isEmpty_iff.mp hl
        cases n with
        | zero => exact False.elim h
        | succ n =>
          refine sup_ok (w := W Γ n) (ck := ck) (d := d) (H n (by omega)).2 KO SU hx0 hc h C S (fun ρ1 im1 σ1 f fl s1 x1 k1 F1 S1 => ?_) qe
          have k1 := bkd k1
          cases f with
          | next => cases (show fl = .next from F1); exact q _ _ _ .next _ _ x1 k1 rfl S1
          | brk => cases (show fl = .brk from F1); exact q _ _ _ .brk _ _ x1 k1 rfl S1
          | ret p => obtain ⟨v, rfl, r⟩ := F1; exact q _ _ _ (.ret p) _ _ x1 k1 ⟨v, rfl, r⟩ S1
      | none =>
        rw [hsc] at hc
        dsimp only at hc
        rw [Bool.and_eq_true] at hc
        refine stepAt ((H n (by omega)).1 hc.1 h C S (fun ρ1 im1 σ1 f fl s1 x1 k1 F1 S1 => ?_) qe)
        have k1 := bkd k1
        cases f with
        | next => cases (show fl = .next from F1); exact .mk (ih (fun m hm => H m (by omega)) hc.2 k1 (C.up x1) S1 (q.up x1) (qe.up x1))
        | brk => cases (show fl = .brk from F1); exact q _ _ _ .brk _ _ x1 k1 rfl S1
        | ret p => obtain ⟨v, rfl, r⟩ := F1; exact q _ _ _ (.ret p) _ _ x1 k1 ⟨v, rfl, r⟩ S1
/-- the error's own __init__ -/
inductive FnI (B : Base) (ck : Ck) (fn : Fn) : Prop
  | mk : ∀ oc od osl name qual params body scope cc dV kV doc pm an cda ct ns dvs x0, (B.K.lookup 38 = some ⟨oc, od, .func (fnX name qual params body scope [("__class__", cc)] dV kV doc pm an (.ref cda) ct), osl⟩) → (codeIn B.K (.ref cda) qual = true) → ((∀ x ∈ scope.names, x.2 ≠ .cell)) → (scope.isCoroutine = false) → (scope.isGenerator = false) → (scope.kind = .function) → (ckInit ck scope ns body fn.body = true) → (ns.Nodup) → (fn.np + 1 ≤ ns.length) → ((∀ y ∈ ns.take (fn.np + 1), scope.names.lookup y = some .local)) → ((∀ P, Reps P [] [] dvs fn.dv)) → ((∀ s vs e, B.K.In s.heap → fn.np - fn.dv.length ≤ vs.length → vs.length ≤ fn.np → BindsTo s (fnX name qual params body scope [("__class__", cc)] dV kV doc pm an (.ref cda) ct) ⟨.ref e :: vs, []⟩ ((ns.take (fn.np + 1)).zip (.ref e :: (vs ++ dvs.drop (fn.dv.length + vs.length - fn.np)))))) → (ns[0]? = some x0) → (fn.np ≤ 100) → (∀ L, SupAt B (ksEnv qual scope L 38 (.ref cda) cc) x0) → FnI B ck fn
noncomputable abbrev Ac.subI (a : Ac) (env' : Env) (mu : Im) (ρ : List (Addr × Addr)) (s : Shared) (L : Addr) (ns : List Str) (im : Im) (e : Addr) : Ac := ⟨a.hb, env' :: a.l, frs a.l, e :: (mu.filter (ofObjs ρ)).map (·.1), s, L, [], ns, im, e, false⟩
theorem i_ok {n : Nat} (H : ∀ m, m < n → SndS B P (W Γ m) ck ∧ SndE B P (W Γ m) ck) (FI : ∀ fn, Γ 38 = some fn → FnI B ck fn) (KO : KOk B.K) (EO : ExcK B.K) : SndI B P ((W Γ n).step Γ) := by
  intro a env A d ρ im σ s vs l Q E K h C S r k
  have h : stepF Γ (W Γ n) { d with d := d.d + 1 } 38 l σ.objs K := h
  unfold stepF at h
  cases hg : Γ 38 with
  | none => rw [hg] at h; exact h.elim
  | some fn =>
    rw [hg] at h
    obtain ⟨hd, h⟩ := h
    obtain ⟨h1, h⟩ := obD_e h
    obtain ⟨h2, h⟩ := obD_e h
    obtain ⟨oc, od, osl, name, qual, params, body, scope, cc, dV, kV, doc, pm, an, cda, ct, ns, dvs, x0, ho, hcd, hcell, hco, hgen, hk, hck, hnd, hnp, hloc, hdv, hb, hx0, hfn, hsup⟩ := FI fn hg
    obtain ⟨nm, q, N, oN, bs, sn, sub, ab, col, dd, k0, k1, k2, k3, k5, hC, hN, hks, hi⟩ := EO.cls
    obtain ⟨m, mu, R0, M⟩ := S
    have hvl := r.len
    refine new_exc (rest := vs) R0 C.S hC hN hks hi EO.fn (fun B' e t s1 hB hBf hBh hBu ht0 R1 => ?_) (by rw [hvl]; exact Nat.le_trans h2 (Nat.le_trans hfn (by decide)))
    refine wpAny_call ?_
    have he0 := R1.H.hmu _ (.head _)
    have hmi : ∀ q ∈ (e, exO (.ref 41) none (.ref t) .none .none .none (.bool false)) :: mu.filter (ofObjs ρ), q ∈ (e, exO (.ref 41) none (.ref t) .none .none .none (.bool false)) :: mu := fun q hq => (List.mem_cons.mp hq).elim (fun z => z ▸ .head _) fun z => .tail _ (List.mem_filter.mp z).1
    have x1 : Ext ρ ρ im ((t, tupO vs) :: im) := .one
    have nw1 : NewI a im ((t, tupO vs) :: im) := fun p hp => (List.mem_cons.mp hp).elim (fun z => .inr (z ▸ (R0.H.evo.fresh ht0).symm)) .inl
    have rw' : Reps P ρ ((t, tupO vs) :: im) (vs ++ dvs.drop (fn.dv.length + vs.length - fn.np)) (l ++ fn.dv.drop (fn.dv.length + l.length - fn.np)) := by
      rw [hvl]
      exact (r.up x1).app ((hdv P).up ⟨fun i x e => (by cases e), fun p h => (by cases h)⟩ |>.drop _)
    refine enterAt (e :: (mu.filter (ofObjs ρ)).map (·.1)) ((e, exO (.ref 41) none (.ref t) .none .none .none (.bool false)) :: mu.filter (ofObjs ρ)) ((t, tupO vs) :: im) C.S R1.H.stays R1.H.ff ho hcd ?hroom (hb s1 vs e (R1.kin C.S) (hvl ▸ h1) (hvl ▸ h2)) ?hloc rfl (fun q hq => R1.H.hmu q (hmi q hq)) R1.H.him ?nodup
      (fun q hq => R1.H.apart q (hmi q hq)) (fun q hq => ⟨(R1.H.offm q (hmi q hq)).2.1, (R1.H.offm q (hmi q hq)).2.2.1, ?hv⟩) (fun q hq => (R1.H.offi q hq).2) ?h hcell hco hgen hk
    case hroom =>
      have h2 := C.O.dep
      show B'.depth < recursionLimit
      simp only [recursionLimit]
      have : d.d + 1 < 100 := hd
      omega
    case hloc => exact fun y hy => hloc _ (List.of_mem_zip hy).1
    case nodup => exact (((List.filter_sublist (p := ofObjs ρ)).cons_cons _).map _).nodup R1.H.nodup
    case hv =>
      rcases List.mem_cons.mp hq with rfl | hq
      · exact .head _
      · exact .tail _ (List.mem_map.mpr ⟨q, hq, rfl⟩)
    case h =>
      intro L s' env' B2 R'
      have hfr : B2.frames = some (env' :: a.l) := by
        show B'.frames.map (env' :: ·) = _
        rw [hBf, C.O.fr]; rfl
      have hd' : d.d + 1 < 100 := hd
      have Cn : Ct B (a.subI env' mu ρ s1 L ns ((t, tupO vs) :: im) e) env' B2 { d with d := d.d + 1 + 1, c := true } ((t, tupO vs) :: im) := by
        refine ⟨⟨rfl, hk, rfl, rfl, hnd, fun _ _ => rfl, fun x z => absurd rfl (hcell _ (mem_lookup z)), fun _ _ _ z => nomatch z⟩, ⟨hfr, ?_, ?_, fun z => ?_⟩, C.S, C.EK, fun z => ?_, ?_, fun _ => ⟨_, _, rfl, rfl⟩, fun _ => rfl, kds_of C.S.X hcd⟩
        · have h2 := C.O.dep
          show B'.depth + 1 ≤ 2 * (d.d + 1 + 1) + 310
          omega
        · have h2 := C.O.un
          show B'.units + 3 ≤ 20 * (d.d + 1 + 1) + 200
          omega
        · exact hBh.trans (C.O.hn z)
        · have := (C.up x1).hx z
          unfold HdOk at this ⊢
          rw [show B2.handled = A.handled from hBh]
          exact this
        · show d.d + 1 + 1 ≤ 200
          omega
      have hn0 : ns[0]? = some x0 := hx0
      have Sn : St P (a.subI env' mu ρ s1 L ns ((t, tupO vs) :: im) e) ρ ((t, tupO vs) :: im) ⟨none :: (l.map some ++ (fn.dv.drop (fn.dv.length + l.length - fn.np)).map some ++ List.replicate fn.nv none), none, some ([], none), σ.objs⟩ s' := by
        refine ⟨_, _, R', fun i v e => ?_, fun _ _ _ e => (nomatch e), fun f wo e => ?_, fun i f e => ?_, M.len, M.nd, .refl, fun _ _ _ e => nomatch e⟩
        · cases i with
          | zero => cases e
          | succ i =>
            have e : (l.map some ++ (fn.dv.drop (fn.dv.length + l.length - fn.np)).map some ++ List.replicate fn.nv none)[i]? = some (some v) := e
            rw [Ac.ext0] at e
            have e2 := vals_e e
            obtain ⟨u, e3, ru⟩ := rw'.at e2
            have lt : i < fn.np := by
              have h3 := (List.getElem?_eq_some_iff.mp e2).1
              rw [List.length_append, List.length_drop] at h3
              exact lt_np h1 h2 h3
            have lt2 : i + 1 < ns.length := Nat.lt_of_lt_of_le (Nat.succ_lt_succ lt) hnp
            exact ⟨ns[i + 1], u, List.getElem?_eq_getElem lt2, .inl ⟨rfl, zip_look ((List.take_sublist _ _).nodup hnd) (take_at (List.getElem?_eq_getElem lt2) (by omega)) e3⟩, ru⟩
        · cases e
          exact ⟨x0, none, t, .none, .none, .bool false, hn0, .inl ⟨rfl, zip_look (i := 0) ((List.take_sublist _ _).nodup hnd) (take_at hn0 (by omega)) rfl⟩, .head _, (fun _ e => nomatch e), .nil⟩
        · obtain ⟨x, D, es, ws, g1, g2, g3, g4, g5⟩ := M.objs i f e
          exact ⟨x, D, es, ws, g1, .tail _ g2, .tail _ (inO g1 g3), g4, g5.up x1⟩
      have key := init_ok (P := P) (Γ := Γ) (n := n) (ck := ck) (B := B) (body := body) (env := env') (a := a.subI env' mu ρ s1 L ns ((t, tupO vs) :: im) e) KO (hsup L) hn0 H hck h Cn Sn (Qf := fun fl s' => fl = .next ∧ Q (.ref e) s') (E := fun _ _ => False) (fun ρ' im' σ' f fl s'' X k' FR S2 => ?_) fun ρ' im' σ' x v s'' X k' S2 => k'.elim
      · exact PySem.wpAt_mono key (fun fl s' h => by obtain ⟨rfl, h⟩ := h; exact ⟨rfl, h⟩) fun _ _ z => z.elim
      cases f with
      | brk => exact False.elim k'
      | ret p => exact False.elim k'
      | next =>
        cases (show fl = .next from FR)
        refine ⟨rfl, ?_⟩
        have k' : (match σ'.self with | some (f, some x) => obD (f.length = 5) (K (.ok (.err f x)) σ'.objs) | _ => False) := k'
        split at k'
        · rename_i f5 wd hs
          obtain ⟨hf5, k'⟩ := obD_e k'
          obtain ⟨m2, mu2, R2, M2⟩ := S2
          obtain ⟨x', dx, c0, c2, c3, c4, b1, b2, b3, b4, b5⟩ := M2.self _ _ hs
          obtain ⟨u, b4⟩ := b4 _ rfl
          cases b5 with
          | nil => cases hf5
          | @cons dd es ws _ d1 d0 d2 d3 =>
            rw [hf5] at d2
            have d2 : Ents P errNames es ws := d2
            have z1 : es.length = 5 := d2.len.1
            rw [z1] at d1
            obtain ⟨mu3, R3, p3⟩ := R2.fixM d1
            have M3 := (M2.chg R2 d1 (fun _ z => nomatch z) (fun _ _ z => nomatch congrArg Obj.data z) d0 p3).up .one (NewI.ofM R2 d1) (fun _ z => z)
            have c0m := p3 _ b4 fun z => nomatch congrArg Obj.data (congrArg Prod.snd (R2.fn b4 d1 z))
            obtain ⟨mu4, R4, p4⟩ := R3.fixM c0m
            have M4 := (M3.chg R3 c0m (fun _ z => nomatch z) (fun _ _ z => nl_tup (congrArg Obj.cls z)) (M3.dictNe R3 c0m fun _ _ z => nomatch congrArg Obj.data z) p4).up .one (NewI.ofM R3 c0m) (fun _ z => z)
            have e3 := p3 _ b3 fun z => nomatch congrArg Obj.data (congrArg Prod.snd (R2.fn b3 d1 z))
            have em := p4 _ e3 fun z => nomatch congrArg Obj.data (congrArg Prod.snd (R3.fn e3 c0m z))
            obtain ⟨r5, pr⟩ := one_perm em
            have R5 := R4.H.perm pr
            have M5 := M4.chg R4 em (fun _ z => nomatch z) (fun _ _ z => nomatch congrArg Obj.data z) (M4.dictNe R4 em fun _ _ z => nomatch congrArg Obj.data z) (fun q hq ne => (List.mem_cons.mp (pr.mem_iff.mp hq)).resolve_left fun z => ne (congrArg Prod.fst z))
            have X5 := X.trans (Ext.trans (Ext.one (ρ := ρ') (p := (dd, dictOf es 5))) (Ext.one (p := (c0, tupO [.str ⟨wd.toArray⟩ u]))))
            have Mx := M.up x1 nw1 fun _ z => z
            have hp : ((e, exO (.ref 41) none (.ref t) .none .none .none (.bool false)) :: mu).Perm (mu.filter (fun p => !ofObjs ρ p) ++ ((e, exO (.ref 41) none (.ref t) .none .none .none (.bool false)) :: mu.filter (ofObjs ρ))) := ((split_perm ρ mu).cons _).trans List.perm_middle.symm
            have fs : ∀ x ∈ frs a.l, x ∈ frs (env' :: a.l) := fun x hx => by
              obtain ⟨y, h1, h2⟩ := List.mem_filterMap.mp hx
              exact List.mem_filterMap.mpr ⟨y, .tail _ h1, h2⟩
            have bk := fun {τ : Sg} {mu2 : Im} (R2 : Run a.hb (env' :: a.l) (frs a.l) (e :: (mu.filter (ofObjs ρ)).map (·.1)) s1 L m2 mu2 ((c0, tupO [.str ⟨wd.toArray⟩ u]) :: (dd, dictOf es 5) :: im') s'') (M2 : StM P (a.subI env' mu ρ s1 L ns ((t, tupO vs) :: im) e) ρ' ((c0, tupO [.str ⟨wd.toArray⟩ u]) :: (dd, dictOf es 5) :: im') τ m2 mu2) =>
              back_m (b := a.subI env' mu ρ s1 L ns ((t, tupO vs) :: im) e) (mr := mu.filter fun p => !ofObjs ρ p) (mi := (e, exO (.ref 41) none (.ref t) .none .none .none (.bool false)) :: mu.filter (ofObjs ρ)) R1 Mx rfl (fun _ h => h.2.2) fs rfl rfl rfl hp (fun _ h => .tail _ h) (fun p hp ne => outO hp ne) Mx.nw rfl X5 R2 M2
            have R6 := (bk ⟨R5, R4.oth⟩ (M5.addM _)).1
            have M6 := (bk (Run.lessM ⟨R5, R4.oth⟩ (List.sublist_cons_self _ _)) M5).2
            exact k ρ' _ σ'.objs f5 wd m _ s'' e dd c0 c2 c3 c4 ws (x1.trans X5) k' M6 ⟨es, .tail _ (.head _), d2⟩ ⟨u, .head _⟩ (Reps.up (Ext.trans Ext.one Ext.one) d3) ⟨R6.H.perm List.perm_middle, R6.oth⟩
        · exact k'.elim
end Mine
end

noncomputable section
open PySem PySem.W PySem.Calls PyProof.Rows PySem.SeqAt
set_option maxRecDepth 100000
namespace Mine
variable {B : Base} {P : Params} {a : Ac} {ρ ρ' ρ'' : List (Addr × Addr)} {im im' im'' : Im} {σ σ' : Sg} {m m' : Vars} {mu mu' : Im} {s s₀ s' : Shared} {env : Env} {d : Md} {A A' : Around} {E : Value → Shared → Prop} {Q : Value → Shared → Prop}
  {w : Wd} {ck : Ck} {e : Expr} {K : Kt PV} {Γ : Nat → Option Fn}
structure MkK (K : Frag) : Prop where
  mak : makesIn K 133 = true
  init : findIn K (.ref 133) "__init__" = some (some (.ref 58))
  fn : typeIn K (.ref 58) = some (.type "function")
theorem Ct.more (C : Ct B a env A d im) (h : d.d + 1 < 100) : Ct B a env A { d with d := d.d + 1 } im :=
  ⟨C.N, ⟨C.O.fr, Nat.le_trans C.O.dep (by show 2 * d.d + 310 ≤ 2 * (d.d + 1) + 310; omega), Nat.le_trans C.O.un (by show 20 * d.d + 200 ≤ 20 * (d.d + 1) + 200; omega), C.O.hn⟩, C.S, C.EK, C.hx, (by show d.d + 1 ≤ 200; omega), C.fe, C.ro, C.cd⟩
theorem m_ok (SF : SndF B P (w.step Γ)) (MK : MkK B.K) : SndM B P (w.step Γ) := by
  intro a env A d ρ im σ s vs l Q E K h C S r q hn qe
  have hd := (stepF_e (by decide) h).elim fun _ h => h.2.1
  have hd : d.d + 1 < 100 := hd
  obtain ⟨m, mu, R0, M⟩ := S
  refine make_r (rest := vs) R0 C.S MK.mak MK.init MK.fn fun B' x dx s1 hB hBf hBh hBu hx hdx R1 => ?_
  have x1 : Ext ρ (ρ ++ [(x, dx)]) im ((x, instObj 133 dx) :: im) := ⟨fun i y e => by rw [List.getElem?_append_left (List.getElem?_eq_some_iff.mp e).1]; exact e, fun _ e => .tail _ e⟩
  have nw1 : NewI a im ((x, instObj 133 dx) :: im) := fun p hp => (List.mem_cons.mp hp).elim (fun z => .inr (z ▸ (R0.H.evo.fresh hx).symm)) .inl
  have hl : (ρ ++ [(x, dx)])[σ.objs.length]? = some (x, dx) := by rw [M.len, List.getElem?_concat_length]
  have S1 : St P a (ρ ++ [(x, dx)]) ((x, instObj 133 dx) :: im) { σ with objs := σ.objs ++ [[]] } s1 := by
    have Mx := M.toks (mu' := (dx, dictOf [] 0) :: mu) (im' := (x, instObj 133 dx) :: im) .one nw1 fun _ h _ => .tail _ h
    have dne : ∀ p ∈ ρ, p.2 ≠ dx := fun p hp z => by
      obtain ⟨i, lt, e⟩ := List.getElem_of_mem hp
      have lt' : i < σ.objs.length := by rw [M.len]; exact lt
      obtain ⟨_, D, es, vs, k1, _, k3, _, _⟩ := M.objs i _ (List.getElem?_eq_getElem lt')
      rw [List.getElem?_eq_getElem lt, e] at k1
      cases k1
      have := R0.H.hmu _ k3
      dsimp only at this z
      rw [z, hdx] at this; cases this
    refine ⟨m, _, R1, fun i v e => ?_, fun i D l e => ?_, fun f wo e => ?_, fun i f e => ?_, ?_, ?_, M.nw.trans nw1, fun r x c e => let ⟨v, z⟩ := M.cel r x c e; ⟨v, z.to fun _ h _ => .tail _ h⟩⟩
    · obtain ⟨y, u, h1, h2, h3⟩ := M.vars i v e
      exact ⟨y, u, h1, h2.to fun _ h _ => .tail _ h, h3.up x1⟩
    · obtain ⟨y, o, vs, h1, h2, h3, h4, h5⟩ := M.acc i D l e
      exact ⟨y, o, vs, h1, h2.to fun _ h _ => .tail _ h, .tail _ h3, h4, h5.up x1⟩
    · obtain ⟨y, dy, c0, c2, c3, c4, h1, h2, h3, h4, h5⟩ := M.self f wo e
      refine ⟨y, dy, c0, c2, c3, c4, h1, h2.to fun _ h _ => .tail _ h, .tail _ h3, fun w e => let ⟨u, z⟩ := h4 w e; ⟨u, .tail _ z⟩, ?_⟩
      cases h5 with
      | nil => exact .nil
      | cons d1 d0 d2 d3 =>
        refine .cons (.tail _ d1) (fun p hp z => ?_) d2 (d3.up x1)
        rcases List.mem_append.mp hp with hp | hp
        · exact d0 p hp z
        · rw [List.mem_singleton.mp hp] at z
          have := R0.H.hmu _ d1
          dsimp only at this z
          rw [← z, hdx] at this; cases this
    · have e : (σ.objs ++ [[]])[i]? = some f := e
      rw [List.getElem?_append] at e
      split at e
      · obtain ⟨y, D, es, ws, g1, g2, g3, g4, g5⟩ := M.objs i f e
        exact ⟨y, D, es, ws, x1.r _ _ g1, .tail _ g2, .tail _ g3, g4, g5.up x1⟩
      · rename_i ge
        have hi : i = σ.objs.length := by
          cases z : i - σ.objs.length with
          | zero => omega
          | succ k => rw [z] at e; cases e
        subst hi
        rw [Nat.sub_self] at e
        cases e
        exact ⟨x, dx, [], [], hl, .head _, .head _, .nil, .nil⟩
    · show (σ.objs ++ [[]]).length = (ρ ++ [(x, dx)]).length
      rw [List.length_append, List.length_append, M.len]; rfl
    · rw [List.map_append, List.nodup_append]
      refine ⟨M.nd, by simp, fun p hp q hq e => ?_⟩
      obtain ⟨z, hz, rfl⟩ := List.mem_map.mp hp
      exact dne z hz (e.trans (List.mem_singleton.mp hq))
  refine SF (by decide) h ((C.more hd).up x1) ⟨hBf, by rw [hB]; exact Nat.le_refl _, hBh, hBu⟩ S1 (.cons (Rep.obj hl) (r.up x1)) ⟨fun ρ' im' o p v s' X k rv S' => ?_, fun ρ' im' o y v s' X k S' => ?_⟩
  · cases hn p o k
    exact ⟨rv.none_e, q ρ' im' o _ s' (x1.trans X) k (Rep.obj (X.r _ _ hl)) S'⟩
  · exact qe ρ' im' o y v s' (x1.trans X) k S'
end Mine
end

noncomputable section
open PySem PySem.W PySem.Calls PyProof.Rows PySem.SeqAt
set_option maxRecDepth 100000
namespace Mine
section
variable {hb h₀ h h' : Heap} {l : List Env} {fr V : List Addr} {L C : Addr} {m m' : Vars} {mu mu' mr mi im im' : Im}
/-- a block with names of its own begins -/
theorem RunH.block {f : Str → Option Value} (R : RunH hb l fr V h₀ L m mu im h) (hmi : ∀ q ∈ mi, q ∈ mu) (nd : (mi.map (·.1)).Nodup) (ns : h'.Ns h.objs.size f) (k : ∀ b o, h.get? b = some o → h'.get? b = some o) : RunH hb l (frs l) (mi.map (·.1)) h h.objs.size [] mi im h' := by
  have lt : ∀ {a : Addr} {o : Obj}, h.get? a = some o → a ≠ h.objs.size := fun e => Nat.ne_of_lt (Heap.lt_size e)
  exact ⟨fun b o e => k _ _ (R.stays b o e), ff_evo (Evo.keeps [] k) R.ff (fun _ _ q => nomatch q), ⟨f, ns, fun _ _ e => nomatch e⟩, (Evo.keeps (frs l) k).mono (fun _ q => nomatch q), fun q hq => k _ _ (R.hmu q (hmi q hq)), fun q hq => k _ _ (R.him q hq), nd, fun q hq => R.apart q (hmi q hq),
    fun q hq => ⟨lt (R.hmu q (hmi q hq)), (R.offm q (hmi q hq)).2.1, (R.offm q (hmi q hq)).2.2.1, .inl (List.mem_map.mpr ⟨q, hq, rfl⟩)⟩, fun q hq => ⟨lt (R.him q hq), (R.offi q hq).2⟩, ⟨R.stays.fresh, .inl (get_size _)⟩, fun a ha => .inr ha⟩
/-- a part of a block -/
theorem RunH.base (R : RunH hb l fr V h₀ C m mu im h) (hmi : ∀ q ∈ mi, q ∈ mu) (nd : (mi.map (·.1)).Nodup) : RunH hb l (frs l) (C :: mi.map (·.1)) h C m mi im h :=
  ⟨R.stays, R.ff, R.ns, Evo.refl _ _ _, fun q hq => R.hmu q (hmi q hq), R.him, nd, fun q hq => R.apart q (hmi q hq),
    fun q hq => ⟨(R.offm q (hmi q hq)).1, (R.offm q (hmi q hq)).2.1, (R.offm q (hmi q hq)).2.2.1, .inl (.tail _ (List.mem_map.mpr ⟨q, hq, rfl⟩))⟩, R.offi, ⟨R.L0.1, .inr (.head _)⟩, fun a ha => .inr ha⟩
/-- behind a part of a block -/
theorem RunH.join (R : RunH hb l fr V h₀ C m mu im h) (hp : mu.Perm (mr ++ mi)) (R' : RunH hb l (frs l) (C :: mi.map (·.1)) h C m' mu' im' h') (n : ∀ q ∈ im', q ∈ im ∨ h.get? q.1 = none ∨ q.1 ∈ C :: mi.map (·.1)) : RunH hb l fr V h₀ C m' (mr ++ mu') im' h' := by
  have R1 := R.perm hp
  have nd := R1.nodup
  rw [List.map_append, List.nodup_append] at nd
  obtain ⟨nd1, nd2, nd3⟩ := nd
  have off : ∀ p ∈ mr, p.1 ∉ C :: mi.map (·.1) := fun p hp z => (List.mem_cons.mp z).elim (fun z => (R1.offm p (List.mem_append_left _ hp)).1 z) fun z => nd3 _ (List.mem_map.mpr ⟨p, hp, rfl⟩) _ z rfl
  have mi' : ∀ {b}, b ∈ mi.map (·.1) → ∃ p ∈ mr ++ mi, b = p.1 := fun z => by
    obtain ⟨p, h1, rfl⟩ := List.mem_map.mp z
    exact ⟨p, List.mem_append_right _ h1, rfl⟩
  have nem : ∀ {b} {p : Addr × Obj}, p ∈ mr → b ∈ C :: mi.map (·.1) ∨ h.get? b = none → p.1 ≠ b := fun hp z e => z.elim (fun z => off _ hp (e ▸ z)) fun z => live_ne (R1.hmu _ (List.mem_append_left _ hp)) z e.symm
  refine ⟨R'.stays, R'.ff, R'.ns,
    R.evo.comp R'.evo (fun b q => (List.mem_cons.mp q).elim (fun z => z ▸ R.L0.2) fun q => by obtain ⟨p, h1, rfl⟩ := mi' q; exact (R1.offm p h1).2.2.2.symm) (fun b q => R.sub b q), fun p hp => ?_, R'.him, ?_, fun p hp q hq => ?_, fun p hp => ?_, R'.offi, R.L0, R.sub⟩
  · rcases List.mem_append.mp hp with z | z
    · exact R'.evo.keep (R1.hmu p (List.mem_append_left _ z)) (off p z) (R1.offm p (List.mem_append_left _ z)).2.1
    · exact R'.hmu p z
  · rw [List.map_append, List.nodup_append]
    refine ⟨nd1, R'.nodup, fun a ha b hb e => ?_⟩
    obtain ⟨p, h1, rfl⟩ := List.mem_map.mp ha
    obtain ⟨q, h2, rfl⟩ := List.mem_map.mp hb
    exact nem h1 (R'.offm q h2).2.2.2 e
  · rcases List.mem_append.mp hp with z | z
    · rcases n q hq with y | y
      · exact R1.apart p (List.mem_append_left _ z) q y
      · exact nem z y.symm
    · exact R'.apart p z q hq
  · rcases List.mem_append.mp hp with z | z
    · exact R1.offm p (List.mem_append_left _ z)
    · have y := R'.offm p z
      refine ⟨y.1, y.2.1, y.2.2.1, y.2.2.2.elim (fun x => (List.mem_cons.mp x).elim (fun x => absurd x y.1) fun x => by obtain ⟨p, h1, e⟩ := mi' x; rw [e]; exact (R1.offm p h1).2.2.2) fun x => ?_⟩
      by_cases hv : p.1 ∈ V
      · exact .inl hv
      · exact .inr (by
          cases q : h₀.get? p.1 with
          | none => rfl
          | some o => obtain ⟨sl, e, _⟩ := R.evo p.1 o q hv; rw [x] at e; cases e)
theorem RunH.offOld {c : Addr} {o : Obj} (R : RunH hb l fr V h₀ C m mu im h) (e : h₀.get? c = some o) (hV : c ∉ V) {mi : Im} (hmi : ∀ q ∈ mi, q ∈ mu) : c ∉ C :: mi.map (·.1) := fun z =>
  (List.mem_cons.mp z).elim (fun z => R.L0.2.elim (fun q => nomatch (z ▸ e).symm.trans q) fun q => hV (z ▸ q)) fun z => by
    obtain ⟨p, hp, rfl⟩ := List.mem_map.mp z
    exact (R.offm p (hmi p hp)).2.2.2.elim hV fun q => nomatch e.symm.trans q
end
variable {B : Base} {P : Params} {a : Ac} {ρ ρ' ρ'' : List (Addr × Addr)} {im im' im'' : Im} {σ σ' : Sg} {m m' : Vars} {mu mu' : Im} {s s₀ s' : Shared} {env : Env} {d : Md} {A A' : Around} {E : Value → Shared → Prop} {Q : Value → Shared → Prop}
  {w : Wd} {ck : Ck} {e : Expr} {K : Kt PV} {Γ : Nat → Option Fn}
/-- from one part of a block to another -/
theorem StM.re {b : Ac} (M : StM P a ρ im σ m mu) (hn : b.names = a.names) (hc : b.cells = a.cells) (hr : b.ro = true) (hs : σ.self = none) (old : ∀ x c v, a.cells.lookup x = some c → Old a c v → Old b c v) (k : ∀ p ∈ mu, p ∈ mu') (nw : NewI b b.i0 im) : StM P b ρ im σ m mu' :=
  have lo : ∀ {x u}, Loc a m mu x u → Loc b m mu' x u := fun h => h.imp (fun h => ⟨hc ▸ h.1, h.2⟩) fun ⟨c, e, z⟩ => ⟨c, hc ▸ e, z.imp (fun z => z.to fun _ h _ => k _ h) (old _ c _ e)⟩
  { vars := fun i v e => let ⟨x, u, h1, h2, h3⟩ := M.vars i v e; ⟨x, u, hn ▸ h1, lo h2, h3⟩
    acc := fun i D l e => let ⟨x, o, vs, h1, h2, h3, h4, h5⟩ := M.acc i D l e; ⟨x, o, vs, hn ▸ h1, lo h2, k _ h3, h4, h5⟩
    self := fun f wo e => (by rw [hs] at e; cases e)
    objs := fun i f e => let ⟨x, D, es, vs, h1, h2, h3, h4, h5⟩ := M.objs i f e; ⟨x, D, es, vs, h1, h2, k _ h3, h4, h5⟩
    len := M.len
    nd := M.nd
    nw := nw
    cel := fun r => nomatch hr.symm.trans r }
noncomputable abbrev cAc (a : Ac) (V : List Addr) (sB : Shared) (CC : Addr) (cc : List (Str × Addr)) (ns : List Str) (i0 : Im) : Ac := ⟨a.hb, a.l, frs a.l, V, sB, CC, cc, ns, i0, 0, true⟩
/-- the captured cells stand -/
noncomputable def Cap (cc : List (Str × Addr)) (h : Heap) (V fr : List Addr) : Prop := ∀ x c, cc.lookup x = some c → (∃ o, h.get? c = some o) ∧ c ∉ V ∧ c ∉ fr
theorem tailK_e {cv : List (Option PV)} {k : Prop} (h : tailK cv σ k) : k := by
  cases cv with
  | nil => exact h
  | cons _ _ => exact h.2
/-- a comprehension's condition -/
theorem test_ok {T : C → Sg → Kt Bool → Prop} {cv : List (Option PV)} {f : Bool → Sg → Prop} {ifs : List Expr} {ts : Option C} {Qb : Bool → Shared → Prop} (IT : SndT B P w ck) (hT : T = w.T d) (hc : ifIs ck env.scope a.names ifs ts = true) (h : testK T ts cv σ f) (C : Ct B a env A d im) (S : St P a ρ im σ s) (ha : σ.acc = none) (hs : σ.self = none)
    (q : ∀ ρ' im' t σ' s', Ext ρ ρ' im im' → f t σ' → σ'.acc = none → σ'.self = none → St P a ρ' im' σ' s' → Qb t s') :
    wpAny (model B.prog B.w) A (forIn ifs true fun c r => if r = true then do let ok ← isTrue c env (eval c env); pure (ForInStep.yield ok) else pure (ForInStep.yield r)) Qb E s := by
  subst hT
  cases ts with
  | none =>
    cases List.isEmpty_iff.mp hc
    exact wpAny_tests_nil (q _ _ _ _ _ .refl h ha hs S)
  | some c =>
    refine onOne_e hc fun e hc1 e1 => ?_
    subst e1
    refine wpAny_tests_one (IT hc1 h C S (fun _ _ _ _ _ X k S' => ?_) fun _ _ _ _ _ _ _ k _ => k.elim)
    obtain ⟨ha', k⟩ := obD_e k
    obtain ⟨hs', k⟩ := obD_e k
    exact q _ _ _ _ _ X (tailK_e k) ha' hs' S'
theorem R_swap {hb h₀ h : Heap} {l : List Env} {fr V : List Addr} {L : Addr} {m : Vars} {p q : Addr × Obj} {mu im : Im} (R : RunH hb l fr V h₀ L m (p :: q :: mu) im h) : RunH hb l fr V h₀ L m (q :: p :: mu) im h := R.perm (List.Perm.swap _ _ _)
inductive CLoopI (P : Params) (a : Ac) (w : Wd) (d : Md) (elt : C) (ts : Option C) (cv : List (Option PV)) (cc : List (Str × Addr)) (ns : List Str) (l : List PV) (D I CC : Addr) (f : List PV → Sg → Prop) (V : List Addr) (i0 : Im) (sB : Shared) (Stt : Nat → Heap → Prop) (ρ : List (Addr × Addr)) (im : Im) (k : Nat) (s' : Shared) : Prop
  | mk : ∀ j ρ' im' τ m mu oI ys n accl, k = l.length - j → j ≤ l.length → Ext ρ ρ' im im' → compK (w.E { d with c := false }) (w.T { d with c := false }) elt ts cv (l.drop j) accl τ f → τ.acc = none → τ.self = none →
      Run a.hb a.l (frs a.l) V sB CC m ((D, listO ys n) :: (I, oI) :: mu) im' s' → StM P (cAc a V sB CC cc ns i0) ρ' im' τ m mu → Reps P ρ' im' ys accl → accl.length ≤ j → Stt j s'.heap → CLoopI P a w d elt ts cv cc ns l D I CC f V i0 sB Stt ρ im k s'
/-- a comprehension's loop -/
theorem comp_loop {elt : C} {ts : Option C} {cv : List (Option PV)} {x : Expr} {ifs : List Expr} {y : Str} {cn : List Str} {cc : List (Str × Addr)} {py : Pos} {z : Expr} {sc : Scope} {pos : Pos} {l : List PV} {D I CC : Addr} {o0 : Obj} {fp : List Addr} {Pt : Nat → Value → Prop} {Stt : Nat → Heap → Prop} {f : List PV → Sg → Prop} {cenv : Env} {V : List Addr} {i0 : Im} {sB : Shared} {R : Result → Shared → Prop}
    (IE : SndE B P w ck) (IT : SndT B P w ck) (N : EnvOk (cAc a V sB CC cc (y :: cn) i0) cenv) (hcap : Cap cc sB.heap V (frs a.l)) (h2 : ck.E cenv.scope (y :: cn) x elt = true) (hts : ifIs ck cenv.scope (y :: cn) ifs ts = true) (h3 : slotIs cenv.scope (y :: cn) y 0 = true) (hcd : CodeAt a.hb cenv.code) (C : Ct B a env A d im) (hl : l.length ≤ S16)
    (It : ItOk B.prog B.w A I fp l.length Pt Stt) (hP : ∀ j u, j < l.length → Pt j u → ∃ q, l[j]? = some q ∧ Rep P ρ im u q) (hfp : ∀ b ∈ fp, b = I ∨ ∃ o, (b, o) ∈ im) (hDI : D ≠ I)
    (hk : compK (w.E { d with c := false }) (w.T { d with c := false }) elt ts cv l [] ⟨none :: cv, none, none, σ.objs⟩ f) {mu0 : Im} (R0 : Run a.hb a.l (frs a.l) V sB CC [] ((D, listO [] 0) :: (I, o0) :: mu0) im s) (M0 : StM P (cAc a V sB CC cc (y :: cn) i0) ρ im ⟨none :: cv, none, none, σ.objs⟩ [] mu0) (st0 : Stt 0 s.heap)
    (fin : ∀ ρ' im' ps τ ys n m mu s', Ext ρ ρ' im im' → f ps τ → Reps P ρ' im' ys ps → Run a.hb a.l (frs a.l) V sB CC m ((D, listO ys n) :: mu) im' s' → StM P (cAc a V sB CC cc (y :: cn) i0) ρ' im' τ m mu → R (.ok .next) s') :
    codeAny (model B.prog B.w) A (.compLoop (.ListComp x [⟨.Name y py, z, ifs, 0⟩] sc pos) 0 (.ref I) (.ref D) cenv) R s := by
  refine codeAny_compLoop_tests (fun k s' => CLoopI P a w d elt ts cv cc (y :: cn) l D I CC f V i0 sB Stt ρ im k s') (fun k s' hI => ?_) l.length
    ⟨0, ρ, im, _, [], mu0, o0, [], 0, [], rfl, Nat.zero_le _, .refl, hk, rfl, rfl, R0, M0, .nil, Nat.le_refl _, st0⟩
  obtain ⟨j, ρ1, im1, τ, m1, mu1, oI, ys, n, accl, rfl, hj, X, hk, ha, hs, R1, M1, r1, hz, st⟩ := hI
  rcases Nat.lt_or_eq_of_le hj with hlt | rfl
  · refine It.W.item j s' _ _ hlt st fun u h' tk hP' st' hk' => ?_
    obtain ⟨o2, ho2, ik2⟩ := It.kind _ _ st'
    have R2 := R_swap ((R_swap R1.H).bump (fun b o hb z => hk' b o (fun q => hb (List.mem_singleton.mp q)) z) ho2)
    obtain ⟨q0, e0, r0⟩ := hP j u hlt hP'
    have ed : l.drop j = q0 :: l.drop (j + 1) := by rw [List.drop_eq_getElem_cons hlt, Option.some.inj ((List.getElem?_eq_getElem hlt).symm.trans e0)]
    rw [ed] at hk
    dsimp only
    obtain ⟨hx, hl', _⟩ := slot_of h3
    refine wpAny_assign_Name (store_m (a := cAc a V sB CC cc (y :: cn) i0) (mu := (D, listO ys n) :: (I, o2) :: mu1) (im := im1) (m := m1) h3 N (s := { s' with heap := h', toks := tk }) ⟨R2, R1.oth⟩ fun s4 R4 => ?_)
    have M4 : StM P (cAc a V sB CC cc (y :: cn) i0) ρ1 im1 (τ.put 0 q0) ((y, u) :: m1) mu1 := by
      have M2 := (M1.turn (u := u) N.nd hx (fun _ _ _ e => by rw [ha] at e; cases e) (.inl hs)).setV hx (Loc.here (N.noc y hl')) (r0.up X)
      unfold Sg.put at M2 ⊢
      dsimp only at M2
      rw [lset_lset] at M2
      exact M2
    have sub : ∀ q ∈ mu1, q ∈ (D, listO ys n) :: (I, o2) :: mu1 := fun q hq => .tail _ (.tail _ hq)
    have nd1 : (mu1.map (·.1)).Nodup := by
      have := R4.H.nodup
      rw [List.map_cons, List.map_cons, List.nodup_cons, List.nodup_cons] at this
      exact this.2.2
    have R5 := R4.H.base sub nd1
    have Ce : Ct B (cAc a (CC :: mu1.map (·.1)) s4 CC cc (y :: cn) im1) cenv A { d with c := false } im1 :=
      ⟨⟨N.L, N.kind, N.glob, N.bi, N.nd, N.noc, N.cells, N.cinj⟩, ⟨C.O.fr, C.O.dep, C.O.un, C.O.hn⟩, C.S, C.EK, fun h => (C.hx h).up X.m, C.dd, (fun h => nomatch h), (fun h => nomatch h), hcd⟩
    have Me : StM P (cAc a (CC :: mu1.map (·.1)) s4 CC cc (y :: cn) im1) ρ1 im1 (τ.put 0 q0) ((y, u) :: m1) mu1 :=
      M4.re rfl rfl rfl hs (fun _ _ _ _ ⟨o, h1, h2, h3, h4⟩ => ⟨o, R4.H.evo.keep h1 h3 h4, h2, R4.H.offOld h1 h3 sub, h4⟩) (fun _ h => h) .refl
    -- back from a part
    have back : ∀ {ρ6 im6 σ6 s6}, Ext ρ1 ρ6 im1 im6 → σ6.self = none → St P (cAc a (CC :: mu1.map (·.1)) s4 CC cc (y :: cn) im1) ρ6 im6 σ6 s6 → ∃ m6 mu6, Run a.hb a.l (frs a.l) V sB CC m6 ((D, listO ys n) :: (I, o2) :: mu6) im6 s6 ∧ StM P (cAc a V sB CC cc (y :: cn) i0) ρ6 im6 σ6 m6 mu6 := by
      intro ρ6 im6 σ6 s6 X6 hs6 S6
      obtain ⟨m6, mu6, R6, M6⟩ := S6
      refine ⟨m6, mu6, ⟨R4.H.join (mr := [(D, listO ys n), (I, o2)]) (List.Perm.refl _) R6.H M6.nw, R6.oth.1.trans R4.oth.1, R6.oth.2.1.trans R4.oth.2.1, R6.oth.2.2.trans R4.oth.2.2⟩, M6.re rfl rfl rfl hs6 (fun x c v e ⟨o, h1, h2, h3, h4⟩ => ?_) (fun _ h => h) ?_⟩
      · obtain ⟨⟨o', g1⟩, g2, g3⟩ := hcap x c e
        cases Option.some.inj (h1.symm.trans (R4.H.evo.keep g1 g2 g3))
        exact ⟨o, g1, h2, g2, g3⟩
      · refine M1.nw.trans fun q hq => (M6.nw q hq).imp id fun z => ?_
        rcases z with z | z
        · exact (R4.H.evo.fresh z).symm
        · rcases List.mem_cons.mp z with z | z
          · rw [z]; exact R4.H.L0.2
          · obtain ⟨p, k1, e⟩ := List.mem_map.mp z
            rw [← e]
            exact (R4.H.offm p (sub p k1)).2.2.2.symm
    have frame : ∀ {h'' : Heap} {im6 : Im}, h''.get? I = some o2 → (∀ p ∈ im1, p ∈ im6) → (∀ p ∈ im6, h''.get? p.1 = some p.2) → Stt (j + 1) h'' := fun g1 g2 g3 => It.W.frame _ _ _ st' fun b hb ob hob => by
      rcases hfp b hb with rfl | ⟨oo, hoo⟩
      · rw [ho2] at hob; cases hob
        exact g1
      · have e1 := R2.him _ (X.m _ hoo)
        rw [hob] at e1; cases e1
        exact g3 _ (g2 _ (X.m _ hoo))
    refine test_ok (d := { d with c := false }) IT rfl hts hk Ce ⟨_, _, ⟨R5, rfl, rfl, rfl⟩, Me⟩ ha hs fun ρ5 im5 t5 σ5 s5 X5 k5 ha5 hs5 S5 => ?_
    cases t5 with
    | false =>
      rw [if_neg Bool.false_ne_true]
      obtain ⟨m6, mu6, R7, M7⟩ := back X5 hs5 S5
      exact ⟨l.length - (j + 1), by omega, j + 1, ρ5, im5, σ5, m6, mu6, o2, ys, n, accl, rfl, hlt, X.trans X5, k5, ha5, hs5, R7, M7, r1.up X5, Nat.le_succ_of_le hz, frame (R7.H.hmu _ (.tail _ (.head _))) X5.m R7.H.him⟩
    | true =>
      rw [if_pos rfl]
      refine IE h2 k5 (Ce.up X5) S5 (fun ρ6 im6 σ6 p6 v6 s6 X6 k6 r6 S6 => ?_) fun _ _ _ _ _ _ _ k _ => k.elim
      obtain ⟨ha6, k6⟩ := obD_e k6
      obtain ⟨hs6, k6⟩ := obD_e k6
      have X7 := X5.trans X6
      obtain ⟨m6, mu6, R7, M7⟩ := back X7 hs6 S6
      have hys : ys.toArray.size ≤ sizeLine := by
        rw [List.size_toArray, Reps.len r1, sizeLine_eq]
        exact Nat.le_trans (Nat.le_trans hz hj) hl
      refine append_at (R7.H.hmu _ (.head _)) (fun h8 sb hg => ?_) hys
      have eo : ({ cls := .type "list", data := .seq (ys.toArray.push v6) (n + 1) } : Obj) = listO (ys ++ [v6]) (n + 1) := by simp [listO]
      rw [eo] at hg
      have R8 := R7.H.upd (.head (o' := listO (ys ++ [v6]) (n + 1))) sb hg
      exact ⟨l.length - (j + 1), by omega, j + 1, ρ6, im6, σ6, m6, mu6, o2, ys ++ [v6], n + 1, accl ++ [p6], rfl, hlt, X.trans X7, tailK_e k6, ha6, hs6, ⟨R8, R7.oth⟩, M7, (r1.up X7).app (.cons r6 .nil), by rw [List.length_append]; exact Nat.succ_le_succ hz, frame (R8.hmu _ (.tail _ (.head _))) X7.m R8.him⟩
  · refine It.W.done s' _ _ st fun h' tk hk' => ?_
    have R2 := (R_swap R1.H).drop (h' := h') fun b o hb z => hk' b o (fun q => hb (List.mem_singleton.mp q)) z
    rw [List.drop_length] at hk
    exact fin ρ1 im1 accl τ ys n m1 mu1 _ X hk r1 ⟨R2, R1.oth⟩ M1
end Mine
end

noncomputable section
open PySem PySem.W PySem.Calls PyProof.Rows PySem.SeqAt
set_option maxRecDepth 100000
namespace Mine
section
theorem cl_key {env : Env} {g : Str → Addr} : ∀ (l : List (Str × NameKind)) (cs : List (Str × Addr)), (∀ y ∈ l.filter (fun z => z.2 == .free), cellOf env y.1 = pure (g y.1)) →
    (forIn l cs fun (y : Str × NameKind) (cs : List (Str × Addr)) => if (y.2 == NameKind.free) = true then do let a ← cellOf env y.1; pure (ForInStep.yield ((y.1, a) :: cs)) else pure (ForInStep.yield cs) : Sem (List (Str × Addr))) = pure ((l.filter (fun z => z.2 == .free)).foldl (fun cs y => (y.1, g y.1) :: cs) cs)
  | [], _, _ => rfl
  | y :: l, cs, hy => by
    rw [List.forIn_cons]
    by_cases z : (y.2 == NameKind.free) = true
    · rw [List.filter_cons, if_pos z] at hy
      rw [if_pos z, List.filter_cons, if_pos z, List.foldl_cons, hy y (.head _), pure_bind, pure_bind]
      exact cl_key l _ fun q hq => hy q (.tail _ hq)
    · rw [List.filter_cons, if_neg z] at hy
      rw [if_neg z, List.filter_cons, if_neg z, pure_bind]
      exact cl_key l _ hy
theorem cut_closure {env : Env} {sc' : Scope} {tx : Str} {c : Addr} (h : sc'.names.filter (fun z => z.2 == .free) = [(tx, .free)]) (hc : env.cells.lookup tx = some c) : closureFor sc' env = pure [(tx, c)] := by
  have := cl_key (env := env) (g := fun _ => c) sc'.names [] (by rw [h]; intro y hy; rw [List.mem_singleton.mp hy]; unfold cellOf; rw [hc])
  rw [h] at this
  unfold closureFor
  exact congrArg (fun m : Sem (List (Str × Addr)) => m >>= fun cs => pure cs) this
theorem relabel_cell {env : Env} {sc : Scope} {x : Str} (hk : env.scope.kind = .function) (he : env.kindOf x = some .cell) (h : sc.names.lookup x = some .free) : (relabel sc env).names.lookup x = some .cell := by
  have key : ∀ (l : List (Str × NameKind)), l.lookup x = some .free → (l.map fun (n, k) => if (k == NameKind.free && env.scope.kind == .function && env.kindOf n == some .cell) then (n, NameKind.cell) else (n, k)).lookup x = some .cell := by
    intro l
    induction l with
    | nil => intro h; cases h
    | cons y l ih =>
      obtain ⟨n, k⟩ := y
      intro h
      rw [List.lookup_cons] at h
      rw [List.map_cons]
      cases e : x == n with
      | true =>
        rw [e] at h
        cases h
        cases eq_of_beq e
        dsimp only
        rw [hk, he]
        simp
      | false =>
        rw [e] at h
        dsimp only
        split
        · rw [List.lookup_cons, e]; exact ih h
        · rw [List.lookup_cons, e]; exact ih h
  exact key _ h
theorem relabel_mem {env : Env} {sc : Scope} {x : Str} {k : NameKind} (h : (relabel sc env).names.lookup x = some k) : (x, k) ∈ sc.names ∨ ((x, NameKind.free) ∈ sc.names ∧ k = .cell) := by
  obtain ⟨⟨n, j⟩, h1, h2⟩ := List.mem_map.mp (mem_lookup h)
  dsimp only at h2
  split at h2
  · rename_i q
    rw [Bool.and_eq_true, Bool.and_eq_true] at q
    cases eq_of_beq q.1.1
    cases h2
    exact .inr ⟨h1, rfl⟩
  · cases h2
    exact .inl h1
theorem look_one {y x : Str} {c c' : Addr} (h : List.lookup x [(y, c)] = some c') : x = y ∧ c' = c := by
  rw [List.lookup_cons] at h
  cases e : x == y with
  | true => rw [e] at h; cases h; exact ⟨eq_of_beq e, rfl⟩
  | false => rw [e] at h; cases h
/-- a block's environment -/
theorem cenv_ok {a : Ac} {env : Env} {sc' : Scope} {y : Str} {cn : List Str} {cc : List (Str × Addr)} {V : List Addr} {sB : Shared} {CC : Addr} {i0 : Im} (N : EnvOk a env) (hk : sc'.kind = .function) (hn : sc'.names.all (cutName sc') = true) (hf : sc'.names.filter (fun z => z.2 == .free) = cn.map fun x => (x, NameKind.free)) (hy : cn.contains y = false)
    (hl : (cn.all fun x => sc'.names.lookup x == some .free) = true) (hc : (cn = [] ∧ cc = []) ∨ ∃ tx c, cn = [tx] ∧ cc = [(tx, c)] ∧ env.scope.names.lookup tx = some .cell) : EnvOk (cAc a V sB CC cc (y :: cn) i0) (compEnvC sc' cc CC env) := by
  have nocell : ∀ x, (x, NameKind.cell) ∉ sc'.names := fun x h => by
    have := List.all_eq_true.mp hn _ h
    unfold cutName at this
    cases this
  refine ⟨rfl, hk, N.glob, N.bi, ?_, fun x e => ?_, fun x e => ?_, fun x x' c e1 e2 => ?_⟩
  · rcases hc with ⟨rfl, rfl⟩ | ⟨tx, c, rfl, rfl, _⟩
    · exact List.nodup_cons.mpr ⟨nofun, .nil⟩
    · refine List.nodup_cons.mpr ⟨fun z => ?_, List.nodup_cons.mpr ⟨nofun, .nil⟩⟩
      rw [List.mem_singleton.mp z] at hy
      simp at hy
  · rcases hc with ⟨rfl, rfl⟩ | ⟨tx, c, rfl, rfl, ht⟩
    · rfl
    · have e : (relabel sc' env).names.lookup x = some .local := e
      show List.lookup x [(tx, c)] = none
      rw [List.lookup_cons]
      cases z : x == tx with
      | false => rfl
      | true =>
        cases eq_of_beq z
        exact nomatch (relabel_cell N.kind ht (eq_of_beq (List.all_eq_true.mp hl _ (.head _)))).symm.trans e
  · rcases relabel_mem (show (relabel sc' env).names.lookup x = some .cell from e) with h | ⟨h, _⟩
    · exact absurd h (nocell x)
    · have h2 : (x, NameKind.free) ∈ sc'.names.filter (fun z => z.2 == .free) := List.mem_filter.mpr ⟨h, rfl⟩
      rw [hf] at h2
      rcases hc with ⟨rfl, rfl⟩ | ⟨tx, c, rfl, rfl, _⟩
      · cases h2
      · cases List.mem_singleton.mp h2
        exact ⟨c, by simp [compEnvC], by simp⟩
  · rcases hc with ⟨rfl, rfl⟩ | ⟨tx, c', rfl, rfl, _⟩
    · cases e1
    · exact (look_one e1).1.trans (look_one e2).1.symm
end
variable {B : Base} {P : Params} {a : Ac} {ρ ρ' ρ'' : List (Addr × Addr)} {im im' im'' : Im} {σ σ' : Sg} {m m' : Vars} {mu mu' : Im} {s s₀ s' : Shared} {env : Env} {d : Md} {A A' : Around} {E : Value → Shared → Prop} {Q : Value → Shared → Prop}
  {w : Wd} {ck : Ck} {e : Expr} {K : Kt PV} {Γ : Nat → Option Fn}
theorem items_len {v : PV} {l : List PV} {k : List PV → Prop} (h : itemsK v k) (e : itemsOf v = some l) : l.length ≤ S16 := by
  cases v <;> first | exact (show False from h).elim | (cases e; first | exact h.1 | (rw [List.length_map]; exact h.1))
theorem rng_len {i j : Int} : (rngL i j).length = (j - i).toNat := by unfold rngL; rw [List.length_map, List.length_range]
/-- an iterator over what is run through -/
theorem it_ok {α : Type} {K : Kt α} {it : C} {f : List PV → Sg → Prop} (I : SndE B P w ck) (hc : itIs B.K ck env.scope a.names e it = true) (h : itK w d it σ K f) (hh : ∀ l τ, f l τ → A.handled = none) (C : Ct B a env A d im) (S : St P a ρ im σ s) (qe : KE P a ρ im K E)
    (k : ∀ ρ1 im1 σ1 l s1 o fp Pt Stt, Ext ρ ρ1 im im1 → f l σ1 → l.length ≤ S16 → St P a ρ1 im1 σ1 s1 → ItOk B.prog B.w A s1.heap.objs.size fp l.length Pt Stt → (∀ j u, j < l.length → Pt j u → ∃ q, l[j]? = some q ∧ Rep P ρ1 im1 u q) → Stt 0 (s1.heap.push o) →
      (∀ b ∈ fp, b = s1.heap.objs.size ∨ ∃ o, (b, o) ∈ im1) → o.isFreed = false → itKind o → Q (.ref s1.heap.objs.size) { s1 with heap := s1.heap.push o }) :
    wpAny (model B.prog B.w) A (eval e env) (fun v s1 => wpAny (model B.prog B.w) A (pyIter v) Q E s1) E s := by
  have gen : w.E d it σ (bk K fun v σ => itemsK v fun l => f l σ) → ck.E env.scope a.names e it = true → wpAny (model B.prog B.w) A (eval e env) (fun v s1 => wpAny (model B.prog B.w) A (pyIter v) Q E s1) E s := fun h hc =>
    I hc h C S (fun ρ1 im1 σ1 p v s1 x1 k1 r1 S1 => by
      have k1 := bkd k1
      obtain ⟨l, el, k2⟩ := itemsK_e k1
      exact iter_ok el r1 (hh _ _ k2) S1 fun o fp Pt Stt It hP st0 hfp ho ik => k _ _ _ _ _ _ _ _ _ x1 k2 (items_len k1 el) S1 It (fun j u _ h => hP j u h) st0 hfp ho ik) qe
  cases it <;> first | exact gen h hc | skip
  rename_i x y
  obtain ⟨fx, fpx, l, fpos, rfl, hl, hf⟩ := callIs_e hc
  refine onTwo_e hf fun x1 x2 hf2 e1 => and3 hf2 fun hb h1 h2 => ?_
  subst e1
  have hs : noStar x1 = true ∧ noStar x2 = true := by rw [List.all_cons, List.all_cons, Bool.and_eq_true, Bool.and_eq_true] at hl; exact ⟨hl.1, hl.2.1⟩
  refine wpAny_Call_Name_kw (built_e hb C S (callB hl (.inr ⟨_, rfl⟩) (spl_cons hs.1 (I h1 h C S (fun ρ1 im1 σ1 p1 v1 s1 X1 k1 r1 S1 => spl_cons hs.2 (I h2 (bkd k1) (C.up X1) S1 (fun ρ2 im2 σ2 p2 v2 s2 X2 k2 r2 S2 => spl_nil ?_) (qe.up X1))) qe))))
  obtain ⟨i, rfl, k3⟩ := onInt_e (bkd k2)
  obtain ⟨j, rfl, ⟨hij, hi, hj⟩, k4⟩ := onInt_e k3
  obtain ⟨t, rfl⟩ := (r1.up X2).int_e
  obtain ⟨u, rfl⟩ := r2.int_e
  have S3 := (S2.push { cls := .type "range", data := .fields #[.int i t, .int j u, .int 1 s2.toks] } rfl).tk (s2.toks + 1)
  refine call_range_2 ?_
  have g : ({ s2 with heap := s2.heap.push { cls := .type "range", data := .fields #[.int i t, .int j u, .int 1 s2.toks] }, toks := s2.toks + 1 } : Shared).heap.get? s2.heap.objs.size = some { cls := .type "range", data := .fields #[.int i t, .int j u, .int 1 s2.toks] } := Heap.get?_push_size _ rfl
  obtain ⟨n, hn⟩ := Int.eq_ofNat_of_zero_le (Int.sub_nonneg_of_le hij)
  have el : (rngL i j).length = n := by rw [rng_len, hn]; rfl
  have hn20 : n ≤ S16 := by clear el; show n ≤ 16777216; omega
  refine wpAny_pyIter_range g (PySem.small_one (by omega) (by omega) (by omega) (by omega)) ?_
  have hsz : Builtin.Range.rangeSize i j 1 = (n : Int) := by rw [PySem.rangeSize_one]; split <;> omega
  rw [hsz]
  have W' := Walks.range (prog := B.prog) (w := B.w) (hh _ _ k4) (s2.heap.push { cls := .type "range", data := .fields #[.int i t, .int j u, .int 1 s2.toks] }).objs.size i 1 n
  simp only [Int.mul_one] at W'
  refine k ρ2 _ σ2 (rngL i j) _ _ _ (fun q v => ∃ t, v = .int (i + (q : Int)) t) (fun q h => IsRangeIter h (s2.heap.push { cls := .type "range", data := .fields #[.int i t, .int j u, .int 1 s2.toks] }).objs.size (i + (q : Nat)) ((n : Int) - (q : Nat)) 1) ((X1.trans X2).trans .one) k4 (el ▸ hn20) S3 ⟨by rw [el]; exact W', fun i h st => ⟨_, st, it_of rfl (by decide) (by decide) (by decide) (by decide)⟩⟩ (fun q v hq hv => ?_) ?_ (fun b hb => .inl (List.mem_singleton.mp hb)) rfl (it_of rfl (by decide) (by decide) (by decide) (by decide))
  · obtain ⟨t', rfl⟩ := hv
    rw [rng_len] at hq
    refine ⟨.int (i + (q : Int)), ?_, t', rfl⟩
    unfold rngL
    rw [List.getElem?_map, List.getElem?_range hq]; rfl
  · have := Heap.get?_push_size (s2.heap.push { cls := .type "range", data := .fields #[.int i t, .int j u, .int 1 s2.toks] }) (o := ({ cls := .type "range_iterator", data := .fields #[rawInt i, rawInt n, rawInt 1] } : Obj)) rfl
    simpa using this
end Mine
end

noncomputable section
open PySem PySem.W PySem.Calls PyProof.Rows PySem.SeqAt
set_option maxRecDepth 100000
namespace Mine
variable {B : Base} {P : Params} {a : Ac} {ρ ρ' ρ'' : List (Addr × Addr)} {im im' im'' : Im} {σ σ' : Sg} {m m' : Vars} {mu mu' : Im} {s s₀ s' : Shared} {env : Env} {d : Md} {A A' : Around} {E : Value → Shared → Prop} {Q : Value → Shared → Prop}
  {w : Wd} {ck : Ck} {e : Expr} {K : Kt PV} {Γ : Nat → Option Fn} {st : Stmt} {Kf : Kt Fl} {Qf : Flow → Shared → Prop}
/-- what is captured: the cell -/
inductive CapI (a : Ac) (env : Env) : Option Nat → List Str → List (Str × Addr) → Prop
  | no : CapI a env none [] []
  | one {j tx c} : a.names[j]? = some tx → env.scope.names.lookup tx = some .cell → env.cells.lookup tx = some c → a.cells.lookup tx = some c → CapI a env (some j) [tx] [(tx, c)]
/-- its value -/
inductive CapV (P : Params) (ρ : List (Addr × Addr)) (im mu : Im) : List Str → List (Str × Addr) → List (Option PV) → Prop
  | no : CapV P ρ im mu [] [] []
  | one {tx c o u v} : (c, o) ∈ mu → o.data = .cell (some u) → Rep P ρ im u v → CapV P ρ im mu [tx] [(tx, c)] [some v]
theorem capI_of {cap : Option Nat} (hc : capOk env.scope a.names cap = true) (N : EnvOk a env) : ∃ cc, CapI a env cap (capNs a.names cap) cc := by
  cases cap with
  | none => exact ⟨[], .no⟩
  | some j =>
    refine onSome_e hc fun tx hc1 e1 => ?_
    obtain ⟨hx, hl, _⟩ := cell_of hc1
    obtain ⟨c, n1, n2⟩ := N.cells tx hl
    have e : capNs a.names (some j) = [tx] := by
      show (match a.names[j]? with | some x => [x] | none => []) = _
      rw [hx]
    rw [e]
    exact ⟨[(tx, c)], .one hx hl n1 n2⟩
theorem capV_of {cap : Option Nat} {cn : List Str} {cc : List (Str × Addr)} {k : List (Option PV) → Prop} (h : capK d σ cap k) (I : CapI a env cap cn cc) (ro : d.c = true → a.ro = false) (M : StM P a ρ im σ m mu) (R : Run a.hb a.l a.fr a.V a.s₀ a.L m mu im s) :
    ∃ cv, k cv ∧ CapV P ρ im mu cn cc cv := by
  cases I with
  | no => exact ⟨[], h, .no⟩
  | @one j tx c hx hl n1 n2 =>
    obtain ⟨dc, h⟩ := obD_e h
    split at h
    · rename_i v hv
      obtain ⟨x', u, g1, g2, g3⟩ := M.vars j _ hv
      rw [hx] at g1; cases g1
      rcases g2 with ⟨z, _⟩ | ⟨c', z, hm⟩
      · rw [n2] at z; cases z
      · rw [n2] at z; cases z
        obtain ⟨v', o', h1, h2⟩ := M.cel (ro dc) tx c n2
        obtain ⟨o2, h3, h4⟩ := hm.at R
        cases Option.some.inj ((R.H.hmu _ h1).symm.trans h3)
        exact ⟨[some v], h, .one h1 h4 g3⟩
    · exact h.elim
/-- a comprehension, up to its list -/
theorem comp_any {elt it : C} {ts : Option C} {cap : Option Nat} {kk : Scope → Bool} {use : Option (Value → Sem Unit)} {α : Type} {Ka : Kt α} {f : PV → Sg → Prop} {T : Expr → Prop} (IE : SndE B P w ck) (IT : SndT B P w ck) (hc : compIs B.K ck env.scope a.names e elt ts cap it kk = true) (h : compS w d elt ts cap it σ Ka f) (C : Ct B a env A d im) (S : St P a ρ im σ s) (qe : KE P a ρ im Ka E)
    (go : ∀ x gt iter gi sc' pos, e = .ListComp x [⟨gt, iter, gi, 0⟩] sc' pos → kk sc' = true → wpAny (model B.prog B.w) A (comprehension (.ListComp x [⟨gt, iter, gi, 0⟩] sc' pos) sc' env (firstIterPos [⟨gt, iter, gi, 0⟩] pos) (newList []) false (eval iter env) use) Q E s → T (.ListComp x [⟨gt, iter, gi, 0⟩] sc' pos))
    (post : ∀ ρ' im' p σ' v oC mu' m s' CC fn, Ext ρ ρ' im im' → f p σ' → Rep P ρ' im' v p → Run a.hb a.l a.fr a.V a.s₀ a.L m ((CC, oC) :: mu') im' s' → (∀ h : Heap, h.get? CC = some oC → h.Ns CC fn) → StM P a ρ' im' σ' m mu' → compPost (model B.prog B.w) A E use Q v CC (.ok .next) s') : T e := by
  unfold compIs at hc
  refine onLC_e hc fun x gs sc' pos hc1 e0 => onOne_e hc1 fun g hc2 eg => onName_e hc2 fun y py hc3 ey => ?_
  clear hc hc1 hc2
  refine and2 hc3 fun hA hBC => and2 hBC fun hB hC => and4 hA fun has hns hit hcp => and5 hB fun hk hn hf hy hl => and4 hC fun helt hts hsl hkk => ?_
  clear hc3 hA hBC hB hC
  obtain ⟨gt, iter, gi, ga⟩ := g
  dsimp only at ey has hns hit hts
  cases eq_of_beq has
  subst eg ey
  rw [e0]
  have hk := eq_of_beq hk
  have hf := eq_of_beq hf
  have hy := not_e hy
  have n2 : ∀ z ∈ sc'.names, z.2 ≠ .cell := fun z hz e => by
    have := List.all_eq_true.mp hn z hz
    unfold cutName at this
    rw [e] at this; cases this
  have n3 : ∀ z ∈ sc'.names, z.2 = .local → sc'.names.lookup z.1 = some .local := fun z hz e => by
    have := List.all_eq_true.mp hn z hz
    unfold cutName at this
    rw [e] at this
    exact eq_of_beq (and2 this fun _ g => g)
  obtain ⟨cc, CI⟩ := capI_of hcp C.N
  generalize capNs a.names cap = cn at CI hf hy hl helt hts hsl
  have hclos : closureFor sc' env = pure cc := by
    cases CI with
    | no =>
      refine closureFor_none fun z hz e => ?_
      have : z ∈ sc'.names.filter (fun z => z.2 == .free) := List.mem_filter.mpr ⟨hz, by rw [e]; rfl⟩
      rw [hf] at this
      cases this
    | one _ _ n1 _ => exact cut_closure hf n1
  have NE : ∀ {V sB CC i0}, EnvOk (cAc a V sB CC cc (y :: cn) i0) (compEnvC sc' cc CC env) := fun {V sB CC i0} => cenv_ok C.N hk hn hf hy hl (by
    cases CI with
    | no => exact .inl ⟨rfl, rfl⟩
    | one _ hl2 _ _ => exact .inr ⟨_, _, rfl, rfl, hl2⟩)
  refine go _ _ _ _ _ _ e0 hkk (wpAny_comprehension_free rfl (fold_of hns) hclos hk n3 ?_)
  refine it_ok IE hit h (fun _ _ k => C.O.hn (obD_e k).1) C S qe fun ρ1 im1 σ1 l s1 o fp Pt Stt x1 k1 hl S1 It hP st0 hfp ho ik => ?_
  obtain ⟨dh, k2⟩ := obD_e k1
  obtain ⟨m, mu, R0, M⟩ := S1
  obtain ⟨cv, k2, CV⟩ := capV_of k2 CI C.ro M R0
  refine wpAny_newObj_type (hd := by size_fits) (wpAny_newFunctionEnv n2 (by intro y hy; cases hy) (fun h₁ hns hsb => ?_) hk)
  have Ra := (R0.H.pushM o ho).pushM (listO [] 0) rfl
  have keep : ∀ b o', ((s1.heap.push o).push (listO [] 0)).get? b = some o' → h₁.get? b = some o' := fun b o' e => (hsb.2 b (Nat.ne_of_lt (Heap.lt_size e))).trans (Heap.get?_push_of_some _ e)
  have hmi : ∀ q ∈ ((s1.heap.push o).objs.size, listO [] 0) :: (s1.heap.objs.size, o) :: mu.filter (ofObjs ρ1), q ∈ ((s1.heap.push o).objs.size, listO [] 0) :: (s1.heap.objs.size, o) :: mu := fun q hq => by
    rcases List.mem_cons.mp hq with rfl | hq
    · exact .head _
    · rcases List.mem_cons.mp hq with rfl | hq
      · exact .tail _ (.head _)
      · exact .tail _ (.tail _ (List.mem_filter.mp hq).1)
  have nd := ((((List.filter_sublist (l := mu) (p := ofObjs ρ1)).cons_cons (s1.heap.objs.size, o)).cons_cons ((s1.heap.push o).objs.size, listO [] 0)).map (·.1)).nodup Ra.nodup
  have Rb := Ra.block hmi nd hns keep
  have hDI : (s1.heap.push o).objs.size ≠ s1.heap.objs.size := by rw [Heap.size_push]; exact Nat.succ_ne_self _
  have hcap : ∀ {c oc u}, (c, oc) ∈ mu → oc.data = .cell u → ((s1.heap.push o).push (listO [] 0)).get? c = some oc ∧ c ∉ (((s1.heap.push o).objs.size, listO [] 0) :: (s1.heap.objs.size, o) :: mu.filter (ofObjs ρ1)).map (·.1) ∧ c ∉ frs a.l := fun {c oc u} hm hd => by
    have hg := R0.H.hmu _ hm
    refine ⟨Heap.get?_push_of_some _ (Heap.get?_push_of_some _ hg), fun z => ?_, (R0.H.offm _ hm).2.1⟩
    rcases List.mem_cons.mp z with z | z
    · exact Nat.ne_of_lt (Heap.lt_size (Heap.get?_push_of_some _ hg)) z
    · rcases List.mem_cons.mp z with z | z
      · exact Nat.ne_of_lt (Heap.lt_size hg) z
      · obtain ⟨p, hp, e⟩ := List.mem_map.mp z
        obtain ⟨q, h1, h2⟩ := List.any_eq_true.mp (List.mem_filter.mp hp).2
        exact M.offO R0 (fun _ h => h) hm (fun _ _ z => nomatch hd.symm.trans (congrArg Obj.data z)) q h1 ((Nat.eq_of_beq_eq_true h2).trans e)
  have Mb : StM P (cAc a ((((s1.heap.push o).objs.size, listO [] 0) :: (s1.heap.objs.size, o) :: mu.filter (ofObjs ρ1)).map (·.1)) { s1 with heap := (s1.heap.push o).push (listO [] 0) } ((s1.heap.push o).push (listO [] 0)).objs.size cc (y :: cn) im1) ρ1 im1 ⟨none :: cv, none, none, σ1.objs⟩ [] (mu.filter (ofObjs ρ1)) := by
    refine ⟨fun i v e => ?_, fun _ _ _ e => (nomatch e), fun _ _ e => (nomatch e), fun i f e => let ⟨x, D, es, vs, h1, h2, h3, h4, h5⟩ := M.objs i f e; ⟨x, D, es, vs, h1, h2, inO h1 h3, h4, h5⟩, M.len, M.nd, .refl, fun r => nomatch r⟩
    cases CV with
    | no => cases i <;> cases e
    | @one tx c oc u v0 hm hd hr =>
      cases i with
      | zero => cases e
      | succ i =>
        cases i with
        | succ i => cases e
        | zero =>
          cases e
          obtain ⟨g1, g2, g3⟩ := hcap hm hd
          exact ⟨tx, u, rfl, .inr ⟨c, by simp, .inr ⟨oc, g1, hd, g2, g3⟩⟩, hr⟩
  have hCap : Cap cc ((s1.heap.push o).push (listO [] 0)) ((((s1.heap.push o).objs.size, listO [] 0) :: (s1.heap.objs.size, o) :: mu.filter (ofObjs ρ1)).map (·.1)) (frs a.l) := fun x c e => by
    cases CV with
    | no => cases e
    | one hm hd hr =>
      cases (look_one e).2
      obtain ⟨g1, g2, g3⟩ := hcap hm hd
      exact ⟨⟨_, g1⟩, g2, g3⟩
  have loop : ∀ s3 : Shared, s3 = { s1 with heap := h₁, toks := s1.toks + ([] : List (Str × Value)).length } → codeAny (model B.prog B.w) A (.compLoop (.ListComp x [⟨.Name y py, iter, gi, 0⟩] sc' pos) 0 (.ref s1.heap.objs.size) (.ref (s1.heap.push o).objs.size) (compEnvC sc' cc ((s1.heap.push o).push (listO [] 0)).objs.size env))
      (compPost (model B.prog B.w) A E use Q (.ref (s1.heap.push o).objs.size) ((s1.heap.push o).push (listO [] 0)).objs.size) s3 := by
    rintro s3 rfl
    refine comp_loop (o0 := o) (i0 := im1) (sB := { s1 with heap := (s1.heap.push o).push (listO [] 0) }) IE IT NE hCap helt hts hsl C.cd (C.up x1) hl It hP hfp hDI k2 ⟨Rb, rfl, rfl, rfl⟩ Mb (It.W.frame _ _ _ st0 fun b _ ob hob => keep _ _ (Heap.get?_push_of_some _ hob)) ?_
    intro ρ2 im2 ps τ ys n m2 mu2 s2 X2 hf rr R2 M2
    obtain ⟨fn, hfn, _⟩ := R2.H.ns
    obtain ⟨oC, es, ep, hC, sC⟩ := hfn
    have hp : (((s1.heap.push o).objs.size, listO [] 0) :: (s1.heap.objs.size, o) :: mu).Perm (mu.filter (fun p => !ofObjs ρ1 p) ++ (((s1.heap.push o).objs.size, listO [] 0) :: (s1.heap.objs.size, o) :: mu.filter (ofObjs ρ1))) :=
      (((split_perm ρ1 mu).cons _).cons _).trans ((List.perm_middle.symm.cons _).trans List.perm_middle.symm)
    have bk := fun {mu2' : Im} (R2 : Run a.hb a.l (frs a.l) ((((s1.heap.push o).objs.size, listO [] 0) :: (s1.heap.objs.size, o) :: mu.filter (ofObjs ρ1)).map (·.1)) { s1 with heap := (s1.heap.push o).push (listO [] 0) } ((s1.heap.push o).push (listO [] 0)).objs.size m2 mu2' im2 s2)
        (M2 : StM P (cAc a ((((s1.heap.push o).objs.size, listO [] 0) :: (s1.heap.objs.size, o) :: mu.filter (ofObjs ρ1)).map (·.1)) { s1 with heap := (s1.heap.push o).push (listO [] 0) } ((s1.heap.push o).push (listO [] 0)).objs.size cc (y :: cn) im1) ρ2 im2 τ m2 mu2') =>
      back_m (mu1 := ((s1.heap.push o).objs.size, listO [] 0) :: (s1.heap.objs.size, o) :: mu) (im1 := im1) (b := cAc a ((((s1.heap.push o).objs.size, listO [] 0) :: (s1.heap.objs.size, o) :: mu.filter (ofObjs ρ1)).map (·.1)) { s1 with heap := (s1.heap.push o).push (listO [] 0) } ((s1.heap.push o).push (listO [] 0)).objs.size cc (y :: cn) im1)
        (s := { s1 with heap := (s1.heap.push o).push (listO [] 0) }) ⟨Ra, R0.oth⟩ M rfl (fun _ h => h) (fun _ h => h) rfl rfl rfl hp (fun _ h => .tail _ (.tail _ h)) (fun p hp ne => outO hp ne) M.nw rfl X2 R2 M2
    have R6 := (bk R2 (M2.addM _)).1
    have M6 := (bk (R2.lessM (List.sublist_cons_self _ _)) M2).2
    have R7 := (R6.H.perm List.perm_middle).fix
    refine post ρ2 _ (.lst ps) { σ1 with objs := τ.objs } _ oC _ m s2 _ fn (x1.trans (X2.trans .one)) hf (Rep.lst (.head _) ⟨rfl, n, rfl⟩ (Reps.up .one rr)) ⟨Ra.gainM R7 (get_size _) hC (fun p hp => ?_) (fun p hp => ?_), R6.oth⟩ (fun h e => ⟨oC, es, ep, e, sC⟩) (M6.up .one (NewI.ofM ⟨R6.H, R6.oth⟩ (List.mem_append_right _ (.head _))) fun _ z => z)
    · rcases List.mem_append.mp hp with z | z
      · exact Nat.ne_of_lt (Heap.lt_size (Ra.hmu p (.tail _ (.tail _ (List.mem_filter.mp z).1))))
      · exact (R2.H.offm p (.tail _ z)).1
    · rcases List.mem_cons.mp hp with rfl | z
      · exact (R2.H.offm _ (.head _)).1
      · exact (R2.H.offi p z).1
  exact codeAny_compStart_list (loop _ rfl) (It.W.self 0 _ _ _ (It.W.frame _ _ _ st0 fun b _ ob hob => keep _ _ (Heap.get?_push_of_some _ hob)) (loop _ rfl))
theorem e_comp {elt it : C} {ts : Option C} {cap : Option Nat} (IE : SndE B P w ck) (IT : SndT B P w ck) (hc : ckE B.K ck env.scope a.names e (.comp elt ts cap it) = true) (h : stepE w d (.comp elt ts cap it) σ K) (C : Ct B a env A d im) (S : St P a ρ im σ s) (q : KQ P a ρ im K Q) (qe : KE P a ρ im K E) :
    wpAny (model B.prog B.w) A (eval e env) Q E s := by
  have hc' : compIs B.K ck env.scope a.names e elt ts cap it (fun _ => true) = true := hc
  have h' : compS w d elt ts cap it σ K (fun v σ => K (.ok v) σ) := h
  exact comp_any (T := fun e => wpAny (model B.prog B.w) A (eval e env) Q E s) (use := none) IE IT hc' h' C S qe (fun _ _ _ _ _ _ _ _ h => h) fun _ _ _ _ _ _ _ _ _ _ fn X hf r R hns M => ⟨fn, hns _ (R.H.hmu _ (.head _)), fun _ sb => q _ _ _ _ _ _ X hf r ⟨_, _, ⟨R.H.drop fun b o ne e => (sb.2 b ne).trans e, R.oth⟩, M⟩⟩
/-- a list's comprehension is stored -/
theorem s_asgc {i : Nat} {c : C} (IE : SndE B P w ck) (IT : SndT B P w ck) (hc : ckS B.K ck env.scope a.names st (.asgc i c) = true) (h : stepS w d (.asgc i c) σ Kf) (C : Ct B a env A d im) (S : St P a ρ im σ s) (q : KQf P a ρ im Kf Qf) (qe : KE P a ρ im Kf E) : wpAny (model B.prog B.w) A (exec st env) Qf E s := by
  refine onAsg_e hc fun tg e pos hc1 es => onName_e hc1 fun y ypos hc2 et => ?_
  clear hc hc1
  subst et; subst es
  refine and2 hc2 fun hy hc3 => ?_
  cases c <;> first | exact (Bool.false_ne_true hc3).elim | skip
  rename_i elt ts cap it
  obtain ⟨hyx, hyl, _⟩ := slot_of hy
  have h' : compS w d elt ts cap it σ Kf (fun v σ => obD (asgOk σ i = true) <| Kf (.ok .next) (σ.put i v)) := h
  refine comp_any (T := fun e => wpAny (model B.prog B.w) A (exec (.Assign [.Name y ypos] e pos) env) Qf E s) (Q := fun _ s' => Qf .next s') (use := some (assign (.Name y ypos) env)) IE IT hc3 h' C S qe (fun x gt it' gi sc' lpos he hk hw => ?_) fun ρ' im' p σ' v oC mu' m s' CC fn X hf r R hns M => ?_
  · subst he
    refine and2 hk fun hline hnot => ?_
    have hsw : swapsWith (.ListComp x [⟨gt, it', gi, 0⟩] sc' lpos) (some (.Name y ypos)) pos.line env = pure true := by
      have hbk : env.blockKind = .function := by unfold Env.blockKind; rw [C.N.kind]; rfl
      have hyk : env.kindOf y = some .local := hyl
      unfold swapsWith
      dsimp only
      rw [hbk, hyk]
      have z1 : (ypos.line == lpos.line) = true := hline
      rw [show (Expr.ListComp x [⟨gt, it', gi, 0⟩] sc' lpos).pos = lpos from rfl, z1, hnot]
      rfl
    rw [exec_Assign_Name_used _ _ _ _ hsw]
    refine wpAny_bind (wpAny_standAt (wpAny_bind ?_))
    show wpAny _ A (do let _ ← comprehension (.ListComp x [⟨gt, it', gi, 0⟩] sc' lpos) sc' env _ (newList []) false (eval it' env) (some (assign (.Name y ypos) env))) _ _ s
    exact wpAny_bind (wpAny_mono hw (fun _ s' hq => wpAny_pure (wpAny_pure hq)) fun _ _ e => e)
  · obtain ⟨ok, k⟩ := obD_e hf
    obtain ⟨y1, y2⟩ := asg_e ok
    refine wpAny_assign_Name (store_m hy C.N R fun s4 R4 => ⟨fn, hns _ (R4.H.hmu _ (.head _)), fun h5 hs5 => ?_⟩)
    refine q _ _ _ .next _ _ X k rfl ⟨_, _, ⟨R4.H.drop fun b o ne e => (hs5.2 b ne).trans e, R4.oth⟩, ?_⟩
    have M2 := (M.turn (u := v) C.N.nd hyx y1 y2).setV hyx (Loc.here (C.N.noc y hyl)) r
    unfold Sg.put at M2 ⊢
    dsimp only at M2
    rw [lset_lset] at M2
    exact M2
theorem e_min {x y : C} (I : SndE B P w ck) (hc : ckE B.K ck env.scope a.names e (.min x y) = true) (h : stepE w d (.min x y) σ K) (C : Ct B a env A d im) (S : St P a ρ im σ s) (q : KQ P a ρ im K Q) (qe : KE P a ρ im K E) :
    wpAny (model B.prog B.w) A (eval e env) Q E s := by
  obtain ⟨fx, fpx, l, fpos, rfl, hl, hf⟩ := callIs_e hc
  refine onTwo_e hf fun x1 x2 hf2 e1 => and3 hf2 fun hb h1 h2 => ?_
  subst e1
  have hs : noStar x1 = true ∧ noStar x2 = true := by rw [List.all_cons, List.all_cons, Bool.and_eq_true, Bool.and_eq_true] at hl; exact ⟨hl.1, hl.2.1⟩
  refine wpAny_Call_Name_kw (built_e hb C S (callB hl (.inl ⟨_, rfl⟩) (spl_cons hs.1 (I h1 h C S (fun ρ1 im1 σ1 p1 v1 s1 X1 k1 r1 S1 => spl_cons hs.2 (I h2 (bkd k1) (C.up X1) S1 (fun ρ2 im2 σ2 p2 v2 s2 X2 k2 r2 S2 => spl_nil ?_) (qe.up X1))) qe))))
  obtain ⟨i, rfl, k3⟩ := onInt_e (bkd k2)
  obtain ⟨j, rfl, k4⟩ := onInt_e k3
  obtain ⟨hh, k5⟩ := obD_e k4
  obtain ⟨t, rfl⟩ := (r1.up X2).int_e
  obtain ⟨u, rfl⟩ := r2.int_e
  obtain ⟨m, mu, R, M⟩ := S2
  refine min_two_ints (C.O.hn hh) fun h' tk kp => q _ _ _ _ _ _ (X1.trans X2) k5 ?_ ⟨m, mu, ⟨R.H.keeps kp, R.oth⟩, M⟩
  by_cases z : j < i
  · rw [if_pos z, if_pos z]; exact Rep.int
  · rw [if_neg z, if_neg z]; exact Rep.int
end Mine
end

noncomputable section
open PySem PySem.W PySem.Calls PyProof.Rows PySem.SeqAt
set_option maxRecDepth 100000
namespace Mine
variable {B : Base} {P : Params} {Γ : Nat → Option Fn}
noncomputable def Ck.bot : Ck := ⟨fun _ _ _ _ => false, fun _ _ _ _ => false, fun _ _ _ _ => false, fun _ _ _ _ => false⟩
noncomputable def Ck.step (K : Frag) (w : Ck) : Ck := ⟨ckX K w, ckEs w, ckS K w, ckSs w⟩
noncomputable def ckN (K : Frag) (n : Nat) : Ck := Nat.rec Ck.bot (fun _ w => Ck.step K w) n
structure KAll (K : Frag) : Prop where
  o : KOk K
  e : ExcK K
  m : MkK K
structure All (B : Base) (P : Params) (Γ : Nat → Option Fn) (n : Nat) : Prop where
  E : ∀ k, SndE B P (W Γ n) (ckN B.K k)
  Es : ∀ k, SndEs B P (W Γ n) (ckN B.K k)
  T : ∀ k, SndT B P (W Γ n) (ckN B.K k)
  S : ∀ k, SndS B P (W Γ n) (ckN B.K k)
  Ss : ∀ k, SndSs B P (W Γ n) (ckN B.K k)
  F : SndF B P (W Γ n)
  M : SndM B P (W Γ n)
  I : SndI B P (W Γ n)
structure GOk (B : Base) (Γ : Nat → Option Fn) : Prop where
  f : ∀ f fn, Γ f = some fn → f ≠ 38 → ∃ k, FnAt B (ckN B.K k) f fn
  i : ∀ fn, Γ 38 = some fn → ∃ k, FnI B (ckN B.K k) fn
theorem all_zero : All B P Γ 0 :=
  ⟨by intro k a env A d ρ im σ s e c K Q E hc h; exact False.elim h, by intro k a env A d ρ im σ s e c K Q E pos hc hl h; exact False.elim h, by intro k a env A d ρ im σ s e c K Q E hc h; exact False.elim h, by intro k a env A d ρ im σ s e c K Q E hc h; exact False.elim h,
    by intro k a env A d ρ im σ s e c K Q E hc h; exact False.elim h, by intro a env A A' d ρ im σ s f vs l K R ne h; exact False.elim h, by intro a env A d ρ im σ s vs l Q E K h; exact False.elim h, by intro a env A d ρ im σ s vs l Q E K h; exact False.elim h⟩
theorem all_E {n k : Nat} (KA : KAll B.K) (hP : P = B.w.params) (H : All B P Γ n) : SndE B P (W Γ (n + 1)) (ckN B.K (k + 1)) := by
  intro a env A d ρ im σ s e c K Q E hc h C S q qe
  have hc := ((Bool.and_eq_true _ _).mp (show ((isTest c || plainT e) && ckE B.K (ckN B.K k) env.scope a.names e c) = true from hc)).2
  have h : stepE (W Γ n) d c σ K := h
  cases c with
  | k v => exact e_k hc h S q
  | v i => exact e_v hc h C S q
  | g k => exact e_g hc h C S q
  | sget n => exact e_sget KA.o hc h C S q
  | bin o a b => exact e_bin (H.E k) hc h C S q qe
  | cmp o a b => exact e_cmp (H.E k) hP hc h C S q qe
  | cmp2 o p a b c => exact e_cmp2 (H.E k) hP hc h C S q qe
  | bop o l => exact e_bop (H.E k) hc h C S q qe
  | not a => exact e_not (H.E k) hc h C S q qe
  | neg a => exact e_neg (H.E k) hc h C S q qe
  | ife t a b => exact e_ife (H.E k) (H.T k) hc h C S q qe
  | tup l => exact e_tup (H.Es k) hc h C S q qe
  | lst l => exact e_lst (H.Es k) hc h C S q qe
  | get a n => exact e_get (H.E k) H.F KA.o hc h C S q qe
  | cal f l => exact e_cal (H.Es k) H.F hc h C S q qe
  | mk b l => exact e_mk (H.Es k) H.M H.I hc h C S q qe
  | mt a f l => exact e_mt (H.E k) (H.Es k) H.F KA.o hc h C S q qe
  | cb b l => exact e_cb (H.E k) hc h C S q qe
  | mb m a l => exact e_mb (H.E k) (H.Es k) hc h C S q qe
  | sub a i => exact e_sub (H.E k) hc h C S q qe
  | sli a lo hi => exact e_sli (H.E k) hc h C S q qe
  | comp elt ts cap it => exact e_comp (H.E k) (H.T k) hc h C S q qe
  | rng a b => exact (show False from h).elim
  | min a b => exact e_min (H.E k) hc h C S q qe
  | pick l i => exact e_pick hc h C S q
  | set l => exact e_set hP hc h C S q
  | cv i => exact e_cv hc h C S q
theorem all_S {n k : Nat} (KA : KAll B.K) (hP : P = B.w.params) (HH : ∀ m, m ≤ n → All B P Γ m) : SndS B P (W Γ (n + 1)) (ckN B.K (k + 1)) := by
  intro a env A d ρ im σ s st c K Q E hc h C S q qe
  have H := HH n (Nat.le_refl _)
  have hc : ckS B.K (ckN B.K k) env.scope a.names st c = true := hc
  have h : stepS (W Γ n) d c σ K := h
  cases c with
  | ex c => exact s_ex (H.E k) hc h C S q qe
  | casg i c => exact s_casg (H.E k) hc h C S q qe
  | asgc i c => exact s_asgc (H.E k) (H.T k) hc h C S q qe
  | cuts i t a b => exact (Bool.false_ne_true hc).elim
  | asg i c => exact s_asg (H.E k) hc h C S q qe
  | aug i o c => exact s_aug (H.E k) hc h C S q qe
  | mls i l => exact s_mls (H.Es k) hc h C S q qe
  | app i c => exact s_app (H.E k) hc h C S q qe
  | ext i l => exact s_ext (H.Es k) hc h C S q qe
  | sat a n c => exact s_sat (H.E k) KA.o hP hc h C S q qe
  | sset n c => exact s_sset (H.E k) KA.o hP hc h C S q qe
  | sup c => exact (Bool.false_ne_true hc).elim
  | ret c => exact s_ret (H.E k) hc h C S q qe
  | ret0 => exact s_ret0 hc h S q
  | iff c x y => exact s_iff (H.T k) (H.Ss k) hc h C S q qe
  | whl c x => exact s_whl (fun m hm => ⟨(HH m (Nat.le_of_lt hm)).T k, (HH m (Nat.le_of_lt hm)).Ss k⟩) hc h C S q qe
  | for_ i it b =>
    cases it with
    | of c => exact s_for (H.E k) (fun m hm => (HH m (Nat.le_of_lt hm)).Ss k) hc h C S q qe
    | range c => exact s_forR (H.E k) (fun m hm => (HH m (Nat.le_of_lt hm)).Ss k) hc h C S q qe
  | brk => exact s_brk hc h S q
  | tryIx x y => exact s_tryIx (H.Ss k) hc h C S q qe
  | tryPe x i y => exact s_tryPe (H.Ss k) KA.e hc h C S q qe
  | raise l => exact s_raise (H.Es k) H.I KA.e hc h C S qe
  | wall => exact False.elim h
theorem all_ok (KA : KAll B.K) (G : GOk B Γ) : ∀ n, All B B.w.params Γ n := by
  intro n
  induction n using Nat.strongRecOn with
  | _ n HH =>
    cases n with
    | zero => exact all_zero
    | succ n =>
      have H := HH n (Nat.lt_succ_self _)
      have HE : ∀ k, SndE B B.w.params (W Γ (n + 1)) (ckN B.K k) := fun k => by
        cases k with
        | zero => exact fun hc => (Bool.false_ne_true hc).elim
        | succ k => exact all_E KA rfl H
      have HF : SndF B B.w.params (W Γ (n + 1)) := f_ok fun f fn h ne => let ⟨k, FA⟩ := G.f f fn h ne; ⟨_, FA, H.Ss k⟩
      refine ⟨HE, fun k => ?_, fun k => ?_, fun k => ?_, fun k => ?_, HF, m_ok HF KA.m, ?_⟩
      · cases k with
        | zero => exact fun hc => (Bool.false_ne_true hc).elim
        | succ k => exact fun hc hl h C S q qe => s_es (H.E k) (H.Es k) hc hl h C S q qe
      · cases k with
        | zero => exact fun hc => (Bool.false_ne_true hc).elim
        | succ k => exact fun hc h C S q qe => s_t rfl (H.E k) (H.T k) (HE (k + 1)) rfl rfl hc h C S q qe
      · cases k with
        | zero => exact fun hc => (Bool.false_ne_true hc).elim
        | succ k => exact all_S KA rfl fun m hm => HH m (Nat.lt_succ_of_le hm)
      · cases k with
        | zero => exact fun hc => (Bool.false_ne_true hc).elim
        | succ k => exact fun hc h C S q qe => s_ss (H.S k) (H.Ss k) hc h C S q qe
      · cases hg : Γ 38 with
        | none =>
          intro a env A d ρ im σ s vs l Q E K h
          have h : stepF Γ (W Γ n) { d with d := d.d + 1 } 38 l σ.objs K := h
          unfold stepF at h
          rw [hg] at h
          exact h.elim
        | some fn =>
          obtain ⟨k, FI⟩ := G.i fn hg
          exact i_ok (ck := ckN B.K k) (fun m hm => ⟨(HH m (Nat.lt_succ_of_lt hm)).S k, (HH m (Nat.lt_succ_of_lt hm)).E k⟩) (fun fn' e => by rw [hg] at e; cases e; exact FI) KA.o KA.e
end Mine
end

noncomputable section
open PySem PySem.W PySem.Calls PyProof.Rows PySem.SeqAt
set_option maxRecDepth 100000
namespace Mine
variable {B : Base} {P : Params} {Γ : Nat → Option Fn}
/-- what a function's object holds -/
noncomputable def funcIn (K : Frag) (f : Addr) : Option FuncData := match K.lookup f with
  | some ⟨_, _, .func fd, _⟩ => some fd
  | _ => none
theorem funcIn_e {K : Frag} {f : Addr} {fd : FuncData} (h : funcIn K f = some fd) : ∃ oc od osl, K.lookup f = some ⟨oc, od, .func fd, osl⟩ := by
  unfold funcIn at h
  split at h
  · rename_i e; cases h; exact ⟨_, _, _, e⟩
  · cases h
noncomputable def stmtsOf (b : FuncBody) : Option (List Stmt) := match b with
  | .stmts l => some l
  | _ => none
theorem stmtsOf_e {b : FuncBody} {l : List Stmt} (h : stmtsOf b = some l) : b = .stmts l := by
  cases b <;> cases h; rfl
/-- plain parameters -/
noncomputable def plainPs (p : Arguments) (ns : List Str) : Bool := p.posonlyargs.isEmpty && (p.vararg.isNone && (p.kwonlyargs.isEmpty && (p.kwarg.isNone && p.args.map (·.arg) == ns)))
/-- arguments find their names: the kernel computes it, an arity at a time -/
noncomputable def bnd (K : Frag) (f : Addr) (S : Setting) (vs : List Value) : Option (List (Str × Value)) := (funcIn K f).bind fun fd => peek K S (bindArgs fd ⟨vs, []⟩)
noncomputable def BindP (K : Frag) (f : Addr) (ns : List Str) (n : Nat) : Prop := ∀ vs : List Value, vs.length = n → ∀ S, bnd K f S vs = some (ns.zip vs)
theorem b1 {p : List Value → Prop} (h : ∀ a, p [a]) (vs : List Value) (hl : vs.length = 1) : p vs := by
  cases vs with
  | nil => cases hl
  | cons a l => cases List.length_eq_zero_iff.mp (Nat.succ.inj hl); exact h a
theorem b2 {p : List Value → Prop} (h : ∀ a b, p [a, b]) (vs : List Value) (hl : vs.length = 2) : p vs := by
  cases vs with
  | nil => cases hl
  | cons a l => exact b1 (p := fun l => p (a :: l)) (h a) l (Nat.succ.inj hl)
theorem b3 {p : List Value → Prop} (h : ∀ a b c, p [a, b, c]) (vs : List Value) (hl : vs.length = 3) : p vs := by
  cases vs with
  | nil => cases hl
  | cons a l => exact b2 (p := fun l => p (a :: l)) (h a) l (Nat.succ.inj hl)
theorem b4 {p : List Value → Prop} (h : ∀ a b c d, p [a, b, c, d]) (vs : List Value) (hl : vs.length = 4) : p vs := by
  cases vs with
  | nil => cases hl
  | cons a l => exact b3 (p := fun l => p (a :: l)) (h a) l (Nat.succ.inj hl)
theorem binds_q {K : Frag} {s : Shared} {f : Addr} {fd : FuncData} {ns : List Str} {k vs : List Value} {dv : List PV} {n np q : Nat} (e : funcIn K f = some fd) (X : K.In s.heap) (b : BindP K f ns n) (h8 : dv = []) (hn : n = np + k.length)
    (g1 : np - dv.length ≤ vs.length) (g2 : vs.length ≤ np) : BindsTo s fd ⟨k ++ vs, []⟩ (ns.zip (k ++ (vs ++ ([] : List Value).drop q))) := by
  subst h8
  rw [List.drop_nil, List.append_nil]
  have b := b (k ++ vs) (by rw [List.length_append, hn, Nat.le_antisymm g2 g1, Nat.add_comm])
  unfold bnd at b
  rw [e] at b
  exact kp_binds X b
theorem head_ps {ps : Arguments} {ns : List Str} {n : Nat} {x0 : Str} (h : plainPs ps (ns.take (n + 1)) = true) (h0 : ns[0]? = some x0) : ∃ ar, (ps.posonlyargs ++ ps.args).head? = some ar ∧ ar.arg = x0 := by
  unfold plainPs at h
  refine and5 h fun p1 _ _ _ p5 => ?_
  have p5 := eq_of_beq p5
  rw [List.isEmpty_iff.mp p1, List.nil_append]
  cases ns with
  | nil => cases h0
  | cons m ns =>
    cases h0
    rw [List.take_succ_cons] at p5
    cases ha : ps.args with
    | nil => rw [ha] at p5; cases p5
    | cons ar r => rw [ha] at p5; exact ⟨ar, rfl, (List.cons.inj p5).1⟩
noncomputable def fnBody (K : Frag) (k : Nat) (ns : List Str) (fn : Fn) (fd : FuncData) (body : List Stmt) : Bool :=
  fd.globals == mainGlobals && (fd.builtins == builtinsNs && (codeIn K fd.code fd.qualname && (fd.scope.names.all (fun x => x.2 != .cell) && (!fd.scope.isCoroutine && (!fd.scope.isGenerator && (fd.scope.kind == .function &&
    ((ckN K k).Ss fd.scope ns body fn.body && (decide ns.Nodup && (fn.dv.isEmpty && (Nat.ble fn.np ns.length && ((ns.take fn.np).all (fun y => fd.scope.names.lookup y == some .local) && (plainPs fd.params (ns.take fn.np) && true))))))))))))
noncomputable def fnOk (K : Frag) (k : Nat) (f : Addr) (ns : List Str) (fn : Fn) : Bool := match funcIn K f with
  | none => false
  | some fd => (match stmtsOf fd.body with
    | none => false
    | some body => fnBody K k ns fn fd body)
theorem fn_form {K : Frag} {f : Addr} {oc : Value} {od : Option Addr} {osl : Array (Option Value)} {fd : FuncData} {body : List Stmt} (h : K.lookup f = some ⟨oc, od, .func fd, osl⟩) (eb : stmtsOf fd.body = some body) (g1 : (fd.globals == mainGlobals) = true) (g2 : (fd.builtins == builtinsNs) = true) :
    K.lookup f = some ⟨oc, od, .func (fnX fd.name fd.qualname fd.params body fd.scope fd.closure fd.defaults fd.kwdefaults fd.doc fd.pyModule fd.annotations fd.code fd.closureTuple), osl⟩ := by
  rw [h]
  obtain ⟨name, qual, params, bd, scope, globals, cl, dV, kV, doc, pm, an, cdv, ct, bi⟩ := fd
  cases stmtsOf_e eb
  cases eq_of_beq g1
  cases eq_of_beq g2
  rfl
theorem fnX_eq {fd : FuncData} {body : List Stmt} (eb : stmtsOf fd.body = some body) (g1 : (fd.globals == mainGlobals) = true) (g2 : (fd.builtins == builtinsNs) = true) :
    fd = fnX fd.name fd.qualname fd.params body fd.scope fd.closure fd.defaults fd.kwdefaults fd.doc fd.pyModule fd.annotations fd.code fd.closureTuple := by
  obtain ⟨name, qual, params, bd, scope, globals, cl, dV, kV, doc, pm, an, cdv, ct, bi⟩ := fd
  cases stmtsOf_e eb
  cases eq_of_beq g1
  cases eq_of_beq g2
  rfl
theorem fn_at {k : Nat} {f : Addr} {ns : List Str} {fn : Fn} (h : fnOk B.K k f ns fn = true) (b : BindP B.K f (ns.take fn.np) fn.np) : FnAt B (ckN B.K k) f fn := by
  unfold fnOk at h
  split at h
  · cases h
  · rename_i fd e
    split at h
    · cases h
    · rename_i body eb
      obtain ⟨oc, od, osl, ho⟩ := funcIn_e e
      refine and7 h fun g1 g2 h1 h2 h3 h4 h' => and7 h' fun h5 h6 h7 h8 h9 h10 h' => and2 h' fun h11 h12 => ?_
      clear h h'
      exact ⟨oc, od, osl, _, _, _, body, _, _, _, _, _, _, _, _, _, ns, [], fn_form ho eb g1 g2, h1, fun x hx => bne_iff_ne.mp (List.all_eq_true.mp h2 x hx), not_e h3, not_e h4, eq_of_beq h5, h6, of_decide_eq_true h7, Nat.le_of_ble_eq_true h9, fun y hy => eq_of_beq (List.all_eq_true.mp h10 y hy), fun P => by rw [List.isEmpty_iff.mp h8]; exact .nil,
        fun s vs X l1 l2 => by rw [← fnX_eq eb g1 g2]; exact binds_q (k := []) e X b (List.isEmpty_iff.mp h8) rfl l1 l2⟩
/-- a function of three with one default, a number -/
noncomputable def fnBodyD (K : Frag) (k : Nat) (ns : List Str) (fn : Fn) (fd : FuncData) (body : List Stmt) : Bool :=
  fd.globals == mainGlobals && (fd.builtins == builtinsNs && (codeIn K fd.code fd.qualname && (fd.scope.names.all (fun x => x.2 != .cell) && (!fd.scope.isCoroutine && (!fd.scope.isGenerator && (fd.scope.kind == .function &&
    ((ckN K k).Ss fd.scope ns body fn.body && (decide ns.Nodup && (Nat.ble fn.np ns.length && (ns.take fn.np).all (fun y => fd.scope.names.lookup y == some .local))))))))))
noncomputable def fnOkD (K : Frag) (k : Nat) (f : Addr) (ns : List Str) (fn : Fn) : Bool := match funcIn K f with
  | none => false
  | some fd => (match stmtsOf fd.body with
    | none => false
    | some body => fnBodyD K k ns fn fd body)
theorem fn_atD {k : Nat} {f : Addr} {ns : List Str} {nv : Nat} {c : List D} {x y z : Str} {n : Int} {t : Tok} (h : fnOkD B.K k f ns ⟨3, [.int n], nv, c⟩ = true) (hx : ns.take 3 = [x, y, z])
    (e2 : ∀ S a b, ((funcIn B.K f).bind fun fd => peek B.K S (bindArgs fd ⟨[a, b], []⟩)) = some [(x, a), (y, b), (z, .int n t)]) (e3 : ∀ S a b c, ((funcIn B.K f).bind fun fd => peek B.K S (bindArgs fd ⟨[a, b, c], []⟩)) = some [(x, a), (y, b), (z, c)]) :
    FnAt B (ckN B.K k) f ⟨3, [.int n], nv, c⟩ := by
  unfold fnOkD at h
  split at h
  · cases h
  · rename_i fd e
    split at h
    · cases h
    · rename_i body eb
      rw [e] at e2 e3
      obtain ⟨oc, od, osl, ho⟩ := funcIn_e e
      refine and7 h fun g1 g2 h1 h2 h3 h4 h' => and5 h' fun h5 h6 h7 h9 h10 => ?_
      clear h h'
      refine ⟨oc, od, osl, _, _, _, body, _, _, _, _, _, _, _, _, _, ns, [.int n t], fn_form ho eb g1 g2, h1, fun x hx => bne_iff_ne.mp (List.all_eq_true.mp h2 x hx), not_e h3, not_e h4, eq_of_beq h5, h6, of_decide_eq_true h7, Nat.le_of_ble_eq_true h9, fun y hy => eq_of_beq (List.all_eq_true.mp h10 y hy), fun P => .cons Rep.int .nil, fun s vs X l1 l2 => ?_⟩
      rw [← fnX_eq eb g1 g2, hx]
      match vs, l1, l2 with
      | [a, b], _, _ => exact kp_binds X (e2 · a b)
      | [a, b, c], _, _ => exact kp_binds X (e3 · a b c)
      | _ :: _ :: _ :: _ :: _, _, l2 => exact absurd l2 (by simp)
      | [_], l1, _ => exact absurd l1 (by simp)
      | [], l1, _ => exact absurd l1 (by simp)
noncomputable def cellIn (K : Frag) (c : Addr) : Option Value := match K.lookup c with
  | some ⟨_, _, .cell v, _⟩ => v
  | _ => none
theorem cellIn_e {K : Frag} {c : Addr} {v : Value} (h : cellIn K c = some v) : ∃ a b e, K.lookup c = some ⟨a, b, .cell (some v), e⟩ := by
  unfold cellIn at h
  split at h
  · rename_i e; exact ⟨_, _, _, h ▸ e⟩
  · cases h
noncomputable def fileIn (K : Frag) (c : Addr) : Option Str := match K.lookup c with
  | some ⟨_, _, .fields vs, _⟩ => (match (vs[2]? : Option Value) with
    | some (.str f _) => some f
    | _ => none)
  | _ => none
theorem fileIn_e {K : Frag} {c : Addr} {f : Str} (h : fileIn K c = some f) : ∃ a b e vs t, K.lookup c = some ⟨a, b, .fields vs, e⟩ ∧ vs[2]? = some (.str f t) := by
  unfold fileIn at h
  split at h
  · rename_i e
    split at h
    · rename_i e2; cases h; exact ⟨_, _, _, _, _, e, e2⟩
    · cases h
  · cases h
noncomputable def iniBody (K : Frag) (prog : Program) (k : Nat) (ns : List Str) (fn : Fn) (fd : FuncData) (body : List Stmt) (x0 : Str) (cc cda : Addr) : Bool :=
  fd.globals == mainGlobals && (fd.builtins == builtinsNs && (codeIn K fd.code fd.qualname && (fd.scope.names.all (fun x => x.2 != .cell) && (!fd.scope.isCoroutine && (!fd.scope.isGenerator && (fd.scope.kind == .function &&
    (ckInit (ckN K k) fd.scope ns body fn.body && (decide ns.Nodup && (fn.dv.isEmpty && (Nat.ble (fn.np + 1) ns.length && ((ns.take (fn.np + 1)).all (fun y => fd.scope.names.lookup y == some .local) && (plainPs fd.params (ns.take (fn.np + 1)) && (true &&
    (ns[0]? == some x0 && (Nat.ble fn.np 100 && (fd.closure == [(Str.ofString "__class__", cc)] && (fd.code == .ref cda && (fileIn K cda == some prog.main.file && (cellIn K cc == some (.ref 41) && ((clsIn K 41).isSome && (mroIn K 41 (.ref 41) == some true &&
    (nsIn K mainGlobals "super" == some none && (nsIn K cStatics "thirdparty.any" == some none && (fd.scope.names.lookup ("super" : Str) == some .globalImplicit && (fd.scope.names.lookup ("__class__" : Str) == some .free && (fd.scope.names.lookup x0 == some .local && !(prog.main.scope.names.lookup ("super" : Str)).isSome))))))))))))))))))))))))))
noncomputable def iniOk (K : Frag) (prog : Program) (k : Nat) (ns : List Str) (fn : Fn) (x0 : Str) (cc cda : Addr) : Bool := match funcIn K 38 with
  | none => false
  | some fd => (match stmtsOf fd.body with
    | none => false
    | some body => iniBody K prog k ns fn fd body x0 cc cda)
theorem ini_at {k : Nat} {ns : List Str} {fn : Fn} {x0 : Str} {cc cda : Addr} (h : iniOk B.K B.prog k ns fn x0 cc cda = true) (b : BindP B.K 38 (ns.take (fn.np + 1)) (fn.np + 1)) : FnI B (ckN B.K k) fn := by
  unfold iniOk at h
  split at h
  · cases h
  · rename_i fd e
    split at h
    · cases h
    · rename_i body eb
      obtain ⟨oc, od, osl, ho⟩ := funcIn_e e
      refine and7 h fun g1 g2 h1 h2 h3 h4 h' => and7 h' fun h5 h6 h7 h8 h9 h10 h' => and7 h' fun h11 h12 h13 h14 g3 g4 h' => and7 h' fun h17 h18 h19 h20 h21 h22 h' => and4 h' fun h23 h24 h25 h26 => ?_
      clear h h'
      have hf := fn_form ho eb g1 g2
      rw [eq_of_beq g3, eq_of_beq g4] at hf
      have hx := fnX_eq eb g1 g2
      rw [eq_of_beq g3, eq_of_beq g4] at hx
      rw [eq_of_beq g4] at h1
      obtain ⟨f1, f2, f3, vs, ft, f4, f5⟩ := fileIn_e (eq_of_beq h17)
      obtain ⟨c1, c2, c3, c4⟩ := cellIn_e (eq_of_beq h18)
      obtain ⟨cdD, hcd⟩ := Option.isSome_iff_exists.mp h19
      obtain ⟨ar, a1, a2⟩ := head_ps h11 (eq_of_beq h13)
      exact ⟨oc, od, osl, _, _, _, body, _, cc, _, _, _, _, _, cda, _, ns, [], x0, hf, h1, fun x hx => bne_iff_ne.mp (List.all_eq_true.mp h2 x hx), not_e h3, not_e h4, eq_of_beq h5, h6, of_decide_eq_true h7, Nat.le_of_ble_eq_true h9, fun y hy => eq_of_beq (List.all_eq_true.mp h10 y hy), fun P => by rw [List.isEmpty_iff.mp h8]; exact .nil,
        fun s vs e' X l1 l2 => by rw [← hx]; exact binds_q (k := [.ref e']) e X b (List.isEmpty_iff.mp h8) rfl l1 l2, eq_of_beq h13, Nat.le_of_ble_eq_true h14, fun L => ⟨_, _, L, 38, cda, cc, _, ar, vs, _, ft, oc, f1, c1, od, f2, c2, osl, f3, c3, cdD, rfl, hf, a1, a2, f4, f5, beq_self_eq_true _, c4, hcd, eq_of_beq h20, eq_of_beq h21, eq_of_beq h22, eq_of_beq h23, eq_of_beq h24, eq_of_beq h25, eq_of_beq h5, not_e h26⟩⟩
end Mine
end

noncomputable section
open PySem PySem.W PySem.Calls PyProof.Rows PySem.SeqAt
set_option maxRecDepth 100000
namespace Mine
variable {B : Base} {P : Params} {Γ : Nat → Option Fn}
theorem ints_rep {ρ : List (Addr × Addr)} {im : Im} {vs : List Value} {zs : List Int} (h : IntsAre vs zs) : Reps P ρ im vs (zs.map .int) := by
  induction h with
  | nil => exact .nil
  | cons n t _ ih => exact .cons ⟨t, rfl⟩ ih
/-- the law's cells at its start -/
structure CellsOf (env : Env) (mu0 : Im) : Prop where
  noc : ∀ x, env.scope.names.lookup x = some .local → env.cells.lookup x = none
  has : ∀ x, env.scope.names.lookup x = some .cell → ∃ c, env.cells.lookup x = some c
  inj : ∀ x y c, env.cells.lookup x = some c → env.cells.lookup y = some c → x = y
  cel : ∀ x c, env.cells.lookup x = some c → ∃ v, CellIn mu0 c v
noncomputable def cellOk (ns : List (Str × NameKind)) (y : Str) : Bool := ns.all fun z => (z.2 != .local || z.1 != y) && (z.2 != .cell || z.1 == y)
theorem CellsOf.one {env : Env} {y : Str} {c : Addr} {o : Obj} {v : Option Value} (h : env.cells = [(y, c)]) (hn : cellOk env.scope.names y = true) (hd : o.data = .cell v) : CellsOf env [(c, o)] := by
  have hn := fun x k (e : env.scope.names.lookup x = some k) => (Bool.and_eq_true _ _).mp (List.all_eq_true.mp hn _ (mem_lookup e))
  refine ⟨fun x e => ?_, fun x e => ?_, fun x x' a e1 e2 => ?_, fun x a e => ?_⟩
  · have k := (hn x _ e).1
    rw [h, List.lookup_cons]
    cases z : x == y with
    | true => cases eq_of_beq z; exact (Bool.false_ne_true (k.symm.trans (by simp)).symm).elim
    | false => rfl
  · have k := (hn x _ e).2
    have k : (x == y) = true := by simpa using k
    rw [h, List.lookup_cons, k]
    exact ⟨c, rfl⟩
  · rw [h] at e1 e2
    exact (look_one e1).1.trans (look_one e2).1.symm
  · rw [h] at e
    cases (look_one e).2
    exact ⟨v, o, .head _, hd⟩
/-- the law's own run -/
theorem law_run (KA : KAll B.K) (G : GOk B Γ) {hb : Heap} {s₁ s' : Shared} {env : Env} {A : Around} {L ax : Addr} {x0 : Str} {vs : List Value} {zs : List Int} {names : List Str} {body : List Stmt} {code : List D} {k n nv : Nat} {Q' : Flow → Shared → Prop} {E' : Value → Shared → Prop}
    (S : Sta B.K B.pr B.loose B.mg B.mb hb) (hcd : CodeAt hb env.code) {mu0 : Im} (hc : CellsOf env mu0) (hx0 : env.scope.names.lookup x0 = some .local) (hL : env.locals = L) (hk : env.scope.kind = .function) (hg : env.globals = mainGlobals) (hbi : env.builtins = builtinsNs) (hf : env.frame = some L) (hA : A.frames = some [env]) (hd : A.depth ≤ 310) (hu : A.units ≤ 200) (hh : A.handled = none)
    (R : Run hb [env] [] [] s₁ L [(x0, .ref ax)] mu0 [] s') (hl : hb.IsList ax vs.toArray) (hI : IntsAre vs zs) (hck : (ckN B.K k).Ss env.scope names body code = true) (nd : names.Nodup) (h0 : names[0]? = some x0)
    (hW : (W Γ n).Ss ⟨0, false, true, true⟩ code ⟨some (.lst (zs.map .int)) :: List.replicate nv none, none, none, []⟩ fun r _ => r = .ok (.ret (.bool true)))
    (hQ : ∀ m' mu' im' s'', Run hb [env] [] [] s₁ L m' mu' im' s'' → Q' (.ret (.bool true)) s'') : wpAny (model B.prog B.w) A (execs body env) Q' E' s' := by
  obtain ⟨ol, hol, hcl, n', hd'⟩ := hl
  have R1 : Run hb [env] [] [] s₁ L [(x0, .ref ax)] mu0 [(ax, ol)] s' := ⟨R.H.old hol, R.oth⟩
  have C : Ct B ⟨hb, [env], [], [], s₁, L, env.cells, names, [(ax, ol)], 0, false⟩ env A ⟨0, false, true, true⟩ [(ax, ol)] :=
    ⟨⟨hL, hk, hg, hbi, nd, hc.noc, fun x z => let ⟨c, e⟩ := hc.has x z; ⟨c, e, e⟩, hc.inj⟩, ⟨hA, hd, hu, fun _ => hh⟩, S, KA.o.toErrK, fun _ => .inl hh, Nat.zero_le _, fun _ => ⟨[], L, rfl, hf⟩, fun _ => rfl, hcd⟩
  have S1 : St B.w.params ⟨hb, [env], [], [], s₁, L, env.cells, names, [(ax, ol)], 0, false⟩ [] [(ax, ol)] ⟨some (.lst (zs.map .int)) :: List.replicate nv none, none, none, []⟩ s' := by
    refine ⟨_, mu0, R1, fun i v e => ?_, fun _ _ _ e => (nomatch e), fun _ _ e => (nomatch e), fun i f e => (nomatch e), rfl, .nil, .refl, fun _ => hc.cel⟩
    cases i with
    | zero => cases e; exact ⟨x0, .ref ax, h0, .inl ⟨hc.noc _ hx0, by simp [vmap]⟩, Rep.lst (.head _) ⟨hcl, n', hd'⟩ (ints_rep hI)⟩
    | succ i =>
      have := List.eq_of_mem_replicate (List.mem_of_getElem? (show (List.replicate nv none)[i]? = some (some v) from e))
      cases this
  refine (all_ok KA G n).Ss k hck hW C S1 (fun ρ' im' σ' f fl s'' X k F S2 => ?_) fun ρ' im' σ' x v s'' X k => nomatch k
  cases k
  obtain ⟨v, rfl, rv⟩ := F
  cases rv.bool_e
  obtain ⟨m, mu, R2, _⟩ := S2
  exact hQ m mu im' s'' R2
end Mine
end

noncomputable section
open PySem PySem.W PySem.Calls PyProof.Rows PySem.SeqAt
set_option maxRecDepth 100000
namespace Mine
section
variable {prog : Program} {w : World} {A : Around} {E : Value → Shared → Prop} {s s₀ : Shared} {hb h' : Heap} {l : List Env} {fr V : List Addr} {L : Addr} {m m₁ : Vars} {mu mu' im mu₁ im₁ : List (Addr × Obj)} {env : Env}
/-- the law's own activation -/
theorem Run.start {s₁ : Shared} {tk : Nat} {mu0 : Im} (F : Fr s₁.heap L h' (vmap m)) (N : News s₁.heap L h' mu0) (nd : (mu0.map (·.1)).Nodup) (hf : env.frame = some L) (hk : env.scope.kind = .function) : Run s₁.heap [env] [] [] s₁ L m mu0 [] { s₁ with heap := h', toks := tk } := by
  have nb : s₁.heap.get? L = none := by
    cases q : s₁.heap.get? L with
    | none => rfl
    | some o => exact absurd (Heap.lt_size q) (Nat.not_lt.mpr F.above)
  obtain ⟨oL, es, ep, hL, hLd, hLr⟩ := id F.ns
  have hfr : ∀ a ∈ frs [env], a = L := fun a ha => by
    obtain ⟨e, he, z⟩ := List.mem_filterMap.mp ha
    rw [List.mem_singleton.mp he, hf] at z
    exact (Option.some.inj z).symm
  exact ⟨⟨F.keep, ⟨by rw [hk]; decide, ⟨L, oL, hf, nb, hL, fun vs q => by rw [hLd] at q; cases q⟩, trivial⟩, ⟨_, F.ns, fun _ _ e => e⟩, Evo.keeps _ F.keep, fun p hp => (N p hp).1, (fun _ q => nomatch q), nd, (fun _ _ _ q => nomatch q), fun p hp => ⟨(N p hp).2.1, fun z => (N p hp).2.1 (hfr _ z), (N p hp).2.2, .inr (N p hp).2.2⟩, (fun _ q => nomatch q), ⟨nb, .inl nb⟩, fun a ha => .inl (hfr a ha ▸ nb)⟩, rfl, rfl, rfl⟩
theorem bindL_one {ko : Str → Option NameKind} {n : Str} {v : Value} (h : ko n = some .local) : bindL ko [(n, v)] (fun _ => none) = vmap [(n, v)] := by
  funext y
  show (if ko n = some NameKind.local then _ else _ : Str → Option Value) y = _
  rw [if_pos h]
  show (if y = n then some v else none) = _
  unfold vmap
  rw [List.lookup_cons]
  cases e : y == n with
  | true => rw [if_pos (eq_of_beq e)]
  | false => rw [if_neg (beq_eq_false_iff_ne.mp e)]; rfl
theorem codeAt_of {h : Heap} {v : Value} {q : Str} (x : h.CodeRec v q) : CodeAt h v := by
  obtain ⟨c, o, vs, _, e, g, r, _⟩ := x
  exact ⟨c, o, vs, e, g, r⟩
theorem startR {M M' : Model} (hM : M = M') {s₁ : Shared} {tk : Nat} {body : List Stmt} {f : Str → Option Value} {Q : Flow → Shared → Prop} {mu0 : Im} (m : Vars) (F : Fr s₁.heap L h' f) (hm : f = vmap m) (N : News s₁.heap L h' mu0) (nd : (mu0.map (·.1)).Nodup) (hf : env.frame = some L) (hk : env.scope.kind = .function)
    (hq : ∀ m' s'', Fr s₁.heap L s''.heap m' → s''.gens = s₁.gens → s''.os = s₁.os → Q (.ret (.bool true)) s'')
    (k : ∀ s', let A := callerA.deeper env; ∀ (Q' : Flow → Shared → Prop) (E' : Value → Shared → Prop), (∀ m' mu' im' s'', Run s₁.heap [env] [] [] s₁ L m' mu' im' s'' → Q' (.ret (.bool true)) s'') → Run s₁.heap [env] [] [] s₁ L m mu0 [] s' →
      wpAny M' A (execs body env) Q' E' s') : wpAny M (callerA.deeper env) (execs body env) Q E { s₁ with heap := h', toks := tk } := by
  subst hm hM
  exact k _ Q E (fun m' mu' im' s'' R => let ⟨_, n1, _⟩ := R.H.ns; hq _ s'' ⟨n1, R.H.stays, F.above⟩ R.oth.1 R.oth.2.2) (Run.start F N nd hf hk)
end
end Mine
end

noncomputable section
open PySem PySem.W PySem.Calls PyProof.Rows
set_option maxRecDepth 100000
namespace Mine

theorem opt_i {α : Type} {o : Option α} {a : α} {k : α → Prop} (h : o = some a) (r : k a) : optK o k := by rw [h]; exact r
theorem opt2_i {α : Type} {o : Option α} {a : α} {n : Prop} {k : α → Prop} (h : o = some a) (r : k a) : opt2 o n k := by rw [h]; exact r
theorem opt2_n {α : Type} {o : Option α} {n : Prop} {k : α → Prop} (h : o = none) (r : n) : opt2 o n k := by rw [h]; exact r
theorem cond_t {b : Bool} {p q : Prop} (h : b = true) (r : p) : cond b p q := by rw [h]; exact r
theorem cond_d {b : Bool} {p q : Prop} (t : b = true → p) (f : b = false → q) : cond b p q := by
  cases b with
  | true => exact t rfl
  | false => exact f rfl
theorem cond_f {b : Bool} {p q : Prop} (h : b = false) (r : q) : cond b p q := by rw [h]; exact r
end Mine
end

noncomputable section
open PySem PySem.W PySem.Calls PyProof.Rows PySem.SeqAt
set_option maxRecDepth 100000
namespace Mine
noncomputable def c38 : List D := [.sset 0 (.v 1), .sset 1 (.v 2), .sset 2 (.v 3), .iff (.bop .And [.cmp .IsNot (.v 2) (.k .none), .cmp .IsNot (.v 3) (.k .none)]) [.asg 1 (.bin .Mod (.k (.str [37, 115, 32, 97, 116, 32, 112, 111, 115, 105, 116, 105, 111, 110, 32, 37, 100])) (.tup [.v 1, .v 3])), .iff (.cb .isstr [.v 2]) [.asg 4 (.k (.str [10]))] [.asg 4 (.k (.bytes [10]))], .sset 3 (.bin .Add (.mb .count (.v 2) [.v 4, .k (.int 0), .v 3]) (.k (.int 1))), .sset 4 (.bin .Sub (.v 3) (.mb .rfind (.v 2) [.v 4, .k (.int 0), .v 3])), .iff (.cmp .In (.v 4) (.v 2)) [.asg 1 (.bin .Mod (.k (.str [37, 115, 32, 40, 108, 105, 110, 101, 32, 37, 100, 44, 32, 99, 111, 108, 117, 109, 110, 32, 37, 100, 41])) (.tup [.v 1, .sget 3, .sget 4]))] []] [.wall], .sup (.v 1)]
noncomputable def n38 : List Str := ["self", "msg", "pattern", "pos", "newline"].map Str.ofString
noncomputable def c58 : List D := [.sat (.v 0) 0 (.cb .isstr [.v 1]), .sat (.v 0) 1 (.v 1), .iff (.not (.get (.v 0) 0)) [.asg 1 (.cb .latin [.v 1])] [], .sat (.v 0) 2 (.v 1), .sat (.v 0) 3 (.k (.int 0)), .sat (.v 0) 4 (.k .none), .ex (.mt (.v 0) 65 [])]
noncomputable def n58 : List Str := ["self", "string"].map Str.ofString
noncomputable def c65 : List D := [.asg 1 (.get (.v 0) 3), .tryIx [.asg 2 (.sub (.get (.v 0) 2) (.v 1))] [.sat (.v 0) 4 (.k .none), .ret0], .iff (.cmp .Eq (.v 2) (.k (.str [92]))) [.aug 1 .Add (.k (.int 1)), .tryIx [.aug 2 .Add (.sub (.get (.v 0) 2) (.v 1))] [.raise [.k (.str [98, 97, 100, 32, 101, 115, 99, 97, 112, 101, 32, 40, 101, 110, 100, 32, 111, 102, 32, 112, 97, 116, 116, 101, 114, 110, 41]), .get (.v 0) 1, .bin .Sub (.cb .len [.get (.v 0) 1]) (.k (.int 1))]]] [], .sat (.v 0) 3 (.bin .Add (.v 1) (.k (.int 1))), .sat (.v 0) 4 (.v 2)]
noncomputable def n65 : List Str := ["self", "index", "char"].map Str.ofString
noncomputable def c72 : List D := [.iff (.cmp .Eq (.v 1) (.get (.v 0) 4)) [.ex (.mt (.v 0) 65 []), .ret (.k (.bool true))] [], .ret (.k (.bool false))]
noncomputable def n72 : List Str := ["self", "char"].map Str.ofString
noncomputable def c79 : List D := [.asg 1 (.get (.v 0) 4), .ex (.mt (.v 0) 65 []), .ret (.v 1)]
noncomputable def n79 : List Str := ["self", "this"].map Str.ofString
noncomputable def c86 : List D := [.asg 3 (.k (.str [])), .for_ 4 (.range (.v 1)) [.asg 5 (.get (.v 0) 4), .iff (.cmp .NotIn (.v 5) (.v 2)) [.brk] [], .aug 3 .Add (.v 5), .ex (.mt (.v 0) 65 [])], .ret (.v 3)]
noncomputable def n86 : List Str := ["self", "n", "charset", "result", "_", "c"].map Str.ofString
noncomputable def c100 : List D := [.ret (.bin .Sub (.get (.v 0) 3) (.cb .len [.bop .Or [.get (.v 0) 4, .k (.str [])]]))]
noncomputable def n100 : List Str := ["self"].map Str.ofString
noncomputable def c108 : List D := [.ret (.bin .Sub (.get (.v 0) 3) (.cb .len [.bop .Or [.get (.v 0) 4, .k (.str [])]]))]
noncomputable def n108 : List Str := ["self"].map Str.ofString
noncomputable def c115 : List D := [.sat (.v 0) 3 (.v 1), .ex (.mt (.v 0) 65 [])]
noncomputable def n115 : List Str := ["self", "index"].map Str.ofString
noncomputable def c123 : List D := [.iff (.not (.get (.v 0) 0)) [.asg 1 (.mb .decode (.mb .encode (.v 1) [.k (.str [97, 115, 99, 105, 105]), .k (.str [98, 97, 99, 107, 115, 108, 97, 115, 104, 114, 101, 112, 108, 97, 99, 101])]) [.k (.str [97, 115, 99, 105, 105])])] [], .ret (.mk true [.v 1, .get (.v 0) 1, .bin .Sub (.mt (.v 0) 108 []) (.v 2)])]
noncomputable def n123 : List Str := ["self", "msg", "offset"].map Str.ofString
noncomputable def c142 : List D := [.ret (.cb .bytes [.comp (.cb .ord [.v 0]) none none (.v 0)])]
noncomputable def n142 : List Str := ["text"].map Str.ofString
noncomputable def c149 : List D := [.mls 1 [], .for_ 2 (.range (.cb .len [.v 0])) [.asg 3 (.k (.int 0)), .whl (.bop .And [.cmp .Lt (.v 3) (.v 2), .cmp .Eq (.sub (.v 0) (.bin .Sub (.bin .Sub (.v 2) (.v 3)) (.k (.int 1)))) (.k (.str [92]))]) [.aug 3 .Add (.k (.int 1))], .iff (.cmp .Eq (.bin .Mod (.v 3) (.k (.int 2))) (.k (.int 0))) [.app 1 (.v 2)] []], .ret (.v 1)]
noncomputable def n149 : List Str := ["text", "places", "p", "run"].map Str.ofString
noncomputable def c154 : List D := [.asg 2 (.mb .join (.k (.str [])) [.comp (.sub (.bin .Add (.k (.str [97, 98, 10])) (.bin .Mult (.k (.int 3)) (.k (.str [92])))) (.bin .Mod (.v 0) (.k (.int 6)))) none none (.sli (.v 0) none (some (.v 1)))]), .ret (.bin .Add (.v 2) (.sub (.k (.str [97, 98, 92])) (.bin .Mod (.cb .sum [.v 0]) (.k (.int 3)))))]
noncomputable def n154 : List Str := ["script", "most", "text"].map Str.ofString
noncomputable def c161 : List D := [.asg 3 (.bin .Add (.cal 149 [.v 0]) (.lst [.cb .len [.v 0]])), .asg 4 (.k (.int 0)), .whl (.bop .And [.cmp .Lt (.v 4) (.min (.v 1) (.bin .Sub (.cb .len [.v 3]) (.k (.int 1)))), .cmp .In (.sli (.v 0) (some (.sub (.v 3) (.v 4))) (some (.sub (.v 3) (.bin .Add (.v 4) (.k (.int 1)))))) (.v 2)]) [.aug 4 .Add (.k (.int 1))], .ret (.sli (.v 0) none (some (.sub (.v 3) (.v 4))))]
noncomputable def n161 : List Str := ["left", "most", "held", "cuts", "m"].map Str.ofString
noncomputable def c0 : List D := [.casg 1 (.cal 154 [.v 0, .k (.int 16)]), .asg 2 (.cb .len [.cv 1]), .asg 3 (.mk false [.ife (.bin .Mod (.cb .len [.v 0]) (.k (.int 2))) (.cal 142 [.cv 1]) (.cv 1)]), .asgc 4 (.comp (.v 0) (some (.bop .Or [.cmp .Lt (.v 0) (.k (.int 0)), .cmp .NotEq (.sli (.cv 1) (some (.v 0)) none) (.k (.str [92]))])) (some 1) (.rng (.neg (.v 2)) (.bin .Add (.v 2) (.k (.int 1))))), .asg 5 (.set [.k (.str [97]), .k (.str [10]), .k (.str [92, 97]), .k (.str [92, 92]), .k (.str [92, 98])]), .asg 6 (.k (.int 0)), .asg 7 (.cv 1), .asg 8 (.k (.str [])), .iff (.bop .Or [.cmp .NotEq (.get (.v 3) 7) (.k (.int 0)), .not (.mb .startswith (.cv 1) [.get (.v 3) 4])]) [.ret (.k (.bool false))] [], .for_ 9 (.of (.bin .Add (.sli (.v 0) none (some (.k (.int 30)))) (.lst [.k (.int 0), .k (.int 6), .k (.int 12), .k (.int 18), .k (.int 24), .k (.int 0)]))) [.asg 10 (.bin .Mod (.bin .FloorDiv (.v 9) (.k (.int 6))) (.k (.int 5))), .asg 11 (.bin .FloorDiv (.v 9) (.k (.int 30))), .asg 12 (.get (.v 3) 7), .asg 13 (.get (.v 3) 4), .asg 14 (.sli (.v 7) (some (.bin .Sub (.v 12) (.v 6))) none), .asg 15 (.sub (.tup [.k (.str [97]), .k (.str [10]), .k (.str [92, 97]), .k (.str [92, 92])]) (.bin .Mod (.v 11) (.k (.int 4)))), .tryPe [.iff (.cmp .Eq (.v 10) (.k (.int 0))) [.asg 16 (.mt (.v 3) 79 []), .iff (.cmp .NotEq (.v 16) (.v 13)) [.ret (.k (.bool false))] [], .aug 8 .Add (.bop .Or [.v 16, .k (.str [])])] [.iff (.cmp .Eq (.v 10) (.k (.int 1))) [.iff (.cmp .IsNot (.mt (.v 3) 72 [.v 13]) (.k (.bool true))) [.ret (.k (.bool false))] [], .aug 8 .Add (.bop .Or [.v 13, .k (.str [])])] [.iff (.cmp .Eq (.v 10) (.k (.int 2))) [.iff (.cmp .IsNot (.mt (.v 3) 72 [.v 15]) (.cmp .Eq (.v 15) (.v 13))) [.ret (.k (.bool false))] [], .iff (.cmp .Eq (.v 15) (.v 13)) [.aug 8 .Add (.v 15)] []] [.iff (.cmp .Eq (.v 10) (.k (.int 3))) [.asg 16 (.mt (.v 3) 86 [.bin .Mod (.v 11) (.k (.int 5)), .v 5]), .iff (.cmp .NotEq (.v 16) (.cal 161 [.v 14, .bin .Mod (.v 11) (.k (.int 5)), .v 5])) [.ret (.k (.bool false))] [], .aug 8 .Add (.v 16)] [.asg 6 (.sub (.v 4) (.bin .Mod (.v 11) (.cb .len [.v 4]))), .asg 7 (.ife (.cmp .Lt (.v 6) (.k (.int 0))) (.bin .Add (.sli (.cv 1) (some (.v 6)) none) (.cv 1)) (.sli (.cv 1) (some (.v 6)) none)), .asg 8 (.k (.str [])), .ex (.mt (.v 3) 115 [.v 6])]]]]] 17 [.iff (.bop .Or [.cmp .NotEq (.get (.v 17) 7) (.bin .Sub (.v 2) (.k (.int 1))), .cmp .Eq (.v 10) (.k (.int 4))]) [.ret (.k (.bool false))] [], .iff (.cmp .Eq (.v 10) (.k (.int 3))) [.asg 8 (.sli (.v 7) none (some (.bin .Sub (.get (.v 3) 7) (.v 6)))), .iff (.cmp .NotEq (.sli (.v 7) (some (.bin .Sub (.get (.v 3) 7) (.v 6))) none) (.bin .Add (.get (.v 3) 4) (.k (.str [92])))) [.ret (.k (.bool false))] []] [.iff (.bop .Or [.cmp .NotEq (.get (.v 3) 7) (.v 12), .cmp .NotEq (.v 14) (.bin .Add (.v 13) (.k (.str [92])))]) [.ret (.k (.bool false))] []]], .iff (.bop .Or [.cmp .NotEq (.get (.v 3) 7) (.bin .Add (.v 6) (.cb .len [.v 8])), .cmp .Eq (.get (.v 3) 4) (.k (.str [92]))]) [.ret (.k (.bool false))] [], .iff (.bop .Or [.not (.mb .startswith (.sli (.v 7) (some (.cb .len [.v 8])) none) [.bop .Or [.get (.v 3) 4, .k (.str [])]]), .cmp .NotEq (.cmp .Is (.get (.v 3) 4) (.k .none)) (.cmp .Eq (.get (.v 3) 7) (.v 2))]) [.ret (.k (.bool false))] [], .iff (.bop .Or [.cmp .NotEq (.mt (.v 3) 108 []) (.get (.v 3) 7), .cmp .NotEq (.get (.mt (.v 3) 123 [.k (.str [104, 101, 114, 101])]) 7) (.get (.v 3) 7)]) [.ret (.k (.bool false))] []], .ret (.k (.bool true))]
noncomputable def n0 : List Str := ["script", "text", "size", "t", "goals", "held", "base", "reach", "handed", "n", "deed", "more", "was", "sign", "left", "other", "got", "e"].map Str.ofString
noncomputable def Γ7 (f : Nat) : Option Fn :=
  cond (Nat.beq f 38) (some ⟨3, [], 1, c38⟩) <|
  cond (Nat.beq f 58) (some ⟨2, [], 0, c58⟩) <|
  cond (Nat.beq f 65) (some ⟨1, [], 2, c65⟩) <|
  cond (Nat.beq f 72) (some ⟨2, [], 0, c72⟩) <|
  cond (Nat.beq f 79) (some ⟨1, [], 1, c79⟩) <|
  cond (Nat.beq f 86) (some ⟨3, [], 3, c86⟩) <|
  cond (Nat.beq f 100) (some ⟨1, [], 0, c100⟩) <|
  cond (Nat.beq f 108) (some ⟨1, [], 0, c108⟩) <|
  cond (Nat.beq f 115) (some ⟨2, [], 0, c115⟩) <|
  cond (Nat.beq f 123) (some ⟨3, [(.int 0)], 0, c123⟩) <|
  cond (Nat.beq f 142) (some ⟨1, [], 0, c142⟩) <|
  cond (Nat.beq f 149) (some ⟨1, [], 3, c149⟩) <|
  cond (Nat.beq f 154) (some ⟨2, [], 1, c154⟩) <|
  cond (Nat.beq f 161) (some ⟨3, [], 2, c161⟩) <|
  none
end Mine
end

noncomputable section
open PySem PySem.W PySem.Calls PyProof.Rows
set_option maxRecDepth 100000
namespace Mine
local macro_rules | `(tactic| kt_len) => `(tactic| first | assumption | exact Nat.le_of_ble_eq_true rfl | omega | (dsimp only; omega) | (simp only [List.length_append, List.length_cons, List.length_nil]; omega) | rfl | exact Nat.le_of_ble_eq_true rfl | decide | exact trivial)
local macro_rules | `(tactic| ktr_unf) => `(tactic| (repeat (refine And.intro (by kt_len) ?_)))
local macro_rules | `(tactic| k_search $h) => `(tactic| ((first | refine opt_i $h ?_ | refine opt2_i $h ?_ | refine opt2_n $h ?_ | ((conv => whnf); first | refine cond_t $h ?_ | refine cond_f $h ?_ | rw [$h:term] | (dsimp -iota only [Sg.put]; rw [$h:term]))); ktr_unf))
section
noncomputable abbrev FK := R PV → List (List PV) → Prop
noncomputable def pvT (t : Bool) (x : List Nat) : PV := match t with | true => .str x | false => .bytes x
noncomputable def nxP (nx : Option (List Nat)) : PV := match nx with | none => .none | some s => .str s
noncomputable def nxL (nx : Option (List Nat)) : Nat := match nx with | none => 0 | some s => s.length
noncomputable def NxOk (nx : Option (List Nat)) : Prop := nx = none ∨ (∃ c, nx = some [c]) ∨ ∃ c e, nx = some [c, e]
noncomputable def tokF (t : Bool) (x : List Nat) (z : Int) (nx : Option (List Nat)) : List PV := [.bool t, pvT t x, .str x, .int z, nxP nx]
variable {o : List (List PV)} {i : Nat} {K : FK} {d : Md} {z : Int} {x : List Nat} {t : Bool} {nx : Option (List Nat)}
theorem fuel {p : Nat → Prop} (c : Nat) (h : ∀ n, p (n + c)) : ∀ m, c ≤ m → p m := fun m hm => by
  have := h (m - c)
  rwa [Nat.sub_add_cancel hm] at this
theorem le_ex {c m : Nat} (h : c ≤ m) : ∃ n, m = n + c := ⟨m - c, (Nat.sub_add_cancel h).symm⟩
theorem le_ex2 {c d e m : Nat} (h : d + e ≤ m) (k : Nat.ble c d = true) : ∃ n, m = n + c := le_ex (Nat.le_trans (Nat.le_of_ble_eq_true k) (Nat.le_trans (Nat.le_add_right d e) h))
theorem le_pred {a b c d : Nat} (h : c + (a + 1) ≤ b + (d + 1)) : c + a ≤ b + d := Nat.le_of_succ_le_succ h
theorem le_fuel {n c d : Nat} (h : Nat.ble c d = true) : c ≤ n + d := Nat.le_trans (Nat.le_of_ble_eq_true h) (Nat.le_add_left d n)
theorem pos_c (hd : d.d < 90) (hf : o[i]? = some (tokF t x z nx)) (hx : NxOk nx) (k : K (.ok (.int (z - nxL nx))) o) : ∀ m, 30 ≤ m → (W Γ7 m).F d 100 [.obj i] o K := by
  refine fuel 30 fun n => ?_
  ktr_unf
  k_search hf
  k_search hf
  conv => whnf
  rcases hx with rfl | ⟨c, rfl⟩ | ⟨c, e, rfl⟩
  · ktr_unf
    exact k
  · ktr_unf
    exact k
  · ktr_unf
    exact k
theorem call_i {F : Md → Nat → List PV → List (List PV) → FK → Prop} {f : Nat} {l : List PV} (h : F d f l o K) : Call F d f l o K := by unfold Call; exact h
theorem lset_at {α : Type} {v w : α} : ∀ {l : List α} {i : Nat}, l[i]? = some w → (lset l i v)[i]? = some v
  | [], _, h => nomatch h
  | _ :: _, 0, _ => rfl
  | _ :: r, i + 1, h => lset_at (l := r) h
noncomputable def wAt (m : List Nat) (p : Int) : List Nat := (wordsAt ⟨m.toArray⟩ p).cps.toList
noncomputable def wLC (m : List Nat) (l c : Int) : List Nat := (wordsLC ⟨m.toArray⟩ l c).cps.toList
noncomputable def errW (x m : List Nat) (p : Int) : List Nat := match x.contains 10 with | true => wLC (wAt m p) (nlBefore x p + 1) (p - nlLast x p) | false => wAt m p
noncomputable def errF (t : Bool) (x m : List Nat) (p : Int) : List PV := [.str m, pvT t x, .int p, .int (nlBefore x p + 1), .int (p - nlLast x p)]
theorem wAt_len {m : List Nat} {p : Int} (h : m.length ≤ 1000) (hp : p.natAbs < 10 ^ 10) : (wAt m p).length ≤ 1000000 := by
  have := wordsAt_len (m := ⟨m.toArray⟩) (p := p) (by simp [Str.length]; omega) hp
  exact Nat.le_trans this (by decide)
theorem perr_c {k : Nat} {h c : Bool} {p : Int} {msg : List Nat} (hk : k < 90) (hm : msg.length ≤ 1000) (hp : p.natAbs < 10 ^ 9) (hl : x.length < 1000) (kk : K (.ok (.err (errF t x msg p) (errW x msg p))) o) : ∀ m, 40 ≤ m → (W Γ7 m).F ⟨k, h, true, c⟩ 38 [.str msg, pvT t x, .int p] o K := by
  refine fuel 40 fun n => ?_
  have b1 : p.natAbs < 10 ^ 10 := by omega
  have b2 := wAt_len hm b1
  have b4 := line_ok (cs := x) (p := p) (by omega)
  have b5 := col_ok (cs := x) (p := p) (by omega) hp
  have b6 : msg.length ≤ 1000000 := by omega
  unfold errW at kk
  cases hc : x.contains 10
  · rw [hc] at kk
    cases t
    · ktr_unf
      k_search hc
      exact kk
    · ktr_unf
      k_search hc
      exact kk
  · rw [hc] at kk
    cases t
    · ktr_unf
      k_search hc
      exact kk
    · ktr_unf
      k_search hc
      exact kk
theorem lset_lset' {α : Type} {v w : α} : ∀ {l : List α} {i : Nat}, lset (lset l i v) i w = lset l i w
  | [], _ => rfl
  | _ :: _, 0 => rfl
  | a :: _, _ + 1 => congrArg (a :: ·) lset_lset'
theorem peq_str (a b : List Nat) : peq (.str a) (.str b) = some (leq a b) := by unfold peq; rfl
noncomputable def at63 (x : List Nat) (i : Int) : Option Nat := if fits63 i then itemL x i else none
/-- what is read at a place: none a lone backslash, some none nothing -/
noncomputable def nxt (x : List Nat) (i : Int) : Option (Option (List Nat)) := match at63 x i with
  | none => some none
  | some c => if c = 92 then (match at63 x (i + 1) with
    | none => none
    | some e => some (some [92, e])) else some (some [c])
noncomputable def mBad : List Nat := [98, 97, 100, 32, 101, 115, 99, 97, 112, 101, 32, 40, 101, 110, 100, 32, 111, 102, 32, 112, 97, 116, 116, 101, 114, 110, 41]
theorem next_c {k : Nat} {c : Bool} (hk : k < 80) (hf : o[i]? = some (tokF t x z nx)) (hl : x.length < 1000) (kk : match nxt x z with
    | some none => K (.ok .none) (lset o i (tokF t x z none))
    | some (some s) => K (.ok .none) (lset o i (tokF t x (z + s.length) (some s)))
    | none => K (.err (.pe (errF t x mBad (x.length - 1)) (errW x mBad (x.length - 1)))) o) : ∀ m, 70 ≤ m → (W Γ7 m).F ⟨k, false, true, c⟩ 65 [.obj i] o K := by
  refine fuel 70 fun n => ?_
  ktr_unf
  k_search hf
  k_search hf
  conv => whnf
  cases h1 : at63 x z
  · have e : nxt x z = some none := by unfold nxt; rw [h1]
    rw [e] at kk
    unfold at63 at h1
    k_search h1
    k_search hf
    exact kk
  · rename_i c1
    have g1 := h1
    unfold at63 at h1
    k_search h1
    k_search (peq_str [c1] [92])
    conv => whnf
    cases h2 : leq [c1] [92] with
    | false =>
      have ne : c1 ≠ 92 := fun z => by rw [z] at h2; exact Bool.noConfusion h2
      have e : nxt x z = some (some [c1]) := by unfold nxt; rw [g1]; exact if_neg ne
      rw [e] at kk
      ktr_unf
      k_search hf
      k_search (lset_at hf)
      exact (congrArg (K (R.ok PV.none)) (lset_lset' (l := o) (i := i))).mpr kk
    | true =>
      have e1 : c1 = 92 := (List.cons.inj (leq_iff.mp h2)).1
      subst e1
      ktr_unf
      k_search hf
      conv => whnf
      cases h3 : at63 x (z + 1)
      · have e : nxt x z = none := by unfold nxt; rw [g1]; show (if 92 = 92 then _ else _) = _; rw [if_pos rfl, h3]
        rw [e] at kk
        unfold at63 at h3
        k_search h3
        k_search hf
        k_search hf
        have hz : x.length < 2 ^ 60 ∧ x.length ≤ S16 := by unfold S16; omega
        cases t
        · ktr_unf
          refine call_i (perr_c (t := false) (by kt_len) (by decide) (by omega) hl ?_ _ (by exact le_fuel rfl))
          ktr_unf
          exact kk
        · ktr_unf
          refine call_i (perr_c (t := true) (by kt_len) (by decide) (by omega) hl ?_ _ (by exact le_fuel rfl))
          ktr_unf
          exact kk
      · rename_i e2
        have e : nxt x z = some (some [92, e2]) := by unfold nxt; rw [g1]; show (if 92 = 92 then _ else _) = _; rw [if_pos rfl, h3]
        rw [e] at kk
        unfold at63 at h3
        k_search h3
        k_search hf
        k_search (lset_at hf)
        dsimp only at kk
        rw [show z + (([92, e2] : List Nat).length : Int) = z + 1 + 1 from by show z + 2 = _; omega] at kk
        exact (congrArg (K (R.ok PV.none)) (lset_lset' (l := o) (i := i))).mpr kk
/-- a place is sought -/
theorem seek_c {k : Nat} {c : Bool} {z' : Int} (hk : k < 70) (hf : o[i]? = some (tokF t x z nx)) (hl : x.length < 1000) (kk : match nxt x z' with
    | some none => K (.ok .none) (lset o i (tokF t x z' none))
    | some (some s) => K (.ok .none) (lset o i (tokF t x (z' + s.length) (some s)))
    | none => K (.err (.pe (errF t x mBad (x.length - 1)) (errW x mBad (x.length - 1)))) (lset o i (tokF t x z' nx))) : ∀ m, 90 ≤ m → (W Γ7 m).F ⟨k, false, true, c⟩ 115 [.obj i, .int z'] o K := by
  refine fuel 90 fun n => ?_
  ktr_unf
  k_search hf
  refine call_i (next_c (z := z') (t := t) (x := x) (nx := nx) (by dsimp only; omega) (lset_at hf) hl ?_ _ (by exact le_fuel rfl))
  cases e : nxt x z' with
  | none =>
    rw [e] at kk
    dsimp only
    ktr_unf
    exact kk
  | some r =>
    rw [e] at kk
    cases r with
    | none =>
      dsimp only
      ktr_unf
      exact (congrArg (K (R.ok PV.none)) (lset_lset' (l := o) (i := i))).mpr kk
    | some s =>
      dsimp only
      ktr_unf
      exact (congrArg (K (R.ok PV.none)) (lset_lset' (l := o) (i := i))).mpr kk
/-- the next sign is taken -/
theorem get_c {k : Nat} {c : Bool} (hk : k < 70) (hf : o[i]? = some (tokF t x z nx)) (hl : x.length < 1000) (kk : match nxt x z with
    | some none => K (.ok (nxP nx)) (lset o i (tokF t x z none))
    | some (some s) => K (.ok (nxP nx)) (lset o i (tokF t x (z + s.length) (some s)))
    | none => K (.err (.pe (errF t x mBad (x.length - 1)) (errW x mBad (x.length - 1)))) o) : ∀ m, 90 ≤ m → (W Γ7 m).F ⟨k, false, true, c⟩ 79 [.obj i] o K := by
  refine fuel 90 fun n => ?_
  ktr_unf
  k_search hf
  refine call_i (next_c (z := z) (t := t) (x := x) (nx := nx) (by dsimp only; omega) hf hl ?_ _ (by exact le_fuel rfl))
  cases e : nxt x z with
  | none =>
    rw [e] at kk
    dsimp only
    ktr_unf
    exact kk
  | some r =>
    rw [e] at kk
    cases r with
    | none =>
      dsimp only
      ktr_unf
      exact kk
    | some s =>
      dsimp only
      ktr_unf
      exact kk
theorem tell_c (hd : d.d < 90) (hf : o[i]? = some (tokF t x z nx)) (hx : NxOk nx) (k : K (.ok (.int (z - nxL nx))) o) : ∀ m, 30 ≤ m → (W Γ7 m).F d 108 [.obj i] o K := by
  refine fuel 30 fun n => ?_
  ktr_unf
  k_search hf
  k_search hf
  conv => whnf
  rcases hx with rfl | ⟨c, rfl⟩ | ⟨c, e, rfl⟩
  · ktr_unf
    exact k
  · ktr_unf
    exact k
  · ktr_unf
    exact k
end
section
variable {o : List (List PV)} {i : Nat} {K : FK} {d : Md} {z : Int} {x : List Nat} {t : Bool} {nx : Option (List Nat)}
theorem comp_i {E : C → Sg → Kt PV → Prop} {T : C → Sg → Kt Bool → Prop} {elt : C} {g : PV → PV} {f : List PV → Sg → Prop} : ∀ {l acc : List PV} {v0 : Option PV} (_he : ∀ p ∈ l, ∀ (K : Kt PV), K (.ok (g p)) ⟨[some p], none, none, o⟩ → E elt ⟨[some p], none, none, o⟩ K) (_hf : ∀ v, f (acc ++ l.map g) ⟨[v], none, none, o⟩), compK E T elt none [] l acc ⟨[v0], none, none, o⟩ f
  | [], acc, v0, _, hf => by have := hf v0; rwa [List.map_nil, List.append_nil] at this
  | p :: l, acc, v0, he, hf => he p (.head _) _ (show compK E T elt none [] l (acc ++ [g p]) ⟨[some p], none, none, o⟩ f from comp_i (fun q hq => he q (.tail _ hq)) fun v => by rw [List.append_assoc]; exact hf v)
theorem ints_some : ∀ l : List Int, intsL (l.map .int) = some l
  | [] => rfl
  | a :: l => by rw [List.map_cons, intsL, ints_some l]; rfl
theorem octets_c {k : Nat} {c b : Bool} (hk : k < 90) (hl : x.length < 1000) (hx : ∀ c ∈ x, c < 256) (kk : K (.ok (.bytes x)) o) : ∀ m, 40 ≤ m → (W Γ7 m).F ⟨k, false, b, c⟩ 142 [.str x] o K := by
  refine fuel 40 fun n => ?_
  ktr_unf
  have hz : x.length ≤ S16 := by unfold S16; omega
  refine And.intro hz ?_
  ktr_unf
  refine comp_i (g := fun p => match p with | .str [c] => .int c | p => p) (fun p hp K hK => ?_) fun v => ?_
  · obtain ⟨c, _, rfl⟩ := List.mem_map.mp hp
    ktr_unf
    exact hK
  · have e : ((x.map fun c => PV.str [c]).map fun p => match p with | .str [c] => PV.int c | p => p) = (x.map Int.ofNat).map .int := by
      rw [List.map_map, List.map_map]; rfl
    rw [List.nil_append, e]
    have e2 : (x.map Int.ofNat).map Int.toNat = x := by rw [List.map_map]; exact List.map_id _
    ktr_unf
    refine And.intro (by rw [List.length_map, List.length_map]; exact hz) ?_
    rw [ints_some]
    ktr_unf
    refine And.intro (fun n hn => ?_) ?_
    · obtain ⟨c, hc, rfl⟩ := List.mem_map.mp hn
      have := hx c hc
      exact ⟨Int.natCast_nonneg c, Int.ofNat_lt.mpr this⟩
    · rw [e2]
      ktr_unf
      exact kk
theorem clip_gen (e : Int) (n : Nat) : (max 0 (min e n)).toNat = min (max 0 e).toNat n := by
  cases e with
  | ofNat k =>
    show (max 0 (min (k : Int) n)).toNat = min (max 0 (k : Int)).toNat n
    rcases Nat.le_total k n with h | h
    · rw [Int.min_eq_left (Int.ofNat_le.mpr h), Int.max_eq_right (Int.natCast_nonneg _)]; exact (Nat.min_eq_left h).symm
    · rw [Int.min_eq_right (Int.ofNat_le.mpr h), Int.max_eq_right (Int.natCast_nonneg _), Int.max_eq_right (Int.natCast_nonneg _)]; exact (Nat.min_eq_right h).symm
  | negSucc k =>
    rw [Int.min_eq_left (Int.le_trans (Int.le_of_lt (Int.negSucc_lt_zero k)) (Int.natCast_nonneg n)), Int.max_eq_left (Int.le_of_lt (Int.negSucc_lt_zero k))]
    exact (Nat.zero_min n).symm
theorem clip_upto (n : Nat) (p : Int) : clipAt n p = upto n p := clip_gen _ n
theorem upto_in (n k : Nat) (h : k ≤ n) : upto n k = k := by
  unfold upto
  rw [if_neg (Int.not_lt.mpr (Int.natCast_nonneg k)), Int.max_eq_right (Int.natCast_nonneg k)]
  exact Nat.min_eq_left h
theorem upto_over (n k : Nat) (h : n ≤ k) : upto n k = n := by
  unfold upto
  rw [if_neg (Int.not_lt.mpr (Int.natCast_nonneg k)), Int.max_eq_right (Int.natCast_nonneg k)]
  exact Nat.min_eq_right h
end
section
variable {o : List (List PV)} {i : Nat} {K : FK} {d : Md} {z : Int} {x : List Nat} {t : Bool} {nx : Option (List Nat)}
theorem sli_take {α : Type} (l : List α) (k : Nat) : sliL l none (some (k : Int)) = l.take k := by
  unfold sliL
  show (l.drop 0).take (clipAt l.length k - 0) = _
  rw [List.drop_zero, Nat.sub_zero, clip_upto]
  rcases Nat.le_total k l.length with h | h
  · rw [upto_in _ _ h]
  · rw [upto_over _ _ h, List.take_length, List.take_of_length_le h]
noncomputable def L6 (n : Int) : Nat := [97, 98, 10, 92, 92, 92].getD (n.fmod 6).toNat 0
noncomputable def L3 (n : Int) : Nat := [97, 98, 92].getD (n.fmod 3).toNat 0
theorem it6 (n : Int) : ∀ x : List Nat, x = [97, 98, 10, 92, 92, 92] → (if fits63 (n.fmod 6) = true then itemL x (n.fmod 6) else none) = some (L6 n) := by
  rintro x rfl
  have h2 := Int.fmod_lt_of_pos n (show (0 : Int) < 6 by decide)
  unfold L6
  obtain ⟨k, hk⟩ := Int.eq_ofNat_of_zero_le (Int.fmod_nonneg_of_pos n (show (0 : Int) < 6 by decide))
  rw [hk] at h2 ⊢
  have h3 : k < 6 := Int.ofNat_lt.mp h2
  match k, h3 with
  | 0, _ => rfl
  | 1, _ => rfl
  | 2, _ => rfl
  | 3, _ => rfl
  | 4, _ => rfl
  | 5, _ => rfl
theorem it6' (n : Int) : (if fits63 (n.fmod 6) = true then itemL ([97, 98, 10] ++ rep (Int.toNat 3) [92]) (n.fmod 6) else none) = some (L6 n) := it6 n _ rfl
theorem it3 (n : Int) : (if fits63 (n.fmod 3) = true then itemL [97, 98, 92] (n.fmod 3) else none) = some (L3 n) := by
  have h2 := Int.fmod_lt_of_pos n (show (0 : Int) < 3 by decide)
  unfold L3
  obtain ⟨k, hk⟩ := Int.eq_ofNat_of_zero_le (Int.fmod_nonneg_of_pos n (show (0 : Int) < 3 by decide))
  rw [hk] at h2 ⊢
  have h3 : k < 3 := Int.ofNat_lt.mp h2
  match k, h3 with
  | 0, _ => rfl
  | 1, _ => rfl
  | 2, _ => rfl
theorem strs_some {α : Type} (g : α → List Nat) : ∀ l : List α, strsL (l.map fun a => .str (g a)) = some (l.map g)
  | [] => rfl
  | a :: l => by rw [List.map_cons, strsL, strs_some g l]; rfl
theorem glue_fold (g : Str) (hg : g.cps = #[]) : ∀ (ps : List Str) (acc : Array Nat), (ps.foldl (fun acc p => acc ++ g.cps ++ p.cps) acc).toList = acc.toList ++ (ps.map (·.cps.toList)).flatten
  | [], acc => by simp
  | p :: r, acc => by
    rw [List.foldl_cons, glue_fold g hg r]
    simp [hg]
theorem join_one {α : Type} (g : α → Nat) (l : List α) : (Txt.join ⟨([] : List Nat).toArray⟩ ((l.map fun a => [g a]).map fun y => ⟨y.toArray⟩)).cps.toList = l.map g := by
  have hg : (⟨([] : List Nat).toArray⟩ : Str).cps = #[] := rfl
  cases l with
  | nil => rfl
  | cons p r =>
    show (((r.map fun a => [g a]).map fun y => (⟨y.toArray⟩ : Str)).foldl (fun acc q => acc ++ (⟨([] : List Nat).toArray⟩ : Str).cps ++ q.cps) #[g p]).toList = _
    rw [glue_fold _ hg]
    have : ∀ l : List α, (((l.map fun a => [g a]).map fun y => (⟨y.toArray⟩ : Str)).map (·.cps.toList)).flatten = l.map g := by
      intro l
      induction l with
      | nil => rfl
      | cons a l ih => simp only [List.map_cons, List.flatten_cons, ih]; rfl
    rw [this]; rfl
/-- the pattern's letters -/
noncomputable def textL (most : Nat) (zs : List Int) : List Nat := (zs.take most).map L6 ++ [L3 zs.sum]
theorem sum_one {α : Type} (g : α → Nat) (l : List α) : ((l.map fun a => [g a]).map (·.length)).sum = l.length := by
  induction l with
  | nil => rfl
  | cons a l ih => simp only [List.map_cons, List.sum_cons, ih, List.length_cons, List.length_nil]; omega
theorem pattern_c {k : Nat} {b c : Bool} {zs : List Int} {most : Nat} (hk : k < 90) (hz : zs.length ≤ 63) (kk : K (.ok (.str (textL most zs))) o) : ∀ m, 60 ≤ m → (W Γ7 m).F ⟨k, false, b, c⟩ 154 [.lst (zs.map .int), .int most] o K := by
  refine fuel 60 fun n => ?_
  have s16 : S16 = 16777216 := rfl
  have h1 : (zs.map PV.int).length ≤ S16 := by rw [List.length_map]; omega
  have h2 : ((zs.map PV.int).take most).length ≤ S16 := by rw [List.length_take, List.length_map]; omega
  ktr_unf
  conv => whnf
  rw [sli_take]
  ktr_unf
  conv => whnf
  rw [← List.map_take]
  refine comp_i (g := fun p => match p with | .int n => .str [L6 n] | p => p) (fun p hp K hK => ?_) fun v => ?_
  · obtain ⟨c, _, rfl⟩ := List.mem_map.mp hp
    ktr_unf
    conv => whnf
    rw [it6' c]
    ktr_unf
    exact hK
  · have e : (((zs.take most).map PV.int).map fun p => match p with | .int n => PV.str [L6 n] | p => p) = (zs.take most).map fun a => .str [L6 a] := by
      rw [List.map_map]; rfl
    rw [List.nil_append, e]
    ktr_unf
    conv => whnf
    rw [strs_some (fun a => [L6 a])]
    ktr_unf
    refine And.intro (by rw [sum_one, List.length_map, List.length_take]; omega) ?_
    rw [join_one]
    ktr_unf
    conv => whnf
    rw [ints_some]
    ktr_unf
    conv => whnf
    rw [it3]
    ktr_unf
    refine And.intro (by rw [List.length_map, List.length_take, s16]; show _ + 1 ≤ _; omega) ?_
    ktr_unf
    exact kk
/-- a tokenizer is made -/
theorem init_c {k : Nat} {c : Bool} (hk : k < 70) (hf : o[i]? = some []) (hl : x.length < 1000) (hne : x ≠ []) (kk : match nxt x 0 with
    | some none => K (.ok .none) (lset o i (tokF t x 0 none))
    | some (some s) => K (.ok .none) (lset o i (tokF t x s.length (some s)))
    | none => True) (hn : nxt x 0 ≠ none) : ∀ m, 100 ≤ m → (W Γ7 m).F ⟨k, false, true, c⟩ 58 [.obj i, pvT t x] o K := by
  refine fuel 100 fun n => ?_
  have s16 : S16 = 16777216 := rfl
  have h1 : x.length ≤ S16 := by omega
  have h2 : x.length ≠ 0 := fun z => hne (List.length_eq_zero_iff.mp z)
  have s : ∀ {f : List PV}, (lset o i f)[i]? = some f := lset_at hf
  have s1 : ∀ {f g : List PV}, (lset (lset o i f) i g)[i]? = some g := lset_at s
  have s2 : ∀ {f g h : List PV}, (lset (lset (lset o i f) i g) i h)[i]? = some h := lset_at s1
  have s3 : ∀ {f g h j : List PV}, (lset (lset (lset (lset o i f) i g) i h) i j)[i]? = some j := lset_at s2
  have s4 : ∀ {f g h j l : List PV}, (lset (lset (lset (lset (lset o i f) i g) i h) i j) i l)[i]? = some l := lset_at s3
  have col : ∀ {f g h j l p : List PV}, lset (lset (lset (lset (lset (lset o i f) i g) i h) i j) i l) i p = lset o i p := by
    intro f g h j l p
    rw [lset_lset', lset_lset', lset_lset', lset_lset', lset_lset']
  have fin : ∀ m, 80 ≤ m → ∀ {f g h j l : List PV} {K' : FK}, l = tokF t x 0 none → (∀ r, K (.ok .none) r → K' (.ok .none) r) → (W Γ7 m).F ⟨k + 1, false, true, true⟩ 65 [.obj i] (lset (lset (lset (lset (lset o i f) i g) i h) i j) i l) K' := by
    intro m hm f g h j l K' hl' hK
    subst hl'
    refine next_c (by omega) s4 hl ?_ m (by omega)
    cases e : nxt x 0 with
    | none => exact absurd e hn
    | some r =>
      rw [e] at kk
      cases r with
      | none => dsimp only; rw [col]; exact hK _ kk
      | some r => dsimp only; rw [col, Int.zero_add]; exact hK _ kk
  cases t
  · ktr_unf
    k_search hf
    k_search s
    k_search s1
    k_search s1
    k_search s2
    k_search s3
    refine call_i (fin _ (by omega) rfl fun r hr => ?_)
    ktr_unf
    exact hr
  · ktr_unf
    k_search hf
    k_search s
    k_search s1
    k_search s1
    k_search s2
    k_search s3
    refine call_i (fin _ (by omega) rfl fun r hr => ?_)
    ktr_unf
    exact hr
end
section
variable {o : List (List PV)} {i : Nat} {K : FK} {d : Md} {z : Int} {x : List Nat} {t : Bool} {nx : Option (List Nat)}
theorem leq_refl (x : List Nat) : leq x x = true := leq_iff.mpr rfl
theorem peq_nn : peq (nxP nx) (nxP nx) = some true := by
  unfold peq
  cases nx with
  | none => rfl
  | some a => show some (leq a a) = _; rw [leq_refl]
theorem peq_int (a b : Int) : peq (.int a) (.int b) = some (decide (a = b)) := by
  unfold peq
  rfl
theorem eq_t {a b : Int} (h : a = b) : peq (.int a) (.int b) = some true := (peq_int a b).trans (congrArg some (decide_eq_true h))
theorem eq_f {a b : Int} (h : a ≠ b) : peq (.int a) (.int b) = some false := (peq_int a b).trans (congrArg some (decide_eq_false h))
theorem nxt_ok {r : Option (List Nat)} (h : nxt x z = some r) : NxOk r := by
  unfold nxt at h
  split at h
  · exact .inl (Option.some.inj h).symm
  · split at h
    · split at h
      · cases h
      · exact .inr (.inr ⟨_, _, (Option.some.inj h).symm⟩)
    · exact .inr (.inl ⟨_, (Option.some.inj h).symm⟩)
/-- a tokenizer at a place -/
noncomputable def tokA (t : Bool) (x : List Nat) (p : Int) (nx : Option (List Nat)) : List PV := tokF t x (p + nxL nx) nx
noncomputable abbrev lackX (t : Bool) (x : List Nat) : Ex := .pe (errF t x mBad (x.length - 1)) (errW x mBad (x.length - 1))
theorem tok0 : tokF t x z none = tokA t x z none := by unfold tokA; rw [show z + (nxL none : Int) = z from Int.add_zero z]
theorem next_k {k : Nat} {c : Bool} (hk : k < 80) (hf : o[i]? = some (tokF t x z nx)) (hl : x.length < 1000) (kn : nxt x z = none → K (.err (lackX t x)) o) (kk : ∀ ny, nxt x z = some ny → K (.ok .none) (lset o i (tokA t x z ny))) : ∀ m, 70 ≤ m → (W Γ7 m).F ⟨k, false, true, c⟩ 65 [.obj i] o K := by
  refine next_c hk hf hl ?_
  cases e : nxt x z with
  | none => exact kn e
  | some r =>
    cases r with
    | none => exact tok0 ▸ kk none e
    | some s => exact kk (some s) e
theorem get_k {k : Nat} {c : Bool} (hk : k < 70) (hf : o[i]? = some (tokF t x z nx)) (hl : x.length < 1000) (kn : nxt x z = none → K (.err (lackX t x)) o) (kk : ∀ ny, nxt x z = some ny → K (.ok (nxP nx)) (lset o i (tokA t x z ny))) : ∀ m, 90 ≤ m → (W Γ7 m).F ⟨k, false, true, c⟩ 79 [.obj i] o K := by
  refine get_c hk hf hl ?_
  cases e : nxt x z with
  | none => exact kn e
  | some r =>
    cases r with
    | none => exact tok0 ▸ kk none e
    | some s => exact kk (some s) e
theorem seek_k {k : Nat} {c : Bool} {z' : Int} {ny : Option (List Nat)} (hk : k < 70) (hf : o[i]? = some (tokF t x z nx)) (hl : x.length < 1000) (h : nxt x z' = some ny) (kk : K (.ok .none) (lset o i (tokA t x z' ny))) : ∀ m, 90 ≤ m → (W Γ7 m).F ⟨k, false, true, c⟩ 115 [.obj i, .int z'] o K := by
  refine seek_c hk hf hl ?_
  rw [h]
  cases ny with
  | none => exact tok0 ▸ kk
  | some s => exact kk
theorem tell_k {p : Int} (hd : d.d < 90) (hf : o[i]? = some (tokA t x p nx)) (hx : nxt x p = some nx) (k : K (.ok (.int p)) o) : ∀ m, 30 ≤ m → (W Γ7 m).F d 108 [.obj i] o K :=
  tell_c hd hf (nxt_ok hx) (by rw [Int.add_sub_cancel]; exact k)
theorem pos_k {p : Int} (hd : d.d < 90) (hf : o[i]? = some (tokA t x p nx)) (hx : nxt x p = some nx) (k : K (.ok (.int p)) o) : ∀ m, 30 ≤ m → (W Γ7 m).F d 100 [.obj i] o K :=
  pos_c hd hf (nxt_ok hx) (by rw [Int.add_sub_cancel]; exact k)
/-- match of the sign that is next -/
theorem match_k {k : Nat} {c : Bool} (hk : k < 70) (hf : o[i]? = some (tokF t x z nx)) (hl : x.length < 1000) (kn : nxt x z = none → K (.err (lackX t x)) o) (kk : ∀ ny, nxt x z = some ny → K (.ok (.bool true)) (lset o i (tokA t x z ny))) : ∀ m, 90 ≤ m → (W Γ7 m).F ⟨k, false, true, c⟩ 72 [.obj i, nxP nx] o K := by
  refine fuel 90 fun n => ?_
  ktr_unf
  k_search hf
  k_search (peq_nn)
  refine call_i (next_k (by dsimp only; omega) hf hl (fun e => ?_) (fun ny e => ?_) _ (by exact le_fuel rfl))
  · ktr_unf
    exact kn e
  · ktr_unf
    exact kk ny e
end
section
variable {o : List (List PV)} {i : Nat} {K : FK} {d : Md} {z : Int} {x : List Nat} {t : Bool} {nx : Option (List Nat)}
/-- the backslashes right ahead of a place -/
noncomputable def runB (x : List Nat) (p : Nat) : Nat := ((x.take p).reverse.takeWhile (· == 92)).length
noncomputable def even (x : List Nat) (p : Nat) : Bool := Nat.beq (runB x p % 2) 0
noncomputable def b149 : List D := match c149 with
  | [_, .for_ _ _ b, _] => b
  | _ => []
noncomputable def w149 : C := match b149 with
  | [_, .whl c _, _] => c
  | _ => .k .none
noncomputable def v149 : List D := match b149 with
  | [_, .whl _ b, _] => b
  | _ => []
theorem rev_at {x : List Nat} {p k : Nat} (hp : p ≤ x.length) (hk : k < p) : (x.take p).reverse[k]? = x[p - k - 1]? := by
  have e : (x.take p).length = p := List.length_take.trans (Nat.min_eq_left hp)
  rw [List.getElem?_reverse (by rw [e]; exact hk), e, List.getElem?_take_of_lt (Nat.lt_of_le_of_lt (Nat.sub_le _ _) (Nat.sub_lt (Nat.lt_of_le_of_lt (Nat.zero_le k) hk) Nat.one_pos)), Nat.sub_right_comm]
theorem run_at : ∀ (l : List Nat) (k : Nat), k < (l.takeWhile (· == 92)).length → l[k]? = some 92
  | [], _, h => by cases h
  | a :: r, k, h => by
    rw [List.takeWhile_cons] at h
    cases e : a == 92 with
    | false => rw [e] at h; cases h
    | true =>
      rw [e] at h
      cases k with
      | zero => rw [eq_of_beq e]; rfl
      | succ k => exact run_at r k (Nat.lt_of_succ_lt_succ h)
theorem run_end : ∀ (l : List Nat), l[(l.takeWhile (· == 92)).length]? ≠ some 92
  | [] => by intro h; cases h
  | a :: r => by
    rw [List.takeWhile_cons]
    cases e : a == 92 with
    | false => intro h; rw [Option.some.inj h] at e; cases e
    | true => exact run_end r
theorem runB_le {x : List Nat} {p : Nat} : runB x p ≤ p := Nat.le_trans (List.takeWhile_sublist _).length_le (by rw [List.length_reverse, List.length_take]; exact Nat.min_le_left _ _)
theorem bs_at {x : List Nat} {p r : Nat} (hl : x.length < 1000) (hp : p < x.length) (hr : r < p) : ∃ c, (if fits63 ((p : Int) - r - 1) = true then itemL x ((p : Int) - r - 1) else none) = some c ∧ (c = 92 ↔ r < runB x p ∨ (x.take p).reverse[r]? = some 92) ∧ (x.take p).reverse[r]? = some c := by
  have e : (p : Int) - r - 1 = ((p - r - 1 : Nat) : Int) := by omega
  have hlt : p - r - 1 < x.length := by omega
  rw [e, if_pos (by unfold fits63; rw [Bool.and_eq_true, decide_eq_true_eq, decide_eq_true_eq]; omega)]
  unfold itemL
  rw [if_neg (by omega), Int.toNat_natCast, rev_at (Nat.le_of_lt hp) hr, List.getElem?_eq_getElem hlt]
  refine ⟨_, rfl, ⟨fun h => .inr (by rw [h]), fun h => ?_⟩, rfl⟩
  rcases h with h | h
  · have := run_at _ _ h
    rw [rev_at (Nat.le_of_lt hp) hr, List.getElem?_eq_getElem hlt] at this
    exact Option.some.inj this
  · exact Option.some.inj h
theorem while149 {k D : Nat} {l : List PV} {h b : Bool} {p : Nat} (hl : x.length < 1000) (hp : p < x.length) : ∀ (q r m : Nat), r + q = runB x p → 60 + q ≤ m → ∀ {K : Kt Fl},
    K (.ok .next) ⟨[some (.str x), none, some (.int p), some (.int (runB x p))], some (1, D, l), none, o⟩ →
    (W Γ7 m).Wh ⟨k, h, b, true⟩ w149 v149 ⟨[some (.str x), none, some (.int p), some (.int r)], some (1, D, l), none, o⟩ K := by
  intro q
  induction q with
  | zero =>
    intro r m hr hm K hk
    obtain ⟨n, rfl⟩ : ∃ n, m = n + 60 := le_ex2 hm rfl
    rw [Nat.add_zero] at hr
    subst hr
    conv => whnf
    refine cond_d (fun e => ?_) fun e => hk
    have hlt : runB x p < p := Int.ofNat_lt.mp (of_decide_eq_true e)
    obtain ⟨c, h1, _, h2⟩ := bs_at hl hp hlt
    have hc : c ≠ 92 := fun z => run_end (x.take p).reverse (by rw [z] at h2; exact h2)
    k_search h1
    k_search (peq_str [c] [92])
    k_search (show leq [c] [92] = false from by cases e : leq [c] [92]; rfl; exact absurd (List.cons.inj (leq_iff.mp e)).1 hc)
    exact hk
  | succ q ih =>
    intro r m hr hm K hk
    obtain ⟨n, rfl⟩ : ∃ n, m = n + 60 := le_ex2 hm rfl
    have hlt : r < p := Nat.lt_of_lt_of_le (hr ▸ Nat.lt_add_of_pos_right (Nat.succ_pos q)) runB_le
    obtain ⟨c, h1, h3, h2⟩ := bs_at hl hp hlt
    have hc : c = 92 := h3.mpr (.inl (hr ▸ Nat.lt_add_of_pos_right (Nat.succ_pos q)))
    subst hc
    k_search (decide_eq_true (Int.ofNat_lt.mpr hlt))
    k_search h1
    k_search (peq_str [92] [92])
    conv => whnf
    exact ih (r + 1) (n + 59) (by rw [Nat.add_assoc, Nat.add_comm 1 q]; exact hr) (le_pred hm) hk
theorem loop149 {k D : Nat} {h b : Bool} (hl : x.length < 1000) (hh : h = false) : ∀ (l : List Nat) (m : Nat), (∀ p ∈ l, p < x.length) → 1200 + l.length ≤ m → ∀ {K : Kt Fl} {v2 v3} {acc : List Nat}, acc.length + l.length ≤ 1000 →
    (∀ v2 v3, K (.ok .next) ⟨[some (.str x), none, v2, v3], some (1, D, (acc ++ l.filter (even x)).map fun (n : Nat) => PV.int n), none, o⟩) →
    (W Γ7 m).For ⟨k, h, b, true⟩ 2 (l.map fun (n : Nat) => PV.int n) b149 ⟨[some (.str x), none, v2, v3], some (1, D, acc.map fun (n : Nat) => PV.int n), none, o⟩ K := by
  intro l
  induction l with
  | nil =>
    intro m _ hm K v2 v3 acc ha hk
    obtain ⟨n, rfl⟩ : ∃ n, m = n + 90 := le_ex2 hm rfl
    have := hk v2 v3
    rw [List.filter_nil, List.append_nil] at this
    exact this
  | cons a r ih =>
    intro m hp hm K v2 v3 acc ha hk
    rw [List.length_cons] at hm ha
    obtain ⟨n, rfl⟩ : ∃ n, m = n + 1200 := le_ex2 hm rfl
    have s16 : S16 = 16777216 := rfl
    have hle := runB_le (x := x) (p := a)
    have hap := hp a (.head _)
    ktr_unf
    conv => whnf
    unfold WLoop
    refine while149 hl hap (runB x a) 0 _ (Nat.zero_add _) (Nat.le_trans (Nat.add_le_add_left (Nat.le_trans hle (Nat.le_trans (Nat.le_of_lt hap) (Nat.le_of_lt hl))) 60) (le_fuel rfl)) ?_
    ktr_unf
    have hm2 : (runB x a : Int).fmod 2 = ((runB x a % 2 : Nat) : Int) := by
      rw [Int.fmod_eq_emod_of_nonneg _ (by decide)]; rfl
    cases e : even x a with
    | true =>
      have e2 : runB x a % 2 = 0 := Nat.eq_of_beq_eq_true e
      k_search (eq_t (show (runB x a : Int).fmod 2 = 0 by rw [hm2, e2]; rfl))
      refine And.intro (by rw [List.length_map]; omega) ?_
      ktr_unf
      have ea : acc.map (fun (n : Nat) => PV.int n) ++ [PV.int a] = (acc ++ [a]).map fun (n : Nat) => PV.int n := by rw [List.map_append]; rfl
      rw [ea]
      refine ih (n + 1199) (fun p hq => hp p (.tail _ hq)) (le_pred hm) (by rw [List.length_append, Nat.add_assoc, Nat.add_comm [a].length]; exact ha) fun v2 v3 => ?_
      have := hk v2 v3
      rw [List.filter_cons, if_pos e] at this
      rw [List.append_assoc]
      exact this
    | false =>
      have e2 : runB x a % 2 ≠ 0 := Nat.ne_of_beq_eq_false e
      k_search (eq_f (show (runB x a : Int).fmod 2 ≠ 0 from fun z => e2 (Int.ofNat.inj (hm2.symm.trans z))))
      conv => whnf
      refine ih (n + 1199) (fun p hq => hp p (.tail _ hq)) (le_pred hm) (Nat.le_trans (Nat.le_succ _) ha) fun v2 v3 => ?_
      have := hk v2 v3
      rw [List.filter_cons, if_neg (by rw [e]; exact Bool.false_ne_true)] at this
      exact this
/-- the places of the signs -/
noncomputable def startsN (x : List Nat) : List Nat := (List.range x.length).filter (even x)
theorem starts_c {k : Nat} {h b c : Bool} (hk : k < 90) (hl : x.length < 1000) (kk : K (.ok (.lst ((startsN x).map fun (n : Nat) => PV.int n))) o) (hh : h = false) : ∀ m, 2300 ≤ m → (W Γ7 m).F ⟨k, h, b, c⟩ 149 [.str x] o K := by
  subst hh
  refine fuel 2300 fun n => ?_
  have p60 : (2 : Nat) ^ 60 = 1152921504606846976 := by decide
  have h1 : x.length < 2 ^ 60 := by omega
  have p20 : (2 : Nat) ^ 20 = 1048576 := by decide
  ktr_unf
  intro D
  ktr_unf
  conv => whnf
  unfold Loop
  refine loop149 (acc := []) hl rfl (List.range x.length) _ (fun p hp => List.mem_range.mp hp) (by rw [List.length_range]; omega) (by rw [List.length_range]; show 0 + _ ≤ _; omega) fun v2 v3 => ?_
  ktr_unf
  exact kk
end
section
variable {o : List (List PV)} {i : Nat} {K : FK} {d : Md} {z : Int} {x : List Nat} {t : Bool} {nx : Option (List Nat)}
noncomputable def st : List Nat → Nat → List Nat
  | [], _ => []
  | [_], i => [i]
  | c :: e :: r, i => if c = 92 then i :: st r (i + 2) else i :: st (e :: r) (i + 1)
/-- by signs -/
theorem by_signs {p : List Nat → Prop} (h0 : p []) (h1 : ∀ c, p [c]) (h2 : ∀ e r, p r → p (92 :: e :: r)) (h3 : ∀ c e r, c ≠ 92 → p (e :: r) → p (c :: e :: r)) : ∀ r, p r
  | [] => h0
  | [c] => h1 c
  | c :: e :: r => if z : c = 92 then z ▸ h2 e r (by_signs h0 h1 h2 h3 r) else h3 c e r z (by_signs h0 h1 h2 h3 (e :: r))
theorem runB_succ {i : Nat} (h : i < x.length) : runB x (i + 1) = if x[i] = 92 then runB x i + 1 else 0 := by
  unfold runB
  rw [List.take_add_one, List.getElem?_eq_getElem h]
  show ((x.take i ++ [x[i]]).reverse.takeWhile (· == 92)).length = _
  rw [List.reverse_append]
  show ((x[i] :: (x.take i).reverse).takeWhile (· == 92)).length = _
  rw [List.takeWhile_cons]
  by_cases z : x[i] = 92
  · rw [if_pos z, if_pos (beq_iff_eq.mpr z)]; rfl
  · rw [if_neg z, if_neg (by rw [beq_iff_eq]; exact z)]; rfl
theorem drop_at {L r : List Nat} {j c : Nat} (h : L.drop j = c :: r) : ∃ hj : j < L.length, L[j] = c ∧ L.drop (j + 1) = r := by
  have hj : j < L.length := by
    rcases Nat.lt_or_ge j L.length with z | z
    · exact z
    · rw [List.drop_eq_nil_of_le z] at h; cases h
  rw [List.drop_eq_getElem_cons hj] at h
  exact ⟨hj, (List.cons.inj h).1, (List.cons.inj h).2⟩
theorem even_of {L r : List Nat} {j c : Nat} (h : L.drop j = c :: r) (hc : c ≠ 92) : even L (j + 1) = true := by
  obtain ⟨hj, e, _⟩ := drop_at h
  unfold even
  rw [runB_succ hj, if_neg (e ▸ hc)]
  rfl
theorem even_bs {L r : List Nat} {j : Nat} (h : L.drop j = 92 :: r) : even L (j + 1) = !even L j := by
  obtain ⟨hj, e, _⟩ := drop_at h
  unfold even
  rw [runB_succ hj, if_pos e]
  rcases Nat.mod_two_eq_zero_or_one (runB L j) with z | z
  · rw [Nat.add_mod, z]; rfl
  · rw [Nat.add_mod, z]; rfl
theorem starts_st (L : List Nat) : ∀ r j, L.drop j = r → even L j = true → (List.range' j r.length).filter (even L) = st r j := by
  intro r
  induction r using by_signs with
  | h0 => intro j _ _; rfl
  | h1 c => intro j h he; show (List.range' j 1).filter _ = [j]; rw [List.range'_succ, List.filter_cons, if_pos he]; rfl
  | h2 e r ih =>
    intro j h he
    have hb := even_bs h
    rw [he] at hb
    have hd := (drop_at h).2.2
    have hb2 : even L (j + 1 + 1) = true := by
      by_cases z : e = 92
      · rw [z] at hd; rw [even_bs hd, hb]; rfl
      · exact even_of hd z
    show (List.range' j (r.length + 1 + 1)).filter _ = if 92 = 92 then _ else _
    rw [List.range'_succ, List.range'_succ, List.filter_cons, if_pos he, List.filter_cons, if_neg (by rw [hb]; exact Bool.false_ne_true), if_pos rfl, ih (j + 1 + 1) (drop_at hd).2.2 hb2]
  | h3 c e r hc ih =>
    intro j h he
    show (List.range' j (r.length + 1 + 1)).filter _ = if c = 92 then _ else _
    rw [List.range'_succ, List.filter_cons, if_pos he, if_neg hc, ← ih (j + 1) (drop_at h).2.2 (even_of h hc)]
    rfl
theorem starts_st0 (L : List Nat) : startsN L = st L 0 := by
  unfold startsN
  rw [List.range_eq_range']
  exact starts_st L L 0 rfl rfl
theorem sli_at (L : List Nat) (i k : Nat) (h : i + k ≤ L.length) : sliL L (some (i : Int)) (some ((i + k : Nat) : Int)) = (L.drop i).take k := by
  unfold sliL
  show (L.drop (clipAt L.length i)).take (clipAt L.length (i + k : Nat) - clipAt L.length i) = _
  rw [clip_upto, clip_upto, upto_in _ _ h, upto_in _ _ (Nat.le_trans (Nat.le_add_right i k) h), Nat.add_sub_cancel_left]
theorem st_head (r : List Nat) (j n : Nat) (h : j + r.length = n) : ∃ M, st r j ++ [n] = j :: M := by
  cases r with
  | nil => exact ⟨[], by rw [← h]; rfl⟩
  | cons c r =>
    cases r with
    | nil => exact ⟨[n], rfl⟩
    | cons e r =>
      unfold st
      split
      · exact ⟨_, rfl⟩
      · exact ⟨_, rfl⟩
/-- what stands from a place on -/
noncomputable def View (x : List Nat) (p : Int) (L : List Nat) : Prop := ∀ j : Nat, j ≤ L.length → at63 x (p + j) = L[j]?
theorem get_drop (L : List Nat) (j k : Nat) : L[j + k]? = (L.drop j)[k]? := by rw [List.getElem?_drop]
theorem nxt_view {p : Int} {L : List Nat} (V : View x p L) (j : Nat) (hj : j ≤ L.length) : nxt x (p + j) = match L.drop j with
    | [] => some none
    | [c] => if c = 92 then none else some (some [c])
    | c :: e :: _ => if c = 92 then some (some [92, e]) else some (some [c]) := by
  unfold nxt
  have h0 : at63 x (p + j) = (L.drop j)[0]? := (V j hj).trans (get_drop L j 0)
  rw [h0]
  cases e : L.drop j with
  | nil => rfl
  | cons c r =>
    have h1 := V (j + 1) (drop_at e).1
    rw [show (p + ((j + 1 : Nat) : Int)) = p + j + 1 from by omega, get_drop, e] at h1
    rw [h1]
    cases r with
    | nil => rfl
    | cons e r => rfl
theorem lset_eq {f : List PV} : ∀ {o : List (List PV)} {i : Nat}, o[i]? = some f → lset o i f = o
  | [], _, h => by cases h
  | _ :: _, 0, h => by cases h; rfl
  | a :: r, i + 1, h => congrArg (a :: ·) (lset_eq h)
end
section
variable {o : List (List PV)} {i : Nat} {K : FK} {d : Md} {z : Int} {x : List Nat} {t : Bool} {nx : Option (List Nat)}
theorem off_nat {z : Int} {L j : Nat} (h : z + L = j) (h0 : ¬ z < 0) : z.toNat = j - L := by
  obtain ⟨k, rfl⟩ := Int.eq_ofNat_of_zero_le (Int.not_lt.mp h0)
  rw [← Int.ofNat.inj h]
  exact (Nat.add_sub_cancel ..).symm
theorem pred_nat (n : Nat) : (-1 + ((n + 1 : Nat) : Int)).toNat = n := by
  rw [Int.natCast_add, Int.add_comm, show ((n : Int) + (1 : Nat) + -1) = n from Int.add_neg_cancel_right _ 1]; rfl
theorem at_in {x : List Nat} (hl : x.length < 1000) {z : Int} {j : Nat} (hj : z + x.length = j) : at63 x z = (x ++ x)[j]? := by
  have z0 : 0 ≤ z + x.length := hj ▸ Int.natCast_nonneg j
  unfold at63
  by_cases h : z < x.length
  · have fit : fits63 z = true := by
      unfold fits63; rw [Bool.and_eq_true, decide_eq_true_eq, decide_eq_true_eq]; clear hj; omega
    rw [if_pos fit]
    unfold itemL
    by_cases h0 : z < 0
    · rw [if_pos h0, if_neg (Int.not_lt.mpr z0), hj, Int.toNat_natCast, List.getElem?_append_left (by clear fit h z0 hl; omega)]
    · rw [if_neg h0, off_nat hj h0, List.getElem?_append_right (by clear fit h z0 hl; omega)]
  · rw [List.getElem?_eq_none (show (x ++ x).length ≤ j by rw [List.length_append]; clear z0 hl; omega)]
    split
    · unfold itemL
      have h0 : ¬ z < 0 := fun q => h (Int.lt_of_lt_of_le q (Int.natCast_nonneg _))
      rw [if_neg h0, List.getElem?_eq_none (by rw [off_nat hj h0]; clear z0 hl h0; omega)]
    · rfl
theorem at_low {x : List Nat} {z : Int} (h : z < -x.length) : at63 x z = none := by
  unfold at63
  split
  · unfold itemL
    rw [if_pos (by omega), if_pos (by omega)]
  · rfl
/-- what stands from a place on, as the law tells it -/
noncomputable def leftL (x : List Nat) (p : Int) : List Nat := if -(x.length : Int) ≤ p ∧ p < x.length then (if p ≥ 0 then x.drop p.toNat else x.drop (p + x.length).toNat ++ x) else []
theorem left_len (x : List Nat) (p : Int) : (leftL x p).length ≤ 2 * x.length := by
  rw [Nat.two_mul]
  unfold leftL
  split
  · split
    · rw [List.length_drop]; exact Nat.le_trans (Nat.sub_le _ _) (Nat.le_add_right _ _)
    · rw [List.length_append, List.length_drop]; exact Nat.add_le_add_right (Nat.sub_le _ _) _
  · exact Nat.zero_le _
theorem view_of (hl : x.length < 1000) (p : Int) : View x p (leftL x p) := by
  intro j hj
  by_cases h1 : p < -x.length
  · have e : leftL x p = [] := by unfold leftL; rw [if_neg fun z => Int.not_le.mpr h1 z.1]
    rw [e] at hj ⊢
    cases Nat.le_zero.mp hj
    rw [at_low (by rw [show p + ((0 : Nat) : Int) = p from Int.add_zero p]; exact h1)]
    rfl
  · have h1' := Int.not_lt.mp h1
    obtain ⟨q, hq⟩ := Int.eq_ofNat_of_zero_le (show 0 ≤ p + x.length by clear hl h1; omega)
    rw [at_in hl (j := q + j) (by rw [Int.natCast_add, ← hq, Int.add_right_comm])]
    have e : leftL x p = (x ++ x).drop q := by
      unfold leftL
      by_cases h2 : p < x.length
      · rw [if_pos ⟨h1', h2⟩]
        by_cases h3 : p ≥ 0
        · rw [if_pos h3, List.drop_append, List.drop_eq_nil_of_le (show x.length ≤ q by clear hl h1 h1' h2; omega), List.nil_append, off_nat hq (Int.not_lt.mpr h3)]
        · rw [if_neg h3, List.drop_append_of_le_length (by clear hl h1 h1' h2; omega), hq, Int.toNat_natCast]
      · rw [if_neg fun z => h2 z.2, List.drop_eq_nil_of_le (by rw [List.length_append]; clear hl h1 h1'; omega)]
    rw [e, List.getElem?_drop]
theorem nxt_none (hl : x.length < 1000) (h : nxt x z = none) : z = x.length - 1 ∧ itemL x (-1) = some 92 := by
  unfold nxt at h
  split at h
  · cases h
  · rename_i c hc
    split at h
    · rename_i h92
      split at h
      · rename_i he
        by_cases h1 : z < -x.length
        · rw [at_low h1] at hc; cases hc
        · obtain ⟨q, hq⟩ := Int.eq_ofNat_of_zero_le (show 0 ≤ z + x.length by clear hl; omega)
          rw [at_in hl hq] at hc
          rw [at_in hl (j := q + 1) (by rw [Int.natCast_add, ← hq, Int.add_right_comm]; rfl)] at he
          have a1 := (List.getElem?_eq_some_iff.mp hc).1
          have a2 := List.getElem?_eq_none_iff.mp he
          rw [List.length_append] at a1 a2
          have a3 : q + 1 = x.length + x.length := Nat.le_antisymm a1 a2
          obtain ⟨L, hL⟩ : ∃ L, x.length = L + 1 := ⟨x.length - 1, by clear hl h1 hq hc he a1 a2; omega⟩
          have a4 : q = L + x.length := by clear hl h1 hq hc he a1 a2; omega
          have a5 : z = L := by clear hl h1 hc he a1 a2 a3; omega
          refine ⟨by rw [a5, hL]; exact (Int.add_sub_cancel _ 1).symm, ?_⟩
          rw [a4, List.getElem?_append_right (Nat.le_add_left _ _), Nat.add_sub_cancel, h92] at hc
          unfold itemL
          rw [if_pos (by decide), hL, if_neg (by clear hl h1 hc he a1 a2 a3 a4 a5 hq; omega), pred_nat]
          exact hc
      · cases h
    · cases h
theorem sli_from {α : Type} (l : List α) (p : Int) : sliL l (some p) none = l.drop (clipAt l.length p) := by
  unfold sliL
  show (l.drop (clipAt l.length p)).take (l.length - clipAt l.length p) = _
  rw [List.take_of_length_le (by rw [List.length_drop]; exact Nat.le_refl _)]
theorem clip_in {n : Nat} {p : Int} (h : 0 ≤ p) (h2 : p ≤ n) : clipAt n p = p.toNat := by
  obtain ⟨k, rfl⟩ := Int.eq_ofNat_of_zero_le h
  rw [clip_upto]
  exact upto_in n k (Int.ofNat_le.mp h2)
theorem clip_neg {n : Nat} {p : Int} (h : p < 0) (h2 : -n ≤ p) : clipAt n p = (p + n).toNat := by
  rw [clip_upto]
  unfold upto
  rw [if_pos h]
  obtain ⟨k, e⟩ := Int.eq_ofNat_of_zero_le (show 0 ≤ p + n by omega)
  rw [e, Int.max_eq_right (Int.natCast_nonneg k)]
  exact Nat.min_eq_left (show k ≤ n by omega)
theorem st_len : ∀ (L : List Nat) (i : Nat), (st L i).length ≤ L.length := by
  intro L
  induction L using by_signs with
  | h0 => intro i; exact Nat.le_refl _
  | h1 c => intro i; exact Nat.le_refl _
  | h2 e r ih => intro i; unfold st; rw [if_pos rfl, List.length_cons, List.length_cons, List.length_cons]; have := ih (i + 2); omega
  | h3 c e r hc ih => intro i; unfold st; rw [if_neg hc, List.length_cons, List.length_cons]; have := ih (i + 1); omega
end
section
variable {o : List (List PV)} {i : Nat} {d : Md} {z : Int} {x : List Nat} {t : Bool} {nx : Option (List Nat)}
theorem ss_i {Γ : Nat → Option Fn} {n : Nat} {c : D} {r : List D} {σ : Sg} {K : Kt Fl} (h : (W Γ n).S d c σ (bk K fun f σ => match f with
    | .next => (W Γ n).Ss d r σ K
    | f => K (.ok f) σ)) : (W Γ (n + 1)).Ss d (c :: r) σ K := h
theorem for_cons {Γ : Nat → Option Fn} {n j : Nat} {v : PV} {r : List PV} {b : List D} {σ : Sg} {K : Kt Fl} (h1 : asgOk σ j = true) (h2 : (W Γ n).Ss d b (σ.put j v) (bk K fun f σ => match f with
    | .next => (W Γ n).For d j r b σ K
    | .brk => K (.ok .next) σ
    | .ret v => K (.ok (.ret v)) σ)) : (W Γ (n + 1)).For d j (v :: r) b σ K := obD_i h1 h2
/-- the text -/
theorem text_len (zs : List Int) : (textL 16 zs).length = min 16 zs.length + 1 := by
  unfold textL
  rw [List.length_append, List.length_map, List.length_take]
  rfl
theorem text_low (zs : List Int) : ∀ c ∈ textL 16 zs, c < 256 := by
  intro c hc
  unfold textL at hc
  have h1 : ∀ (l : List Nat) (j : Nat), (∀ c ∈ l, c < 256) → l.getD j 0 < 256 := fun l j h => by
    rw [List.getD_eq_getElem?_getD]
    cases e : l[j]? with
    | none => exact (by decide : 0 < 256)
    | some c => exact h c (List.mem_of_getElem? e)
  rcases List.mem_append.mp hc with h | h
  · obtain ⟨n, _, rfl⟩ := List.mem_map.mp h
    exact h1 _ _ (by decide)
  · rw [List.mem_singleton.mp h]
    exact h1 _ _ (by decide)
theorem item_last {α : Type} (l : List α) (a : α) : itemL (l ++ [a]) (-1) = some a := by
  unfold itemL
  rw [if_pos (by decide), List.length_append]
  show (if (-1 : Int) + ((l.length + 1 : Nat) : Int) < 0 then _ else (l ++ [a])[(-1 + ((l.length + 1 : Nat) : Int)).toNat]?) = _
  rw [if_neg (by omega), show (-1 + ((l.length + 1 : Nat) : Int)).toNat = l.length from by omega, List.getElem?_append_right (Nat.le_refl _), Nat.sub_self]
  rfl
theorem text_last (zs : List Int) : itemL (textL 16 zs) (-1) = some (L3 zs.sum) := item_last _ _
theorem text_start (zs : List Int) : nxt (textL 16 zs) 0 ≠ none := by
  intro h
  have hl := text_len zs
  have h2 := nxt_none (by omega) h
  cases zs with
  | nil => have h3 := h2.2; rw [text_last] at h3; cases h3
  | cons a r => have h3 := h2.1; rw [hl, List.length_cons] at h3; omega
theorem init_k {K : FK} {k : Nat} {c : Bool} (hk : k < 70) (hf : o[i]? = some []) (hl : x.length < 1000) (hne : x ≠ []) (hn : nxt x 0 ≠ none) (kk : ∀ nx, nxt x 0 = some nx → K (.ok .none) (lset o i (tokA t x 0 nx))) : ∀ m, 100 ≤ m → (W Γ7 m).F ⟨k, false, true, c⟩ 58 [.obj i, pvT t x] o K := by
  refine init_c hk hf hl hne ?_ hn
  cases e : nxt x 0 with
  | none => exact trivial
  | some r =>
    cases r with
    | none => exact tok0 ▸ kk _ e
    | some s => have := kk _ e; unfold tokA at this; rw [Int.zero_add] at this; exact this
end
section
variable {o : List (List PV)} {i : Nat} {d : Md} {z : Int} {x : List Nat} {t : Bool} {nx : Option (List Nat)} {K : FK}
/-- the first sign -/
noncomputable def sgn : List Nat → Option (List Nat)
  | [] => none
  | [c] => if c = 92 then none else some [c]
  | c :: e :: _ => if c = 92 then some [92, e] else some [c]
inductive Sgn (L s : List Nat) : Prop
  | mk : ∀ r, sgn L = some s → L = s ++ r → 1 ≤ s.length → s.length ≤ 2 → s ≠ [92] → Sgn L s
theorem sgn_cases : ∀ L : List Nat, (L = [] ∧ sgn L = none) ∨ (L = [92] ∧ sgn L = none) ∨ ∃ s, Sgn L s
  | [] => .inl ⟨rfl, rfl⟩
  | [c] => by
    by_cases h : c = 92
    · exact .inr (.inl ⟨by rw [h], if_pos h⟩)
    · exact .inr (.inr ⟨[c], [], if_neg h, rfl, Nat.le_refl _, Nat.le_succ _, fun z => h (List.cons.inj z).1⟩)
  | c :: e :: r => by
    by_cases h : c = 92
    · exact .inr (.inr ⟨[92, e], r, if_pos h, by rw [h]; rfl, Nat.le_succ _, Nat.le_refl _, fun z => nomatch (List.cons.inj z).2⟩)
    · exact .inr (.inr ⟨[c], e :: r, if_neg h, rfl, Nat.le_refl _, Nat.le_succ _, fun z => h (List.cons.inj z).1⟩)
/-- the sign at a place -/
theorem nxt_at {p : Int} {L : List Nat} (V : View x p L) (j : Nat) (hj : j ≤ L.length) : (nxt x (p + j) = some none ∧ L.drop j = []) ∨ (nxt x (p + j) = none ∧ L.drop j = [92]) ∨ ∃ s, nxt x (p + j) = some (some s) ∧ Sgn (L.drop j) s := by
  rw [nxt_view V j hj]
  generalize L.drop j = M
  match M with
  | [] => exact .inl ⟨rfl, rfl⟩
  | [c] =>
    by_cases h : c = 92
    · exact .inr (.inl ⟨if_pos h, by rw [h]⟩)
    · exact .inr (.inr ⟨[c], if_neg h, [], if_neg h, rfl, Nat.le_refl _, Nat.le_succ _, fun z => h (List.cons.inj z).1⟩)
  | c :: e :: r =>
    by_cases h : c = 92
    · exact .inr (.inr ⟨[92, e], if_pos h, r, if_pos h, by rw [h]; rfl, Nat.le_succ _, Nat.le_refl _, fun z => nomatch (List.cons.inj z).2⟩)
    · exact .inr (.inr ⟨[c], if_neg h, e :: r, if_neg h, rfl, Nat.le_refl _, Nat.le_succ _, fun z => h (List.cons.inj z).1⟩)
/-- how far the signs of a set go -/
noncomputable def frontN (cs : List PV) : Nat → List Nat → Nat
  | 0, _ => 0
  | n + 1, L => match sgn L with
    | none => 0
    | some s => cond (cs.any (keq (.str s))) (s.length + frontN cs n (L.drop s.length)) 0
theorem frontN_le (cs : List PV) : ∀ (n : Nat) (L : List Nat), frontN cs n L ≤ L.length
  | 0, _ => Nat.zero_le _
  | n + 1, L => by
    unfold frontN
    rcases sgn_cases L with ⟨_, e⟩ | ⟨_, e⟩ | ⟨s, r, e, h, _⟩
    · rw [e]; exact Nat.zero_le _
    · rw [e]; exact Nat.zero_le _
    · rw [e]
      dsimp only
      cases cs.any (keq (.str s)) with
      | false => exact Nat.zero_le _
      | true =>
        have := frontN_le cs n (L.drop s.length)
        rw [List.length_drop] at this
        have h2 : s.length ≤ L.length := by rw [h, List.length_append]; exact Nat.le_add_right _ _
        show s.length + _ ≤ _
        omega
theorem st_sgn {L s : List Nat} (S : Sgn L s) (i : Nat) : st L i = i :: st (L.drop s.length) (i + s.length) := by
  obtain ⟨r, h1, h2, _, _, _⟩ := S
  match L, h1 with
  | [c], h1 =>
    by_cases h : c = 92
    · cases (show none = some s from (if_pos h).symm.trans h1)
    · cases (show some [c] = some s from (if_neg h).symm.trans h1); rfl
  | c :: e :: q, h1 =>
    by_cases h : c = 92
    · cases (show some [92, e] = some s from (if_pos h).symm.trans h1)
      exact if_pos h
    · cases (show some [c] = some s from (if_neg h).symm.trans h1)
      exact if_neg h
theorem item_drop {α β : Type} {l r : List α} {a : α} (f : α → β) {j : Nat} (h : l.drop j = a :: r) : itemL (l.map f) (j : Int) = some (f a) := by
  have e : l[j]? = some a := by
    have := List.getElem?_drop (xs := l) (i := j) (j := 0)
    rw [h] at this
    exact this.symm
  unfold itemL
  rw [if_neg (Int.not_lt.mpr (Int.natCast_nonneg j)), Int.toNat_natCast, List.getElem?_map, e]
  rfl
end
section
variable {o : List (List PV)} {i : Nat} {d : Md} {z : Int} {x : List Nat} {t : Bool} {nx : Option (List Nat)}
noncomputable def w161 : C := match c161 with
  | [_, _, .whl c _, _] => c
  | _ => .k .none
noncomputable def v161 : List D := match c161 with
  | [_, _, .whl _ b, _] => b
  | _ => []
/-- the places of the signs, and the end -/
noncomputable def cutsN (L : List Nat) : List Nat := st L 0 ++ [L.length]
noncomputable def iP (n : Nat) : PV := .int n
theorem cuts_len (L : List Nat) : (cutsN L).length ≤ L.length + 1 := by
  unfold cutsN
  rw [List.length_append]
  exact Nat.succ_le_succ (st_len L 0)
noncomputable def sF (L : List Nat) (n : Int) (cs : List PV) (j : Int) (o : List (List PV)) : Sg := ⟨[some (.str L), some (.int n), some (.set cs), some (.lst ((cutsN L).map iP)), some (.int j)], none, none, o⟩
theorem sli_pre {L s r : List Nat} {q : Nat} (e : L.drop q = s ++ r) (hq : q ≤ L.length) : sliL L (some (q : Int)) (some ((q + s.length : Nat) : Int)) = s := by
  have hl := congrArg List.length e
  rw [List.length_drop, List.length_append] at hl
  rw [sli_at L q s.length (by omega), e, List.take_append_of_le_length (Nat.le_refl _), List.take_length]
/-- one turn's question -/
theorem front_t {kd n j q q' m : Nat} {b : Bool} {cs : List PV} {L s : List Nat} {M : List Nat} {K : Kt Bool} (hL : L.length ≤ 80) (hj : j < n) (e : (cutsN L).drop j = q :: q' :: M) (hs : sliL L (some (q : Int)) (some (q' : Int)) = s) (hm : 40 ≤ m)
    (k : K (.ok (cs.any (keq (.str s)))) (sF L n cs j o)) : (W Γ7 m).T ⟨kd, false, b, true⟩ w161 (sF L n cs j o) K := by
  obtain ⟨f, rfl⟩ := le_ex hm
  have hc := cuts_len L
  have c1 : ((cutsN L).map iP).length ≤ 16384 := by rw [List.length_map]; omega
  have s16 : S16 = 16777216 := rfl
  have c2 : ((cutsN L).map iP).length ≤ S16 := by omega
  have l2 : L.length ≤ S16 := by omega
  have hlen := congrArg List.length e
  rw [List.length_drop, List.length_cons, List.length_cons] at hlen
  have hlt : (j : Int) < (if ((((cutsN L).map iP).length : Int) - 1) < n then (((cutsN L).map iP).length : Int) - 1 else n) := by
    rw [List.length_map]
    split <;> omega
  have e1 : itemL ((cutsN L).map iP) (j : Int) = some (.int q) := item_drop iP e
  have e2 : itemL ((cutsN L).map iP) ((j : Int) + 1) = some (.int q') := item_drop (j := j + 1) (r := M) iP (by rw [← List.drop_drop, e]; rfl)
  unfold sF at k ⊢
  ktr_unf
  k_search (decide_eq_true hlt)
  k_search e1
  k_search e2
  conv => whnf
  rw [hs]
  cases h : cs.any (keq (.str s)) with
  | true => rw [h] at k; exact k
  | false => rw [h] at k; exact k
theorem front_e {kd n j m : Nat} {b : Bool} {cs : List PV} {L : List Nat} {K : Kt Bool} (hL : L.length ≤ 80) (hj : n ≤ j ∨ (cutsN L).length ≤ j + 1) (hm : 40 ≤ m)
    (k : K (.ok false) (sF L n cs j o)) : (W Γ7 m).T ⟨kd, false, b, true⟩ w161 (sF L n cs j o) K := by
  obtain ⟨f, rfl⟩ := le_ex hm
  have hc := cuts_len L
  have c1 : ((cutsN L).map iP).length ≤ 16384 := by rw [List.length_map]; omega
  have hlt : ¬ (j : Int) < (if ((((cutsN L).map iP).length : Int) - 1) < n then (((cutsN L).map iP).length : Int) - 1 else n) := by
    rw [List.length_map]
    split <;> omega
  unfold sF at k ⊢
  ktr_unf
  k_search (decide_eq_false hlt)
  exact k
theorem wh_i {Γ : Nat → Option Fn} {n : Nat} {c : C} {b : List D} {σ : Sg} {K : Kt Fl} (h : (W Γ n).T d c σ (bk K fun t σ => cond t ((W Γ n).Ss d b σ (bk K fun f σ => match f with
    | .next => (W Γ n).Wh d c b σ K
    | .brk => K (.ok .next) σ
    | .ret v => K (.ok (.ret v)) σ)) (K (.ok .next) σ))) : (W Γ (n + 1)).Wh d c b σ K := h
theorem turn161 {kd n j m : Nat} {b : Bool} {cs : List PV} {L : List Nat} {K : Kt Fl} (hm : 40 ≤ m) (k : (W Γ7 m).Wh ⟨kd, false, b, true⟩ w161 v161 (sF L n cs (j + 1) o) K) : (W Γ7 m).Ss ⟨kd, false, b, true⟩ v161 (sF L n cs j o) (bk K fun f σ => match f with
    | .next => (W Γ7 m).Wh ⟨kd, false, b, true⟩ w161 v161 σ K
    | .brk => K (.ok .next) σ
    | .ret v => K (.ok (.ret v)) σ) := by
  obtain ⟨f, rfl⟩ := le_ex hm
  unfold sF at k ⊢
  ktr_unf
  conv => whnf
  exact k
theorem while161 {kd n : Nat} {b : Bool} {cs : List PV} {L : List Nat} (hL : L.length ≤ 80) (hl : cs.any (keq (.str [92])) = false) {K : Kt Fl} : ∀ (r j q m : Nat), j + r = n → (cutsN L).drop j = st (L.drop q) q ++ [L.length] → q ≤ L.length → 60 + r ≤ m →
    (∀ (j' : Nat) (M : List Nat), (cutsN L).drop j' = (q + frontN cs r (L.drop q)) :: M → K (.ok .next) (sF L n cs j' o)) → (W Γ7 m).Wh ⟨kd, false, b, true⟩ w161 v161 (sF L n cs j o) K := by
  intro r
  induction r with
  | zero =>
    intro j q m hn e hq hm kk
    obtain ⟨f, rfl⟩ := le_ex2 (c := 60) hm rfl
    refine wh_i (front_e hL (.inl (Nat.le_of_eq hn.symm)) (le_fuel rfl) ?_)
    obtain ⟨M, h⟩ := st_head (L.drop q) q L.length (by rw [List.length_drop]; omega)
    exact kk j M (e.trans h)
  | succ r ih =>
    intro j q m hn e hq hm kk
    obtain ⟨f, rfl⟩ := le_ex2 (c := 60) hm rfl
    have hj : j < n := by omega
    rcases sgn_cases (L.drop q) with ⟨e1, e2⟩ | ⟨e1, e2⟩ | ⟨s, S⟩
    · refine wh_i (front_e hL (.inr ?_) (le_fuel rfl) (kk j [] ?_))
      · rw [e1] at e
        have := congrArg List.length e
        rw [List.length_drop] at this
        have h3 : (cutsN L).length - j = 1 := this
        omega
      · rw [e, e1]
        have h3 := congrArg List.length e1
        rw [List.length_drop] at h3
        have h4 : L.length - q = 0 := h3
        have h5 : q = L.length := by omega
        show [L.length] = [q + 0]
        rw [h5, Nat.add_zero]
    · have h3 := congrArg List.length e1
      rw [List.length_drop] at h3
      have h4 : L.length - q = 1 := h3
      have h5 : q + 1 = L.length := by omega
      have e' : (cutsN L).drop j = q :: L.length :: [] := by rw [e, e1]; rfl
      refine wh_i (front_t hL hj e' (s := [92]) ?_ (le_fuel rfl) ?_)
      · rw [← h5]; exact sli_pre (s := [92]) (r := []) (by rw [e1]; rfl) hq
      · rw [hl]
        refine kk j [L.length] ?_
        rw [e', e1]
        rfl
    · have S' := S
      obtain ⟨t, h1, h2, h3, h4, _⟩ := S'
      have hd : L.drop (q + s.length) = t := by rw [← List.drop_drop, h2, List.drop_append_of_le_length (Nat.le_refl _), List.drop_length]; rfl
      have hq' : q + s.length ≤ L.length := by
        have := congrArg List.length h2
        rw [List.length_drop, List.length_append] at this
        omega
      have e0 : (cutsN L).drop j = q :: (st (L.drop (q + s.length)) (q + s.length) ++ [L.length]) := by rw [e, st_sgn S q, List.drop_drop]; rfl
      obtain ⟨M, h⟩ := st_head (L.drop (q + s.length)) (q + s.length) L.length (by rw [List.length_drop]; omega)
      refine wh_i (front_t hL hj (e0.trans (congrArg (q :: ·) h)) (sli_pre h2 hq) (le_fuel rfl) ?_)
      cases hs : cs.any (keq (.str s)) with
      | false =>
        refine kk j ((q + s.length) :: M) ?_
        rw [e0, h]
        unfold frontN
        rw [h1]
        dsimp only
        rw [hs]
        rfl
      | true =>
        have e3 : (cutsN L).drop (j + 1) = st (L.drop (q + s.length)) (q + s.length) ++ [L.length] := by rw [← List.drop_drop, e0]; rfl
        refine turn161 (le_fuel rfl) (ih (j + 1) (q + s.length) (f + 59) (by omega) e3 hq' (le_pred hm) fun j' M' e4 => kk j' M' ?_)
        rw [e4]
        congr 1
        have e5 : frontN cs (r + 1) (L.drop q) = s.length + frontN cs r ((L.drop q).drop s.length) := by
          show (match sgn (L.drop q) with
            | none => 0
            | some s => cond (cs.any (keq (.str s))) (s.length + frontN cs r ((L.drop q).drop s.length)) 0) = _
          rw [h1]
          dsimp only
          rw [hs]
          rfl
        rw [e5, List.drop_drop, Nat.add_assoc]
end
section
variable {o : List (List PV)} {i : Nat} {d : Md} {z : Int} {x : List Nat} {t : Bool} {nx : Option (List Nat)}
theorem front_c {K : FK} {k n : Nat} {b c : Bool} {cs : List PV} {L : List Nat} (hk : k < 60) (hL : L.length ≤ 80) (hn : n ≤ 100) (hl : cs.any (keq (.str [92])) = false) (kk : K (.ok (.str (L.take (frontN cs n L)))) o) : ∀ m, 2500 ≤ m → (W Γ7 m).F ⟨k, false, b, c⟩ 161 [.str L, .int n, .set cs] o K := by
  refine fuel 2500 fun f => ?_
  have s16 : S16 = 16777216 := rfl
  have p60 : (2 : Nat) ^ 60 = 1152921504606846976 := by decide
  have hc := cuts_len L
  have l60 : L.length < 2 ^ 60 := by omega
  have l16 : L.length ≤ S16 := by omega
  have c2 : ((cutsN L).map iP).length ≤ S16 := by rw [List.length_map]; omega
  have e : ((startsN L).map fun (n : Nat) => PV.int n) ++ [PV.int L.length] = (cutsN L).map iP := by rw [starts_st0]; unfold cutsN; rw [List.map_append]; rfl
  ktr_unf
  refine call_i (starts_c (by kt_len) (by omega) ?_ rfl _ (by exact le_fuel rfl))
  ktr_unf
  refine And.intro (by have := congrArg List.length e; rw [List.length_append] at this; exact this ▸ c2) ?_
  rw [e]
  ktr_unf
  conv => whnf
  unfold WLoop
  refine while161 (n := n) (cs := cs) (L := L) hL hl n 0 0 _ (Nat.zero_add n) rfl (Nat.zero_le _) (Nat.le_trans (Nat.add_le_add_left hn 60) (le_fuel rfl)) fun j' M h => ?_
  unfold sF
  ktr_unf
  k_search (item_drop iP h)
  conv => whnf
  rw [show sliL L none (some ((0 + frontN cs n (L.drop 0) : Nat) : Int)) = L.take (frontN cs n L) from by rw [sli_take, Nat.zero_add]; rfl]
  exact kk
noncomputable def b86 : List D := match c86 with
  | [_, .for_ _ _ b, _] => b
  | _ => []
noncomputable def sW (i : Nat) (nP : PV) (cs : List PV) (res : List Nat) (v4 v5 : Option PV) (o : List (List PV)) : Sg := ⟨[some (.obj i), some nP, some (.set cs), some (.str res), v4, v5], none, none, o⟩
theorem loop86 {k : Nat} {cs : List PV} {nP : PV} {p : Int} {L : List Nat} (hk : k < 70) (hl : x.length < 1000) (hL : L.length ≤ 80) (V : View x p L) (hcs : cs.any (keq .none) = false) {K : Kt Fl} : ∀ (l : List Int) (m q : Nat) {o nx v4 v5}, 90 + l.length ≤ m → o[i]? = some (tokA t x (p + q) nx) → nxt x (p + q) = some nx → q ≤ L.length →
    (∀ nx' v4 v5, nxt x (p + (q + frontN cs l.length (L.drop q) : Nat)) = some nx' → K (.ok .next) (sW i nP cs (L.take (q + frontN cs l.length (L.drop q))) v4 v5 (lset o i (tokA t x (p + (q + frontN cs l.length (L.drop q) : Nat)) nx')))) →
    (∀ (q' : Nat) (s : List Nat) v4 v5, L.drop q' = s ++ [92] → nxt x (p + q') = some (some s) → K (.err (lackX t x)) (sW i nP cs (L.take (q' + s.length)) v4 v5 (lset o i (tokA t x (p + q') (some s))))) →
    (W Γ7 m).For ⟨k, false, true, true⟩ 4 (l.map .int) b86 (sW i nP cs (L.take q) v4 v5 o) K := by
  intro l
  induction l with
  | nil =>
    intro m q o nx v4 v5 hm ho hx hq ke kn
    obtain ⟨n, rfl⟩ : ∃ n, m = n + 90 := le_ex2 hm rfl
    have := ke nx v4 v5 hx
    rw [show q + frontN cs ([] : List Int).length (L.drop q) = q from rfl, lset_eq ho] at this
    exact this
  | cons a r ih =>
    intro m q o nx v4 v5 hm ho hx hq ke kn
    rw [List.length_cons] at hm ke
    obtain ⟨n, rfl⟩ : ∃ n, m = n + 90 := le_ex2 hm rfl
    have s16 : S16 = 16777216 := rfl
    have hke : isKey (nxP nx) = true := by cases nx <;> rfl
    have stop : frontN cs (r.length + 1) (L.drop q) = 0 → cs.any (keq (nxP nx)) = false → (W Γ7 (n + 90)).For ⟨k, false, true, true⟩ 4 ((a :: r).map .int) b86 (sW i nP cs (L.take q) v4 v5 o) K := fun e1 e2 => by
      have := ke nx (some (.int a)) (some (nxP nx)) (by rw [e1]; exact hx)
      rw [e1, show q + 0 = q from rfl, lset_eq ho] at this
      unfold sW at this ⊢
      ktr_unf
      k_search ho
      k_search (show (!cs.any (keq (nxP nx))) = true by rw [e2]; rfl)
      exact this
    rcases nxt_at V q hq with ⟨e1, e2⟩ | ⟨e1, e2⟩ | ⟨s, e1, S⟩
    · cases (show (some none : Option (Option (List Nat))) = some nx from e1.symm.trans hx)
      exact stop (by rw [e2]; rfl) hcs
    · exact nomatch e1.symm.trans hx
    · cases (show some (some s) = some nx from e1.symm.trans hx)
      have S' := S
      obtain ⟨u, h1, h2, h3, h4, h5⟩ := S'
      have hf : ∀ b, cs.any (keq (.str s)) = b → frontN cs (r.length + 1) (L.drop q) = cond b (s.length + frontN cs r.length ((L.drop q).drop s.length)) 0 := fun b hb => by
        show (match sgn (L.drop q) with
          | none => 0
          | some s => cond (cs.any (keq (.str s))) (s.length + frontN cs r.length ((L.drop q).drop s.length)) 0) = _
        rw [h1]
        dsimp only
        rw [hb]
      cases e : cs.any (keq (.str s)) with
      | false => exact stop (hf _ e) e
      | true =>
        have hlen := congrArg List.length h2
        rw [List.length_drop, List.length_append] at hlen
        have hq' : q + s.length ≤ L.length := by omega
        have ht : L.take q ++ s = L.take (q + s.length) := by
          rw [List.take_add, h2, List.take_append_of_le_length (Nat.le_refl _), List.take_length]
        have hd : L.drop (q + s.length) = u := by rw [← List.drop_drop, h2, List.drop_append_of_le_length (Nat.le_refl _), List.drop_length]; rfl
        have hz : (L.take q).length + s.length ≤ S16 := by rw [List.length_take]; omega
        have hp : p + (q : Int) + (nxL (some s) : Int) = p + ((q + s.length : Nat) : Int) := by show p + q + (s.length : Int) = _; omega
        have hf' := hf _ e
        unfold sW at ke kn ih ⊢
        ktr_unf
        k_search ho
        k_search (show (!cs.any (keq (nxP (some s)))) = false by rw [show nxP (some s) = .str s from rfl, e]; rfl)
        conv => whnf
        rw [ht]
        refine call_i (next_k (by kt_len) ho hl (fun e => ?_) (fun ny e => ?_) _ (by exact le_fuel rfl))
        · ktr_unf
          rw [hp] at e
          rcases nxt_at V (q + s.length) hq' with ⟨g1, _⟩ | ⟨_, g2⟩ | ⟨_, g1, _⟩
          · exact nomatch g1.symm.trans e
          · have := kn q s (some (.int a)) (some (.str s)) (by rw [h2, ← hd, g2]) hx
            rw [lset_eq ho] at this
            exact this
          · exact nomatch g1.symm.trans e
        · ktr_unf
          rw [hp] at e ⊢
          conv => whnf
          have hq2 : q + frontN cs (r.length + 1) (L.drop q) = q + s.length + frontN cs r.length (L.drop (q + s.length)) := by rw [hf', ← List.drop_drop, Nat.add_assoc]; rfl
          rw [hq2] at ke
          refine ih (n + 89) (q + s.length) (le_pred hm) (lset_at ho) e hq' (fun nx' v4 v5 h => ?_) fun q' s' v4 v5 g1 g2 => ?_
          · rw [lset_lset']; exact ke nx' v4 v5 h
          · rw [lset_lset']; exact kn q' s' v4 v5 g1 g2
/-- getwhile gives the front -/
theorem getwhile_x {K : FK} {k : Nat} {c : Bool} {cs : List PV} {j : Nat} {p : Int} {L : List Nat} (hk : k < 60) (hl : x.length < 1000) (hL : L.length ≤ 80) (V : View x p L) (hcs : cs.any (keq .none) = false) (hj : j ≤ 100) (ho : o[i]? = some (tokA t x p nx)) (hx : nxt x p = some nx)
    (kn : ∀ (q : Nat) (s : List Nat), L.drop q = s ++ [92] → nxt x (p + q) = some (some s) → K (.err (lackX t x)) (lset o i (tokA t x (p + q) (some s))))
    (kk : ∀ nx', nxt x (p + (frontN cs j L : Nat)) = some nx' → K (.ok (.str (L.take (frontN cs j L)))) (lset o i (tokA t x (p + (frontN cs j L : Nat)) nx'))) : ∀ m, 300 ≤ m → (W Γ7 m).F ⟨k, false, true, c⟩ 86 [.obj i, .int j, .set cs] o K := by
  refine fuel 300 fun n => ?_
  have p20 : (2 : Nat) ^ 20 = 1048576 := by decide
  ktr_unf
  conv => whnf
  unfold Loop
  have e : ((List.range (j : Int).toNat).map fun (k : Nat) => PV.int (k : Int)) = ((List.range j).map Int.ofNat).map .int := by rw [List.map_map]; rfl
  have el : ((List.range j).map Int.ofNat).length = j := by rw [List.length_map, List.length_range]
  have h0 : p + ((0 : Nat) : Int) = p := Int.add_zero p
  rw [e]
  refine loop86 (p := p) (L := L) (nP := .int j) (by dsimp only; omega) hl hL V hcs _ _ 0 (by rw [el]; omega) (by rw [h0]; exact ho) (by rw [h0]; exact hx) (Nat.zero_le _) (fun nx' v4 v5 h => ?_) fun q s v4 v5 g1 g2 => ?_
  · unfold sW
    rw [el, Nat.zero_add] at h ⊢
    ktr_unf
    exact kk nx' h
  · unfold sW
    ktr_unf
    exact kn q s g1 g2
end
section
variable {o : List (List PV)} {i : Nat} {d : Md} {z : Int} {x : List Nat} {t : Bool} {nx : Option (List Nat)}
/-- the words of an error, by the pattern's kind -/
noncomputable def WordsOf (t : Bool) (msg y : List Nat) : Prop := match t with | true => y = msg | false => encL msg = some y
theorem error_c {K : FK} {k : Nat} {c : Bool} {off q : Int} {msg y : List Nat} (hk : k < 80) (hf : o[i]? = some (tokF t x z nx)) (hx : NxOk nx) (e : z - nxL nx - off = q) (hy : WordsOf t msg y) (hm : y.length ≤ 1000) (hp : q.natAbs < 10 ^ 9) (hl : x.length < 1000)
    (kk : K (.ok (.err (errF t x y q) (errW x y q))) o) : ∀ m, 90 ≤ m → (W Γ7 m).F ⟨k, false, true, c⟩ 123 [.obj i, .str msg, .int off] o K := by
  refine fuel 90 fun n => ?_
  have s16 : S16 = 16777216 := rfl
  cases t
  · have hy : encL msg = some y := hy
    have h128 := encL_lt hy
    ktr_unf
    k_search hf
    k_search hy
    k_search hf
    refine call_i (tell_c (by kt_len) hf hx ?_ _ (by exact le_fuel rfl))
    ktr_unf
    conv => whnf
    rw [e]
    refine call_i (perr_c (t := false) (by kt_len) hm hp hl ?_ _ (by exact le_fuel rfl))
    ktr_unf
    exact kk
  · cases (show y = msg from hy)
    ktr_unf
    k_search hf
    k_search hf
    refine call_i (tell_c (by kt_len) hf hx ?_ _ (by exact le_fuel rfl))
    ktr_unf
    conv => whnf
    rw [e]
    refine call_i (perr_c (t := true) (by kt_len) hm hp hl ?_ _ (by exact le_fuel rfl))
    ktr_unf
    exact kk
noncomputable def here : List Nat := [104, 101, 114, 101]
theorem error_h {K : FK} {k : Nat} {c : Bool} {p : Int} (hk : k < 80) (hf : o[i]? = some (tokA t x p nx)) (hx : nxt x p = some nx) (hp : p.natAbs < 10 ^ 9) (hl : x.length < 1000)
    (kk : ∀ w, K (.ok (.err (errF t x here p) w)) o) : ∀ m, 90 ≤ m → (W Γ7 m).F ⟨k, false, true, c⟩ 123 [.obj i, .str here] o K := by
  refine fuel 90 fun n => ?_
  have := error_c (c := c) (off := 0) (msg := here) (y := here) hk hf (nxt_ok hx) (show p + nxL nx - nxL nx - 0 = p by omega) (by cases t <;> rfl) (by decide) hp hl (kk _) (n + 90) (le_fuel rfl)
  exact ⟨this.1, this.2⟩
end
section
variable {o : List (List PV)} {i : Nat} {d : Md} {z : Int} {x : List Nat} {t : Bool} {nx : Option (List Nat)}
noncomputable def tstG : C := match c0 with
  | [_, _, _, .asgc _ (.comp _ (some t) _ _), _, _, _, _, _, _, _] => t
  | _ => .k .none
noncomputable def goalB (x : List Nat) (k : Int) : Bool := decide (k < 0) || !leq (sliL x (some k) none) [92]
theorem test_g {n kd : Nat} {k : Int} {K : Kt Bool} (hl : x.length ≤ S16) (h : K (.ok (goalB x k)) ⟨[some (.int k), some (.str x)], none, none, o⟩) : (W Γ7 (n + 30)).T ⟨kd, false, true, false⟩ tstG ⟨[some (.int k), some (.str x)], none, none, o⟩ K := by
  unfold goalB at h
  conv => whnf
  refine cond_d (fun e => ?_) fun e => ?_
  · rw [e] at h; exact h
  · rw [e] at h
    ktr_unf
    k_search (peq_str (sliL x (some k) none) [92])
    conv => whnf
    cases e2 : leq (sliL x (some k) none) [92] with
    | true => rw [e2] at h; exact h
    | false => rw [e2] at h; exact h
theorem one_i {α : Type} {cv : List (Option PV)} {f : α → Sg → Prop} {v : α} {σ : Sg} (h1 : σ.acc = none) (h2 : σ.self = none) (h3 : σ.vars.tail = cv) (h : f v σ) : oneK cv f (.ok v) σ := by
  refine obD_i h1 (obD_i h2 ?_)
  cases cv with
  | nil => exact h
  | cons _ _ => exact ⟨h3, h⟩
theorem comp_g {n kd : Nat} (hl : x.length ≤ S16) {f : List PV → Sg → Prop} : ∀ (l acc : List Int) {v0 : Option PV}, (∀ v, f ((acc ++ l.filter (goalB x)).map .int) ⟨[v, some (.str x)], none, none, o⟩) →
    compK ((W Γ7 (n + 30)).E ⟨kd, false, true, false⟩) ((W Γ7 (n + 30)).T ⟨kd, false, true, false⟩) (.v 0) (some tstG) [some (.str x)] (l.map .int) (acc.map .int) ⟨[v0, some (.str x)], none, none, o⟩ f
  | [], acc, v0, h => by have := h v0; rwa [List.filter_nil, List.append_nil] at this
  | k :: l, acc, v0, h => by
    refine test_g (k := k) hl (one_i rfl rfl rfl ?_)
    cases e : goalB x k with
    | true =>
      conv => whnf
      refine And.intro rfl ?_
      have := comp_g (n := n) (kd := kd) hl (f := f) l (acc ++ [k]) (v0 := some (.int k)) fun v => by
        have := h v
        rw [List.filter_cons, if_pos e] at this
        rw [List.append_assoc]
        exact this
      rw [List.map_append] at this
      exact this
    | false =>
      refine (comp_g (n := n) (kd := kd) hl (f := f) l acc (v0 := some (.int k)) fun v => ?_ : _)
      have := h v
      rw [List.filter_cons, if_neg (by rw [e]; exact Bool.false_ne_true)] at this
      exact this
/-- the places that may be sought -/
noncomputable def goalsL (x : List Nat) : List Int := ((List.range ((x.length : Int) + 1 - -(x.length : Int)).toNat).map fun (k : Nat) => -(x.length : Int) + (k : Int)).filter (goalB x)
theorem rng_ints (i j : Int) : rngL i j = ((List.range (j - i).toNat).map fun (k : Nat) => i + (k : Int)).map .int := by unfold rngL; rw [List.map_map]; rfl
theorem goal_in {k : Int} (h : k ∈ goalsL x) : -(x.length : Int) ≤ k ∧ k ≤ x.length ∧ goalB x k = true := by
  obtain ⟨h1, h2⟩ := List.mem_filter.mp h
  obtain ⟨j, h3, rfl⟩ := List.mem_map.mp h1
  have := List.mem_range.mp h3
  exact ⟨by omega, by omega, h2⟩
theorem goals_len : (goalsL x).length ≤ 2 * x.length + 1 := by
  refine Nat.le_trans (List.length_filter_le _ _) ?_
  rw [List.length_map, List.length_range]
  omega
theorem goals_ne (h : x ≠ []) : 0 < (goalsL x).length := by
  refine List.length_pos_of_mem (a := -1) (List.mem_filter.mpr ⟨List.mem_map.mpr ⟨x.length - 1, List.mem_range.mpr ?_, ?_⟩, rfl⟩)
  · have := List.length_pos_iff.mpr h; omega
  · have := List.length_pos_iff.mpr h; omega
/-- what is read from a place on -/
structure From (x : List Nat) (b : Int) (L : List Nat) : Prop where
  V : View x b L
  e : b + L.length = x.length
  l : L.length ≤ 80
theorem from_of (hl : x.length ≤ 40) {b : Int} (h1 : -(x.length : Int) ≤ b) (h2 : b ≤ x.length) : From x b (leftL x b) := by
  refine ⟨view_of (by omega) b, ?_, Nat.le_trans (left_len x b) (by omega)⟩
  unfold leftL
  by_cases h : b < x.length
  · rw [if_pos ⟨h1, h⟩]
    by_cases h3 : b ≥ 0
    · obtain ⟨k, rfl⟩ := Int.eq_ofNat_of_zero_le h3
      rw [if_pos h3, List.length_drop, Int.toNat_natCast]
      clear h1 h3 hl h
      omega
    · obtain ⟨k, hk⟩ := Int.eq_ofNat_of_zero_le (show 0 ≤ b + x.length by clear hl h h2; omega)
      rw [if_neg h3, List.length_append, List.length_drop, hk, Int.toNat_natCast]
      clear h1 hl h h2
      omega
  · rw [if_neg fun z => h z.2]
    exact (Int.add_zero b).trans (Int.le_antisymm h2 (Int.not_lt.mp h))
theorem from_neg {b : Int} (h1 : -(x.length : Int) ≤ b) (h : b < 0) : sliL x (some b) none ++ x = leftL x b := by
  unfold leftL
  rw [sli_from, clip_neg h h1, if_pos ⟨h1, by omega⟩, if_neg (by omega)]
theorem from_pos {b : Int} (h1 : 0 ≤ b) (h : b ≤ x.length) : sliL x (some b) none = leftL x b := by
  unfold leftL
  rw [sli_from, clip_in h1 h]
  by_cases h3 : b < x.length
  · rw [if_pos ⟨by omega, h3⟩, if_pos h1]
  · rw [if_neg fun z => h3 z.2, List.drop_eq_nil_of_le (by omega)]
theorem goal_nxt (hl : x.length < 1000) {b : Int} (h : b ∈ goalsL x) : nxt x b ≠ none := by
  intro e
  obtain ⟨h1, h2, h3⟩ := goal_in h
  obtain ⟨e1, e2⟩ := nxt_none hl e
  unfold goalB at h3
  obtain ⟨q, hq⟩ : ∃ q, x.length = q + 1 := by
    refine ⟨x.length - 1, ?_⟩
    have : x ≠ [] := fun z => by rw [z] at e2; cases e2
    have := List.length_pos_iff.mpr this
    omega
  have e3 : b = q := by omega
  subst e3
  have e4 : x[q]? = some 92 := by
    unfold itemL at e2
    rw [if_pos (by decide), hq, pred_nat] at e2
    split at e2
    · cases e2
    · exact e2
  have e5 : x.drop q = [92] := by
    obtain ⟨hlt, he⟩ := List.getElem?_eq_some_iff.mp e4
    rw [List.drop_eq_getElem_cons hlt, he, List.drop_eq_nil_of_le (by omega)]
  rw [sli_from, clip_in (by omega) (by omega), Int.toNat_natCast, e5, decide_eq_false (by omega)] at h3
  cases h3
end
section
variable {o : List (List PV)} {i : Nat} {d : Md} {z : Int} {x : List Nat} {t : Bool} {nx : Option (List Nat)}
noncomputable def b9 : List D := match c0 with
  | [_, _, _, _, _, _, _, _, _, .for_ _ _ b, _] => b
  | _ => []
noncomputable def q1 : C := match b9 with
  | [_, _, _, _, _, _, _, .iff a _ _, _, _] => a
  | _ => .k .none
noncomputable def q2 : C := match b9 with
  | [_, _, _, _, _, _, _, _, .iff a _ _, _] => a
  | _ => .k .none
noncomputable def q3 : C := match b9 with
  | [_, _, _, _, _, _, _, _, _, .iff a _ _] => a
  | _ => .k .none
noncomputable def hd7 : List PV := [.str [97], .str [10], .str [92, 97], .str [92, 92], .str [92, 98]]
/-- the law's variables -/
noncomputable def SG (sc : PV) (x : List Nat) (gl : List PV) (b : Int) (L H : List Nat) (v9 v10 v11 v12 v13 v14 v15 v16 v17 : Option PV) (o : List (List PV)) : Sg :=
  ⟨[some sc, some (.str x), some (.int x.length), some (.obj 0), some (.lst gl), some (.set hd7), some (.int b), some (.str L), some (.str H), v9, v10, v11, v12, v13, v14, v15, v16, v17], none, none, o⟩
/-- where the tokenizer stands -/
structure Std7 (t : Bool) (x : List Nat) (b : Int) (L : List Nat) (q : Nat) (nx : Option (List Nat)) (o : List (List PV)) : Prop where
  F : From x b L
  hq : q ≤ L.length
  hn : nxt x (b + q) = some nx
  ho : o[0]? = some (tokA t x (b + q) nx)
theorem peq_n92 (h : nxt x z = some nx) : peq (nxP nx) (.str [92]) = some false := by
  cases nx with
  | none => unfold peq; rfl
  | some s =>
    rw [show nxP (some s) = .str s from rfl, peq_str]
    cases e : leq s [92] with
    | false => rfl
    | true =>
      rw [leq_iff.mp e] at h
      unfold nxt at h
      split at h
      · cases h
      · split at h
        · split at h <;> cases h
        · rename_i ne; cases h; exact absurd rfl ne
theorem peq_bb {a b : Bool} (h : a = b) : peq (.bool a) (.bool b) = some true := by
  unfold peq
  subst h
  show some (a == a) = _
  rw [beq_self_eq_true]
section
variable {sc : PV} {gl : List PV} {b : Int} {L : List Nat} {q n : Nat} {v9 v10 v11 v12 v13 v14 v15 v16 v17 : Option PV}
theorem take_ln (S : Std7 t x b L q nx o) : (L.take q).length = q := List.length_take.trans (Nat.min_eq_left S.hq)
theorem t1 {K : Kt Bool} (S : Std7 t x b L q nx o) (k : K (.ok false) (SG sc x gl b L (L.take q) v9 v10 v11 v12 v13 v14 v15 v16 v17 o)) : (W Γ7 (n + 100)).T ⟨0, false, true, true⟩ q1 (SG sc x gl b L (L.take q) v9 v10 v11 v12 v13 v14 v15 v16 v17 o) K := by
  have hl := take_ln S
  have h60 : (L.take q).length < 2 ^ 60 := by have := S.F.l; have := S.hq; rw [hl]; omega
  unfold SG at k ⊢
  ktr_unf
  refine call_i (pos_k (by kt_len) S.ho S.hn ?_ _ (by exact le_fuel rfl))
  ktr_unf
  k_search (eq_t (show b + (q : Int) = b + ((L.take q).length : Int) by rw [hl]))
  k_search S.ho
  k_search (peq_n92 S.hn)
  exact k
theorem from_end (S : Std7 t x b L q nx o) : (nx = none ∧ b + (q : Int) = x.length) ∨ ∃ s, nx = some s ∧ Sgn (L.drop q) s ∧ b + (q : Int) ≠ x.length := by
  have e := S.F.e
  have n := S.hn
  have hq := S.hq
  rcases nxt_at S.F.V q S.hq with ⟨e1, e2⟩ | ⟨e1, e2⟩ | ⟨s, e1, h⟩
  · refine .inl ⟨Option.some.inj (n.symm.trans e1), ?_⟩
    have := congrArg List.length e2
    rw [List.length_drop] at this
    have h3 : L.length - q = 0 := this
    omega
  · exact nomatch e1.symm.trans n
  · refine .inr ⟨s, Option.some.inj (n.symm.trans e1), h, ?_⟩
    obtain ⟨r, _, h2, h3, _⟩ := h
    have := congrArg List.length h2
    rw [List.length_drop, List.length_append] at this
    omega
theorem t2 {K : Kt Bool} (S : Std7 t x b L q nx o) (k : K (.ok false) (SG sc x gl b L (L.take q) v9 v10 v11 v12 v13 v14 v15 v16 v17 o)) : (W Γ7 (n + 100)).T ⟨0, false, true, true⟩ q2 (SG sc x gl b L (L.take q) v9 v10 v11 v12 v13 v14 v15 v16 v17 o) K := by
  have hl := take_ln S
  have hL := S.F.l
  have hq := S.hq
  have h60 : (L.take q).length < 2 ^ 60 := by rw [hl]; omega
  have s16 : S16 = 16777216 := rfl
  have l16 : L.length ≤ S16 := by omega
  have hs : sliL L (some ((L.take q).length : Int)) none = L.drop q := by rw [hl, sli_from, clip_in (Int.natCast_nonneg q) (Int.ofNat_le.mpr hq)]; rfl
  have hs16 : (sliL L (some ((L.take q).length : Int)) none).length ≤ S16 := by rw [hs, List.length_drop]; omega
  have fin : ∀ {m : Nat} {z : PV} {z' : Int}, z = nxP nx → z' = b + q → peq (.bool (isNoneP z)) (.bool (decide (z' = x.length))) = some true := by
    rintro m z z' rfl rfl
    refine peq_bb ?_
    rcases from_end S with ⟨rfl, e⟩ | ⟨s, rfl, _, e⟩
    · exact (decide_eq_true e).symm
    · exact (decide_eq_false e).symm
  unfold SG at k ⊢
  rcases from_end S with ⟨e0, e⟩ | ⟨s, e0, h, e⟩
  · subst e0
    have hp : (sliL L (some ((L.take q).length : Int)) none).length ≤ S16 ∧ ([] : List Nat).length ≤ S16 := ⟨hs16, Nat.zero_le _⟩
    ktr_unf
    k_search S.ho
    k_search S.ho
    refine call_i (pos_k (by kt_len) S.ho S.hn ?_ _ (by exact le_fuel rfl))
    ktr_unf
    k_search (peq_int _ _)
    k_search (fin (m := 0) rfl rfl)
    exact k
  · subst e0
    obtain ⟨r, h1, h2, h3, h4, h5⟩ := h
    have hpre : (!List.isPrefixOf s (sliL L (some ((L.take q).length : Int)) none)) = false := by
      rw [hs, h2, Bool.not_eq_false', List.isPrefixOf_iff_prefix]
      exact List.prefix_append s r
    have hs2 : s.length ≤ S16 := by omega
    have s60 : s.length < 2 ^ 60 := by omega
    have sne : (((s.length : Int) != 0) = true) := by rw [bne_iff_ne]; omega
    have hp : (sliL L (some ((L.take q).length : Int)) none).length ≤ S16 ∧ s.length ≤ S16 := ⟨hs16, hs2⟩
    ktr_unf
    k_search S.ho
    k_search sne
    k_search hpre
    k_search S.ho
    refine call_i (pos_k (by kt_len) S.ho S.hn ?_ _ (by exact le_fuel rfl))
    ktr_unf
    k_search (peq_int _ _)
    k_search (fin (m := 0) rfl rfl)
    exact k
theorem t3 {K : Kt Bool} {H : List Nat} (hl : x.length ≤ 40) (S : Std7 t x b L q nx o) (k : K (.ok false) (SG sc x gl b L H v9 v10 v11 v12 v13 v14 v15 v16 v17 o)) : (W Γ7 (n + 200)).T ⟨0, false, true, true⟩ q3 (SG sc x gl b L H v9 v10 v11 v12 v13 v14 v15 v16 v17 o) K := by
  have e := S.F.e
  have hL := S.F.l
  have hq := S.hq
  unfold SG at k ⊢
  ktr_unf
  refine call_i (tell_k (by kt_len) S.ho S.hn ?_ _ (by exact le_fuel rfl))
  ktr_unf
  refine call_i (pos_k (by kt_len) S.ho S.hn ?_ _ (by exact le_fuel rfl))
  ktr_unf
  k_search (eq_t rfl)
  refine call_i (error_h (by kt_len) S.ho S.hn (by omega) (by omega) (fun w => ?_) _ (by exact le_fuel rfl))
  ktr_unf
  refine call_i (pos_k (by kt_len) S.ho S.hn ?_ _ (by exact le_fuel rfl))
  ktr_unf
  k_search (eq_t rfl)
  exact k
end
end
section
variable {o : List (List PV)} {i : Nat} {d : Md} {z : Int} {x : List Nat} {t : Bool} {nx : Option (List Nat)}
noncomputable def t16 : D := match b9 with
  | [_, _, _, _, _, _, t, _, _, _] => t
  | _ => .ret0
noncomputable def h16 : List D := match t16 with
  | .tryPe _ _ h => h
  | _ => []
theorem view_drop {p : Int} {L : List Nat} {q : Nat} (V : View x p L) (hq : q ≤ L.length) : View x (p + q) (L.drop q) := fun j hj => by
  rw [List.length_drop] at hj
  rw [Int.add_assoc, ← Int.natCast_add, V (q + j) (by omega), List.getElem?_drop]
noncomputable def nxS (nx : Option (List Nat)) : List Nat := match nx with
  | none => []
  | some s => s
section
variable {sc : PV} {gl : List PV} {b : Int} {L : List Nat} {q n : Nat} {v9 v10 v11 v12 v13 v14 v15 v16 v17 : Option PV}
theorem lack (S : Std7 t x b L q nx o) (e : nxt x (b + q + nxL nx) = none) : ∃ s, nx = some s ∧ L.drop q = s ++ [92] := by
  rcases from_end S with ⟨rfl, _⟩ | ⟨s, rfl, ⟨r, h1, h2, _⟩, _⟩
  · rw [show b + (q : Int) + (nxL none : Int) = b + q from Int.add_zero _, S.hn] at e; cases e
  · refine ⟨s, rfl, ?_⟩
    have hl := congrArg List.length h2
    rw [List.length_drop, List.length_append] at hl
    have hd : L.drop (q + s.length) = r := by rw [← List.drop_drop, h2, List.drop_append_of_le_length (Nat.le_refl _), List.drop_length]; rfl
    have hq := S.hq
    have e' : nxt x (b + ((q + s.length : Nat) : Int)) = none := by rw [Int.natCast_add, ← Int.add_assoc]; exact e
    rcases nxt_at S.F.V (q + s.length) (by omega) with ⟨g, _⟩ | ⟨_, g⟩ | ⟨_, g, _⟩
    · exact nomatch g.symm.trans e'
    · rw [h2, ← hd, g]
    · exact nomatch g.symm.trans e'
theorem adv {ny : Option (List Nat)} (S : Std7 t x b L q nx o) (e : nxt x (b + q + nxL nx) = some ny) : L.take q ++ nxS nx = L.take (q + nxL nx) ∧ Std7 t x b L (q + nxL nx) ny (lset o 0 (tokA t x (b + q + nxL nx) ny)) := by
  have hb : b + ((q + nxL nx : Nat) : Int) = b + q + nxL nx := by rw [Int.natCast_add, Int.add_assoc]
  have hq := S.hq
  rcases from_end S with ⟨rfl, _⟩ | ⟨s, rfl, ⟨r, h1, h2, _⟩, _⟩
  · exact ⟨List.append_nil _, S.F, hq, by rw [hb]; exact e, by rw [hb]; exact lset_at S.ho⟩
  · have hl := congrArg List.length h2
    rw [List.length_drop, List.length_append] at hl
    refine ⟨?_, S.F, ?_, by rw [hb]; exact e, by rw [hb]; exact lset_at S.ho⟩
    · show L.take q ++ s = L.take (q + s.length)
      rw [List.take_add, h2, List.take_append_of_le_length (Nat.le_refl _), List.take_length]
    · show q + s.length ≤ L.length
      omega
/-- behind a refusal that changes nothing -/
theorem hand0 {dd : Int} {s H : List Nat} {K : Kt Fl} (hl : x.length ≤ 40) (S : Std7 t x b L q (some s) o) (hd : L.drop q = s ++ [92]) (h3 : dd ≠ 3) (h4 : dd ≠ 4)
    (kk : K (.ok .next) (SG sc x gl b L H v9 (some (.int dd)) v11 (some (.int (b + q))) (some (.str s)) (some (.str (L.drop q))) v15 v16 none o)) :
    (W Γ7 (n + 200)).Ss ⟨0, true, false, true⟩ h16 (SG sc x gl b L H v9 (some (.int dd)) v11 (some (.int (b + q))) (some (.str s)) (some (.str (L.drop q))) v15 v16 (some (.err (errF t x mBad (x.length - 1)) (errW x mBad (x.length - 1)))) o)
      fun r σ => match r with | .ok f => obD (asgOk σ 17 = true) (K (.ok f) { σ with vars := lset σ.vars 17 none }) | .err _ => False := by
  have hL := S.F.l
  have hz := congrArg List.length hd
  rw [List.length_drop, List.length_append] at hz
  have s16 : S16 = 16777216 := rfl
  have hs : s.length + [92].length ≤ S16 := by omega
  unfold SG at kk ⊢
  ktr_unf
  k_search (eq_t rfl)
  k_search (eq_f h4)
  k_search (eq_f h3)
  refine call_i (pos_k (by kt_len) S.ho S.hn ?_ _ (by exact le_fuel rfl))
  ktr_unf
  k_search (eq_t rfl)
  k_search (show peq (.str (L.drop q)) (.str (s ++ [92])) = some true by rw [peq_str, hd, leq_refl])
  exact kk
/-- behind a refused getwhile -/
theorem hand3 {s H : List Nat} {K : Kt Fl} (hl : x.length ≤ 40) (S : Std7 t x b L q (some s) o) (hd : L.drop q = s ++ [92])
    (kk : K (.ok .next) (SG sc x gl b L (L.take q) v9 (some (.int 3)) v11 v12 v13 v14 v15 v16 none o)) :
    (W Γ7 (n + 200)).Ss ⟨0, true, false, true⟩ h16 (SG sc x gl b L H v9 (some (.int 3)) v11 v12 v13 v14 v15 v16 (some (.err (errF t x mBad (x.length - 1)) (errW x mBad (x.length - 1)))) o)
      fun r σ => match r with | .ok f => obD (asgOk σ 17 = true) (K (.ok f) { σ with vars := lset σ.vars 17 none }) | .err _ => False := by
  have hL := S.F.l
  have hq := S.hq
  have hz := congrArg List.length hd
  rw [List.length_drop, List.length_append] at hz
  have s16 : S16 = 16777216 := rfl
  have l16 : L.length ≤ S16 := by omega
  have hs : s.length + [92].length ≤ S16 := by omega
  have hb : b + (q : Int) - b = q := by omega
  have hp : sliL L (some (b + (q : Int) - b)) none = L.drop q := by rw [hb, sli_from, clip_in (Int.natCast_nonneg q) (Int.ofNat_le.mpr hq)]; rfl
  have ht : sliL L none (some (b + (q : Int) - b)) = L.take q := by rw [hb, sli_take]
  unfold SG at kk ⊢
  ktr_unf
  k_search (eq_t rfl)
  k_search (eq_f (show (3 : Int) ≠ 4 by decide))
  k_search (eq_t rfl)
  refine call_i (pos_k (by kt_len) S.ho S.hn ?_ _ (by exact le_fuel rfl))
  ktr_unf
  conv => whnf
  rw [ht]
  refine call_i (pos_k (by kt_len) S.ho S.hn ?_ _ (by exact le_fuel rfl))
  ktr_unf
  k_search S.ho
  k_search (show peq (.str (sliL L (some (b + (q : Int) - b)) none)) (.str (s ++ [92])) = some true by rw [hp, peq_str, hd, leq_refl])
  exact kk
end
end
section
variable {o : List (List PV)} {i : Nat} {d : Md} {z : Int} {x : List Nat} {t : Bool} {nx : Option (List Nat)}
/-- behind a deed -/
noncomputable def Fin7 (t : Bool) (x : List Nat) (sc : PV) (gl : List PV) (K : Kt Fl) : Prop := ∀ {b : Int} {L : List Nat} {q : Nat} {nx : Option (List Nat)} {o : List (List PV)} {v9 v10 v11 v12 v13 v14 v15 v16 v17 : Option PV}, Std7 t x b L q nx o → K (.ok .next) (SG sc x gl b L (L.take q) v9 v10 v11 v12 v13 v14 v15 v16 v17 o)
section
variable {sc : PV} {gl : List PV} {b mo : Int} {L ot : List Nat} {q n : Nat} {v9 v16 v17 : Option PV} {K : Kt Fl}
noncomputable abbrev SD (sc : PV) (x : List Nat) (gl : List PV) (b : Int) (L : List Nat) (q : Nat) (nx : Option (List Nat)) (v9 : Option PV) (dd mo : Int) (ot : List Nat) (v16 v17 : Option PV) (o : List (List PV)) : Sg :=
  SG sc x gl b L (L.take q) v9 (some (.int dd)) (some (.int mo)) (some (.int (b + q))) (some (nxP nx)) (some (.str (L.drop q))) (some (.str ot)) v16 v17 o
theorem nx_facts {s : List Nat} (h : Sgn (L.drop q) s) (hL : L.length ≤ 80) : s.length < 2 ^ 60 ∧ (((s.length : Int) != 0) = true) ∧ (L.take q).length + s.length ≤ S16 := by
  obtain ⟨r, _, _, h3, h4, _⟩ := h
  have := List.length_take_le' q L
  have s16 : S16 = 16777216 := rfl
  exact ⟨by omega, by rw [bne_iff_ne]; omega, by omega⟩
theorem deed0 (hl : x.length ≤ 40) (S : Std7 t x b L q nx o) (fin : Fin7 t x sc gl K) : (W Γ7 (n + 400)).S ⟨0, false, true, true⟩ t16 (SD sc x gl b L q nx v9 0 mo ot v16 v17 o) K := by
  have hl' : x.length < 1000 := by omega
  have hL := S.F.l
  have h16 : (L.take q).length + ([] : List Nat).length ≤ S16 := by have := List.length_take_le' q L; show _ + 0 ≤ 16777216; omega
  unfold SD SG
  rcases from_end S with ⟨rfl, _⟩ | ⟨s, rfl, h, _⟩
  · ktr_unf
    k_search (eq_t rfl)
    refine call_i (get_k (by kt_len) S.ho hl' (fun e => ?_) (fun ny e => ?_) _ (by exact le_fuel rfl))
    · obtain ⟨s, z, _⟩ := lack S e
      cases z
    · obtain ⟨e1, S'⟩ := adv S e
      ktr_unf
      k_search (peq_nn (nx := none))
      conv => whnf
      rw [show L.take q ++ [] = L.take (q + nxL none) from e1]
      exact fin S'
  · obtain ⟨s60, sne, ssz⟩ := nx_facts h hL
    ktr_unf
    k_search (eq_t rfl)
    refine call_i (get_k (by kt_len) S.ho hl' (fun e => ?_) (fun ny e => ?_) _ (by exact le_fuel rfl))
    · obtain ⟨s', z, hd⟩ := lack S e
      cases z
      conv => whnf
      exact hand0 (n := n + 199) hl S hd (by decide) (by decide) (fin S)
    · obtain ⟨e1, S'⟩ := adv S e
      ktr_unf
      k_search (peq_nn (nx := some s))
      k_search sne
      conv => whnf
      rw [show L.take q ++ s = L.take (q + nxL (some s)) from e1]
      exact fin S'
theorem deed1 (hl : x.length ≤ 40) (S : Std7 t x b L q nx o) (fin : Fin7 t x sc gl K) : (W Γ7 (n + 400)).S ⟨0, false, true, true⟩ t16 (SD sc x gl b L q nx v9 1 mo ot v16 v17 o) K := by
  have hl' : x.length < 1000 := by omega
  have hL := S.F.l
  have h16 : (L.take q).length + ([] : List Nat).length ≤ S16 := by have := List.length_take_le' q L; show _ + 0 ≤ 16777216; omega
  unfold SD SG
  rcases from_end S with ⟨rfl, _⟩ | ⟨s, rfl, h, _⟩
  · ktr_unf
    k_search (eq_f (show (1 : Int) ≠ 0 by decide))
    k_search (eq_t rfl)
    refine call_i (match_k (nx := none) (by kt_len) S.ho hl' (fun e => ?_) (fun ny e => ?_) _ (by exact le_fuel rfl))
    · obtain ⟨s, z, _⟩ := lack S e
      cases z
    · obtain ⟨e1, S'⟩ := adv S e
      ktr_unf
      conv => whnf
      rw [show L.take q ++ [] = L.take (q + nxL none) from e1]
      exact fin S'
  · obtain ⟨s60, sne, ssz⟩ := nx_facts h hL
    ktr_unf
    k_search (eq_f (show (1 : Int) ≠ 0 by decide))
    k_search (eq_t rfl)
    refine call_i (match_k (nx := some s) (by kt_len) S.ho hl' (fun e => ?_) (fun ny e => ?_) _ (by exact le_fuel rfl))
    · obtain ⟨s', z, hd⟩ := lack S e
      cases z
      conv => whnf
      exact hand0 (n := n + 199) hl S hd (by decide) (by decide) (fin S)
    · obtain ⟨e1, S'⟩ := adv S e
      ktr_unf
      k_search sne
      conv => whnf
      rw [show L.take q ++ s = L.take (q + nxL (some s)) from e1]
      exact fin S'
/-- a match of a sign that is not next -/
theorem match_n {Kf : FK} {k : Nat} {c : Bool} (hk : k < 70) (hf : o[i]? = some (tokF t x z nx)) (hn : peq (.str ot) (nxP nx) = some false) (kk : Kf (.ok (.bool false)) o) : ∀ m, 90 ≤ m → (W Γ7 m).F ⟨k, false, true, c⟩ 72 [.obj i, .str ot] o Kf := by
  refine fuel 90 fun n => ?_
  ktr_unf
  k_search hf
  k_search hn
  exact kk
theorem deed2 (hl : x.length ≤ 40) (S : Std7 t x b L q nx o) (fin : Fin7 t x sc gl K) : (W Γ7 (n + 400)).S ⟨0, false, true, true⟩ t16 (SD sc x gl b L q nx v9 2 mo ot v16 v17 o) K := by
  have hl' : x.length < 1000 := by omega
  have hL := S.F.l
  unfold SD SG
  by_cases h : nx = some ot
  · subst h
    have hg : Sgn (L.drop q) ot := by
      rcases from_end S with ⟨z, _⟩ | ⟨s, z, h, _⟩
      · cases z
      · cases z; exact h
    obtain ⟨s60, sne, ssz⟩ := nx_facts hg hL
    ktr_unf
    k_search (eq_f (show (2 : Int) ≠ 0 by decide))
    k_search (eq_f (show (2 : Int) ≠ 1 by decide))
    k_search (eq_t rfl)
    refine call_i (match_k (nx := some ot) (by kt_len) S.ho hl' (fun e => ?_) (fun ny e => ?_) _ (by exact le_fuel rfl))
    · obtain ⟨s', z, hd⟩ := lack S e
      cases z
      conv => whnf
      exact hand0 (n := n + 199) hl S hd (by decide) (by decide) (fin S)
    · obtain ⟨e1, S'⟩ := adv S e
      ktr_unf
      k_search (peq_nn (nx := some ot))
      k_search (peq_nn (nx := some ot))
      conv => whnf
      rw [show L.take q ++ ot = L.take (q + nxL (some ot)) from e1]
      exact fin S'
  · have hn : peq (.str ot) (nxP nx) = some false := by
      cases nx with
      | none => unfold peq; rfl
      | some s =>
        rw [show nxP (some s) = .str s from rfl, peq_str]
        cases e : leq ot s with
        | false => rfl
        | true => exact absurd (congrArg some (leq_iff.mp e).symm) h
    ktr_unf
    k_search (eq_f (show (2 : Int) ≠ 0 by decide))
    k_search (eq_f (show (2 : Int) ≠ 1 by decide))
    k_search (eq_t rfl)
    refine call_i (match_n (by kt_len) S.ho hn ?_ _ (by exact le_fuel rfl))
    ktr_unf
    k_search hn
    k_search hn
    conv => whnf
    exact fin S
end
end
section
variable {o : List (List PV)} {i : Nat} {d : Md} {z : Int} {x : List Nat} {t : Bool} {nx : Option (List Nat)}
theorem peq_ss (a : List Nat) : peq (.str a) (.str a) = some true := by rw [peq_str, leq_refl]
theorem pick_in {α β : Type} {l : List α} (f : α → β) (m : Int) (h : 0 < l.length) : ∃ a, a ∈ l ∧ itemL (l.map f) (m.fmod (l.map f).length) = some (f a) := by
  rw [List.length_map]
  have hm : (0 : Int) < l.length := Int.ofNat_lt.mpr h
  obtain ⟨r, e⟩ := Int.eq_ofNat_of_zero_le (Int.fmod_nonneg_of_pos m hm)
  have hr := Int.fmod_lt_of_pos m hm
  rw [e] at hr
  have hr := Int.ofNat_lt.mp hr
  refine ⟨l[r], List.getElem_mem hr, ?_⟩
  rw [e]
  unfold itemL
  rw [if_neg (Int.not_lt.mpr (Int.natCast_nonneg r)), Int.toNat_natCast, List.getElem?_map, List.getElem?_eq_getElem hr]
  rfl
section
variable {sc : PV} {gl : List PV} {b mo : Int} {L ot : List Nat} {q n : Nat} {v9 v16 v17 : Option PV} {K : Kt Fl}
theorem std_on {q' : Nat} {ny : Option (List Nat)} (S : Std7 t x b L q nx o) (hq : q + q' ≤ L.length) (e : nxt x (b + q + q') = some ny) : Std7 t x b L (q + q') ny (lset o 0 (tokA t x (b + q + q') ny)) := by
  have hb : b + ((q + q' : Nat) : Int) = b + q + q' := by rw [Int.natCast_add, Int.add_assoc]
  exact ⟨S.F, hq, by rw [hb]; exact e, by rw [hb]; exact lset_at S.ho⟩
theorem deed3 (hl : x.length ≤ 40) (S : Std7 t x b L q nx o) (fin : Fin7 t x sc gl K) : (W Γ7 (n + 3000)).S ⟨0, false, true, true⟩ t16 (SD sc x gl b L q nx v9 3 mo ot v16 v17 o) K := by
  have hl' : x.length < 1000 := by omega
  have hL := S.F.l
  have hq := S.hq
  have s16 : S16 = 16777216 := rfl
  have hD : (L.drop q).length ≤ 80 := by rw [List.length_drop]; omega
  have V := view_drop S.F.V hq
  have m2 := Int.fmod_lt_of_pos mo (show (0 : Int) < 5 by decide)
  obtain ⟨j, hj⟩ := Int.eq_ofNat_of_zero_le (Int.fmod_nonneg_of_pos mo (show (0 : Int) < 5 by decide))
  have j5 : j ≤ 100 := by rw [hj] at m2; have := Int.ofNat_lt.mp m2; omega
  unfold SD SG
  ktr_unf
  k_search (eq_f (show (3 : Int) ≠ 0 by decide))
  k_search (eq_f (show (3 : Int) ≠ 1 by decide))
  k_search (eq_f (show (3 : Int) ≠ 2 by decide))
  k_search (eq_t rfl)
  conv => whnf
  rw [hj]
  refine call_i (getwhile_x (cs := hd7) (by kt_len) hl' hD V rfl j5 S.ho S.hn (fun q' s g1 g2 => ?_) (fun ny e => ?_) _ (by exact le_fuel rfl))
  · have hd : L.drop (q + q') = s ++ [92] := by rw [← List.drop_drop]; exact g1
    have hlen := congrArg List.length hd
    rw [List.length_drop, List.length_append] at hlen
    have S2 := std_on S (q' := q') (by have : [92].length = 1 := rfl; omega) g2
    conv => whnf
    exact hand3 (n := n + 2799) hl S2 hd (fin S2)
  · have hf := frontN_le hd7 j (L.drop q)
    have S2 := std_on S (q' := frontN hd7 j (L.drop q)) (by rw [List.length_drop] at hf; omega) e
    have hz : (L.take q).length + ((L.drop q).take (frontN hd7 j (L.drop q))).length ≤ S16 := by
      have := List.length_take_le' q L
      have := List.length_take_le' (frontN hd7 j (L.drop q)) (L.drop q)
      omega
    ktr_unf
    conv => whnf
    rw [hj]
    refine call_i (front_c (cs := hd7) (by kt_len) hD j5 rfl ?_ _ (by exact le_fuel rfl))
    ktr_unf
    k_search (peq_ss _)
    conv => whnf
    rw [← List.take_add]
    exact fin S2
theorem std_0 {ny : Option (List Nat)} {b' : Int} (S : Std7 t x b L q nx o) (F : From x b' (leftL x b')) (e : nxt x b' = some ny) : Std7 t x b' (leftL x b') 0 ny (lset o 0 (tokA t x b' ny)) := by
  have hb : b' + ((0 : Nat) : Int) = b' := Int.add_zero b'
  exact ⟨F, Nat.zero_le _, by rw [hb]; exact e, by rw [hb]; exact lset_at S.ho⟩
theorem deed4 (hl : x.length ≤ 40) (hne : x ≠ []) (S : Std7 t x b L q nx o) (fin : Fin7 t x sc ((goalsL x).map .int) K) : (W Γ7 (n + 400)).S ⟨0, false, true, true⟩ t16 (SD sc x ((goalsL x).map .int) b L q nx v9 4 mo ot v16 v17 o) K := by
  have hl' : x.length < 1000 := by omega
  have s16 : S16 = 16777216 := rfl
  have gz := goals_len (x := x)
  have g1 : ((goalsL x).map PV.int).length ≤ 16384 := by rw [List.length_map]; omega
  have g2 : ((goalsL x).map PV.int).length ≤ S16 := by omega
  have g3 : (0 : Int) < (((goalsL x).map PV.int).length : Int) := by rw [List.length_map]; exact Int.ofNat_lt.mpr (goals_ne hne)
  obtain ⟨b', hb, hit⟩ := pick_in PV.int mo (goals_ne hne)
  obtain ⟨h1, h2, _⟩ := goal_in hb
  have F := from_of hl h1 h2
  have lx : x.length ≤ S16 := by omega
  cases e : nxt x b' with
  | none => exact absurd e (goal_nxt hl' hb)
  | some ny =>
    have S2 := std_0 S F e
    unfold SD SG
    ktr_unf
    k_search (eq_f (show (4 : Int) ≠ 0 by decide))
    k_search (eq_f (show (4 : Int) ≠ 1 by decide))
    k_search (eq_f (show (4 : Int) ≠ 2 by decide))
    k_search (eq_f (show (4 : Int) ≠ 3 by decide))
    k_search hit
    conv => whnf
    refine cond_d (fun c => ?_) fun c => ?_
    · have c := of_decide_eq_true c
      have hz : (sliL x (some b') none).length + x.length ≤ S16 := by rw [sli_from, List.length_drop]; omega
      ktr_unf
      conv => whnf
      rw [from_neg h1 c]
      refine call_i (seek_k (by kt_len) S.ho hl' e ?_ _ (by exact le_fuel rfl))
      conv => whnf
      exact fin S2
    · have c := of_decide_eq_false c
      ktr_unf
      conv => whnf
      rw [from_pos (Int.not_lt.mp c) h2]
      refine call_i (seek_k (by kt_len) S.ho hl' e ?_ _ (by exact le_fuel rfl))
      conv => whnf
      exact fin S2
end
end
section
variable {o : List (List PV)} {i : Nat} {d : Md} {z : Int} {x : List Nat} {t : Bool} {nx : Option (List Nat)}
noncomputable def r7 : List D := match b9 with
  | [_, _, _, _, _, _, a, b, c, d] => [a, b, c, d]
  | _ => []
noncomputable def r3 : List D := match b9 with
  | [_, _, _, _, _, _, _, b, c, d] => [b, c, d]
  | _ => []
section
variable {sc : PV} {gl : List PV} {b : Int} {L : List Nat} {q n : Nat} {v9 v10 v11 v12 v13 v14 v15 v16 v17 : Option PV} {K : Kt Fl}
theorem if_f {Γ : Nat → Option Fn} {c : C} {a r : List D} {σ : Sg} (h : ∀ K' : Kt Bool, K' (.ok false) σ → (W Γ (n + 1)).T d c σ K') (k : (W Γ (n + 2)).Ss d r σ K) : (W Γ (n + 3)).Ss d (.iff c a [] :: r) σ K := h _ k
theorem post7 (hl : x.length ≤ 40) (S : Std7 t x b L q nx o) (k : K (.ok .next) (SG sc x gl b L (L.take q) v9 v10 v11 v12 v13 v14 v15 v16 v17 o)) : (W Γ7 (n + 300)).Ss ⟨0, false, true, true⟩ r3 (SG sc x gl b L (L.take q) v9 v10 v11 v12 v13 v14 v15 v16 v17 o) K :=
  if_f (n := n + 297) (fun K' h => t1 (n := n + 198) S h) (if_f (n := n + 296) (fun K' h => t2 (n := n + 197) S h) (if_f (n := n + 295) (fun K' h => t3 (n := n + 96) hl S h) k))
noncomputable def four : List (List Nat) := [[97], [10], [92, 97], [92, 92]]
theorem pre7 {a : Int} (S : Std7 t x b L q nx o) (k : ∀ ot, (W Γ7 (n + 3094)).Ss ⟨0, false, true, true⟩ r7 (SD sc x gl b L q nx (some (.int a)) ((a.fdiv 6).fmod 5) (a.fdiv 30) ot v16 v17 o) K) :
    (W Γ7 (n + 3100)).Ss ⟨0, false, true, true⟩ b9 (SG sc x gl b L (L.take q) (some (.int a)) v10 v11 v12 v13 v14 v15 v16 v17 o) K := by
  have hL := S.F.l
  have hq := S.hq
  have s16 : S16 = 16777216 := rfl
  have l16 : L.length ≤ S16 := by omega
  obtain ⟨ot, _, hot⟩ := pick_in (l := four) PV.str (a.fdiv 30) (by decide)
  have hb : b + (q : Int) - b = q := by omega
  have hp : sliL L (some (b + (q : Int) - b)) none = L.drop q := by rw [hb, sli_from, clip_in (Int.natCast_nonneg q) (Int.ofNat_le.mpr hq)]; rfl
  have k := k ot
  unfold SD SG at k
  unfold SG
  ktr_unf
  refine call_i (pos_k (by kt_len) S.ho S.hn ?_ _ (by exact le_fuel rfl))
  ktr_unf
  k_search S.ho
  conv => whnf
  rw [hp]
  k_search hot
  conv => whnf
  exact k
theorem turn7 {a : Int} (hl : x.length ≤ 40) (hne : x ≠ []) (S : Std7 t x b L q nx o) (fin : Fin7 t x sc ((goalsL x).map .int) K) :
    (W Γ7 (n + 3100)).Ss ⟨0, false, true, true⟩ b9 (SG sc x ((goalsL x).map .int) b L (L.take q) (some (.int a)) v10 v11 v12 v13 v14 v15 v16 v17 o) K := by
  refine pre7 S fun ot => ?_
  have m1 := Int.fmod_nonneg_of_pos (a.fdiv 6) (show (0 : Int) < 5 by decide)
  have m2 := Int.fmod_lt_of_pos (a.fdiv 6) (show (0 : Int) < 5 by decide)
  generalize (a.fdiv 6).fmod 5 = dd at m1 m2
  obtain ⟨k, rfl⟩ := Int.eq_ofNat_of_zero_le m1
  have hd := (by decide : ∀ k : Nat, k < 5 → k = 0 ∨ k = 1 ∨ k = 2 ∨ k = 3 ∨ k = 4) k (Int.ofNat_lt.mp m2)
  have fin2 : Fin7 t x sc ((goalsL x).map .int) (bk K fun f σ => match f with
      | .next => (W Γ7 (n + 3093)).Ss ⟨0, false, true, true⟩ r3 σ K
      | f => K (.ok f) σ) := fun S2 => post7 (n := n + 2793) hl S2 (fin S2)
  rcases hd with rfl | rfl | rfl | rfl | rfl
  · exact ss_i (c := t16) (r := r3) (n := n + 3093) (deed0 (n := n + 2693) hl S fin2)
  · exact ss_i (c := t16) (r := r3) (n := n + 3093) (deed1 (n := n + 2693) hl S fin2)
  · exact ss_i (c := t16) (r := r3) (n := n + 3093) (deed2 (n := n + 2693) hl S fin2)
  · exact ss_i (c := t16) (r := r3) (n := n + 3093) (deed3 (n := n + 93) hl S fin2)
  · exact ss_i (c := t16) (r := r3) (n := n + 3093) (deed4 (n := n + 2693) hl hne S fin2)
end
theorem loop9 {sc : PV} (hl : x.length ≤ 40) (hne : x ≠ []) : ∀ (l : List Int) (m : Nat), 3200 + l.length ≤ m → ∀ {K : Kt Fl} {b : Int} {L : List Nat} {q : Nat} {nx : Option (List Nat)} {o : List (List PV)} {v9 v10 v11 v12 v13 v14 v15 v16 v17 : Option PV}, Std7 t x b L q nx o → Fin7 t x sc ((goalsL x).map .int) K →
    (W Γ7 m).For ⟨0, false, true, true⟩ 9 (l.map .int) b9 (SG sc x ((goalsL x).map .int) b L (L.take q) v9 v10 v11 v12 v13 v14 v15 v16 v17 o) K := by
  intro l
  induction l with
  | nil =>
    intro m hm K b L q nx o v9 v10 v11 v12 v13 v14 v15 v16 v17 S fin
    obtain ⟨n, rfl⟩ : ∃ n, m = n + 60 := le_ex2 hm rfl
    exact fin S
  | cons a r ih =>
    intro m hm K b L q nx o v9 v10 v11 v12 v13 v14 v15 v16 v17 S fin
    rw [List.length_cons] at hm
    obtain ⟨n, rfl⟩ : ∃ n, m = n + 3200 := le_ex2 hm rfl
    exact for_cons (v := .int a) rfl (turn7 (n := n + 99) hl hne S fun S2 => ih (n + 3199) (le_pred hm) S2 fin)
end
section
variable {o : List (List PV)} {i : Nat} {d : Md} {z : Int} {x : List Nat} {t : Bool} {nx : Option (List Nat)}
noncomputable def r0 : List D := match c0 with
  | [_, _, _, d, e, f, g, h, i, j, k] => [d, e, f, g, h, i, j, k]
  | _ => []
theorem rest7 {n : Nat} {zs : List Int} (hz : zs.length ≤ 63) (hl : x.length ≤ 40) (hne : x ≠ []) (hx : nxt x 0 = some nx) (h0 : o[0]? = some (tokA t x 0 nx)) :
    (W Γ7 (n + 3900)).Ss ⟨0, false, true, true⟩ r0 ⟨[some (.lst (zs.map .int)), some (.str x), some (.int x.length), some (.obj 0), none, none, none, none, none, none, none, none, none, none, none, none, none, none], none, none, o⟩ fun r _ => r = .ok (.ret (.bool true)) := by
  have s16 : S16 = 16777216 := rfl
  have p20 : (2 : Nat) ^ 20 = 1048576 := by decide
  have l16 : x.length ≤ S16 := by omega
  have lf : leftL x 0 = x := by
    unfold leftL
    have := List.length_pos_iff.mpr hne
    rw [if_pos ⟨by omega, by omega⟩, if_pos (Int.le_refl 0)]
    rfl
  have hb : (0 : Int) + ((0 : Nat) : Int) = 0 := rfl
  have F0 := from_of hl (b := 0) (by omega) (by omega)
  rw [lf] at F0
  have S : Std7 t x 0 x 0 nx o := ⟨F0, Nat.zero_le _, hx, h0⟩
  have hi : -(x.length : Int) ≤ (x.length : Int) + 1 ∧ (-(x.length : Int)).natAbs < 2 ^ 20 ∧ ((x.length : Int) + 1).natAbs < 2 ^ 20 :=
    ⟨Int.le_trans (Int.neg_nonpos_of_nonneg (Int.natCast_nonneg _)) (Int.natCast_nonneg (x.length + 1)), by rw [Int.natAbs_neg]; exact Nat.lt_of_le_of_lt hl (by decide), Nat.lt_of_le_of_lt (Nat.succ_le_succ hl) (by decide)⟩
  have hzl : (zs.map PV.int).length ≤ S16 := by rw [List.length_map]; omega
  obtain ⟨s, rfl, hg⟩ : ∃ s, nx = some s ∧ Sgn x s := by
    rcases from_end S with ⟨_, e⟩ | ⟨s, e, h, _⟩
    · have := List.length_pos_iff.mpr hne
      rw [hb] at e
      omega
    · exact ⟨s, e, h⟩
  obtain ⟨r, h1, h2, h3, h4, _⟩ := hg
  have hp : x.length ≤ S16 ∧ s.length ≤ S16 := ⟨l16, by omega⟩
  have hpre : (!List.isPrefixOf s x) = false := by
    rw [Bool.not_eq_false', List.isPrefixOf_iff_prefix]
    exact ⟨r, h2.symm⟩
  have h30 : (zs.take 30).length ≤ 30 := by rw [List.length_take]; exact Nat.min_le_left _ _
  ktr_unf
  rw [rng_ints]
  refine comp_g (n := n + 3868) (x := x) l16 _ [] fun v => ?_
  rw [List.nil_append]
  refine call_i (pos_k (p := 0) (by kt_len) h0 hx ?_ _ (by exact le_fuel rfl))
  ktr_unf
  k_search (eq_t rfl)
  k_search h0
  k_search hpre
  conv => whnf
  rw [show sliL (zs.map PV.int) none (some 30) = (zs.map PV.int).take 30 from sli_take _ 30]
  refine And.intro (by rw [List.length_take]; show _ + 6 ≤ S16; omega) ?_
  rw [← List.map_take, show (zs.take 30).map PV.int ++ [PV.int 0, PV.int 6, PV.int 12, PV.int 18, PV.int 24, PV.int 0] = (zs.take 30 ++ [0, 6, 12, 18, 24, 0]).map .int from by rw [List.map_append]; rfl]
  refine And.intro (by rw [List.length_map, List.length_append]; show _ + 6 ≤ S16; omega) ?_
  unfold Loop
  refine loop9 (sc := .lst (zs.map .int)) hl hne (zs.take 30 ++ [0, 6, 12, 18, 24, 0]) _ (Nat.le_trans (Nat.add_le_add_left (show _ ≤ 36 by rw [List.length_append]; exact Nat.add_le_add_right h30 6) 3200) (le_fuel rfl)) S fun S2 => ?_
  unfold SG
  ktr_unf
  exact rfl
theorem law07 (zs : List Int) (hz : zs.length ≤ 63) : (W Γ7 4000).Ss ⟨0, false, true, true⟩ c0 ⟨some (.lst (zs.map .int)) :: List.replicate 17 none, none, none, []⟩ fun r _ => r = .ok (.ret (.bool true)) := by
  have hl := text_len zs
  have s16 : S16 = 16777216 := rfl
  have p60 : (2 : Nat) ^ 60 = 1152921504606846976 := by decide
  have g1 : (textL 16 zs).length < 2 ^ 60 := by omega
  have hzl : (zs.map PV.int).length ≤ 16384 := by rw [List.length_map]; omega
  have hnil : textL 16 zs ≠ [] := fun q => by rw [q] at hl; cases hl
  have rest : ∀ {t : Bool} {nx : Option (List Nat)} {o : List (List PV)}, nxt (textL 16 zs) 0 = some nx → o[0]? = some (tokA t (textL 16 zs) 0 nx) → _ := fun {t nx o} hx h0 => rest7 (n := 97) (zs := zs) (t := t) (o := o) hz (by omega) hnil hx h0
  obtain ⟨n, hn⟩ : ∃ n, 4000 = n + 3990 := ⟨10, rfl⟩
  ktr_unf
  refine call_i (pattern_c (most := 16) (by kt_len) hz ?_ _ (by decide))
  ktr_unf
  conv => whnf
  refine cond_d (fun e => ?_) fun e => ?_
  · refine call_i (octets_c (x := textL 16 zs) (by kt_len) (by omega) (text_low zs) ?_ _ (by decide))
    ktr_unf
    refine call_i (init_k (t := false) (x := textL 16 zs) (i := 0) (by kt_len) rfl (by omega) hnil (text_start zs) (fun nx hx => ?_) _ (by decide))
    conv => whnf
    exact rest hx rfl
  · refine call_i (init_k (t := true) (x := textL 16 zs) (i := 0) (by kt_len) rfl (by omega) hnil (text_start zs) (fun nx hx => ?_) _ (by decide))
    conv => whnf
    exact rest hx rfl
end
end Mine
end

noncomputable section
open PySem PySem.W PySem.Calls PyProof.Rows PySem.SeqAt
set_option maxRecDepth 100000
namespace Mine
noncomputable def ppOk (K : Frag) : Bool := match findIn K (.ref 133) (Str.ofString "pos") with
  | some (some (.ref p)) => specialIn K (.ref p) "__get__" == some (some (.builtin "property.__get__")) && (takesIn K (.ref p) == some true && (match recIn K p "property" with | some (g :: _) => g == .ref 100 | _ => false))
  | _ => false
theorem pp_of {K : Frag} (h : ppOk K = true) : ∃ p rest, findIn K (.ref 133) (Str.ofString "pos") = some (some (.ref p)) ∧ specialIn K (.ref p) "__get__" = some (some (.builtin "property.__get__")) ∧ takesIn K (.ref p) = some true ∧ recIn K p "property" = some (.ref 100 :: rest) := by
  unfold ppOk at h
  split at h
  · rename_i p e
    refine and3 h fun h1 h2 h3 => ?_
    split at h3
    · rename_i g r e2
      exact ⟨p, r, e, eq_of_beq h1, eq_of_beq h2, by rw [e2, eq_of_beq h3]⟩
    · cases h3
  · cases h
/-- the number of the one default's value -/
noncomputable def dfTok (K : Frag) (f : Addr) : Tok := match funcIn K f with
  | some fd => (match fd.defaults with
    | .ref T => (match K.lookup T with
      | some ⟨_, _, .seq vs _, _⟩ => (match (vs[0]? : Option Value) with
        | some (.int _ t) => t
        | _ => 0)
      | _ => 0)
    | _ => 0)
  | none => 0
theorem cond_e {b : Bool} {a r : Option Fn} {fn : Fn} (h : cond b a r = some fn) : (b = true ∧ a = some fn) ∨ r = some fn := by
  cases b with
  | true => exact .inl ⟨rfl, h⟩
  | false => exact .inr h
theorem gok {B : Base} (h58 : fnOk B.K 60 58 n58 ⟨2, [], 0, c58⟩ = true) (h65 : fnOk B.K 60 65 n65 ⟨1, [], 2, c65⟩ = true) (h72 : fnOk B.K 60 72 n72 ⟨2, [], 0, c72⟩ = true) (h79 : fnOk B.K 60 79 n79 ⟨1, [], 1, c79⟩ = true) (h86 : fnOk B.K 60 86 n86 ⟨3, [], 3, c86⟩ = true) (h100 : fnOk B.K 60 100 n100 ⟨1, [], 0, c100⟩ = true) (h108 : fnOk B.K 60 108 n108 ⟨1, [], 0, c108⟩ = true) (h115 : fnOk B.K 60 115 n115 ⟨2, [], 0, c115⟩ = true) (h123 : fnOkD B.K 60 123 n123 ⟨3, [.int 0], 0, c123⟩ = true) 
    (e2 : ∀ S a b, ((funcIn B.K 123).bind fun fd => peek B.K S (bindArgs fd ⟨[a, b], []⟩)) = some [(Str.ofString "self", a), (Str.ofString "msg", b), (Str.ofString "offset", .int 0 (dfTok B.K 123))])
    (e3 : ∀ S a b c, ((funcIn B.K 123).bind fun fd => peek B.K S (bindArgs fd ⟨[a, b, c], []⟩)) = some [(Str.ofString "self", a), (Str.ofString "msg", b), (Str.ofString "offset", c)])
    (h142 : fnOk B.K 60 142 n142 ⟨1, [], 0, c142⟩ = true) (h149 : fnOk B.K 60 149 n149 ⟨1, [], 3, c149⟩ = true) (h154 : fnOk B.K 60 154 n154 ⟨2, [], 1, c154⟩ = true) (h161 : fnOk B.K 60 161 n161 ⟨3, [], 2, c161⟩ = true) (h38 : iniOk B.K B.prog 60 n38 ⟨3, [], 1, c38⟩ (Str.ofString "self") 25 37 = true)
    (b58 : ∀ a b S, bnd B.K 58 S [a, b] = some ((n58.take 2).zip [a, b]))
    (b65 : ∀ a S, bnd B.K 65 S [a] = some ((n65.take 1).zip [a]))
    (b72 : ∀ a b S, bnd B.K 72 S [a, b] = some ((n72.take 2).zip [a, b]))
    (b79 : ∀ a S, bnd B.K 79 S [a] = some ((n79.take 1).zip [a]))
    (b86 : ∀ a b c S, bnd B.K 86 S [a, b, c] = some ((n86.take 3).zip [a, b, c]))
    (b100 : ∀ a S, bnd B.K 100 S [a] = some ((n100.take 1).zip [a]))
    (b108 : ∀ a S, bnd B.K 108 S [a] = some ((n108.take 1).zip [a]))
    (b115 : ∀ a b S, bnd B.K 115 S [a, b] = some ((n115.take 2).zip [a, b]))
    (b142 : ∀ a S, bnd B.K 142 S [a] = some ((n142.take 1).zip [a]))
    (b149 : ∀ a S, bnd B.K 149 S [a] = some ((n149.take 1).zip [a]))
    (b154 : ∀ a b S, bnd B.K 154 S [a, b] = some ((n154.take 2).zip [a, b]))
    (b161 : ∀ a b c S, bnd B.K 161 S [a, b, c] = some ((n161.take 3).zip [a, b, c]))
    (b38 : ∀ a b c d S, bnd B.K 38 S [a, b, c, d] = some ((n38.take 4).zip [a, b, c, d])) : GOk B Γ7 := by
  refine ⟨fun f fn h hf => ?_, fun fn h => ?_⟩
  · rcases cond_e h with ⟨e, _⟩ | h
    · exact absurd (Nat.eq_of_beq_eq_true e) hf
    rcases cond_e h with ⟨e, h⟩ | h
    · cases Nat.eq_of_beq_eq_true e; cases h; exact ⟨60, fn_at h58 (b2 b58)⟩
    rcases cond_e h with ⟨e, h⟩ | h
    · cases Nat.eq_of_beq_eq_true e; cases h; exact ⟨60, fn_at h65 (b1 b65)⟩
    rcases cond_e h with ⟨e, h⟩ | h
    · cases Nat.eq_of_beq_eq_true e; cases h; exact ⟨60, fn_at h72 (b2 b72)⟩
    rcases cond_e h with ⟨e, h⟩ | h
    · cases Nat.eq_of_beq_eq_true e; cases h; exact ⟨60, fn_at h79 (b1 b79)⟩
    rcases cond_e h with ⟨e, h⟩ | h
    · cases Nat.eq_of_beq_eq_true e; cases h; exact ⟨60, fn_at h86 (b3 b86)⟩
    rcases cond_e h with ⟨e, h⟩ | h
    · cases Nat.eq_of_beq_eq_true e; cases h; exact ⟨60, fn_at h100 (b1 b100)⟩
    rcases cond_e h with ⟨e, h⟩ | h
    · cases Nat.eq_of_beq_eq_true e; cases h; exact ⟨60, fn_at h108 (b1 b108)⟩
    rcases cond_e h with ⟨e, h⟩ | h
    · cases Nat.eq_of_beq_eq_true e; cases h; exact ⟨60, fn_at h115 (b2 b115)⟩
    rcases cond_e h with ⟨e, h⟩ | h
    · cases Nat.eq_of_beq_eq_true e; cases h; exact ⟨60, fn_atD h123 rfl e2 e3⟩
    rcases cond_e h with ⟨e, h⟩ | h
    · cases Nat.eq_of_beq_eq_true e; cases h; exact ⟨60, fn_at h142 (b1 b142)⟩
    rcases cond_e h with ⟨e, h⟩ | h
    · cases Nat.eq_of_beq_eq_true e; cases h; exact ⟨60, fn_at h149 (b1 b149)⟩
    rcases cond_e h with ⟨e, h⟩ | h
    · cases Nat.eq_of_beq_eq_true e; cases h; exact ⟨60, fn_at h154 (b2 b154)⟩
    rcases cond_e h with ⟨e, h⟩ | h
    · cases Nat.eq_of_beq_eq_true e; cases h; exact ⟨60, fn_at h161 (b3 b161)⟩
    cases h
  · cases h; exact ⟨60, ini_at h38 (b4 b38)⟩
end Mine
end

noncomputable section
open PySem PySem.W PySem.Calls PyProof.Rows PySem.SeqAt
set_option maxRecDepth 100000
namespace Mine
set_option maxHeartbeats 8000000
noncomputable abbrev PG : Program := PySem.Challenge.rw_kq0018_07.row.prog
theorem law07_holds.tw5323660854649390722 : True := trivial
theorem law07_holds.tw9036473682832082155 : True := trivial
theorem law07_holds.tw1228888453233063106 : True := trivial
theorem law07_holds.tw14805353899320052107 : True := trivial
theorem law07_holds.tw4792584436682869803 : True := trivial
theorem law07_holds.tw6091982525672804730 : True := trivial
theorem law07_holds.tw18160143703615650607 : True := trivial
theorem law07_holds.tw14613880041709889262 : True := trivial
theorem law07_holds.tw14182226263789523457 : True := trivial
theorem law07_holds.tw9505406820568496239 : True := trivial
theorem law07_holds.tw18243211124910237953 : True := trivial
theorem law07_holds.tw9460376428068005591 : True := trivial
theorem law07_holds.tw2701309027647865665 : True := trivial
theorem law07_holds.tw11471026899230260989 : True := trivial
theorem law07_holds.tw15515754557760249427 : True := trivial
theorem law07_holds.tw11297273648594560897 : True := trivial
theorem law07_holds.tw15643233150101356200 : True := trivial
theorem law07_holds.tw9829993536334368059 : True := trivial
theorem law07_holds.tw2124309466179509842 : True := trivial
theorem law07_holds.tw14973737002827816468 : True := trivial
theorem law07_holds.tw11295927550044046306 : True := trivial
theorem law07_holds.tw16558841167263165728 : True := trivial
theorem law07_holds.tw2613846410768614560 : True := trivial
theorem law07_holds.tw6285579495739741280 : True := trivial
theorem law07_holds.tw16610008389584511702 : True := trivial
theorem law07_holds.tw13504307442165527640 : True := trivial
theorem law07_holds.tw345066636991401019 : True := trivial
theorem law07_holds.tw10071865791209951160 : True := trivial
theorem law07_holds.tw9585024728975505174 : True := trivial
theorem law07_holds.tw15712878349642393277 : True := trivial
theorem law07_holds.tw4668347851694689017 : True := trivial
theorem law07_holds.tw170193710609661260 : True := trivial
theorem law07_holds.tw15300633671625824446 : True := trivial
theorem law07_holds.tw10368461683773729859 : True := trivial
theorem law07_holds.tw12155153136188081653 : True := trivial
theorem law07_holds.tw15562887392377002824 : True := trivial
theorem law07_holds.tw8431782114886656777 : True := trivial
theorem law07_holds.tw1899474831625309540 : True := trivial
theorem law07_holds.tw16751000830295717446 : True := trivial
theorem law07_holds.tw4605033737012295902 : True := trivial
theorem law07_holds.tw7525858388575343530 : True := trivial
theorem law07_holds.tw6310349849753939515 : True := trivial
theorem law07_holds.tw10797772711911880176 : True := trivial
theorem law07_holds.tw13752138042958925466 : True := trivial
theorem law07_holds.tw8188944038366117693 : True := trivial
theorem law07_holds.tw6620373228149240796 : True := trivial
theorem law07_holds.tw9537486369559814211 : True := trivial
theorem law07_holds.tw10341422267773393271 : True := trivial
theorem law07_holds.tw2940909282693565975 : True := trivial
theorem law07_holds.tw5493821877297069582 : True := trivial
theorem law07_holds.tw17308773358544897473 : True := trivial
theorem law07_holds.tw6598877641496687606 : True := trivial
theorem law07_holds.tw9788647619183174512 : True := trivial
theorem law07_holds.tw17797556992192611251 : True := trivial
theorem law07_holds.tw1928788980512550082 : True := trivial
theorem law07_holds.tw16359378382351079160 : True := trivial
theorem law07_holds.tw8065339991201738039 : True := trivial
theorem law07_holds.tw10148975947980013706 : True := trivial
theorem law07_holds.tw5807028414352816537 : True := trivial
theorem law07_holds.tw2275018412200187783 : True := trivial
theorem law07_holds.tw574274032937545693 : True := trivial
theorem law07_holds.tw9165423021253131731 : True := trivial
theorem law07_holds.tw8758085496157986341 : True := trivial
theorem law07_holds.tw8478471969916010845 : True := trivial
theorem law07_holds.tw9285242207182795007 : True := trivial
theorem law07_holds.tw1284283099689572294 : True := trivial
theorem law07_holds.tw7735187566228838598 : True := trivial
theorem law07_holds.tw1618177838966957032 : True := trivial
theorem law07_holds.tw10112064373385290983 : True := trivial
theorem law07_holds.tw2075670348993856366 : True := trivial
theorem law07_holds.tw8515038351264872160 : True := trivial
theorem law07_holds.tw1514023839999077153 : True := trivial
theorem law07_holds.tw12882869587879795345 : True := trivial
theorem law07_holds.tw8524182227770764888 : True := trivial
theorem law07_holds.tw13470337890264612014 : True := trivial
theorem law07_holds.tw5447991863813602156 : True := trivial
theorem law07_holds.tw2733495880716542296 : True := trivial
theorem law07_holds.tw13351212807857648003 : True := trivial
theorem law07_holds.tw15542674466067473678 : True := trivial
theorem law07_holds.tw10139186082206588799 : True := trivial
theorem law07_holds.tw11310829805527627557 : True := trivial
theorem law07_holds.tw11500264845919278058 : True := trivial
theorem law07_holds.tw17527349745381884602 : True := trivial
theorem law07_holds.tw15549595477670339319 : True := trivial
theorem law07_holds.tw4002255256289625806 : True := trivial
theorem law07_holds.tw12334407908210492587 : True := trivial
theorem law07_holds.tw18003221110264939658 : True := trivial
theorem law07_holds.tw2191652181811445255 : True := trivial
theorem law07_holds.tw7764509581091229337 : True := trivial
theorem law07_holds.tw2153777125693825237 : True := trivial
theorem law07_holds.tw9469641951930741428 : True := trivial
theorem law07_holds.tw162149459805346057 : True := trivial
theorem law07_holds.tw16921371880077751839 : True := trivial
theorem law07_holds.tw4305677570621625046 : True := trivial
theorem law07_holds.tw4172299067682990681 : True := trivial
theorem law07_holds.tw15169976187265690561 : True := trivial
theorem law07_holds.tw12679641831539453848 : True := trivial
theorem law07_holds.tw15880128294096503316 : True := trivial
theorem law07_holds.tw7589645958835627997 : True := trivial
theorem law07_holds.tw6692881115702796257 : True := trivial
theorem law07_holds.tw4388057951216939843 : True := trivial
theorem law07_holds.tw9936467047431662110 : True := trivial
theorem law07_holds.tw8734109820907544056 : True := trivial
theorem law07_holds.tw14093108312721769172 : True := trivial
theorem law07_holds.tw7636927768665363604 : True := trivial
theorem law07_holds.tw750675115536538492 : True := trivial
theorem law07_holds.tw13340349057117224017 : True := trivial
theorem law07_holds.tw4190038512589053093 : True := trivial
theorem law07_holds.tw1223437467738060708 : True := trivial
theorem law07_holds.tw4226802068767684921 : True := trivial
theorem law07_holds.tw11694236256345088907 : True := trivial
theorem law07_holds.tw6835346194744613252 : True := trivial
theorem law07_holds.tw3536209551003624976 : True := trivial
theorem law07_holds.tw14482664726356058146 : True := trivial
theorem law07_holds.tw17849003570541328919 : True := trivial
theorem law07_holds.tw18193200955918482192 : True := trivial
theorem law07_holds.tw15843065450176007926 : True := trivial
theorem law07_holds.tw3803562427855675631 : True := trivial
theorem law07_holds.tw17703721120600892616 : True := trivial
theorem law07_holds.tw6624654974590480035 : True := trivial
theorem law07_holds.tw14148146503418813549 : True := trivial
theorem law07_holds.tw6218703757026483308 : True := trivial
theorem law07_holds.tw1501730698489345715 : True := trivial
theorem law07_holds.tw4613635328606157289 : True := trivial
theorem law07_holds.tw2551623271372165802 : True := trivial
theorem law07_holds.tw18364170904524212793 : True := trivial
theorem law07_holds.tw5443751824130175069 : True := trivial
theorem law07_holds.tw12913007895663824265 : True := trivial
theorem law07_holds.tw10586593208521966313 : True := trivial
theorem law07_holds.tw5859125378871817558 : True := trivial
theorem law07_holds.tw9624758006733936978 : True := trivial
theorem law07_holds.tw13856934621595930438 : True := trivial
theorem law07_holds.tw384249178732675609 : True := trivial
theorem law07_holds.tw14813406036384727900 : True := trivial
theorem law07_holds.tw14388521629198564958 : True := trivial
theorem law07_holds.tw2301869852254123325 : True := trivial
set_option Elab.async true in
theorem law07_holds : PySem.Challenge.rw_kq0018_07.Holds := by
  w_on
  o_law
  k_head
  (case hw => w_witness2)
  k_go0
  (all_goals try k_fold)
  rename Fr _ _ _ _ => F
  rename Frag.In _ _ => KX
  rename Top _ _ _ _ _ _ => T
  rename IntsAre _ _ => hI
  rename Heap.IsList _ _ _ => hL
  rename Shared.gens _ = _ => hg
  rename ¬ _ => hlen
  have S := Sta.mk KX (topRead_of T)
  rename Heap.CodeRec _ _ _ => hcd
  rename Below _ _ _ _ => z; clear z
  dsimp only at F ⊢
  rename News _ _ _ _ => N0
  rename CellsAre _ _ _ => z; clear z
  rename _ = Data.cell _ => hcl
  refine startR (M' := model PG _) rfl [(Str.ofString "script", Value.ref _)] F (bindL_one rfl) N0 (by simp) rfl rfl ?_ ?_
  · intro m' s'' F' hg' ho'
    show GoodW _ _ _ _ _ (.ok (.ret (.bool _))) _
    refine goodW_bool F' (hg'.trans hg) (raisesW_false ?_) ?_ ho'
    · wrow_none_raised
    · wrow_post
  clear F
  intro s' A Q' E' hQ R'
  exact law_run (B := ⟨_, _, _, _, _, PG, _⟩) (k := 60) (names := n0) (code := c0) (n := 4000) (nv := 17) (Γ := Γ7) ⟨⟨⟨by kernel_rfl, by kernel_rfl⟩, by kernel_rfl, by kernel_rfl, by kernel_rfl, by kernel_rfl, by kernel_rfl, by kernel_rfl, by kernel_rfl, by kernel_rfl, by kernel_rfl, by kernel_rfl, pp_of (by kernel_rfl)⟩, ⟨⟨_, _, _, _, _, _, _, _, _, _, _, _, _, _, _, by rfl, by rfl, by kernel_rfl, by kernel_rfl⟩, by kernel_rfl⟩, ⟨by kernel_rfl, by kernel_rfl, by kernel_rfl⟩⟩ (gok (by kernel_rfl) (by kernel_rfl) (by kernel_rfl) (by kernel_rfl) (by kernel_rfl) (by kernel_rfl) (by kernel_rfl) (by kernel_rfl) (by kernel_rfl) (fun S a b => by kernel_rfl) (fun S a b c => by kernel_rfl) (by kernel_rfl) (by kernel_rfl) (by kernel_rfl) (by kernel_rfl) (by kernel_rfl) (fun _ _ S => by kernel_rfl) (fun _ S => by kernel_rfl) (fun _ _ S => by kernel_rfl) (fun _ S => by kernel_rfl) (fun _ _ _ S => by kernel_rfl) (fun _ S => by kernel_rfl) (fun _ S => by kernel_rfl) (fun _ _ S => by kernel_rfl) (fun _ S => by kernel_rfl) (fun _ S => by kernel_rfl) (fun _ _ S => by kernel_rfl) (fun _ _ _ S => by kernel_rfl) (fun _ _ _ _ S => by kernel_rfl)) S (codeAt_of hcd) (CellsOf.one (y := Str.ofString "text") rfl (by kernel_rfl) hcl) rfl rfl rfl rfl rfl rfl rfl (by show 1 + claimMargin + 1 ≤ 310; decide) (by simp only [A, units_deeper, units_caller]; decide) rfl R' hL hI (by kernel_rfl) (by decide) rfl
    (law07 _ (by omega)) hQ
end Mine
end

theorem PySem.Challenge.cw_kq0018_07_holds : PySem.Challenge.rw_kq0018_07.Holds :=
  Mine.law07_holds
