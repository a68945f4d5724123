import PyProof.Rows.All
import Wide.All
import OpenK.AllK
import Wide.FinOn
import PySem.Challenge.RW_kq0018_02
set_option Elab.async false
set_option linter.all false
set_option genSizeOf false
set_option genInjectivity false

section
open PySem PySem.W PySem.Calls PyProof.Rows
namespace Mine

abbrev frs (l : List Env) : List Addr := l.filterMap (·.frame)

def Evo (fr V : List Addr) (h h' : Heap) : Prop :=
  ∀ b o, h.get? b = some o → b ∉ V → ∃ sl, h'.get? b = some { o with slots := sl } ∧ (b ∉ fr → sl = o.slots)

theorem Evo.keep {fr V : List Addr} {h h' : Heap} (e : Evo fr V h h') {b : Addr} {o : Obj} (hb : h.get? b = some o) (hV : b ∉ V) (hf : b ∉ fr) : h'.get? b = some o := by
  obtain ⟨sl, x, y⟩ := e b o hb hV
  rw [x, y hf]
theorem Evo.comp {fr fr' V V' : List Addr} {h h₁ h₂ : Heap} (x : Evo fr V h h₁) (y : Evo fr' V' h₁ h₂) (hV : ∀ b ∈ V', h.get? b = none ∨ b ∈ V) (hf : ∀ b ∈ fr', h.get? b = none ∨ b ∈ fr) : Evo fr V h h₂ := by
  intro b o hb hv
  have no : ¬ h.get? b = none := fun z => by rw [hb] at z; cases z
  obtain ⟨sl, a, c⟩ := x b o hb hv
  obtain ⟨sl', a', c'⟩ := y b _ a (fun q => (hV b q).elim no hv)
  refine ⟨sl', a', fun hn => ?_⟩
  rw [c' (fun q => (hf b q).elim no hn), c hn]
theorem Evo.fresh {fr V : List Addr} {h h' : Heap} (x : Evo fr V h h') {a : Addr} (ha : h'.get? a = none) : a ∈ V ∨ h.get? a = none := by
  by_cases hv : a ∈ V
  · exact .inl hv
  · cases q : h.get? a with
    | none => exact .inr rfl
    | some o => obtain ⟨sl, e, _⟩ := x a o q hv; rw [ha] at e; cases e
theorem get_size (h : Heap) : h.get? h.objs.size = none := by
  cases q : h.get? h.objs.size with
  | none => rfl
  | some o => exact absurd (Heap.lt_size q) (Nat.lt_irrefl _)
theorem Evo.push (fr V : List Addr) (h : Heap) (o : Obj) : Evo fr V h (h.push o) :=
  fun _ o' e _ => ⟨o'.slots, Heap.get?_push_of_some o e, fun _ => rfl⟩
theorem Evo.sameBut {a : Addr} {h h' : Heap} (fr : List Addr) (x : Heap.SameBut a h h') : Evo fr [a] h h' :=
  fun b o e n => ⟨o.slots, (x.2 b (fun q => n (by rw [q]; exact List.mem_singleton.mpr rfl))).trans e, fun _ => rfl⟩
theorem Evo.keeps {h h' : Heap} (fr : List Addr) (k : ∀ b o, h.get? b = some o → h'.get? b = some o) : Evo fr [] h h' :=
  fun b o e _ => ⟨o.slots, k b o e, fun _ => rfl⟩
theorem Evo.mono {fr V V' : List Addr} {h h' : Heap} (x : Evo fr V h h') (hV : ∀ b ∈ V, b ∈ V') : Evo fr V' h h' :=
  fun b o e n => x b o e fun q => n (hV b q)

theorem ns_slots {h h' : Heap} {a : Addr} {m : Str → Option Value} (hn : h.Ns a m) (k : ∀ o, h.get? a = some o → ∃ sl, h'.get? a = some { o with slots := sl }) : h'.Ns a m := by
  obtain ⟨o, es, ep, ho, hd, r⟩ := hn
  obtain ⟨sl, e⟩ := k o ho
  exact ⟨_, es, ep, e, hd, r⟩

theorem ff_evo {hb : Heap} {fr V : List Addr} {h h' : Heap} (x : Evo fr V h h') : ∀ {l : List Env}, h.FunFrames hb l → (∀ a ∈ frs l, a ∉ V) → h'.FunFrames hb l
  | [], _, _ => trivial
  | env :: l, ⟨hk, ⟨L, o, hf, hn, ho, hd⟩, hr⟩, off => by
    have off' : ∀ a ∈ frs l, a ∉ V := fun a ha => off a (by
      obtain ⟨e, he, hfe⟩ := List.mem_filterMap.mp ha
      exact List.mem_filterMap.mpr ⟨e, .tail _ he, hfe⟩)
    obtain ⟨sl, e, _⟩ := x L o ho (off L (List.mem_filterMap.mpr ⟨env, .head _, hf⟩))
    exact ⟨hk, ⟨L, _, hf, hn, e, hd⟩, ff_evo x hr off'⟩

abbrev Vars := List (Str × Value)
def vmap (m : Vars) : Str → Option Value := fun x => m.lookup x
inductive Put (x : Str) (v : Value) : Vars → Vars → Prop
  | nil : Put x v [] [(x, v)]
  | here {w r} : Put x v ((x, w) :: r) ((x, v) :: r)
  | there {y w r r'} : (x == y) = false → (y == x) = false → Put x v r r' → Put x v ((y, w) :: r) ((y, w) :: r')
theorem Put.eq {x : Str} {v : Value} {m m' : Vars} (p : Put x v m m') : vmap m' = fun y => if y = x then some v else vmap m y := by
  induction p with
  | nil =>
    funext y
    by_cases h : y = x
    · subst h; simp [vmap, List.lookup]
    · have : (y == x) = false := beq_eq_false_iff_ne.mpr h
      simp [vmap, List.lookup, this, h]
  | here =>
    funext y
    by_cases h : y = x
    · subst h; simp [vmap, List.lookup]
    · have : (y == x) = false := beq_eq_false_iff_ne.mpr h
      simp [vmap, List.lookup, this, h]
  | @there z w r r' h1 h2 _ ih =>
    funext y
    have e := congrFun ih y
    simp only [vmap] at e ⊢
    simp only [List.lookup_cons]
    cases hz : y == z with
    | true =>
      have : y = z := eq_of_beq hz
      subst this
      have : ¬ y = x := beq_eq_false_iff_ne.mp h2
      simp [this]
    | false => simpa only [hz] using e

def NsW (h : Heap) (L : Addr) (m : Vars) : Prop := ∃ f, h.Ns L f ∧ ∀ x v, vmap m x = some v → f x = some v
theorem NsW.push {h : Heap} {L : Addr} {m : Vars} (n : NsW h L m) (o : Obj) : NsW (h.push o) L m := let ⟨f, a, b⟩ := n; ⟨f, a.push o, b⟩
theorem NsW.lt {h : Heap} {L : Addr} {m : Vars} (n : NsW h L m) : L < h.objs.size := let ⟨_, a, _⟩ := n; a.lt
theorem nsw_slots {h h' : Heap} {a : Addr} {m : Vars} (hn : NsW h a m) (k : ∀ o, h.get? a = some o → ∃ sl, h'.get? a = some { o with slots := sl }) : NsW h' a m := let ⟨f, x, y⟩ := hn; ⟨f, ns_slots x k, y⟩
structure RunH (hb : Heap) (l : List Env) (fr V : List Addr) (h₀ : Heap) (L : Addr) (m : Vars) (mu im : List (Addr × Obj)) (h : Heap) : Prop where
  stays : hb.StaysIn h
  ff : h.FunFrames hb l
  ns : NsW h L m
  evo : Evo fr V h₀ h
  hmu : ∀ p ∈ mu, h.get? p.1 = some p.2
  him : ∀ p ∈ im, h.get? p.1 = some p.2
  nodup : (mu.map (·.1)).Nodup
  apart : ∀ p ∈ mu, ∀ q ∈ im, p.1 ≠ q.1
  offm : ∀ p ∈ mu, p.1 ≠ L ∧ p.1 ∉ frs l ∧ hb.get? p.1 = none ∧ (p.1 ∈ V ∨ h₀.get? p.1 = none)
  offi : ∀ p ∈ im, p.1 ≠ L ∧ p.1 ∉ frs l
  L0 : hb.get? L = none ∧ h₀.get? L = none
  sub : ∀ a ∈ frs l, h₀.get? a = none ∨ a ∈ fr

section
variable {hb h₀ h h' : Heap} {l : List Env} {fr V : List Addr} {L : Addr} {m m' : Vars} {mu mu' im im' : List (Addr × Obj)}

theorem frs_base (x : h.FunFrames hb l) {a : Addr} (ha : a ∈ frs l) : hb.get? a = none ∧ ∃ o, h.get? a = some o := by
  obtain ⟨a1, o, a2, _⟩ := x.mem ha
  exact ⟨a1, o, a2⟩

theorem RunH.push (R : RunH hb l fr V h₀ L m mu im h) (o : Obj) (hf : o.isFreed = false) : RunH hb l fr V h₀ L m mu ((h.objs.size, o) :: im) (h.push o) := by
  have lt : ∀ p ∈ mu, p.1 < h.objs.size := fun p hp => Heap.lt_size (R.hmu p hp)
  refine ⟨fun b o' e => Heap.get?_push_of_some o (R.stays b o' e), ff_evo (Evo.push [] [] h o) R.ff (fun _ _ q => nomatch q), R.ns.push o, R.evo.comp (Evo.push fr [] h o) (fun _ q => nomatch q) (fun _ q => .inr q),
    fun p hp => Heap.get?_push_of_some o (R.hmu p hp), ?_, R.nodup, ?_, R.offm, ?_, R.L0, R.sub⟩
  · intro p hp
    rcases List.mem_cons.mp hp with rfl | hp
    · exact Heap.get?_push_size _ hf
    · exact Heap.get?_push_of_some o (R.him p hp)
  · intro p hp q hq
    rcases List.mem_cons.mp hq with rfl | hq
    · exact Nat.ne_of_lt (lt p hp)
    · exact R.apart p hp q hq
  · intro p hp
    rcases List.mem_cons.mp hp with rfl | hp
    · exact ⟨Nat.ne_of_gt R.ns.lt, fun q => by obtain ⟨_, o', e⟩ := frs_base R.ff q; exact Nat.lt_irrefl _ (Heap.lt_size e)⟩
    · exact R.offi p hp
theorem RunH.pushM (R : RunH hb l fr V h₀ L m mu im h) (o : Obj) (hf : o.isFreed = false) : RunH hb l fr V h₀ L m ((h.objs.size, o) :: mu) im (h.push o) := by
  have lt : ∀ p ∈ mu, p.1 < h.objs.size := fun p hp => Heap.lt_size (R.hmu p hp)
  refine ⟨fun b o' e => Heap.get?_push_of_some o (R.stays b o' e), ff_evo (Evo.push [] [] h o) R.ff (fun _ _ q => nomatch q), R.ns.push o, R.evo.comp (Evo.push fr [] h o) (fun _ q => nomatch q) (fun _ q => .inr q),
    ?_, fun p hp => Heap.get?_push_of_some o (R.him p hp), ?_, ?_, ?_, R.offi, R.L0, R.sub⟩
  · intro p hp
    rcases List.mem_cons.mp hp with rfl | hp
    · exact Heap.get?_push_size _ hf
    · exact Heap.get?_push_of_some o (R.hmu p hp)
  · refine List.nodup_cons.mpr ⟨fun q => ?_, R.nodup⟩
    obtain ⟨p, hp, e⟩ := List.mem_map.mp q
    exact Nat.lt_irrefl _ (e ▸ lt p hp)
  · intro p hp q hq
    rcases List.mem_cons.mp hp with rfl | hp
    · exact Nat.ne_of_gt (Heap.lt_size (R.him q hq))
    · exact R.apart p hp q hq
  · intro p hp
    rcases List.mem_cons.mp hp with rfl | hp
    · exact ⟨Nat.ne_of_gt R.ns.lt, fun q => by obtain ⟨_, o', e⟩ := frs_base R.ff q; exact Nat.lt_irrefl _ (Heap.lt_size e), R.stays.fresh, R.evo.fresh (get_size h)⟩
    · exact R.offm p hp
theorem RunH.setNs (R : RunH hb l fr V h₀ L m mu im h) (hn : NsW h' L m') (hs : Heap.SameBut L h h') (hff : L ∈ frs l → ∃ o', h'.get? L = some o' ∧ ∀ vs, o'.data ≠ .fields vs) : RunH hb l fr V h₀ L m' mu im h' := by
  refine ⟨fun b o e => (hs.2 b fun q => by rw [q, R.L0.1] at e; cases e).trans (R.stays b o e), ?_, hn, R.evo.comp (Evo.sameBut fr hs) (fun b q => .inl (by rw [List.mem_singleton.mp q]; exact R.L0.2)) (fun _ q => .inr q),
    fun p hp => (hs.2 _ (R.offm p hp).1).trans (R.hmu p hp), fun p hp => (hs.2 _ (R.offi p hp).1).trans (R.him p hp), R.nodup, R.apart, R.offm, R.offi, R.L0, R.sub⟩
  have go : ∀ l', (∀ a ∈ frs l', a ∈ frs l) → h.FunFrames hb l' → h'.FunFrames hb l' := by
    intro l'
    induction l' with
    | nil => intro _ _; trivial
    | cons env r ih =>
      rintro sub ⟨hk, ⟨L', o, hf, hn', ho, hd⟩, hr⟩
      refine ⟨hk, ?_, ih (fun a ha => sub a (by obtain ⟨e, he, hfe⟩ := List.mem_filterMap.mp ha; exact List.mem_filterMap.mpr ⟨e, .tail _ he, hfe⟩)) hr⟩
      by_cases q : L' = L
      · subst q
        obtain ⟨o', e, hd'⟩ := hff (sub L' (List.mem_filterMap.mpr ⟨env, .head _, hf⟩))
        exact ⟨L', o', hf, hn', e, hd'⟩
      · exact ⟨L', o, hf, hn', (hs.2 L' q).trans ho, hd⟩
  exact go l (fun _ q => q) R.ff
theorem ns_notFields {a : Addr} {f : Str → Option Value} (hn : h.Ns a f) : ∃ o, h.get? a = some o ∧ ∀ vs, o.data ≠ .fields vs :=
  let ⟨o, _, _, ho, hd, _⟩ := hn; ⟨o, ho, fun vs q => by rw [hd] at q; cases q⟩

inductive UpdL (d : Addr) (o o' : Obj) : List (Addr × Obj) → List (Addr × Obj) → Prop
  | head {r} : UpdL d o o' ((d, o) :: r) ((d, o') :: r)
  | tail {p r r'} : UpdL d o o' r r' → UpdL d o o' (p :: r) (p :: r')
theorem UpdL.mem {d : Addr} {o o' : Obj} (U : UpdL d o o' mu mu') : (d, o) ∈ mu := by
  induction U with
  | head => exact .head _
  | tail _ ih => exact .tail _ ih
theorem UpdL.addr {d : Addr} {o o' : Obj} (U : UpdL d o o' mu mu') : mu'.map (·.1) = mu.map (·.1) := by
  induction U with
  | head => rfl
  | tail _ ih => simp [ih]
theorem UpdL.back {d : Addr} {o o' : Obj} (U : UpdL d o o' mu mu') : ∀ p ∈ mu', (p ∈ mu ∧ p.1 ≠ d) ∨ p = (d, o') ∨ (p ∈ mu ∧ ¬ (mu.map (·.1)).Nodup) := by
  induction U with
  | @head r =>
    intro p hp
    rcases List.mem_cons.mp hp with rfl | hp
    · exact .inr (.inl rfl)
    · by_cases q : p.1 = d
      · refine .inr (.inr ⟨.tail _ hp, fun nd => ?_⟩)
        simp only [List.map_cons, List.nodup_cons] at nd
        exact nd.1 (List.mem_map.mpr ⟨p, hp, q⟩)
      · exact .inl ⟨.tail _ hp, q⟩
  | @tail x r r' U ih =>
    intro p hp
    rcases List.mem_cons.mp hp with rfl | hp
    · by_cases q : p.1 = d
      · refine .inr (.inr ⟨.head _, fun nd => ?_⟩)
        simp only [List.map_cons, List.nodup_cons] at nd
        exact nd.1 (List.mem_map.mpr ⟨_, U.mem, q.symm⟩)
      · exact .inl ⟨.head _, q⟩
    · rcases ih p hp with ⟨a, b⟩ | a | ⟨a, b⟩
      · exact .inl ⟨.tail _ a, b⟩
      · exact .inr (.inl a)
      · refine .inr (.inr ⟨.tail _ a, fun nd => b ?_⟩)
        simp only [List.map_cons, List.nodup_cons] at nd
        exact nd.2

theorem RunH.call1 {d : Addr} {o o' : Obj} (R : RunH hb l fr V h₀ L m mu im h) (U : UpdL d o o' mu mu') (st : hb.StaysIn h') (ff : h'.FunFrames hb l) (e : Evo (frs l) [d] h h') (hd : h'.get? d = some o') :
    RunH hb l fr V h₀ L m mu' im h' := by
  have D := R.offm _ U.mem
  refine ⟨st, ff, nsw_slots R.ns fun oL hL => let ⟨sl, a, _⟩ := e L oL hL (fun q => D.1 (List.mem_singleton.mp q).symm); ⟨sl, a⟩,
    R.evo.comp e (fun b q => by rw [List.mem_singleton.mp q]; exact D.2.2.2.symm) (fun b q => R.sub b q), fun p hp => ?_, fun p hp => ?_, by rw [U.addr]; exact R.nodup, fun p hp q hq => ?_, fun p hp => ?_, R.offi, R.L0, R.sub⟩
  · rcases U.back p hp with ⟨a, b⟩ | rfl | ⟨_, b⟩
    · exact e.keep (R.hmu p a) (fun q => b (List.mem_singleton.mp q)) (R.offm p a).2.1
    · exact hd
    · exact absurd R.nodup b
  · exact e.keep (R.him p hp) (fun q => R.apart _ U.mem p hp (List.mem_singleton.mp q).symm) (R.offi p hp).2
  · rcases U.back p hp with ⟨a, _⟩ | rfl | ⟨_, b⟩
    · exact R.apart p a q hq
    · exact R.apart _ U.mem q hq
    · exact absurd R.nodup b
  · rcases U.back p hp with ⟨a, _⟩ | rfl | ⟨_, b⟩
    · exact R.offm p a
    · exact D
    · exact absurd R.nodup b
theorem RunH.call0 (R : RunH hb l fr V h₀ L m mu im h) (st : hb.StaysIn h') (ff : h'.FunFrames hb l) (e : Evo (frs l) [] h h') : RunH hb l fr V h₀ L m mu im h' :=
  ⟨st, ff, nsw_slots R.ns fun oL hL => let ⟨sl, a, _⟩ := e L oL hL (fun q => nomatch q); ⟨sl, a⟩, R.evo.comp e (fun _ q => nomatch q) (fun b q => R.sub b q),
    fun p hp => e.keep (R.hmu p hp) (fun q => nomatch q) (R.offm p hp).2.1, fun p hp => e.keep (R.him p hp) (fun q => nomatch q) (R.offi p hp).2, R.nodup, R.apart, R.offm, R.offi, R.L0, R.sub⟩
theorem RunH.more (R : RunH hb l fr V h₀ L m mu im h) {a : Addr} {o : Obj} (e : h.get? a = some o) (h1 : ∀ p ∈ mu, p.1 ≠ a) (h2 : a ≠ L) (h3 : a ∉ frs l) : RunH hb l fr V h₀ L m mu ((a, o) :: im) h :=
  ⟨R.stays, R.ff, R.ns, R.evo, R.hmu, fun p hp => by rcases List.mem_cons.mp hp with rfl | hp; exact e; exact R.him p hp, R.nodup,
    fun p hp q hq => by rcases List.mem_cons.mp hq with rfl | hq; exact h1 p hp; exact R.apart p hp q hq, R.offm, fun p hp => by rcases List.mem_cons.mp hp with rfl | hp; exact ⟨h2, h3⟩; exact R.offi p hp, R.L0, R.sub⟩
theorem RunH.less (R : RunH hb l fr V h₀ L m mu im h) (k : ∀ p ∈ im', p ∈ im) : RunH hb l fr V h₀ L m mu im' h :=
  ⟨R.stays, R.ff, R.ns, R.evo, R.hmu, fun p hp => R.him p (k p hp), R.nodup, fun p hp q hq => R.apart p hp q (k q hq), R.offm, fun p hp => R.offi p (k p hp), R.L0, R.sub⟩
theorem RunH.upd {d : Addr} {o o' : Obj} (R : RunH hb l fr V h₀ L m mu im h) (U : UpdL d o o' mu mu') (hs : Heap.SameBut d h h') (hd : h'.get? d = some o') : RunH hb l fr V h₀ L m mu' im h' :=
  R.call1 U (fun b o e => (hs.2 b fun q => by have := (R.offm _ U.mem).2.2.1; rw [← q, e] at this; cases this).trans (R.stays b o e))
    (ff_evo (Evo.sameBut (frs l) hs) R.ff fun a ha q => (R.offm _ U.mem).2.1 (by rw [← List.mem_singleton.mp q]; exact ha)) (Evo.sameBut _ hs) hd
end
end Mine
end

section
open PySem PySem.W PySem.Calls PyProof.Rows
set_option maxRecDepth 100000
namespace Mine

inductive Get (x : Str) : Vars → Value → Prop
  | here {v r} : Get x ((x, v) :: r) v
  | there {y w r v} : (x == y) = false → Get x r v → Get x ((y, w) :: r) v
theorem Get.eq {x : Str} {m : Vars} {v : Value} (h : Get x m v) : vmap m x = some v := by
  induction h with
  | here => simp [vmap, List.lookup]
  | there e _ ih => simp only [vmap, List.lookup, e]; exact ih
inductive UpdG (d : Addr) (o : Obj) : List (Addr × Obj) → (Obj → List (Addr × Obj)) → Prop
  | head {r} : UpdG d o ((d, o) :: r) (fun o' => (d, o') :: r)
  | tail {p r g} : UpdG d o r g → UpdG d o (p :: r) (fun o' => p :: g o')
theorem UpdG.upd {d : Addr} {o : Obj} {mu : List (Addr × Obj)} {g : Obj → List (Addr × Obj)} (U : UpdG d o mu g) (o' : Obj) : UpdL d o o' mu (g o') := by
  induction U with
  | head => exact .head
  | tail _ ih => exact .tail ih
theorem UpdG.mem {d : Addr} {o : Obj} {mu : List (Addr × Obj)} {g : Obj → List (Addr × Obj)} (U : UpdG d o mu g) : (d, o) ∈ mu := (U.upd o).mem

structure Sta (K : Frag) (p : Program) (loose : List Str) (mg mb : Str → Option Value) (hb : Heap) : Prop where
  X : K.In hb
  T : TopRead p loose mg mb hb

structure Run (hb : Heap) (l : List Env) (fr V : List Addr) (s₀ : Shared) (L : Addr) (m : Vars) (mu im : List (Addr × Obj)) (s : Shared) : Prop where
  H : RunH hb l fr V s₀.heap L m mu im s.heap
  oth : s.gens = s₀.gens ∧ s.drawn = s₀.drawn ∧ s.os = s₀.os

section
variable {prog : Program} {w : World} {A : Around} {E : Value → Shared → Prop} {s s₀ s' : Shared} {K : Frag} {p : Program} {loose : List Str} {mg mb : Str → Option Value} {env : Env}
variable {hb h' : Heap} {l : List Env} {fr V : List Addr} {L : Addr} {m m' : Vars} {mu mu' im im' : List (Addr × Obj)} {x name : Str} {v : Value} {pos : Pos} {tk : Nat}

theorem Run.of {h' : Heap} {tk : Nat} (R : Run hb l fr V s₀ L m mu im s) (H : RunH hb l fr V s₀.heap L m' mu' im' h') : Run hb l fr V s₀ L m' mu' im' { s with heap := h', toks := tk } := ⟨H, R.oth⟩
theorem Run.tok (R : Run hb l fr V s₀ L m mu im s) (tk : Nat) : Run hb l fr V s₀ L m mu im { s with toks := tk } := ⟨R.H, R.oth⟩
theorem Run.kin (R : Run hb l fr V s₀ L m mu im s) (S : Sta K p loose mg mb hb) : K.In s.heap := S.X.keeps R.H.stays
theorem Run.less (R : Run hb l fr V s₀ L m mu im s) (k : ∀ p ∈ im', p ∈ im) : Run hb l fr V s₀ L m mu im' s := ⟨R.H.less k, R.oth⟩
theorem gen_tok {α : Type} {M : Model} {t : Sem α} {Q : α → Shared → Prop} (R : Run hb l fr V s₀ L m mu im s) (h : ∀ s', Run hb l fr V s₀ L m mu im s' → wpAny M A t Q E s') : wpAny M A t Q E { s with toks := tk } := h _ (R.tok tk)

theorem name_l {Q : Value → Shared → Prop} (R : Run hb l fr V s₀ L m mu im s) (hv : Get x m v) (h : Q v s) (hL : env.locals = L := by rfl)
    (hk : env.scope.kind = .function := by kernel_rfl!) (hx : env.kindOf x = some .local := by kernel_rfl!) (hd : (x == ("__debug__" : Str)) = false := by decide +kernel) : wpAny (model prog w) A (eval (.Name x pos) env) Q E s :=
  let ⟨_, n1, n2⟩ := (hL ▸ R.H.ns : NsW s.heap env.locals m); wpAny_Name (wpAny_loadName_local hk hx n1 (n2 _ _ hv.eq) h) hd
theorem loadName_l {Q : Value → Shared → Prop} (R : Run hb l fr V s₀ L m mu im s) (hv : Get x m v) (h : Q v s) (hL : env.locals = L := by rfl)
    (hk : env.scope.kind = .function := by kernel_rfl!) (hx : env.kindOf x = some .local := by kernel_rfl!) : wpAny (model prog w) A (loadName env x) Q E s :=
  let ⟨_, n1, n2⟩ := (hL ▸ R.H.ns : NsW s.heap env.locals m); wpAny_loadName_local hk hx n1 (n2 _ _ hv.eq) h
theorem name_g {Q : Value → Shared → Prop} (R : Run hb l fr V s₀ L m mu im s) (S : Sta K p loose mg mb hb) (e : nsIn K mainGlobals x = some (some v)) (h : Q v s) (hg : env.globals = mainGlobals := by rfl)
    (hk : env.scope.kind = .function := by kernel_rfl!) (hx : env.kindOf x = some .globalImplicit := by kernel_rfl!) (hd : (x == ("__debug__" : Str)) = false := by decide +kernel) : wpAny (model prog w) A (eval (.Name x pos) env) Q E s :=
  Name_function_global hk hx (loadGlobal_global (hg ▸ S.T.g.keeps R.H.stays) (mg_of S.X S.T.g e) h) hd
theorem name_b {Q : Value → Shared → Prop} (R : Run hb l fr V s₀ L m mu im s) (S : Sta K p loose mg mb hb) (e : nsIn K mainGlobals x = some none) (hv : bootBuiltins x = some v) (hn : x ≠ "__name__") (h : Q v s)
    (hg : env.globals = mainGlobals := by rfl) (hb' : env.builtins = builtinsNs := by rfl)
    (hk : env.scope.kind = .function := by kernel_rfl!) (hx : env.kindOf x = some .globalImplicit := by kernel_rfl!) (hd : (x == ("__debug__" : Str)) = false := by decide +kernel) : wpAny (model prog w) A (eval (.Name x pos) env) Q E s :=
  Name_function_global hk hx (loadGlobal_builtin (hg ▸ S.T.g.keeps R.H.stays) (mg_none_of S.X S.T.g e) (hb' ▸ S.T.b.keeps R.H.stays) ((S.T.builtins x hn).trans hv) h) hd
theorem store_l {Q : Unit → Shared → Prop} (R : Run hb l fr V s₀ L m mu im s) (hp : Put x v m m') (h : ∀ s', Run hb l fr V s₀ L m' mu im s' → Q () s') (hL : env.locals = L := by rfl)
    (hk : env.scope.kind = .function := by kernel_rfl!) (hx : env.kindOf x = some .local := by kernel_rfl!) : wpAny (model prog w) A (storeName env x v) Q E s := by
  subst hL
  obtain ⟨f, n1, n2⟩ := R.H.ns
  refine wpAny_storeName_local hx n1 (fun h' hn hs => h _ (R.of (R.H.setNs ⟨_, hn, fun y u q => ?_⟩ hs fun _ => ns_notFields hn))) ?_
  · rw [hp.eq] at q
    dsimp only at q ⊢
    split at q
    · rename_i z; rw [if_pos z]; exact q
    · rename_i z; rw [if_neg z]; exact n2 _ _ q
  rw [hk]; rfl

theorem instAt (R : Run hb l fr V s₀ L m mu im s) {x d C : Addr} {od : Obj} {sl : Array (Option Value)} (h1 : (x, (⟨.ref C, some d, .plain, sl⟩ : Obj)) ∈ im) (h2 : (d, od) ∈ mu) : InstAt s.heap x ⟨.ref C, some d, .plain, sl⟩ C (some od) :=
  ⟨R.H.him _ h1, rfl, rfl, R.H.hmu _ h2⟩
theorem instAtI (R : Run hb l fr V s₀ L m mu im s) {x d C : Addr} {ox od : Obj} (h1 : (x, ox) ∈ im) (hc : ox.cls = .ref C) (hn : notCls ox = true) (hd : ox.dict = some d) (h2 : (d, od) ∈ im) : InstAt s.heap x ox C (some od) :=
  ⟨R.H.him _ h1, hc, hn, by rw [hd]; exact R.H.him _ h2⟩

theorem get_i {expr : Bool} {Q : Value → Shared → Prop} {attr : Option Value} {x C : Addr} {ox : Obj} {es : List DictEntry} {n : Nat} (R : Run hb l fr V s₀ L m mu im s) (S : Sta K p loose mg mb hb)
    (I : InstAt s.heap x ox C (some (dictOf es n))) (hg : plainGet K C name = true) (hh : hasDictIn K C = true)
    (ha : findIn K (.ref C) name = some attr) (hn : noGet K attr = true) (hl : getL name es = some (some v)) (hv : handedIn v = true) (h : ∀ s', Run hb l fr V s₀ L m mu im s' → Q v s') :
    wpAny (model prog w) A (getAttr (.ref x) name expr) Q E s :=
  get_value (R.kin S) I (plainGet_of hg).1 (findObj_own hh ha hn hl) hv (h _ (R.tok _))

theorem meth_i {pl : Sem Bool} {Q : Value × List Value → Shared → Prop} {f x C : Addr} {ox : Obj} {es : List DictEntry} {n : Nat} (R : Run hb l fr V s₀ L m mu im s) (S : Sta K p loose mg mb hb)
    (I : InstAt s.heap x ox C (some (dictOf es n))) (hg : plainGet K C name = true)
    (hf : findIn K (.ref C) name = some (some (.ref f))) (ht : isFn K (.ref f) = true) (hl : getL name es = some none) (h : Q (.ref f, [.ref x]) s) : wpAny (model prog w) A (getMethod (.ref x) name pl) Q E s :=
  method_fn (R.kin S) I (plainGet_of hg).1 (plainGet_of hg).2 hf (beq_iff_eq.mp ht) (by show (lookIn name (dictOf es n)).map _ = _; rw [lookIn_dict, hl]; rfl) h

theorem put_inst {ox od od' : Obj} {C dx x : Addr} {name : Str} {tk : Tok} {v : Value} {es : List DictEntry} {n : Nat} {RR : Result → Shared → Prop} (R : Run hb l fr V s₀ L m mu im s) (S : Sta K p loose mg mb hb)
    (I : InstAt s.heap x ox C (some od)) (hd : ox.dict = some dx) (hp : plainOver K C = true) (ht : takerIn K C name = some none) (hh : (clsIn K C).any (·.hasDict) = true)
    (hl : (lookIn name od).isSome = true) (e : Obj.putName name (PyData.keyHash w.params name) (.str name s.toks) v od = od') (e' : od'.data = .dict es.toArray n) (hz : es.length ≤ 1000) (U : UpdL dx od od' mu mu')
    (h : ∀ s', Run hb l fr V s₀ L m mu' im s' → RR (.ok (.ret .none)) s') :
    codeAny (model prog w) A (.call (.builtin "object.__setattr__") ⟨[.ref x, .str name tk, v], []⟩) RR s := by
  refine osa_open (R.kin S) I hp ht fun b => ?_
  obtain ⟨cd, hc, hd'⟩ := any_some hh
  have D := R.H.hmu _ U.mem
  have fz : od'.isFreed = false := by obtain ⟨_, _, dd, _⟩ := od'; cases e'; rfl
  have D' : (s.heap.update dx (Obj.putName name (PyData.keyHash w.params name) (.str name s.toks) v)).get? dx = some od' := e ▸ Heap.get?_update_self _ D (e ▸ fz)
  have R' := R.H.upd U (Heap.SameBut.update s.heap dx (Obj.putName name (PyData.keyHash w.params name) (.str name s.toks) v)) D'
  have X := R.kin S
  obtain ⟨hx, hcl, hn, -⟩ := I
  obtain ⟨oc, odi, oda, osl⟩ := ox
  dsimp only at hcl hd
  subst hcl hd
  refine wpAny_bind (wpAny_pure (wpAny_bind (wpAny_bind (wpAny_loadPart hx (wpAny_bind ((looks_clsIn X hc).here ?_))))))
  rw [hd']
  refine wpAny_pure (a := some dx) (wpAny_bind (wpAny_pure (wpAny_bind ?_)))
  unfold nsSet
  refine wpAny_bind (wpAny_bind (wpAny_askSetting (wpAny_pure (wpAny_bind (wpAny_mkText (wpAny_bind (wpAny_loadPart D ?_)))))))
  unfold lookIn at hl
  split at hl
  · rename_i es₀ n₀ q
    rw [q]
    dsimp only
    have c : (!es₀.any (·.key.isStr name) && es₀.any (·.refKey)) = false := by
      rw [← Array.any_toList, ← Array.any_toList]
      split at hl
      · rename_i en he
        rw [List.any_eq_true.mpr ⟨en, List.mem_of_find?_eq_some he, List.find?_some he⟩]; rfl
      · split at hl
        · cases hl
        · rename_i z; rw [Bool.not_eq_true] at z; rw [z, Bool.and_false]
    rw [aRefKeyMayBeTheName_at, c]
    refine wpAny_updatePart D ?_
    refine wpAny_bind (wpAny_lookBehind D' (by rw [e']; exact pastItsLine_dict (by rw [List.size_toArray, sizeLine_eq]; omega)) ?_)
    exact wpAny_pure (h _ (R.of R'))
  · cases hl

theorem set_i {Q : Unit → Shared → Prop} {x C dx : Addr} {ox : Obj} {es es' : List DictEntry} {n n' : Nat} (R : Run hb l fr V s₀ L m mu im s) (S : Sta K p loose mg mb hb)
    (I : InstAt s.heap x ox C (some (dictOf es n))) (hd : ox.dict = some dx)
    (hs : findIn K (.ref C) "__setattr__" = some (some (.builtin "object.__setattr__"))) (hp : plainOver K C = true) (ht : takerIn K C name = some none) (hh : hasDictIn K C = true) (hl : (getL name es).isSome = true)
    (e : (putL name (PyData.keyHash w.params name) (.str name (s.toks + 1)) v es, putN name es n) = (es', n')) (U : UpdL dx (dictOf es n) (dictOf es' n') mu mu') (hz : es'.length ≤ 1000)
    (h : ∀ s', Run hb l fr V s₀ L m mu' im s' → Q () s') :
    wpAny (model prog w) A (setAttr (.ref x) name v) Q E s := by
  obtain ⟨e1, e2⟩ := Prod.mk.inj e
  exact set_plain (R.kin S) I hs (put_inst (R.tok _) S I hd hp ht hh hl (by rw [putName_dict, e1, e2]) rfl hz U fun s' R' => h s' R')

theorem callWith_f {f : Value} {first : List Value} {e : Expr} {rest : List Expr} {Q : Value → Shared → Prop} (hk : keepIn K f = true)
    (h : wpAny (model prog w) A (spliced (backTo pos (starEach (e :: rest) env))) (fun vs s₁ => K.In s₁.heap ∧ wpAny (model prog w) A (call f (first ++ vs)) Q E s₁) E s)
    (he : starEach (e :: rest) env = (false, eval e env) :: starEach rest env := by rfl) (hplain : (backTo pos (starEach rest env)).any (·.1) = false := by rfl) :
    wpAny (model prog w) A (callWith pos f first (backTo pos (starEach (e :: rest) env)) []) Q E s := by
  rw [he] at h ⊢
  exact callWith_of (by show ((false || (backTo pos (starEach rest env)).any (·.1)) || false) = false; rw [hplain]; rfl) (keeps_K hk) (evalArgs_plain h)
theorem callWith_f0 {f : Value} {first : List Value} {Q : Value → Shared → Prop} (X : K.In s.heap) (hk : keepIn K f = true) (h : wpAny (model prog w) A (call f (first ++ [])) Q E s) :
    wpAny (model prog w) A (callWith pos f first (backTo pos (starEach [] env)) []) Q E s :=
  callWith_of rfl (keeps_K hk) (evalArgs_nil3 ⟨X, h⟩)

theorem gen_same {α : Type} {M : Model} {t : Sem α} {Q : α → Shared → Prop} (_R : Run hb l fr V s₀ L m mu im s) (h : wpAny M A t Q E s) : wpAny M A t Q E s := h
theorem anyE {α : Type} {M : Model} {t : Sem α} {Q : α → Shared → Prop} (h : ∀ E' : Value → Shared → Prop, wpAny M A t Q E' s) : wpAny M A t Q E s := h E
theorem const_int {i : Int} {k : Nat} {Q : Value → Shared → Prop} (R : Run hb l fr V s₀ L m mu im s) (h : ∀ u s', Run hb l fr V s₀ L m mu im s' → Q (.int i u) s') : wpAny (model prog w) A (eval (.Constant (.int i) k pos) env) Q E s :=
  wpAny_Constant_int (h _ _ (R.tok _))
theorem const_str {x : Str} {k : Nat} {Q : Value → Shared → Prop} (R : Run hb l fr V s₀ L m mu im s) (h : ∀ u s', Run hb l fr V s₀ L m mu im s' → Q (.str x u) s') : wpAny (model prog w) A (eval (.Constant (.str x) k pos) env) Q E s :=
  Constant_str (h _ _ (R.tok _))
theorem const_bytes {b : List UInt8} {k : Nat} {Q : Value → Shared → Prop} (R : Run hb l fr V s₀ L m mu im s) (h : ∀ u s', Run hb l fr V s₀ L m mu im s' → Q (.bytes b.toArray u) s') : wpAny (model prog w) A (eval (.Constant (.bytes b) k pos) env) Q E s :=
  fun _ _ _ => h _ _ (R.tok _)
theorem newTuple_r {vs : List Value} {Q : Value → Shared → Prop} (R : Run hb l fr V s₀ L m mu im s)
    (h : ∀ a s', Run hb l fr V s₀ L m mu ((a, { cls := .type "tuple", data := .seq vs.toArray }) :: im) s' → Q (.ref a) s') (hsz : vs.length ≤ sizeLine := by size_fits) :
    wpAny (model prog w) A (newTuple vs) Q E s := wpAny_newObj_type (h _ _ ⟨R.H.push _ rfl, R.oth⟩) (by show vs.toArray.size ≤ sizeLine; rw [List.size_toArray]; exact hsz)
end

section
variable {prog : Program} {w : World} {A : Around} {s s₀ : Shared} {K : Frag} {p : Program} {loose : List Str} {mg mb : Str → Option Value} {hb : Heap} {l : List Env}
  {R : Result → Shared → Prop} {name qual : Str} {params : Arguments} {body : List Stmt} {scope : Scope} {cl : List (Str × Addr)} {dV kV doc pm cdv ct oc : Value} {an od : Option Addr} {osl : Array (Option Value)} {f : Addr} {args : Args} {binds m : Vars}
theorem enter (V : List Addr) (mu im : List (Addr × Obj)) (S : Sta K p loose mg mb hb) (st : hb.StaysIn s.heap) (ff : s.heap.FunFrames hb l)
    (ho : K.lookup f = some ⟨oc, od, .func (fnX name qual params body scope cl dV kV doc pm an cdv ct), osl⟩) (hcd : codeIn K cdv qual = true) (hroom : A.depth < recursionLimit)
    (hbind : BindsTo s (fnX name qual params body scope cl dV kV doc pm an cdv ct) args binds) (hloc : ∀ y ∈ binds, scope.names.lookup y.1 = some .local) (hm : binds.reverse = m)
    (hmu : ∀ q ∈ mu, s.heap.get? q.1 = some q.2) (him : ∀ q ∈ im, s.heap.get? q.1 = some q.2) (nodup : (mu.map (·.1)).Nodup) (apart : ∀ q ∈ mu, ∀ r ∈ im, q.1 ≠ r.1)
    (offm : ∀ q ∈ mu, q.1 ∉ frs l ∧ hb.get? q.1 = none ∧ q.1 ∈ V) (offi : ∀ q ∈ im, q.1 ∉ frs l)
    (h : ∀ L s', let env := envX qual scope L f cdv cl; let B := A.deeper env; Run hb (env :: l) (frs l) V s L m mu im s' →
      wpAny (model prog w) B (execs body env) (fun fl s' => R (.ok (.ret (match fl with | .ret v => v | _ => .none))) s')
        (fun e s' => wpAny (model prog w) B (leaving env e) (fun _ s'' => R (.error e) s'') (fun e' s'' => R (.error e') s'') s') s')
    (hcell : ∀ x ∈ scope.names, x.2 ≠ .cell) (hco : scope.isCoroutine = false) (hgen : scope.isGenerator = false) (hk : scope.kind = .function) :
    codeAny (model prog w) A (.call (.ref f) args) R s := by
  refine codeAny_call_def (fd := fnX name qual params body scope cl dV kV doc pm an cdv ct) (body := body) (binds := binds) hroom (st _ _ (S.X _ _ ho)) rfl (S.T.nolimit.keeps st) (codeRec_of (S.X.keeps st) hcd) rfl hbind hcell hloc (fun h₁ hns hk₁ => ?_) hco hgen hk
  have lt : ∀ {a : Addr} {o : Obj}, s.heap.get? a = some o → a ≠ s.heap.objs.size := fun e => Nat.ne_of_lt (Heap.lt_size e)
  have nb : hb.get? s.heap.objs.size = none := st.fresh
  have nf : s.heap.objs.size ∉ frs l := fun q => by obtain ⟨_, o, e⟩ := frs_base ff q; exact Nat.lt_irrefl _ (Heap.lt_size e)
  have E1 : Evo (frs l) [] s.heap h₁ := Evo.keeps _ hk₁
  subst hm
  obtain ⟨oL, es, ep, hL, hLd, hLr⟩ := id hns
  refine h _ _ ⟨⟨fun b o e => hk₁ _ _ (st b o e), ⟨by show scope.kind ≠ _; rw [hk]; decide, ⟨_, oL, rfl, nb, hL, fun vs q => by rw [hLd] at q; cases q⟩, ff_evo E1 ff (fun _ _ q => nomatch q)⟩, ⟨_, hns, fun _ _ e => e⟩, E1.mono (fun _ q => nomatch q),
    fun q hq => hk₁ _ _ (hmu q hq), fun q hq => hk₁ _ _ (him q hq), nodup, apart, fun q hq => ⟨lt (hmu q hq), ?_, (offm q hq).2.1, .inl (offm q hq).2.2⟩, fun q hq => ⟨lt (him q hq), ?_⟩, ⟨nb, get_size _⟩, ?_⟩, rfl, rfl, rfl⟩
  · intro z
    rcases List.mem_cons.mp (show q.1 ∈ s.heap.objs.size :: frs l from z) with e | e
    · exact lt (hmu q hq) e
    · exact (offm q hq).1 e
  · intro z
    rcases List.mem_cons.mp (show q.1 ∈ s.heap.objs.size :: frs l from z) with e | e
    · exact lt (him q hq) e
    · exact offi q hq e
  · intro a ha
    rcases List.mem_cons.mp (show a ∈ s.heap.objs.size :: frs l from ha) with e | e
    · exact .inl (e ▸ get_size _)
    · exact .inr e

variable {fr V : List Addr} {L : Addr} {m₀ : Vars} {mu im : List (Addr × Obj)}
theorem enterRO (im₁ : List (Addr × Obj)) (binds m : Vars) (R₀ : Run hb l fr V s₀ L m₀ mu im s) (S : Sta K p loose mg mb hb) (hin : ∀ q ∈ im₁, q ∈ mu ∨ q ∈ im)
    (ho : K.lookup f = some ⟨oc, od, .func (fnX name qual params body scope cl dV kV doc pm an cdv ct), osl⟩) (hcd : codeIn K cdv qual = true) (hroom : A.depth < recursionLimit)
    (hbind : BindsTo s (fnX name qual params body scope cl dV kV doc pm an cdv ct) args binds) (hloc : ∀ y ∈ binds, scope.names.lookup y.1 = some .local) (hm : binds.reverse = m)
    (hcell : ∀ x ∈ scope.names, x.2 ≠ .cell) (hco : scope.isCoroutine = false) (hgen : scope.isGenerator = false) (hk : scope.kind = .function)
    (h : ∀ L s', let env := envX qual scope L f cdv cl; let B := A.deeper env; Run hb (env :: l) (frs l) [] s L m [] im₁ s' →
      wpAny (model prog w) B (execs body env) (fun fl s' => R (.ok (.ret (match fl with | .ret v => v | _ => .none))) s')
        (fun e s' => wpAny (model prog w) B (leaving env e) (fun _ s'' => R (.error e) s'') (fun e' s'' => R (.error e') s'') s') s') :
    codeAny (model prog w) A (.call (.ref f) args) R s :=
  enter [] [] im₁ S R₀.H.stays R₀.H.ff ho hcd hroom hbind hloc hm (fun _ q => nomatch q) (fun q hq => (hin q hq).elim (R₀.H.hmu q) (R₀.H.him q)) .nil (fun _ q => nomatch q) (fun _ q => nomatch q)
    (fun q hq => (hin q hq).elim (fun z => (R₀.H.offm q z).2.1) fun z => (R₀.H.offi q z).2) h hcell hco hgen hk
theorem enterRW (d : Addr) (o : Obj) (im₁ : List (Addr × Obj)) (binds m : Vars) (R₀ : Run hb l fr V s₀ L m₀ mu im s) (S : Sta K p loose mg mb hb) (hd : (d, o) ∈ mu) (hin : ∀ q ∈ im₁, q ∈ im)
    (ho : K.lookup f = some ⟨oc, od, .func (fnX name qual params body scope cl dV kV doc pm an cdv ct), osl⟩) (hcd : codeIn K cdv qual = true) (hroom : A.depth < recursionLimit)
    (hbind : BindsTo s (fnX name qual params body scope cl dV kV doc pm an cdv ct) args binds) (hloc : ∀ y ∈ binds, scope.names.lookup y.1 = some .local) (hm : binds.reverse = m)
    (hcell : ∀ x ∈ scope.names, x.2 ≠ .cell) (hco : scope.isCoroutine = false) (hgen : scope.isGenerator = false) (hk : scope.kind = .function)
    (h : ∀ L s', let env := envX qual scope L f cdv cl; let B := A.deeper env; Run hb (env :: l) (frs l) [d] s L m [(d, o)] im₁ s' →
      wpAny (model prog w) B (execs body env) (fun fl s' => R (.ok (.ret (match fl with | .ret v => v | _ => .none))) s')
        (fun e s' => wpAny (model prog w) B (leaving env e) (fun _ s'' => R (.error e) s'') (fun e' s'' => R (.error e') s'') s') s') :
    codeAny (model prog w) A (.call (.ref f) args) R s :=
  enter [d] [(d, o)] im₁ S R₀.H.stays R₀.H.ff ho hcd hroom hbind hloc hm (fun q hq => by rw [List.mem_singleton.mp hq]; exact R₀.H.hmu _ hd) (fun q hq => R₀.H.him q (hin q hq)) (by simp)
    (fun q hq r hr => by rw [List.mem_singleton.mp hq]; exact R₀.H.apart _ hd r (hin r hr)) (fun q hq => by rw [List.mem_singleton.mp hq]; exact ⟨(R₀.H.offm _ hd).2.1, (R₀.H.offm _ hd).2.2.1, .head _⟩)
    (fun q hq => (R₀.H.offi q (hin q hq)).2) h hcell hco hgen hk
end
section
variable {hb : Heap} {s₀ s s' : Shared} {l : List Env} {fr V : List Addr} {L L' : Addr} {m m' : Vars} {mu mu' muN im im' : List (Addr × Obj)} {env : Env}
theorem Run.back0 (R : Run hb l fr V s₀ L m mu im s) (R' : Run hb (env :: l) (frs l) [] s L' m' mu' im' s') : Run hb l fr V s₀ L m mu im s' :=
  ⟨R.H.call0 R'.H.stays R'.H.ff.2.2 R'.H.evo, R'.oth.1.trans R.oth.1, R'.oth.2.1.trans R.oth.2.1, R'.oth.2.2.trans R.oth.2.2⟩
theorem Run.back1 {d : Addr} {o o' : Obj} (R : Run hb l fr V s₀ L m mu im s) (U : UpdL d o o' mu muN) (R' : Run hb (env :: l) (frs l) [d] s L' m' mu' im' s') (hm : (d, o') ∈ mu') : Run hb l fr V s₀ L m muN im s' :=
  ⟨R.H.call1 U R'.H.stays R'.H.ff.2.2 R'.H.evo (R'.H.hmu _ hm), R'.oth.1.trans R.oth.1, R'.oth.2.1.trans R.oth.2.1, R'.oth.2.2.trans R.oth.2.2⟩
end
end Mine
end

section
open PySem PySem.W PySem.Calls PyProof.Rows
set_option maxRecDepth 100000
namespace Mine

abbrev exO (cls : Value) (dx : Option Addr) (a tb c2 c3 c4 : Value) : Obj := { cls := cls, dict := dx, data := .fields #[a, tb, c2, c3, c4, .none] }
abbrev tupO (vs : List Value) : Obj := { cls := .type "tuple", data := .seq vs.toArray }
def TbAt (o : Obj) (st : Value) : Prop := ∃ ts, o.data = .fields ts ∧ ts[3]? = some st

section
variable {α : Type} {M : Model} {prog : Program} {w : World} {A : Around} {E : Value → Shared → Prop} {s s₀ : Shared} {env : Env}
variable {hb : Heap} {l : List Env} {fr V : List Addr} {L F e T t : Addr} {m : Vars} {mu im : List (Addr × Obj)} {oT : Obj} {cls a c2 c3 c4 : Value} {dx : Option Addr}

theorem raiseWords_r {cls msg : String} {Q : α → Shared → Prop} (R : Run hb l fr V s₀ L m mu im s) (hp : PlainExc cls) (hh : A.handled = none)
    (k : ∀ e t u s', Run hb l fr V s₀ L m ((e, exO (.type cls) none (.ref t) .none .none .none (.bool false)) :: mu) ((t, tupO [.str msg u]) :: im) s' → E (.ref e) s') :
    wpAny M A (raiseErrorWords cls msg : Sem α) Q E s := by
  unfold raiseErrorWords
  refine wpAny_bind (wpAny_mkText (wpAny_bind ?_))
  unfold newExc newTuple
  refine wpAny_bind (wpAny_newObj_type ?_)
  refine wpAny_bind (m := firstArgMember _ _) (wpAny_of_eq (a := Value.none) (by simp only [firstArgMember, hp.first]; rfl) ?_)
  rw [hp.own]
  refine wpAny_newObj_type ?_
  unfold raiseNew
  refine wpAny_bind (wpAny_handled ?_)
  rw [hh]
  have R1 := R.H.push (tupO [.str msg s.toks]) rfl
  have R2 := R1.pushM (exO (.type cls) none (.ref s.heap.objs.size) .none .none .none (.bool false)) rfl
  first
    | exact wpAny_throw (k _ _ _ _ ⟨R2, R.oth⟩)
    | exact wpAny_bind (wpAny_pure (wpAny_throw (k _ _ _ _ ⟨R2, R.oth⟩)))
theorem raiseMade_r {cls msg : String} {Q : α → Shared → Prop} (R : Run hb l fr V s₀ L m mu im s) (hp : PlainExc cls) (hh : A.handled = none)
    (k : ∀ e t u s', Run hb l fr V s₀ L m ((e, exO (.type cls) none (.ref t) .none .none .none (.bool false)) :: mu) ((t, tupO [.str msg u]) :: im) s' → E (.ref e) s') (hm : (msg : Str).length ≤ sizeLine) :
    wpAny M A (raiseErrorMade cls msg : Sem α) Q E s := by
  unfold raiseErrorMade
  refine wpAny_bind (wpAny_mkStr (wpAny_bind ?_) hm)
  unfold newExc newTuple
  refine wpAny_bind (wpAny_newObj_type ?_)
  refine wpAny_bind (m := firstArgMember _ _) (wpAny_of_eq (a := Value.none) (by simp only [firstArgMember, hp.first]; rfl) ?_)
  rw [hp.own]
  refine wpAny_newObj_type ?_
  unfold raiseNew
  refine wpAny_bind (wpAny_handled ?_)
  rw [hh]
  have R1 := R.H.push (tupO [.str msg s.toks]) rfl
  have R2 := R1.pushM (exO (.type cls) none (.ref s.heap.objs.size) .none .none .none (.bool false)) rfl
  first
    | exact wpAny_throw (k _ _ _ _ ⟨R2, R.oth⟩)
    | exact wpAny_bind (wpAny_pure (wpAny_throw (k _ _ _ _ ⟨R2, R.oth⟩)))

theorem RunH.slots {h₀ h h' : Heap} (R : RunH hb l fr V h₀ L m mu im h) (x : Heap.SlotsOnly (frs l) h h') : RunH hb l fr V h₀ L m mu im h' := by
  have ev : Evo (frs l) [] h h' := fun b o e _ => by
    obtain ⟨sl, hs⟩ := x.2.2 b o e
    refine ⟨sl, hs, fun n => ?_⟩
    have := (x.2.1 b n).trans e
    rw [this] at hs
    exact congrArg Obj.slots (Option.some.inj hs).symm
  refine R.call0 (fun b o e => (x.2.1 b fun q => by rw [(frs_base R.ff q).1] at e; cases e).trans (R.stays b o e)) (ff_evo ev R.ff fun _ _ q => nomatch q) ev

theorem RunH.lessM {h₀ h : Heap} {mu' : List (Addr × Obj)} (R : RunH hb l fr V h₀ L m mu im h) (k : mu'.Sublist mu) : RunH hb l fr V h₀ L m mu' im h :=
  ⟨R.stays, R.ff, R.ns, R.evo, fun p hp => R.hmu p (k.subset hp), R.him, (k.map _).nodup R.nodup, fun p hp => R.apart p (k.subset hp), fun p hp => R.offm p (k.subset hp), R.offi, R.L0, R.sub⟩
theorem Run.lessM {mu' : List (Addr × Obj)} (R : Run hb l fr V s₀ L m mu im s) (k : mu'.Sublist mu) : Run hb l fr V s₀ L m mu' im s := ⟨R.H.lessM k, R.oth⟩
theorem entry_r {head : Value} {hadNext : Bool} {tb : Value} {Q : Unit → Shared → Prop} (R : Run hb (env :: l) fr V s₀ L m ((e, exO cls dx a tb c2 c3 c4) :: mu) im s) (hA : A.frames = some (env :: l)) (hF : env.frame = some F)
    (k : ∀ T oT s', TbAt oT (rawInt F) → Run hb (env :: l) fr V s₀ L m ((T, oT) :: (e, exO cls dx a (.ref T) c2 c3 c4) :: mu) im s' → Q () s') :
    wpAny M A (do let a ← frameOf env; let pl ← entryPlaceOf F hadNext; let b ← EntryCells.newEntry head a .none (rawInt F) .none pl; setField (.ref e) 1 b) Q E s := by
  refine wpAny_bind (wpAny_frameOf_fun hA R.H.ff hF fun h₁ hs₁ => ?_)
  refine wpAny_bind (wpAny_entryPlaceOf fun pl hpl => ?_)
  unfold EntryCells.newEntry newFields
  refine wpAny_bind (wpAny_newObj_type ?_ (hpl.sizeOk5 _ _ _ _ _))
  have R1 := R.H.slots hs₁
  have R2 := R1.pushM { cls := .type "traceback", dict := none, data := .fields ([head, .ref F, .none, rawInt F, .none] ++ (if pl.isEmpty then List.replicate 6 Value.none else pl)).toArray } rfl
  have he := R2.hmu (e, exO cls dx a tb c2 c3 c4) (.tail _ (.head _))
  refine wpAny_setField he rfl (by simp) ?_
  have hd := Heap.get?_update_self (Obj.mapFields (·.setIfInBounds 1 (Value.ref h₁.objs.size))) he rfl
  have R3 := R2.upd (o' := exO cls dx a (.ref h₁.objs.size) c2 c3 c4) (.tail .head) (Heap.SameBut.update _ e (Obj.mapFields (·.setIfInBounds 1 (Value.ref h₁.objs.size)))) hd
  refine k _ _ _ ?_ ⟨R3, R.oth⟩
  exact ⟨_, rfl, by first | (simp; done) | (rcases hpl with rfl | ⟨_, _, _, _, _, _, _, rfl⟩ <;> simp)⟩

theorem note_new {Q : Unit → Shared → Prop} (R : Run hb (env :: l) fr V s₀ L m ((e, exO cls dx a .none c2 c3 c4) :: mu) im s) (hA : A.frames = some (env :: l)) (hF : env.frame = some F)
    (k : ∀ T oT s', TbAt oT (rawInt F) → Run hb (env :: l) fr V s₀ L m ((T, oT) :: (e, exO cls dx a (.ref T) c2 c3 c4) :: mu) im s' → Q () s') : wpAny M A (noteFrame (.ref e) env) Q E s := by
  unfold noteFrame
  simp only [hF]
  refine wpAny_bind (wpAny_field (R.H.hmu _ (.head _)) rfl (x := .none) rfl ?_)
  rw [if_neg (by decide)]
  exact entry_r R hA hF k
theorem flight_r {f : Option Addr} {st : Value} {Q : Unit → Shared → Prop} (R : Run hb l fr V s₀ L m ((T, oT) :: (e, exO cls dx a (.ref T) c2 c3 c4) :: mu) im s) (hT : TbAt oT st)
    (k : ∀ oT s', TbAt oT (f.elim .none fun f => rawInt f) → Run hb l fr V s₀ L m ((T, oT) :: (e, exO cls dx a (.ref T) c2 c3 c4) :: mu) im s' → Q () s') : wpAny M A (setFlight (.ref e) f) Q E s := by
  obtain ⟨ts, hd, h3⟩ := hT
  have hsz := (Array.getElem?_eq_some_iff.mp h3).1
  unfold setFlight
  refine wpAny_bind (wpAny_field (R.H.hmu _ (.tail _ (.head _))) rfl (x := .ref T) rfl ?_)
  rw [if_pos (show (Value.ref T != Value.none) = true from by simp)]
  refine wpAny_setField (R.H.hmu _ (.head _)) hd hsz ?_
  have hd' := Obj.data_mapFields hd (·.setIfInBounds 3 (f.elim Value.none fun f => rawInt f))
  have he := Heap.get?_update_self (Obj.mapFields (·.setIfInBounds 3 (f.elim Value.none fun f => rawInt f))) (R.H.hmu _ (.head _)) (Obj.isFreed_of_fields hd')
  exact k (Obj.mapFields (·.setIfInBounds 3 (f.elim Value.none fun f => rawInt f)) oT) _ ⟨_, hd', by simp [hsz]⟩ ⟨R.H.upd .head (Heap.SameBut.update _ T _) he, R.oth⟩

variable {K : Frag} {p : Program} {loose : List Str} {mg mb : Str → Option Value}
theorem caught_b {X T' : String} {x : Str} {b₀ : Stmt} {suite : List Stmt} {pos np : Pos} {rest : List ExceptHandler} {Q : Flow → Shared → Prop}
    (R : Run hb (env :: l) fr V s₀ L m ((e, exO (.type X) dx a .none c2 c3 c4) :: mu) im s) (S : Sta K p loose mg mb hb) (hA : A.frames = some (env :: l)) (hF : env.frame = some F)
    (hn0 : nsIn K mainGlobals x = some none) (hv : bootBuiltins x = some (.type T')) (hn : x ≠ "__name__")
    (hexc : isSubtype (.type T') (.type "BaseException") = pure true) (hnt : isSubtype (.type ((Manifest.find? T').elim "type" fun y => y.metatype)) (.type "tuple") = pure false) (hsub : isSubtype (.type X) (.type T') = pure true)
    (hg : env.globals = mainGlobals) (hb' : env.builtins = builtinsNs) (hk : env.scope.kind = .function) (hx : env.kindOf x = some .globalImplicit) (hd : (x == ("__debug__" : Str)) = false)
    (k : ∀ T oT s', TbAt oT .none → Run hb (env :: l) fr V s₀ L m ((T, oT) :: (e, exO (.type X) dx a (.ref T) c2 c3 c4) :: mu) im s' →
      wpAny (model prog w) (A.mark (some (.ref e))) (execs (b₀ :: suite) env) Q (notedBy (model prog w) (A.mark (some (.ref e))) env (cameBackBy (model prog w) A env E)) s') :
    wpAny (model prog w) A (noteFrame (.ref e) env) (fun _ s₂ => wpAny (model prog w) A (setFlight (.ref e) none) (fun _ s₃ =>
      wpAny (model prog w) A (handleBy (.ref e) env (.ExceptHandler (some (.Name x np)) none (b₀ :: suite) pos :: rest)) Q E s₃) E s₂) E s := by
  refine note_new R hA hF fun T oT s₁ h1 R1 => ?_
  refine flight_r R1 h1 fun oT₂ s₂ h2 R2 => ?_
  refine wpAny_handleBy_builtin (X := X) (T := T') (b := true) hexc hnt hsub (name_b R2 S hn0 hv hn ⟨rfl, ⟨_, R2.H.hmu _ (.tail _ (.head _)), rfl⟩, ?_⟩ hg hb' hk hx hd)
  exact flight_r (f := none) R2 h2 fun oT₃ s₃ h3 R3 => k _ _ _ h3 R3

def itemC (x : Str) (i : Int) : Option Nat := (seqIndex? i x.length).bind (x.cps[·]?)
def fits63 (i : Int) : Bool := decide (-(2 ^ 63 : Int) ≤ i) && decide (i < 2 ^ 63)

theorem item_in {x : Str} {i : Int} {c : Nat} {u t : Tok} {value slice : Expr} {Q : Value → Shared → Prop} (R : Run hb l fr V s₀ L m mu im s) (hf : fits63 i = true) (hc : itemC x i = some c)
    (k : ∀ u s', Run hb l fr V s₀ L m mu im s' → Q (.str ⟨#[c]⟩ u) s')
    (hs : subscripted slice false (.str x t) (.int i u) = operate [.str x t, .int i u] (getItem (.str x t) (.int i u)) := by with_unfolding_all rfl) :
    wpAny (model prog w) A (subscriptTail value slice (.str x t) (.int i u)) Q E s := by
  refine tail_any (typeIs_str s x t) PySem.F.slot_str_getitem.lookup (P.getItem_str ?_ hc (k _ _ (R.tok _))) hs
  simp only [fits63, Bool.and_eq_true, decide_eq_true_eq] at hf
  simp only [Bool.or_eq_false_iff, decide_eq_false_iff_not]
  omega
def raisesAt (cls : String) (hb : Heap) (l : List Env) (fr V : List Addr) (s₀ : Shared) (L : Addr) (m : Vars) (mu im : List (Addr × Obj)) : PySem.Spec := fun A R s =>
  Run hb l fr V s₀ L m mu im s ∧ A.handled = none ∧ ∀ e t msg u s', Run hb l fr V s₀ L m ((e, exO (.type cls) none (.ref t) .none .none .none (.bool false)) :: mu) ((t, tupO [.str msg u]) :: im) s' → R (.error (.ref e)) s'
theorem meets_out {x : Str} {i : Int} {u t : Tok} (hc : fits63 i = true → itemC x i = none) : Meets (Builtin.«str.__getitem__» ⟨[.str x t, .int i u], []⟩) (raisesAt "IndexError" hb l fr V s₀ L m mu im) := by
  rintro prog w A R s ⟨R0, hh, k⟩
  show wpAny _ _ (if (decide (i < -(2 ^ 63 : Int)) || decide (i ≥ 2 ^ 63)) = true then _ else
          match (seqIndex? i x.length).bind (x.cps[·]?) with
          | some c => retStr ⟨#[c]⟩
          | none => _) _ _ s
  cases hf : fits63 i with
  | true =>
    have h0 : (decide (i < -(2 ^ 63 : Int)) || decide (i ≥ 2 ^ 63)) = false := by
      simp only [fits63, Bool.and_eq_true, decide_eq_true_eq] at hf
      simp only [Bool.or_eq_false_iff, decide_eq_false_iff_not]
      omega
    have hc' := hc hf
    unfold itemC at hc'
    rw [h0, hc']
    first
      | exact wpAny_bind (wpAny_rule (raiseWords_r R0 plainExc_IndexError hh fun e t u s' R' => k e t _ u s' R'))
      | exact wpAny_bind (wpAny_rule (wpAny_bind (raiseWords_r R0 plainExc_IndexError hh fun e t u s' R' => k e t _ u s' R')))
  | false =>
    have h0 : (decide (i < -(2 ^ 63 : Int)) || decide (i ≥ 2 ^ 63)) = true := by
      simp only [fits63, Bool.and_eq_false_iff, decide_eq_false_iff_not] at hf
      simp only [Bool.or_eq_true, decide_eq_true_eq]
      omega
    rw [if_pos h0]
    refine wpAny_bind (wpAny_rule (wpAny_bind (m := PySem.typeNameOf _) (wpAny_of_eq (a := "int") (by kernel_rfl) ?_)))
    first
      | exact wpAny_bind (raiseMade_r R0 plainExc_IndexError hh (fun e t u s' R' => k e t _ u s' R') (by decide +kernel))
      | exact raiseMade_r R0 plainExc_IndexError hh (fun e t u s' R' => k e t _ u s' R') (by decide +kernel)
theorem item_out {x : Str} {i : Int} {u t : Tok} {value slice : Expr} {Q : Value → Shared → Prop} (R : Run hb l fr V s₀ L m mu im s) (hh : A.handled = none) (hc : fits63 i = true → itemC x i = none)
    (k : ∀ e t msg u s', Run hb l fr V s₀ L m ((e, exO (.type "IndexError") none (.ref t) .none .none .none (.bool false)) :: mu) ((t, tupO [.str msg u]) :: im) s' → E (.ref e) s')
    (hs : subscripted slice false (.str x t) (.int i u) = operate [.str x t, .int i u] (getItem (.str x t) (.int i u)) := by with_unfolding_all rfl) :
    wpAny (model prog w) A (subscriptTail value slice (.str x t) (.int i u)) Q E s :=
  tail_any (typeIs_str s x t) PySem.F.slot_str_getitem.lookup (getItem_meets (typeIs_str s x t) (by decide) PySem.F.slot_str_getitem PySem.F.entry_str_getitem (PySem.F.args_str_getitem_2 _ _) (meets_out hc) ⟨R, hh, k⟩) hs

theorem eq_str_b {x y : Str} {t u : Tok} {b : Bool} {Q : Value → Shared → Prop} (h : (x == y) = b) (k : Q (.bool b) s) : wpAny (model prog w) A (compareOp .Eq (.str x t) (.str y u)) Q E s :=
  PyProof.Rows.eq_str (by rw [h]; exact k)
theorem ite_t {P Q : Prop} (h : P) : (if (true = true) then P else Q) := h
theorem ite_f {P Q : Prop} (h : Q) : (if (false = true) then P else Q) := h
end
end Mine
end

section
open PySem PySem.W PySem.Calls PyProof.Rows PySem.Builtin PySem.Builtin.ObjectAttr
set_option maxRecDepth 100000
namespace Mine

section
variable {hb h₀ h h' : Heap} {l : List Env} {fr V : List Addr} {L a : Addr} {m m' : Vars} {mu mu1 im im1 : List (Addr × Obj)} {o : Obj}
theorem RunH.keeps (R : RunH hb l fr V h₀ L m mu im h) (k : ∀ b o, h.get? b = some o → h'.get? b = some o) : RunH hb l fr V h₀ L m mu im h' :=
  R.call0 (fun b o e => k b o (R.stays b o e)) (ff_evo (Evo.keeps (frs l) k) R.ff fun _ _ q => nomatch q) (Evo.keeps (frs l) k)
theorem RunH.gainM (R : RunH hb l fr V h₀ L m mu im h) (R1 : RunH hb l fr V h₀ L m mu1 im1 h') (hn : h.get? a = none) (e : h'.get? a = some o) (h1 : ∀ p ∈ mu1, p.1 ≠ a) (h2 : ∀ p ∈ im1, p.1 ≠ a) : RunH hb l fr V h₀ L m ((a, o) :: mu1) im1 h' := by
  have nL : a ≠ L := fun q => by obtain ⟨_, ⟨o', _, _, z, _⟩, _⟩ := R.ns; rw [← q, hn] at z; cases z
  have nf : a ∉ frs l := fun q => by obtain ⟨_, o', z⟩ := frs_base R.ff q; rw [hn] at z; cases z
  have nb : hb.get? a = none := by cases q : hb.get? a with | none => rfl | some o' => have := R.stays a o' q; rw [hn] at this; cases this
  refine ⟨R1.stays, R1.ff, R1.ns, R1.evo, ?_, R1.him, ?_, ?_, ?_, R1.offi, R1.L0, R1.sub⟩
  · intro p hp; rcases List.mem_cons.mp hp with rfl | hp; exact e; exact R1.hmu p hp
  · refine List.nodup_cons.mpr ⟨fun q => ?_, R1.nodup⟩
    obtain ⟨p, hp, z⟩ := List.mem_map.mp q
    exact h1 p hp z
  · intro p hp q hq; rcases List.mem_cons.mp hp with rfl | hp; exact fun z => h2 q hq z.symm; exact R1.apart p hp q hq
  · intro p hp; rcases List.mem_cons.mp hp with rfl | hp; exact ⟨nL, nf, nb, R.evo.fresh hn⟩; exact R1.offm p hp
theorem RunH.gainI (R : RunH hb l fr V h₀ L m mu im h) (R1 : RunH hb l fr V h₀ L m mu1 im1 h') (hn : h.get? a = none) (e : h'.get? a = some o) (h1 : ∀ p ∈ mu1, p.1 ≠ a) : RunH hb l fr V h₀ L m mu1 ((a, o) :: im1) h' :=
  R1.more e h1 (fun q => by obtain ⟨_, ⟨o', _, _, z, _⟩, _⟩ := R.ns; rw [← q, hn] at z; cases z) (fun q => by obtain ⟨_, o', z⟩ := frs_base R.ff q; rw [hn] at z; cases z)
theorem RunH.neM (R : RunH hb l fr V h₀ L m mu im h) (hn : h.get? a = none) : ∀ p ∈ mu, p.1 ≠ a := fun p hp q => by have := R.hmu p hp; rw [q, hn] at this; cases this
theorem RunH.neI (R : RunH hb l fr V h₀ L m mu im h) (hn : h.get? a = none) : ∀ p ∈ im, p.1 ≠ a := fun p hp q => by have := R.him p hp; rw [q, hn] at this; cases this
theorem RunH.made {e : Addr} {cls : Value} {args : List Value} (R : RunH hb l fr V h₀ L m mu im h) (x : Heap.MadeExcOf h h' e cls args) :
    ∃ t, RunH hb l fr V h₀ L m ((e, exO cls none (.ref t) .none .none .none (.bool false)) :: mu) ((t, tupO args) :: im) h' := by
  obtain ⟨t, he, htn, ht⟩ := x.there
  have R0 := R.keeps x.keeps
  have net : e ≠ t := fun q => by rw [q, ht] at he; cases he
  have R1 := R.gainI R0 htn ht (R.neM htn)
  exact ⟨t, R.gainM R1 x.new he (R.neM x.new) fun p hp => by rcases List.mem_cons.mp hp with rfl | hp; exact fun q => net q.symm; exact R.neI x.new p hp⟩
end


def excMro (C : Addr) : List Value := [.ref C, .type "Exception", .type "BaseException", .type "object"]
def excOver (K : Frag) (C : Addr) : Bool := (clsIn K C).any fun cd => cd.mro == excMro C
section
variable {prog : Program} {w : World} {A : Around} {E : Value → Shared → Prop} {s s₀ : Shared} {K : Frag} {p : Program} {loose : List Str} {mg mb : Str → Option Value} {R : Result → Shared → Prop}
variable {hb : Heap} {l : List Env} {fr V : List Addr} {L : Addr} {m : Vars} {mu mu' im : List (Addr × Obj)} {name : Str} {v : Value} {e x C dx : Addr} {od : Obj} {a tb c2 c3 c4 : Value}

theorem osa_exc {ox : Obj} {od : Option Obj} {tk : Tok} (X : K.In s.heap) (I : InstAt s.heap x ox C od) (hp : excOver K C = true) (ht : takerIn K C name = some none)
    (h : ∀ b, wpAny (model prog w) A.in1 (storeInOwnDict (.ref x) (.ref C) (.str name tk) name v b)
      (fun fin s' => match fin with | .done f => R (.ok f) s' | .again c' => c'.quiet = true ∧ codeAny (model prog w) A c' R s') (fun e s' => R (.error e) s') s) :
    codeAny (model prog w) A (.call (.builtin "object.__setattr__") ⟨[.ref x, .str name tk, v], []⟩) R s := by
  have SF := PySem.F.store_object
  obtain ⟨cd, hc, ho⟩ := any_some hp
  have ho : cd.mro = excMro C := eq_of_beq ho
  have sub : Looks (model prog w) s.heap (isInstance (.ref x) (.type "object")) true := I.type.andThen (looks_mroIn X (by unfold mroIn; rw [hc, Option.bind_some, ho]; simp [excMro]))
  refine codeAny_call_builtin SF.slot.plain SF.entry (@check_slot (model prog w) _ _ s "object.__setattr__" "object" "__setattr__" (.ref x) [.str name tk, v] [] _ SF.kind SF.split sub (SF.args (.ref x) (.str name tk) v) ?_)
  obtain ⟨attr, ha, hr⟩ := Option.bind_eq_some_iff.mp ht
  have hm : Looks (model prog w) s.heap (mroOf (.ref C)) cd.mro := (looks_clsIn X hc).andThen .now
  have L3 : Looks (model prog w) s.heap (storeTaker? attr) none := by
    cases attr with
    | none => exact .now
    | some a =>
      obtain ⟨b, hb, z⟩ := Option.map_eq_some_iff.mp hr
      refine (looks_takesIn X hb).andThen ?_
      cases b
      · exact .now
      · simp at z
  rw [osa_eq, refuse_eq]
  refine wpAny_bind (wpAny_bind (I.type.here (wpAny_bind (hm.here ?_))))
  rw [ho]
  unfold excMro
  rw [refuseLoop_ref, PySem.F.store_Exception.passes]
  refine wpAny_pure (wpAny_bind (I.type.here (wpAny_bind ((looks_findIn X ha).here (wpAny_bind (L3.here ?_))))))
  exact h _

theorem instE0 (R : Run hb l fr V s₀ L m mu im s) (h1 : (x, exO (.ref C) none a tb c2 c3 c4) ∈ mu) : InstAt s.heap x (exO (.ref C) none a tb c2 c3 c4) C none := ⟨R.H.hmu _ h1, rfl, rfl, trivial⟩
theorem instE (R : Run hb l fr V s₀ L m mu im s) (h1 : (x, exO (.ref C) (some dx) a tb c2 c3 c4) ∈ mu) (h2 : (dx, od) ∈ mu) : InstAt s.heap x (exO (.ref C) (some dx) a tb c2 c3 c4) C (some od) := ⟨R.H.hmu _ h1, rfl, rfl, R.H.hmu _ h2⟩

theorem set_e0 {Q : Unit → Shared → Prop} (R : Run hb l fr V s₀ L m mu im s) (S : Sta K p loose mg mb hb)
    (hs : findIn K (.ref C) "__setattr__" = some (some (.builtin "object.__setattr__"))) (hp : excOver K C = true) (ht : takerIn K C name = some none) (hh : hasDictIn K C = true)
    (U : UpdL e (exO (.ref C) none a tb c2 c3 c4) (exO (.ref C) (some s.heap.objs.size) a tb c2 c3 c4) mu mu')
    (h : ∀ u s', Run hb l fr V s₀ L m ((s.heap.objs.size, dictOf [⟨PyData.keyHash w.params name, .str name u, v⟩] 1) :: mu') im s' → Q () s') :
    wpAny (model prog w) A (setAttr (.ref e) name v) Q E s := by
  have I := instE0 R U.mem
  have X := R.kin S
  refine set_plain X I hs (osa_exc (s := { s with toks := s.toks + 1 }) X I hp ht fun b => ?_)
  obtain ⟨cd, hc, hd'⟩ := any_some hh
  obtain ⟨hx, -, -, -⟩ := I
  refine wpAny_bind (wpAny_pure (wpAny_bind (wpAny_bind (wpAny_loadPart hx (wpAny_bind (looks_clsIn X hc _ _ _ _ (fun _ _ e => e) ?_))))))
  rw [hd']
  have R1 := R.H.pushM { cls := .type "dict", data := .dict #[] } rfl
  have hx1 := R1.hmu _ (.tail _ U.mem)
  have D1 := Heap.get?_update_self (fun o => { o with dict := some s.heap.objs.size }) hx1 rfl
  have R2 := R1.upd (.tail U) (Heap.SameBut.update _ e fun o => { o with dict := some s.heap.objs.size }) D1
  have hd2 := R2.hmu _ (.head _)
  have ep := putName_dict name (PyData.keyHash w.params name) (.str name (s.toks + 1)) v [] 0
  have D2 := Heap.get?_update_self (Obj.putName name (PyData.keyHash w.params name) (.str name (s.toks + 1)) v) hd2 (by rw [show ({ cls := .type "dict", data := .dict #[] } : Obj) = dictOf [] 0 from rfl, ep]; rfl)
  have R3 := R2.upd (.head (o' := dictOf [⟨PyData.keyHash w.params name, .str name (s.toks + 1), v⟩] 1)) (Heap.SameBut.update _ s.heap.objs.size _) (by rw [D2]; exact congrArg some ep)
  dsimp only
  rw [if_neg (show ¬ ((!true) = true) from by decide)]
  refine wpAny_bind (wpAny_alloc' (wpAny_bind (wpAny_update' hx1 (wpAny_pure (wpAny_bind (wpAny_pure (wpAny_bind ?_)))))))
  unfold nsSet
  refine wpAny_bind (wpAny_bind (wpAny_askSetting (wpAny_pure (wpAny_bind (wpAny_mkText (wpAny_bind (wpAny_loadPart hd2 ?_)))))))
  refine wpAny_updatePart hd2 ?_
  refine wpAny_bind (wpAny_lookBehind (R3.hmu _ (.head _)) (pastItsLine_dict (Nat.le_of_ble_eq_true rfl)) ?_)
  exact wpAny_pure (h (s.toks + 1) _ ⟨R3, R.oth⟩)

theorem UpdL.ex {d : Addr} {o o' : Obj} : ∀ {mu : List (Addr × Obj)}, (d, o) ∈ mu → ∃ mu', UpdL d o o' mu mu'
  | p :: r, h => by
    rcases List.mem_cons.mp h with rfl | h
    · exact ⟨_, .head⟩
    · obtain ⟨mu', U⟩ := UpdL.ex h
      exact ⟨_, .tail U⟩
theorem UpdL.det {d : Addr} {o o' : Obj} {mu a b : List (Addr × Obj)} (nd : (mu.map (·.1)).Nodup) (U : UpdL d o o' mu a) (V : UpdL d o o' mu b) : a = b := by
  induction U generalizing b with
  | head =>
    cases V with
    | head => rfl
    | tail V =>
      simp only [List.map_cons, List.nodup_cons] at nd
      exact absurd (List.mem_map.mpr ⟨_, V.mem, rfl⟩) nd.1
  | tail U ih =>
    cases V with
    | head =>
      simp only [List.map_cons, List.nodup_cons] at nd
      exact absurd (List.mem_map.mpr ⟨_, U.mem, rfl⟩) nd.1
    | tail V =>
      simp only [List.map_cons, List.nodup_cons] at nd
      rw [ih nd.2 V]
theorem set_e1 {Q : Unit → Shared → Prop} (R : Run hb l fr V s₀ L m mu im s) (S : Sta K p loose mg mb hb)
    (hs : findIn K (.ref C) "__setattr__" = some (some (.builtin "object.__setattr__"))) (hp : excOver K C = true) (ht : takerIn K C name = some none) (hh : hasDictIn K C = true)
    (he : (e, exO (.ref C) none a tb c2 c3 c4) ∈ mu)
    (h : ∀ dx u s', (∀ mu', UpdL e (exO (.ref C) none a tb c2 c3 c4) (exO (.ref C) (some dx) a tb c2 c3 c4) mu mu' → Run hb l fr V s₀ L m ((dx, dictOf [⟨PyData.keyHash w.params name, .str name u, v⟩] 1) :: mu') im s') → Q () s') :
    wpAny (model prog w) A (setAttr (.ref e) name v) Q E s := by
  obtain ⟨mu', U⟩ := UpdL.ex (o' := exO (.ref C) (some s.heap.objs.size) a tb c2 c3 c4) he
  exact set_e0 R S hs hp ht hh U fun u s' R' => h _ u s' fun mu'' U' => by rw [UpdL.det R.H.nodup U' U]; exact R'
theorem set_e {Q : Unit → Shared → Prop} {es es' : List DictEntry} {n n' : Nat} (R : Run hb l fr V s₀ L m mu im s) (S : Sta K p loose mg mb hb)
    (hs : findIn K (.ref C) "__setattr__" = some (some (.builtin "object.__setattr__"))) (hp : excOver K C = true) (ht : takerIn K C name = some none) (hh : hasDictIn K C = true)
    (h1 : (e, exO (.ref C) (some dx) a tb c2 c3 c4) ∈ mu) (_hdm : (dx, dictOf es n) ∈ mu) (hl : (getL name es).isSome = true)
    (eq : (putL name (PyData.keyHash w.params name) (.str name (s.toks + 1)) v es, putN name es n) = (es', n')) (U : UpdL dx (dictOf es n) (dictOf es' n') mu mu') (hz : es'.length ≤ 1000)
    (h : ∀ s', Run hb l fr V s₀ L m mu' im s' → Q () s') :
    wpAny (model prog w) A (setAttr (.ref e) name v) Q E s := by
  obtain ⟨e1, e2⟩ := Prod.mk.inj eq
  have I := instE R h1 U.mem
  have X := R.kin S
  refine set_plain X I hs (osa_exc (s := { s with toks := s.toks + 1 }) X I hp ht fun b => ?_)
  obtain ⟨cd, hc, hd'⟩ := any_some hh
  obtain ⟨hx, -, -, -⟩ := I
  have D := R.H.hmu _ U.mem
  have ep : Obj.putName name (PyData.keyHash w.params name) (.str name (s.toks + 1)) v (dictOf es n) = dictOf es' n' := by rw [putName_dict, e1, e2]
  have D' : (s.heap.update dx (Obj.putName name (PyData.keyHash w.params name) (.str name (s.toks + 1)) v)).get? dx = some (dictOf es' n') := ep ▸ Heap.get?_update_self _ D (by rw [ep]; rfl)
  have R' := R.H.upd U (Heap.SameBut.update s.heap dx (Obj.putName name (PyData.keyHash w.params name) (.str name (s.toks + 1)) v)) D'
  refine wpAny_bind (wpAny_pure (wpAny_bind (wpAny_bind (wpAny_loadPart hx (wpAny_bind (looks_clsIn X hc _ _ _ _ (fun _ _ e => e) ?_))))))
  rw [hd']
  refine wpAny_pure (a := some dx) (wpAny_bind (wpAny_pure (wpAny_bind ?_)))
  unfold nsSet
  refine wpAny_bind (wpAny_bind (wpAny_askSetting (wpAny_pure (wpAny_bind (wpAny_mkText (wpAny_bind (wpAny_loadPart D ?_)))))))
  dsimp only
  have c : (!es.toArray.any (·.key.isStr name) && es.toArray.any (·.refKey)) = false := by
    rw [← Array.any_toList, ← Array.any_toList]
    unfold getL at hl
    split at hl
    · rename_i en he
      rw [List.any_eq_true.mpr ⟨en, List.mem_of_find?_eq_some he, List.find?_some he⟩]; rfl
    · split at hl
      · cases hl
      · rename_i z; rw [Bool.not_eq_true] at z; rw [z, Bool.and_false]
  rw [aRefKeyMayBeTheName_at, c]
  refine wpAny_updatePart D ?_
  refine wpAny_bind (wpAny_lookBehind D' (pastItsLine_dict (by rw [List.size_toArray, sizeLine_eq]; omega)) ?_)
  exact wpAny_pure (h _ (R.of R'))

def plainGetE (K : Frag) (C : Addr) : Bool := findIn K (.ref C) "__getattribute__" == some (some (.builtin "BaseException.__getattribute__")) && (findIn K (.ref C) "__getattr__" == some none && excOver K C)
theorem get_exc {Q : Value → Shared → Prop} {ox : Obj} {od : Option Obj} {expr : Bool} (X : K.In s.heap) (I : InstAt s.heap x ox C od) (hg : plainGetE K C = true)
    (hf : findObj K C od name = some (.value v)) (hv : handedIn v = true) (h : Q v { s with toks := s.toks + 1 }) : wpAny (model prog w) A (getAttr (.ref x) name expr) Q E s := by
  simp only [plainGetE, Bool.and_eq_true, beq_iff_eq] at hg
  obtain ⟨hga, hgn, hp⟩ := hg
  obtain ⟨cd, hc, ho⟩ := any_some hp
  have ho : cd.mro = excMro C := eq_of_beq ho
  obtain ⟨hh, g, d, t, os⟩ := s
  have L0 := I.type (M := model prog w)
  have L1 := looks_findIn (M := model prog w) X hga
  have L2 := looks_findIn (M := model prog w) X hgn
  have L3 := looks_find (M := model prog w) X I hf
  have sub : Looks (model prog w) hh (isInstance (.ref x) (.type "BaseException")) true := L0.andThen (looks_mroIn X (by unfold mroIn; rw [hc, Option.bind_some, ho]; simp [excMro]))
  have slot : Slot "Exception" "__getattribute__" "BaseException.__getattribute__" := PySem.F.attr_Exception.ga
  have f3 := slot.bind (.ref x)
  have hx0 : (expr && onTheHeap (Value.builtin "BaseException.__getattribute__")) = false := by cases expr <;> rfl
  have hx2 : (Value.builtin "BaseException.__getattribute__" == Value.builtin "object.__getattribute__") = false := by decide +kernel
  have hx1 : (onTheHeap (Value.ref C) && Value.builtin "BaseException.__getattribute__" == Value.builtin "object.__getattribute__") = false := by rw [hx2]; rfl
  have hk : builtinKind "BaseException.__getattribute__" = some .slot := by decide +kernel
  have hsplit : splitId "BaseException.__getattribute__" = some ("BaseException", "__getattribute__") := by decide +kernel
  unfold getAttr getAttrBy
  refine wpAny_bind (wpAny_mkText (wpAny_holding (wpAny_bind (L0.at (wpAny_bind (L1.at ?_))))))
  dsimp only
  rw [hx1]
  unfold getAttrByItsOwn hookBefore
  refine wpAny_bind (L2.at ?_)
  refine wpAny_bind ?_
  unfold callGetattribute
  rw [hx0]
  refine wpAny_attempt (wpAny_holding ?_)
  unfold boundAndCalled
  refine wpAny_bind ?_
  rw [f3]
  refine wpAny_pure ?_
  refine wpAny_call ?_
  refine codeAny_call_builtin slot.plain PySem.F.entry_bexc_ga (@check_slot (model prog w) _ _ _ "BaseException.__getattribute__" "BaseException" "__getattribute__" (.ref x) [.str name t] [] _ hk hsplit sub (PySem.F.args_bexc_ga (.ref x) (.str name t)) ?_)
  refine wpAny_bind (wpAny_pure (wpAny_bind (wpAny_pure (wpAny_bind (L0.at (wpAny_bind (L3.at ?_)))))))
  refine wpAny_pure ?_
  dsimp only
  rw [handedOut_of hv]
  exact wpAny_pure h
theorem get_e {Q : Value → Shared → Prop} {expr : Bool} {attr : Option Value} {es : List DictEntry} {n : Nat} (R : Run hb l fr V s₀ L m mu im s) (S : Sta K p loose mg mb hb)
    (I : InstAt s.heap e (exO (.ref C) (some dx) a tb c2 c3 c4) C (some (dictOf es n))) (hg : plainGetE K C = true) (hh : hasDictIn K C = true)
    (ha : findIn K (.ref C) name = some attr) (hn : noGet K attr = true) (hl : getL name es = some (some v)) (hv : handedIn v = true) (h : ∀ s', Run hb l fr V s₀ L m mu im s' → Q v s') :
    wpAny (model prog w) A (getAttr (.ref e) name expr) Q E s :=
  get_exc (R.kin S) I hg (findObj_own hh ha hn hl) hv (h _ (R.tok _))
end
end Mine
end

section
open PySem PySem.W PySem.Calls PyProof.Rows
set_option maxRecDepth 100000
namespace Mine

def numT (n : Int) : Str := Str.ofString (toString n)
theorem numT_neg {n : Int} (h : n < 0) : numT n = ⟨#[45]⟩ ++ numT ((n.natAbs : Nat) : Int) := by
  cases n with
  | ofNat k => exact absurd h (by simp)
  | negSucc k =>
    have e : toString (Int.negSucc k) = "-" ++ Nat.repr (k + 1) := rfl
    have e2 : toString (((Int.negSucc k).natAbs : Nat) : Int) = Nat.repr (k + 1) := rfl
    unfold numT
    rw [e, e2, Str.ofString_eq_toList, Str.ofString_eq_toList, String.toList_append]
    refine congrArg Str.mk ?_
    apply Array.ext'
    simp
    try decide
theorem numT_len {n : Int} (h : n.natAbs < 10 ^ 10) : (numT n).length ≤ 11 := by
  by_cases hn : 0 ≤ n
  · exact Nat.le_trans (toString_length_le (k := 10) hn (by decide) (by omega)) (by decide)
  · rw [numT_neg (by omega)]
    have := toString_length_le (v := ((n.natAbs : Nat) : Int)) (k := 10) (by omega) (by decide) (by omega)
    rw [show (⟨#[45]⟩ ++ numT ((n.natAbs : Nat) : Int) : Str).length = 1 + (numT ((n.natAbs : Nat) : Int)).length from by
      unfold Str.length; rw [Str.cps_append]; simp]
    unfold numT
    omega
theorem percentInt_num {c : Builtin.Str.Percent} (h1 : c.alt = false) (h2 : c.type = 100 ∨ c.type = 105 ∨ c.type = 117) (h3 : c.prec = none) {n : Int} {d : List Nat}
    (hd : d = (Str.ofString (toString ((n.natAbs : Nat) : Int))).cps.toList) : (⟨(Builtin.Str.percentInt c (decide (n < 0)) d).toArray⟩ : Str) = numT n := by
  by_cases hn : 0 ≤ n
  · rw [KPc.int_text c h1 h2 h3 hn, hd, Int.natAbs_of_nonneg hn]
    exact congrArg Str.mk (Array.toArray_toList ..)
  · have hneg : decide (n < 0) = true := decide_eq_true (by omega)
    rw [numT_neg (by omega)]
    unfold Builtin.Str.percentInt
    subst hd
    refine congrArg Str.mk ?_
    apply Array.ext'
    rcases h2 with h2 | h2 | h2 <;> simp [h1, h2, h3, hneg, numT]

section
open PySem.W.KPc PySem.Builtin.Str
variable {M : Model} {A : Around} {E : Value → Shared → Prop} {s : Shared} {l : List Nat} {p : List Value} {r : List Nat}
  {f : Nat → List Value × Writer × List Nat → Sem (ForInStep (List Value × Writer × List Nat))} {Q : List Value × Writer × List Nat → Shared → Prop}
  {w : Writer} {T x y : PySem.Str} {N K : Nat} {o : Option Value}
theorem after_num {c : Percent} {n : Int} {d : List Nat} (g : Good w T N) (h1 : c.alt = false) (h2 : c.type = 100 ∨ c.type = 105 ∨ c.type = 117) (h3 : c.prec = none) (hm : n.natAbs < 10 ^ 10)
    (hd : d = (PySem.Str.ofString (toString ((n.natAbs : Nat) : Int))).cps.toList) (ho : o = none) (h : ∀ w', Good w' (T ++ numT n) (N + 11) → wpAny M A (forIn l (p, w', r) f) Q E s) :
    wpAny M A (forIn l (p, w.add ⟨(percentInt c (decide (n < 0)) d).toArray⟩ o, r) f) Q E s := by
  rw [percentInt_num h1 h2 h3 hd]
  exact h _ (good_mono (good_add g (obj_none ho)) (Nat.add_le_add_left (numT_len hm) _))
end

section
local macro_rules | `(tactic| kpt_piece) => `(tactic| first
  | (refine KPc.after_add0 (by kpc_g) (by kpc_text) (by kpc_obj) ?_; intro _ _)
  | (refine KPc.after_add (by kpc_g) (by kpc_text) (by kpc_obj) ?_; intro _ _)
  | (refine after_num (by kpc_g) rfl (by kpc_kind) rfl (by with_reducible assumption) rfl (by kpc_none) ?_; intro _ _)
  | (refine KPc.after_str0 (by kpc_g) (by with_reducible assumption) (by kpc_obj) ?_; intro _ _)
  | (refine KPc.after_str (by kpc_g) (by with_reducible assumption) (by kpc_obj) ?_; intro _ _))
theorem log_of {n : Int} (h : n.natAbs < 10 ^ 10) : n.natAbs.log2 < 1920 := by
  by_cases z : n.natAbs = 0
  · rw [z]; decide +kernel
  · refine (Nat.log2_lt z).mpr (Nat.lt_trans h (by decide +kernel))
local macro_rules | `(tactic| kpt_hd) => `(tactic| exact log_of (by with_reducible assumption))
theorem fmt_at {y : Str} {n : Int} {b : Addr} {ty tn t : Tok} (hy : y.length ≤ 1000000) (hn : n.natAbs < 10 ^ 10) :
    Meets (Builtin.«str.__mod__» ⟨[.str ⟨#[37, 115, 32, 97, 116, 32, 112, 111, 115, 105, 116, 105, 111, 110, 32, 37, 100]⟩ t, .ref b], []⟩) (fun _ R s => IsTup s.heap b [Value.str y ty, .int n tn].toArray ∧ ∀ t' k, R (.ok (.ret (.str (y ++ Str.ofString " at position " ++ numT n) t'))) { s with toks := k }) := by
  kpt_run
theorem fmt_lc {y : Str} {n c : Int} {b : Addr} {ty tn tc t : Tok} (hy : y.length ≤ 1000000) (hn : n.natAbs < 10 ^ 10) (hc : c.natAbs < 10 ^ 10) :
    Meets (Builtin.«str.__mod__» ⟨[.str ⟨#[37, 115, 32, 40, 108, 105, 110, 101, 32, 37, 100, 44, 32, 99, 111, 108, 117, 109, 110, 32, 37, 100, 41]⟩ t, .ref b], []⟩) (fun _ R s => IsTup s.heap b [Value.str y ty, .int n tn, .int c tc].toArray ∧ ∀ t' k, R (.ok (.ret (.str (y ++ Str.ofString " (line " ++ numT n ++ Str.ofString ", column " ++ numT c ++ Str.ofString ")") t'))) { s with toks := k }) := by
  kpt_run
end
end Mine
end

section
open PySem PySem.W PySem.Calls PyProof.Rows
set_option maxRecDepth 100000
namespace Mine

def upto (n : Nat) (p : Int) : Nat := min (max 0 (if p < 0 then p + n else p)).toNat n
theorem upto_le (n : Nat) (p : Int) : upto n p ≤ n := Nat.min_le_right _ _
def tailLen (c : Nat) (l : List Nat) : Nat := (l.reverse.takeWhile (· != c)).length
theorem tailLen_le (c : Nat) (l : List Nat) : tailLen c l ≤ l.length := by
  unfold tailLen
  exact Nat.le_trans (List.Sublist.length_le (List.takeWhile_sublist _)) (by simp)
theorem tailLen_snoc (c : Nat) (l : List Nat) (a : Nat) : tailLen c (l ++ [a]) = if a = c then 0 else tailLen c l + 1 := by
  unfold tailLen
  simp only [List.reverse_append, List.reverse_cons, List.reverse_nil, List.nil_append, List.singleton_append, List.takeWhile_cons]
  by_cases h : a = c <;> simp [h]

section
open Builtin Builtin.Str
theorem subAt1 (x : Str) (c i : Nat) : subAt x ⟨#[c]⟩ i = (x.cps.toList[i]? == some c) := by
  unfold subAt
  show (x.cps.extract i (i + 1) == #[c]) = _
  by_cases h : i < x.cps.size
  · have e : x.cps.extract i (i + 1) = #[x.cps[i]] := by
      apply Array.ext'
      simp only [Array.toList_extract, List.extract_eq_take_drop, Nat.add_sub_cancel_left]
      rw [List.drop_eq_getElem_cons (by simpa using h)]
      simp
    rw [e]
    simp [h]
  · have e : x.cps.extract i (i + 1) = #[] := by
      apply Array.ext'
      simp only [Array.toList_extract, List.extract_eq_take_drop]
      rw [List.drop_eq_nil_of_le (by simpa using h)]
      simp
    rw [e]
    simp [h]
theorem take_snoc {l : List Nat} {k : Nat} (h : k < l.length) : l.take (k + 1) = l.take k ++ [l[k]] := by
  rw [List.take_add_one, List.getElem?_eq_getElem h]; rfl
theorem countP_take (l : List Nat) (c : Nat) : ∀ k, k ≤ l.length → (List.range k).countP (fun i => l[i]? == some c) = (l.take k).count c
  | 0, _ => by simp
  | k + 1, h => by
    rw [List.range_succ, List.countP_append, countP_take l c k (by omega), take_snoc (by omega), List.count_append]
    simp [List.countP_cons, List.count_cons, List.getElem?_eq_getElem (show k < l.length by omega)]
theorem occ_run (x : Str) (c hi limit : Nat) : ∀ (l : List Nat) (st : Array Nat × Nat), (∀ i ∈ l, st.2 ≤ i) → l.Pairwise (· < ·) → st.1.size + l.length ≤ limit →
    (forIn l st (StrLaws.occBody x ⟨#[c]⟩ hi limit)).run.fst.size = st.1.size + l.countP (fun i => decide (i + 1 ≤ hi) && x.cps.toList[i]? == some c)
  | [], st, _, _, _ => rfl
  | a :: l, st, h1, h2, h3 => by
    rw [List.forIn_cons]
    have hp := List.pairwise_cons.mp h2
    simp only [List.length_cons] at h3
    unfold StrLaws.occBody
    by_cases hc : (decide (a + 1 ≤ hi) && x.cps.toList[a]? == some c) = true
    · rw [List.countP_cons_of_pos (p := fun i => decide (i + 1 ≤ hi) && x.cps.toList[i]? == some c) hc]
      simp only [Bool.and_eq_true, decide_eq_true_eq] at hc
      rw [if_pos ⟨⟨⟨by omega, h1 a (.head _)⟩, hc.1⟩, by rw [subAt1]; exact hc.2⟩]
      refine (occ_run x c hi limit l _ (fun i hi' => ?_) hp.2 (by simp only [Array.size_push]; omega)).trans (by simp only [Array.size_push]; omega)
      exact hp.1 i hi'
    · rw [List.countP_cons_of_neg (p := fun i => decide (i + 1 ≤ hi) && x.cps.toList[i]? == some c) hc]
      rw [if_neg (fun z => hc (by simp only [Bool.and_eq_true, decide_eq_true_eq]; exact ⟨z.1.2, by have := z.2; rwa [subAt1] at this⟩))]
      exact occ_run x c hi limit l st (fun i hi' => h1 i (.tail _ hi')) hp.2 (by omega)
theorem occ1 (x : Str) (c hi limit : Nat) (h : hi ≤ x.length) (hl : hi < limit) : (occurrences x ⟨#[c]⟩ 0 hi limit).length = (x.cps.toList.take hi).count c := by
  rw [StrLaws.occ_eq, Array.length_toList, Nat.sub_zero]
  rw [occ_run x c hi limit _ _ (fun i _ => Nat.zero_le i) List.pairwise_lt_range' (by simp; omega)]
  rw [← List.range_eq_range', List.range_succ, List.countP_append]
  have e2 : [hi].countP (fun i => decide (i + 1 ≤ hi) && x.cps.toList[i]? == some c) = 0 := by simp only [List.countP_cons, List.countP_nil]; rw [if_neg (by simp; omega)]
  have e1 : (List.range hi).countP (fun i => decide (i + 1 ≤ hi) && x.cps.toList[i]? == some c) = (List.range hi).countP (fun i => x.cps.toList[i]? == some c) :=
    List.countP_congr fun i hi' => by simp [List.mem_range.mp hi', Nat.succ_le_of_lt]
  rw [e2, e1, countP_take _ _ _ h]
  simp
def lastOf (c : Nat) (l : List Nat) : Option Nat := if tailLen c l = l.length then none else some (l.length - 1 - tailLen c l)
theorem lastOf_snoc (c : Nat) (l : List Nat) (a : Nat) : lastOf c (l ++ [a]) = if a = c then some l.length else lastOf c l := by
  unfold lastOf
  rw [tailLen_snoc, List.length_append, List.length_singleton]
  by_cases h : a = c
  · rw [if_pos h, if_pos h, if_neg (Nat.succ_ne_zero _).symm]; rfl
  · rw [if_neg h, if_neg h]
    by_cases q : tailLen c l = l.length
    · rw [if_pos q, if_pos (congrArg (· + 1) q)]
    · rw [if_neg q, if_neg fun z => q (Nat.succ.inj z), Nat.add_sub_cancel, Nat.add_comm (tailLen c l), Nat.sub_add_eq]
theorem last_cons (x y : Str) (hi a : Nat) (l : List Nat) (st : Option Nat) : (forIn (a :: l) st (StrLaws.lastBody x y hi)).run = (forIn l (if a + y.length ≤ hi ∧ subAt x y a = true then some a else st) (StrLaws.lastBody x y hi)).run := by
  rw [List.forIn_cons]
  by_cases q : a + y.length ≤ hi ∧ subAt x y a = true
  · rw [show StrLaws.lastBody x y hi a st = pure (ForInStep.yield (some a)) from if_pos q, if_pos q]; rfl
  · rw [show StrLaws.lastBody x y hi a st = pure (ForInStep.yield st) from if_neg q, if_neg q]; rfl
theorem last_app (x y : Str) (hi k : Nat) : ∀ (l : List Nat) (st : Option Nat), (forIn (l ++ [k]) st (StrLaws.lastBody x y hi)).run = if k + y.length ≤ hi ∧ subAt x y k = true then some k else (forIn l st (StrLaws.lastBody x y hi)).run
  | [], st => by rw [List.nil_append, last_cons]; rfl
  | a :: l, st => by rw [List.cons_append, last_cons, last_app x y hi k l, last_cons]
theorem last_run1 (x : Str) (c hi : Nat) : ∀ k, k ≤ x.length → k ≤ hi → (forIn (List.range k) none (StrLaws.lastBody x ⟨#[c]⟩ hi)).run = lastOf c (x.cps.toList.take k)
  | 0, _, _ => by simp [lastOf, tailLen]
  | k + 1, h, h2 => by
    have h' : k < x.cps.toList.length := by simpa [Str.length] using Nat.lt_of_succ_le h
    rw [List.range_succ, last_app, take_snoc h', lastOf_snoc, last_run1 x c hi k (by omega) (by omega)]
    have e : (subAt x ⟨#[c]⟩ k = true) = (x.cps.toList[k] = c) := by rw [subAt1, List.getElem?_eq_getElem h']; simp
    have el : (x.cps.toList.take k).length = k := by rw [List.length_take]; omega
    rw [el]
    by_cases q : x.cps.toList[k] = c
    · rw [if_pos q, if_pos ⟨h2, e.mpr q⟩]
    · rw [if_neg q, if_neg (fun z => q (e.mp z.2))]
theorem last1 (x : Str) (c hi : Nat) (h : hi ≤ x.length) : lastOccurrence x ⟨#[c]⟩ 0 hi = lastOf c (x.cps.toList.take hi) := by
  rw [StrLaws.last_eq, Nat.sub_zero, ← List.range_eq_range', List.range_succ, last_app, last_run1 x c hi hi h (Nat.le_refl _)]
  rw [if_neg (fun z => by have := z.1; exact Nat.not_succ_le_self _ this)]
def lastI (c : Nat) (l : List Nat) : Int := (l.length : Int) - 1 - tailLen c l
theorem lastI_eq (c : Nat) (l : List Nat) : (match lastOf c l with | some i => (i : Int) | none => -1) = lastI c l := by
  unfold lastOf lastI
  have := tailLen_le c l
  by_cases q : tailLen c l = l.length
  · simp [q]; omega
  · rw [if_neg q]
    simp only
    omega

abbrev octs (b : Array UInt8) : List Nat := b.toList.map UInt8.toNat
theorem ext1 (b : Array UInt8) (c : UInt8) (i : Nat) : (b.extract i (i + 1) == #[c]) = ((octs b)[i]? == some c.toNat) := by
  by_cases h : i < b.size
  · have e : b.extract i (i + 1) = #[b[i]] := by
      apply Array.ext'
      simp only [Array.toList_extract, List.extract_eq_take_drop, Nat.add_sub_cancel_left]
      rw [List.drop_eq_getElem_cons (by simpa using h)]
      simp
    rw [e, show (octs b)[i]? = some b[i].toNat from by simp [octs, h]]
    by_cases q : b[i] = c
    · rw [q]; simp
    · have : ¬ b[i].toNat = c.toNat := fun z => q (UInt8.toNat_inj.mp z)
      rw [show (some b[i].toNat == some c.toNat) = false from by simpa using this]
      simpa using q
  · have e : b.extract i (i + 1) = #[] := by
      apply Array.ext'
      simp only [Array.toList_extract, List.extract_eq_take_drop]
      rw [List.drop_eq_nil_of_le (by simpa using h)]
      simp
    rw [e]
    simp [octs, h]
theorem bocc_run (b : Array UInt8) (c : UInt8) : ∀ (l : List Nat) (acc : List Nat × Nat), (∀ i ∈ l, acc.2 ≤ i) → l.Pairwise (· < ·) →
    (l.foldl (fun (acc : List Nat × Nat) i => if decide (i ≥ acc.2) && b.extract i (i + (#[c] : Array UInt8).size) == #[c] then (i :: acc.1, i + (#[c] : Array UInt8).size) else acc) acc).1.length = acc.1.length + l.countP (fun i => (octs b)[i]? == some c.toNat)
  | [], _, _, _ => rfl
  | a :: l, acc, h1, h2 => by
    have hp := List.pairwise_cons.mp h2
    rw [List.foldl_cons]
    have e : (b.extract a (a + (#[c] : Array UInt8).size) == #[c]) = ((octs b)[a]? == some c.toNat) := ext1 b c a
    rw [e]
    have g : decide (a ≥ acc.2) = true := decide_eq_true (h1 a (.head _))
    rw [g, Bool.true_and]
    by_cases hc : ((octs b)[a]? == some c.toNat) = true
    · rw [if_pos hc, List.countP_cons_of_pos (p := fun i => (octs b)[i]? == some c.toNat) hc, bocc_run b c l (a :: acc.1, a + (#[c] : Array UInt8).size) (fun i hi => hp.1 i hi) hp.2]
      simp only [List.length_cons]; omega
    · rw [if_neg hc, List.countP_cons_of_neg (p := fun i => (octs b)[i]? == some c.toNat) hc, bocc_run b c l _ (fun i hi => h1 i (.tail _ hi)) hp.2]
theorem range_map0 (n : Nat) : (List.range n).map (· + 0) = List.range n := by simp
theorem bocc1 (b : Array UInt8) (c : UInt8) (hi : Nat) (h : hi ≤ b.size) : (Bytes.occurrences b #[c] 0 hi).length = ((octs b).take hi).count c.toNat := by
  unfold Bytes.occurrences
  rw [show hi + 1 - (0 + (#[c] : Array UInt8).size) = hi from by show hi + 1 - (0 + 1) = hi; omega, range_map0]
  simp only [List.length_reverse]
  rw [bocc_run b c _ _ (fun i _ => Nat.zero_le i) List.pairwise_lt_range]
  rw [countP_take _ _ _ (by simpa [octs] using h)]
  simp
theorem blast_run (b : Array UInt8) (c : UInt8) : ∀ k, k ≤ b.size → (List.range k).reverse.find? (fun i => b.extract i (i + (#[c] : Array UInt8).size) == #[c]) = lastOf c.toNat ((octs b).take k)
  | 0, _ => by simp [lastOf, tailLen]
  | k + 1, h => by
    have h' : k < (octs b).length := by simpa [octs] using Nat.lt_of_succ_le h
    have e : (b.extract k (k + (#[c] : Array UInt8).size) == #[c]) = ((octs b)[k]? == some c.toNat) := ext1 b c k
    have el : ((octs b).take k).length = k := by rw [List.length_take]; omega
    rw [List.range_succ, List.reverse_append, List.reverse_singleton, List.singleton_append, List.find?_cons, blast_run b c k (by omega), e, take_snoc h', lastOf_snoc, el, List.getElem?_eq_getElem h']
    by_cases q : (octs b)[k] = c.toNat
    · simp [q]
    · have : ((some (octs b)[k] == some c.toNat) : Bool) = false := by simpa using q
      rw [this, if_neg q]
theorem blast1 (b : Array UInt8) (c : UInt8) (hi : Nat) (h : hi ≤ b.size) : Bytes.rfind? b #[c] 0 hi = lastOf c.toNat ((octs b).take hi) := by
  unfold Bytes.rfind?
  rw [show hi + 1 - (0 + (#[c] : Array UInt8).size) = hi from by show hi + 1 - (0 + 1) = hi; omega, range_map0]
  exact blast_run b c hi h
end

section
open Builtin Builtin.Str
theorem gives_count4 (x : Str) (c : Nat) (p : Int) (t u v q : Tok) : Gives («str.count» ⟨[.str x t, .str ⟨#[c]⟩ u, .int 0 v, .int p q], []⟩) (.int ((x.cps.toList.take (upto x.length p)).count c : Nat)) := by
  rw [← occ1 x c (upto x.length p) (x.length + 1) (upto_le _ _) (Nat.lt_succ_of_le (upto_le _ _))]
  exact .of_eq rfl
theorem gives_rfind4 (x : Str) (c : Nat) (p : Int) (t u v q : Tok) : Gives («str.rfind» ⟨[.str x t, .str ⟨#[c]⟩ u, .int 0 v, .int p q], []⟩) (.int (lastI c (x.cps.toList.take (upto x.length p)))) := by
  rw [← lastI_eq, ← last1 x c (upto x.length p) (upto_le _ _)]
  show Gives (match lastOccurrence x ⟨#[c]⟩ 0 (upto x.length p) with | some i => retInt i | none => (do rule "str.rfind.not-found"; retInt (-1))) _
  cases lastOccurrence x ⟨#[c]⟩ 0 (upto x.length p) with
  | none => exact .rule (.of_eq rfl)
  | some k => exact .of_eq rfl
end

section
open Builtin
theorem slot_bytes_count : Slot "bytes" "count" "bytes.count" :=
  .of (owner := "bytes") (n := "count") (by rw [typeLookup_type, builtinLookup_eq_fast]; kernel_rfl) (by decide +kernel) (by decide +kernel) (by decide +kernel)
    (by first | exact .inl (by decide +kernel) | exact .inr (by decide +kernel)) (by rw [isSubtype_type]; kernel_rfl)
theorem type_bytes_count : typeOf (.builtin "bytes.count") = pure (.type "method_descriptor") := by show builtinType _ = _; rw [builtinType_eq_fast]; kernel_rfl
theorem entry_bytes_count : entryFor table "bytes.count" = some Builtin.«bytes.count» := entryFor_of_tree (by kernel_rfl)
theorem args_bytes_count_4 (a b c d : Value) : argsOk "bytes.count" ⟨[a, b, c, d], []⟩ := by
  unfold argsOk; rw [signature?_of (id := "bytes.count") (n := ['t', 'n', 'u', 'o', 'c']) (o := ['s', 'e', 't', 'y', 'b']) (by kernel_rfl) FB.owner_bytes]; kernel_rfl
theorem slot_bytes_rfind : Slot "bytes" "rfind" "bytes.rfind" :=
  .of (owner := "bytes") (n := "rfind") (by rw [typeLookup_type, builtinLookup_eq_fast]; kernel_rfl) (by decide +kernel) (by decide +kernel) (by decide +kernel)
    (by first | exact .inl (by decide +kernel) | exact .inr (by decide +kernel)) (by rw [isSubtype_type]; kernel_rfl)
theorem type_bytes_rfind : typeOf (.builtin "bytes.rfind") = pure (.type "method_descriptor") := by show builtinType _ = _; rw [builtinType_eq_fast]; kernel_rfl
theorem entry_bytes_rfind : entryFor table "bytes.rfind" = some Builtin.«bytes.rfind» := entryFor_of_tree (by kernel_rfl)
theorem args_bytes_rfind_4 (a b c d : Value) : argsOk "bytes.rfind" ⟨[a, b, c, d], []⟩ := by
  unfold argsOk; rw [signature?_of (id := "bytes.rfind") (n := ['d', 'n', 'i', 'f', 'r']) (o := ['s', 'e', 't', 'y', 'b']) (by kernel_rfl) FB.owner_bytes]; kernel_rfl

theorem min_nat (n k : Nat) : min (n : Int) (k : Int) = ((min k n : Nat) : Int) := by
  rcases Nat.le_total k n with h | h
  · rw [Nat.min_eq_left h, Int.min_eq_right (Int.ofNat_le.mpr h)]
  · rw [Nat.min_eq_right h, Int.min_eq_left (Int.ofNat_le.mpr h)]
theorem window4 (n : Nat) (p : Int) : Bytes.window n (some 0) (some p) = (0, ((upto n p : Nat) : Int)) := by
  unfold Bytes.window upto
  simp only [Option.getD_some]
  refine Prod.ext rfl ?_
  show min (n : Int) (if p < 0 then max 0 (p + n) else p) = ((min (max 0 (if p < 0 then p + n else p)).toNat n : Nat) : Int)
  by_cases h : p < 0
  · rw [if_pos h, if_pos h]
    obtain ⟨k, e⟩ := Int.eq_ofNat_of_zero_le (Int.le_max_left 0 (p + n))
    rw [e]; exact min_nat n k
  · rw [if_neg h, if_neg h, Int.max_eq_right (Int.not_lt.mp h)]
    obtain ⟨k, e⟩ := Int.eq_ofNat_of_zero_le (Int.not_lt.mp h)
    rw [e]; exact min_nat n k
theorem search4 {M : Model} {A : Around} {E : Value → Shared → Prop} {s : Shared} (name : String) (b : Array UInt8) (c : UInt8) (p : Int) (t u v q : Tok) {Q : Array UInt8 × Array UInt8 × Option (Nat × Nat) → Shared → Prop}
    (h : Q (b, #[c], if ((upto b.size p : Nat) : Int) - 0 < ((#[c] : Array UInt8).size : Int) then none else some (0, upto b.size p)) s)
    (e : selfAndSome ("bytes." ++ name) name 1 3 ⟨[.bytes b t, .bytes #[c] u, .int 0 v, .int p q], []⟩ = pure (.bytes b t, [.bytes #[c] u, .int 0 v, .int p q])) : wpAny M A (Bytes.searchArgs .bytes name ⟨[.bytes b t, .bytes #[c] u, .int 0 v, .int p q], []⟩) Q E s := by
  unfold Bytes.searchArgs
  have e0 : (s!"{Bytes.Kind.bytes.name}.{name}" : String) = "bytes." ++ name := by
    show toString "" ++ toString "bytes" ++ toString "." ++ toString name = _
    simp [toString]
  rw [e0]
  refine wpAny_bind (wpAny_of_eq e ?_)
  refine wpAny_bind (wpAny_of_eq (a := some 0) (by kernel_rfl) ?_)
  refine wpAny_bind (wpAny_of_eq (a := some p) (by kernel_rfl) ?_)
  refine wpAny_bind (wpAny_of_eq KBy.buffer_eq ?_)
  refine wpAny_bind (wpAny_pure (wpAny_bind (wpAny_of_eq (a := b) rfl ?_)))
  rw [window4]
  exact wpAny_pure h
theorem gives_bcount4 (b : Array UInt8) (c : UInt8) (p : Int) (t u v q : Tok) : Gives («bytes.count» ⟨[.bytes b t, .bytes #[c] u, .int 0 v, .int p q], []⟩) (.int (((octs b).take (upto b.size p)).count c.toNat : Nat)) := by
  refine .of_wp fun M A E s Q hq => ?_
  show wpAny M A (Bytes.countM .bytes _) _ E s
  unfold Bytes.countM
  refine wpAny_bind (search4 "count" b c p t u v q ?_ (by kernel_rfl))
  by_cases h : ((upto b.size p : Nat) : Int) - 0 < ((#[c] : Array UInt8).size : Int)
  · rw [if_pos h]
    have z : upto b.size p = 0 := by
      have : ((#[c] : Array UInt8).size : Int) = 1 := rfl
      omega
    rw [z] at hq
    simp only [List.take_zero, List.count_nil] at hq
    exact wpAny_bind (wpAny_mkInt (wpAny_pure ⟨_, rfl, hq⟩))
  · rw [if_neg h]
    show wpAny M A (if (#[c] : Array UInt8).isEmpty = true then _ else _) _ E s
    rw [if_neg (show ¬ (#[c] : Array UInt8).isEmpty = true from by simp)]
    rw [bocc1 b c _ (upto_le _ _)]
    exact wpAny_bind (wpAny_mkInt (wpAny_pure ⟨_, rfl, hq⟩))
theorem gives_brfind4 (b : Array UInt8) (c : UInt8) (p : Int) (t u v q : Tok) : Gives («bytes.rfind» ⟨[.bytes b t, .bytes #[c] u, .int 0 v, .int p q], []⟩) (.int (lastI c.toNat ((octs b).take (upto b.size p)))) := by
  refine .of_wp fun M A E s Q hq => ?_
  show wpAny M A (Bytes.searchM .bytes "rfind" true false _) _ E s
  unfold Bytes.searchM
  refine wpAny_bind (search4 "rfind" b c p t u v q ?_ (by kernel_rfl))
  have key : ∀ w : Option Nat, w = lastOf c.toNat ((octs b).take (upto b.size p)) → wpAny M A (match w with
      | some i => retInt i
      | none => do
        rule s!"{Bytes.Kind.bytes.name}.{"rfind"}.not-found"
        if false = true then raiseError "ValueError" "subsection not found" else retInt (-1)) (fun fin s' => ∃ v, fin = Fin.done (Flow.ret v) ∧ Q v s') E s := by
    intro w hw
    rw [← lastI_eq, ← hw] at hq
    cases w with
    | none => exact wpAny_bind (wpAny_rule (wpAny_bind (wpAny_mkInt (wpAny_pure ⟨_, rfl, hq⟩))))
    | some k => exact wpAny_bind (wpAny_mkInt (wpAny_pure ⟨_, rfl, hq⟩))
  by_cases h : ((upto b.size p : Nat) : Int) - 0 < ((#[c] : Array UInt8).size : Int)
  · rw [if_pos h]
    refine key none ?_
    have z : upto b.size p = 0 := by
      have : ((#[c] : Array UInt8).size : Int) = 1 := rfl
      omega
    rw [z]
    simp [lastOf, tailLen]
  · rw [if_neg h]
    exact key (Bytes.rfind? b #[c] 0 (upto b.size p)) (blast1 b c _ (upto_le _ _))
end

theorem bfind_some (b : Array UInt8) (c : UInt8) : (Builtin.Bytes.find? b #[c] 0 b.size).isSome = (octs b).contains c.toNat := by
  unfold Builtin.Bytes.find?
  rw [show b.size + 1 - (0 + (#[c] : Array UInt8).size) = b.size from by show b.size + 1 - (0 + 1) = b.size; omega, range_map0]
  rw [Bool.eq_iff_iff, List.find?_isSome, List.contains_iff_mem]
  constructor
  · rintro ⟨i, hi, e⟩
    have e' : ((octs b)[i]? == some c.toNat) = true := (ext1 b c i).symm.trans e
    exact List.mem_of_getElem? (eq_of_beq e')
  · intro h
    obtain ⟨i, hi, e⟩ := List.mem_iff_getElem.mp h
    refine ⟨i, List.mem_range.mpr (by simpa [octs] using hi), ?_⟩
    refine (ext1 b c i).trans ?_
    rw [List.getElem?_eq_getElem hi, e]
    simp
theorem in_one (x : Str) (c : Nat) : (!(Builtin.Str.occurrences x ⟨#[c]⟩ 0 x.length 1).isEmpty) = x.cps.toList.contains c := by
  rw [StrLaws.found_one]; simp
section
open Builtin
variable {prog : Program} {w : World} {A : Around} {E : Value → Shared → Prop} {s s₀ : Shared}
variable {hb : Heap} {l : List Env} {fr V : List Addr} {L : Addr} {m : Vars} {mu im : List (Addr × Obj)}
theorem in_text {x : Str} {c : Nat} {t u : Tok} {Q : Value → Shared → Prop} (h : Q (.bool (x.cps.toList.contains c)) s) : wpAny (model prog w) A (compareOp .In (.str ⟨#[c]⟩ u) (.str x t)) Q E s :=
  P.in_str (by rw [in_one]; exact h)
theorem in_octs {b : Array UInt8} {c : UInt8} {t u : Tok} {Q : Value → Shared → Prop} (R : Run hb l fr V s₀ L m mu im s) (hh : A.handled = none) (h : ∀ s', Run hb l fr V s₀ L m mu im s' → Q (.bool ((octs b).contains c.toNat)) s') :
    wpAny (model prog w) A (compareOp .In (.bytes #[c] u) (.bytes b t)) Q E s := by
  show wpAny _ _ (do return .bool (← contains (.bytes b t) (.bytes #[c] u))) Q E s
  refine wpAny_bind (wpAny_contains_slot (typeIs_bytes s b t) FB.slot_bytes_contains ?_)
  refine wpAny_call (codeAny_call_builtin FB.slot_bytes_contains.plain FB.entry_bytes_contains (FB.slot_bytes_contains.check _ _ _ _ _ _ _ _ (typeIs_bytes s b t) (FB.args_bytes_contains_2 _ _) ?_))
  show wpAny _ _ (Bytes.containsIn "bytes.__contains__" (.bytes b t) (.bytes #[c] u) >>= fun r => _) _ _ s
  unfold Bytes.containsIn
  refine wpAny_bind (wpAny_bind (wpAny_attempt ?_))
  unfold asIndex
  refine wpAny_bind (wpAny_of_eq (a := none) rfl ?_)
  refine wpAny_bind (wpAny_of_eq (a := none) (by kernel_rfl) ?_)
  refine wpAny_bind (wpAny_of_eq (a := "bytes") (by kernel_rfl) ?_)
  refine raiseMade_r R plainExc_TypeError (by exact hh) (fun e te ue s' R' => ?_) (by decide +kernel)
  refine wpAny_bind (wpAny_of_eq KBy.buffer_eq ?_)
  refine wpAny_bind (wpAny_of_eq KBy.buffer_eq ?_)
  refine wpAny_bind (wpAny_rule (wpAny_pure (wpAny_pure ?_)))
  rw [bfind_some]
  exact wpAny_pure (wpAny_pure (h _ ((R'.lessM (List.sublist_cons_self _ _)).less fun p hp => .tail _ hp)))
end
end Mine
end

section
open PySem PySem.W PySem.Calls PyProof.Rows
set_option maxRecDepth 100000
namespace Mine

section
variable {prog : Program} {w : World} {A : Around} {E : Value → Shared → Prop} {s s₀ : Shared} {K : Frag} {p : Program} {loose : List Str} {mg mb : Str → Option Value} {hb : Heap} {l : List Env} {fr V : List Addr} {L : Addr} {m₀ : Vars} {mu im : List (Addr × Obj)}
  {R : Result → Shared → Prop} {name qual : Str} {params : Arguments} {body : List Stmt} {scope : Scope} {cl : List (Str × Addr)} {dV kV doc pm cdv ct oc : Value} {an od : Option Addr} {osl : Array (Option Value)} {f : Addr} {args : Args} {binds m : Vars}
theorem enterAt (d : Addr) (o : Obj) (im₁ : List (Addr × Obj)) (binds m : Vars) (R₀ : Run hb l fr V s₀ L m₀ mu im s) (S : Sta K p loose mg mb hb) (hd : (d, o) ∈ mu) (hin : ∀ q ∈ im₁, q ∈ im)
    (ho : K.lookup f = some ⟨oc, od, .func (fnX name qual params body scope cl dV kV doc pm an cdv ct), osl⟩) (hcd : codeIn K cdv qual = true) (hroom : A.depth < recursionLimit)
    (hbind : BindsTo s (fnX name qual params body scope cl dV kV doc pm an cdv ct) args binds) (hloc : ∀ y ∈ binds, scope.names.lookup y.1 = some .local) (hm : binds.reverse = m)
    (hcell : ∀ x ∈ scope.names, x.2 ≠ .cell) (hco : scope.isCoroutine = false) (hgen : scope.isGenerator = false) (hk : scope.kind = .function)
    (h : ∀ L s', let env := envX qual scope L f cdv cl; let B := A.deeper env; Run hb (env :: l) (frs l) [d] s L m [(d, o)] im₁ s' →
      PySem.wpAt (model prog w) B (.func body env) (execs body env) (fun fl s' => R (.ok (.ret (match fl with | .ret v => v | _ => .none))) s')
        (fun e s' => wpAny (model prog w) B (leaving env e) (fun _ s'' => R (.error e) s'') (fun e' s'' => R (.error e') s'') s') s') :
    codeAny (model prog w) A (.call (.ref f) args) R s := by
  have st := R₀.H.stays
  have ff := R₀.H.ff
  refine ks_codeAny_call_defAt (fd := fnX name qual params body scope cl dV kV doc pm an cdv ct) (body := body) (binds := binds) hroom (st _ _ (S.X _ _ ho)) rfl (S.T.nolimit.keeps st) (codeRec_of (S.X.keeps st) hcd) rfl hbind hcell hloc (fun h₁ hns hk₁ => ?_) hco hgen hk
  have lt : ∀ {a : Addr} {o : Obj}, s.heap.get? a = some o → a ≠ s.heap.objs.size := fun e => Nat.ne_of_lt (Heap.lt_size e)
  have nb : hb.get? s.heap.objs.size = none := st.fresh
  have E1 : Evo (frs l) [] s.heap h₁ := Evo.keeps _ hk₁
  subst hm
  obtain ⟨oL, es, ep, hL, hLd, hLr⟩ := id hns
  have D := R₀.H.offm _ hd
  refine h _ _ ⟨⟨fun b o e => hk₁ _ _ (st b o e), ⟨by show scope.kind ≠ _; rw [hk]; decide, ⟨_, oL, rfl, nb, hL, fun vs q => by rw [hLd] at q; cases q⟩, ff_evo E1 ff (fun _ _ q => nomatch q)⟩, ⟨_, hns, fun _ _ e => e⟩, E1.mono (fun _ q => nomatch q),
    fun q hq => by rw [List.mem_singleton.mp hq]; exact hk₁ _ _ (R₀.H.hmu _ hd), fun q hq => hk₁ _ _ (R₀.H.him _ (hin q hq)), by simp, fun q hq r hr => by rw [List.mem_singleton.mp hq]; exact R₀.H.apart _ hd r (hin r hr), fun q hq => ?_, fun q hq => ⟨lt (R₀.H.him q (hin q hq)), ?_⟩, ⟨nb, get_size _⟩, ?_⟩, rfl, rfl, rfl⟩
  · rw [List.mem_singleton.mp hq]
    refine ⟨lt (R₀.H.hmu _ hd), fun z => ?_, D.2.2.1, .inl (.head _)⟩
    rcases List.mem_cons.mp (show d ∈ s.heap.objs.size :: frs l from z) with e | e
    · exact lt (R₀.H.hmu _ hd) e
    · exact D.2.1 e
  · intro z
    rcases List.mem_cons.mp (show q.1 ∈ s.heap.objs.size :: frs l from z) with e | e
    · exact lt (R₀.H.him q (hin q hq)) e
    · exact (R₀.H.offi q (hin q hq)).2 e
  · intro a ha
    rcases List.mem_cons.mp (show a ∈ s.heap.objs.size :: frs l from ha) with e | e
    · exact .inl (e ▸ get_size _)
    · exact .inr e
end

section
variable {prog : Program} {w : World} {A : Around} {E : Value → Shared → Prop} {s s₀ : Shared} {K : Frag} {p : Program} {loose : List Str} {mg mb : Str → Option Value} {hb : Heap} {l : List Env} {fr V : List Addr} {L : Addr} {m : Vars} {mu im : List (Addr × Obj)}
  {x C D f cc cda so : Addr} {ox : Obj} {odx : Option Obj}
theorem node_r {body : List Stmt} {q : Str} {scope : Scope} {p0 p1 : Pos} {attr : Str} {whole : Sem Value} {fd : FuncData} {ar : Arg} {vs : Array Value} {file : Str} {tf : Tok} {oc ccl cl : Value} {od cdd cld : Option Addr} {osl ccs csl : Array (Option Value)} {cdD : ClassData} {Q : Value → Shared → Prop}
    (R : Run hb l fr V s₀ L m mu im s) (S : Sta K p loose mg mb hb)
    (hf : K.lookup f = some ⟨oc, od, .func fd, osl⟩) (hp : (fd.params.posonlyargs ++ fd.params.args).head? = some ar) (hv : Get ar.arg m (.ref x)) (I : InstAt s.heap x ox C odx)
    (hcode : K.lookup cda = some ⟨ccl, cdd, .fields vs, ccs⟩) (hvs : vs[2]? = some (.str file tf)) (hfile : ((prog.main.file : Str) == file) = true)
    (hcell : K.lookup cc = some ⟨cl, cld, .cell (some (.ref D)), csl⟩) (hD : clsIn K D = some cdD) (hsub : mroIn K C (.ref D) = some true) (hsuper : nsIn K mainGlobals "super" = some none)
    (hat : (attr == ("__class__" : Str)) = false) (hks : scope.names.lookup ("super" : Str) = some .globalImplicit) (hkc : scope.names.lookup ("__class__" : Str) = some .free) (hka : scope.names.lookup ar.arg = some .local) (hk : scope.kind = .function)
    (htop : (prog.main.scope.names.lookup ("super" : Str)).isSome = false) (hboot : bootBuiltins "super" = some (.type "super"))
    (h : ∀ so s', Run hb l fr V s₀ L m mu ((so, ks_superObj D x C) :: im) s' → Q (.ref so) s') :
    PySem.wpAt (model prog w) A (.func body (ksEnv q scope L f (.ref cda) cc)) (attributeBase (.Call (.Name "super" p0) [] [] p1) attr (ksEnv q scope L f (.ref cda) cc) whole) Q E s := by
  have X : K.In s.heap := R.kin S
  have R' := R
  obtain ⟨hh, g, d, t, os⟩ := s
  obtain ⟨oD, hD1, hD2⟩ : ∃ oD, hh.get? D = some oD ∧ oD.data = .cls cdD := by
    unfold clsIn at hD
    split at hD
    · rename_i c d cd' sl ho
      cases hD
      exact ⟨_, X _ _ ho, rfl⟩
    · cases hD
  refine ks_wpAt_super_base (env := ksEnv q scope L f (.ref cda) cc) hks hkc hat rfl (X _ _ hf) rfl hp rfl (X _ _ hcode) rfl hvs hfile htop ?_
  refine ks_loadName_global hk hks (loadGlobal_builtin (env := ksEnv q scope L f (.ref cda) cc) (S.T.g.keeps R.H.stays) (mg_none_of S.X S.T.g hsuper) (S.T.b.keeps R.H.stays) ((S.T.builtins _ (by decide +kernel)).trans hboot) ⟨rfl, ?_⟩)
  refine wpAny_loadName_free hk hkc rfl ⟨_, X _ _ hcell, rfl⟩ ?_
  obtain ⟨_, n1, n2⟩ := R.H.ns
  refine wpAny_loadName_local hk hka n1 (n2 _ _ hv.eq) ?_
  refine ks_wpAny_isType_cls hD1 hD2 ⟨rfl, ?_⟩
  refine ks_wpAny_call_super hD1 hD2 I.at_ I.cls (fun c e => ?_) (looks_mroIn X hsub) (fun h' e k => ?_)
  · have := I.no
    unfold notCls at this
    rw [e] at this
    exact Bool.noConfusion this
  · have R1 := R.H.gainI (R.H.keeps k) (get_size _) e (R.H.neM (get_size _))
    exact h _ _ ⟨R1, R.oth⟩

theorem slot_wd_get : Slot "wrapper_descriptor" "__get__" "wrapper_descriptor.__get__" :=
  .of (owner := "wrapper_descriptor") (n := "__get__") (by rw [typeLookup_type, builtinLookup_eq_fast]; kernel_rfl) (by decide +kernel) (by decide +kernel) (by decide +kernel)
    (by first | exact .inl (by decide +kernel) | exact .inr (by decide +kernel)) (by rw [isSubtype_type]; kernel_rfl)
theorem entry_wd_get : entryFor table "wrapper_descriptor.__get__" = some Builtin.«wrapper_descriptor.__get__» := entryFor_of_tree (by kernel_rfl)
theorem args_wd_get (a b c : Value) : argsOk "wrapper_descriptor.__get__" ⟨[a, b, c], []⟩ := by unfold argsOk; kernel_rfl
theorem type_exc_init : typeOf (.builtin "Exception.__init__") = pure (.type "wrapper_descriptor") := by show builtinType _ = _; rw [builtinType_eq_fast]; kernel_rfl
abbrev mwObj (id : String) (x : Addr) : Obj := { cls := .type "method-wrapper", data := .fields #[.builtin id, .ref x] }
theorem super_ga {prog : Program} {w : World} {A : Around} {E : Value → Shared → Prop} {h : Heap} {g : Array GenState} {d : Drawn} {t : Nat} {os : OsState} {so D x : Addr} {K : Frag} {name : Str} {tk : Tok} {Q : Fin → Shared → Prop} {l : List Value} (hl : ((excMro D).dropWhile (· != .ref D)).drop 1 = l)
    (hn : (name == ("__class__" : Str)) = false) (hf : alongIn K name l = some (some (.builtin "Exception.__init__")))
    (hso : h.get? so = some (ks_superObj D x D)) (hno : Looks (model prog w) h (opaqueClassAbove (.ref D)) none)
    (hC : Looks (model prog w) h (mroOf (.ref D)) (excMro D)) (X : K.In h) (hxC : x ≠ D) (hsub : Looks (model prog w) h (isInstance (.ref x) (.type "Exception")) true)
    (hq : Q (.done (.ret (.ref h.objs.size))) ⟨h.push (mwObj "Exception.__init__" x), g, d, t, os⟩) :
    wpAny (model prog w) A (Builtin.«super.__getattribute__» ⟨[.ref so, .str name tk], []⟩) Q E ⟨h, g, d, t, os⟩ := by
  have hne : (Value.ref x == Value.ref D) = false := by simp [hxC]
  have hdt : (ks_superObj D x D).data = .fields #[.ref D, .ref x, .ref D] := rfl
  have f0 : (#[.ref D, .ref x, .ref D] : Array Value)[0]? = some (.ref D) := rfl
  have f1 : (#[.ref D, .ref x, .ref D] : Array Value)[1]? = some (.ref x) := rfl
  have f2 : (#[.ref D, .ref x, .ref D] : Array Value)[2]? = some (.ref D) := rfl
  have hT2 := type_exc_init
  have hlk2 := slot_wd_get.lookup
  unfold Builtin.«super.__getattribute__»
  refine wpAny_bind (wpAny_of_eq (a := some name) rfl ?_)
  refine wpAny_bind (wpAny_of_eq (a := some name) rfl ?_)
  refine wpAny_bind (wpAny_field hso hdt f0 ?_)
  refine wpAny_bind (wpAny_field hso hdt f1 ?_)
  refine wpAny_bind (wpAny_field hso hdt f2 ?_)
  rw [if_neg (by rw [hn]; simp)]
  refine wpAny_bind (ks_wpAny_notOpaque hno ?_)
  rw [if_neg (by simp)]
  refine wpAny_bind (Looks.at hC ?_)
  rw [hl]
  refine wpAny_bind ?_
  refine ks_forIn_along X (fun _ _ => rfl) rfl ?_ hf
  dsimp only
  refine wpAny_bind (wpAny_of_eq hT2 ?_)
  refine wpAny_bind (wpAny_of_eq hlk2 ?_)
  dsimp only
  rw [hne]
  rw [if_neg (by decide)]
  refine wpAny_bind (wpAny_holding ?_)
  refine wpAny_mono (Q := fun v s' => v = .ref h.objs.size ∧ s' = ⟨h.push (mwObj "Exception.__init__" x), g, d, t, os⟩) (E := fun _ _ => False)
    (wpAny_call_entry slot_wd_get (show (⟨h, g, d, t, os⟩ : Shared).TypeIs (.builtin "Exception.__init__") "wrapper_descriptor" from hT2) entry_wd_get ?_ (args_wd_get _ _ _)) (fun v s' hv => ?_) fun _ _ z => z.elim
  · unfold Builtin.«wrapper_descriptor.__get__»
    refine wpAny_bind (wpAny_of_eq (a := (.builtin "Exception.__init__", some (.ref x), some (.ref D))) (by kernel_rfl) ?_)
    dsimp only
    refine wpAny_bind (wpAny_bind (wpAny_of_eq (a := ((Str.ofString "__init__"), .type "Exception")) (by kernel_rfl) ?_))
    refine wpAny_bind (Looks.at hsub ?_)
    rw [if_neg (by decide)]
    refine wpAny_pure (wpAny_bind ?_)
    unfold newFields
    exact wpAny_newObj_type (wpAny_pure ⟨_, rfl, rfl, rfl⟩) (by simp [sizeOk, sizeLine_eq])
  · obtain ⟨rfl, rfl⟩ := hv
    exact wpAny_bind (wpAny_pure (wpAny_pure (wpAny_pure hq)))
theorem super_init_at : alongIn K (Str.ofString "__init__") [.type "Exception", .type "BaseException", .type "object"] = some (some (.builtin "Exception.__init__")) := by
  simp only [alongIn, ownIn]
  rw [show fastBuiltinOwn "Exception" (Str.ofString "__init__") = some (.builtin "Exception.__init__") from by kernel_rfl]
theorem superInit_get {pl : Sem Bool} {Q : Value × List Value → Shared → Prop} (R : Run hb l fr V s₀ L m mu im s) (S : Sta K p loose mg mb hb) (hso : (so, ks_superObj D x C) ∈ im) (I : InstAt s.heap x ox C odx) (ho : nsIn K cStatics "thirdparty.any" = some none)
    (hDC : D = C) (hp : excOver K C = true)
    (h : ∀ q s', Run hb l fr V s₀ L m mu ((q, mwObj "Exception.__init__" x) :: im) s' → Q (.ref q, []) s') : wpAny (model prog w) A (getMethod (.ref so) "__init__" pl) Q E s := by
  have X : K.In s.heap := R.kin S
  subst hDC
  have hhso := R.H.him _ hso
  obtain ⟨cd, hc, hm⟩ := any_some hp
  have hm : cd.mro = excMro D := eq_of_beq hm
  have hne : x ≠ D := ks_ne X I hc
  have hC : Looks (model prog w) s.heap (mroOf (.ref D)) (excMro D) := hm ▸ (looks_clsIn X hc).andThen .now
  have hno := looks_opaque (M := model prog w) (C := D) X ho
  have hlk := PySem.F.ks_slot_super_ga.lookup
  have hcan := PySem.F.ks_canon_super_ga
  have hT : ∀ t', ({ s with toks := t' } : Shared).TypeIs (.ref so) "super" := fun _ => ⟨_, hhso, rfl⟩
  unfold getMethod
  refine wpAny_bind (wpAny_specialOf (hT s.toks) hlk ?_)
  show wpAny _ _ (if (Manifest.canonical "super.__getattribute__" != "object.__getattribute__") = true then _ else _) _ _ _
  rw [if_pos hcan]
  unfold getAttr getAttrBy
  refine wpAny_bind (wpAny_bind (wpAny_mkText (wpAny_holding (wpAny_bind (wpAny_typeOf (hT _) (wpAny_bind (wpAny_of_eq hlk ?_)))))))
  show wpAny _ _ (getAttrByItsOwn (.ref so) (.str _ s.toks) (.type "super") (.builtin "super.__getattribute__") true false) _ _ _
  unfold getAttrByItsOwn hookBefore callGetattribute boundAndCalled
  refine wpAny_bind (wpAny_of_eq (show (if onTheHeap (.type "super") then typeLookup (.type "super") "__getattr__" else pure none) = pure none from rfl) ?_)
  refine wpAny_bind (wpAny_attempt (wpAny_holding ?_))
  show wpAny _ _ (bindSpecial (.builtin "super.__getattribute__") (.ref so) >>= _) _ _ _
  refine wpAny_bind (wpAny_of_eq (PySem.F.ks_slot_super_ga.bind _) ?_)
  have R1 : RunH hb l fr V s₀.heap L m mu ((s.heap.objs.size, mwObj "Exception.__init__" x) :: im) (s.heap.push (mwObj "Exception.__init__" x)) := R.H.push _ rfl
  refine wpAny_mono (Q := fun v s' => v = .ref s.heap.objs.size ∧ s' = { s with heap := s.heap.push (mwObj "Exception.__init__" x), toks := s.toks + 1 }) (E := fun _ _ => False)
    (wpAny_call_entry PySem.F.ks_slot_super_ga (hT _) PySem.F.ks_entry_super_ga ?_ (PySem.F.ks_gaArgs_super _ _)) (fun v s' hv => ?_) fun _ _ z => z.elim
  · have sub : Looks (model prog w) s.heap (isInstance (.ref x) (.type "Exception")) true := I.type.andThen (looks_mroIn X (by unfold mroIn; rw [hc, Option.bind_some, hm]; simp [excMro]))
    exact super_ga (l := [.type "Exception", .type "BaseException", .type "object"]) (by simp [excMro]) (by decide +kernel) super_init_at hhso hno hC X hne sub ⟨_, rfl, rfl, rfl⟩
  · obtain ⟨rfl, rfl⟩ := hv
    exact wpAny_pure (wpAny_pure (h _ _ ⟨R1, R.oth⟩))
end
end Mine
end

section
open PySem PySem.W PySem.Calls PyProof.Rows PySem.Builtin
set_option maxRecDepth 100000
namespace Mine
section
variable {prog : Program} {w : World} {M : Model} {A : Around} {E : Value → Shared → Prop} {s s₀ : Shared} {hb : Heap} {l : List Env} {fr V : List Addr} {L : Addr} {m : Vars} {mu mu' im : List (Addr × Obj)} {env : Env} {pos : Pos}
  {x u : Addr} {cls a tb c2 c3 c4 : Value} {dx : Option Addr} {v : Value}
theorem callWith_mw {id : String} {first : List Value} {args : List (Bool × Sem Value)} {Q : Value → Shared → Prop} (hplain : args.any (·.1) = false)
    (h : wpAny M A (evalArgs (.ref u) true args []) (fun x' s₁ => s₁.heap.get? u = some (mwObj id x) ∧ wpAny M A (call (.ref u) (first ++ x'.pos) x'.kw) Q E s₁) E s) : wpAny M A (callWith pos (.ref u) first args []) Q E s := by
  unfold callWith
  refine wpAny_bind (wpAny_holding (wpAny_mono h (fun x s₁ h₁ => wpAny_bind (wpAny_standAt ?_)) fun _ _ x => x))
  obtain ⟨ho, hcall⟩ := h₁
  simp only [hplain, List.any_nil, Bool.or_false]
  refine wpAny_bind (m := keeperOf (.ref u)) ?_
  unfold keeperOf
  refine wpAny_bind (wpAny_load ho ?_)
  simp only [mwObj, show (Value.type "method-wrapper" != Value.type "method") = true by decide, show (Value.type "method-wrapper" == Value.type "builtin_function_or_method" || Value.type "method-wrapper" == Value.type "method-wrapper") = true by decide, if_true]
  refine wpAny_pure ?_
  exact wpAny_bind (wpAny_mono hcall (fun r s₂ hr => wpAny_bind (wpAny_holding (wpAny_point (wpAny_pure hr)))) fun _ _ x => x)
theorem check_mw {K : Frag} {C : Addr} {ox : Obj} {od : Option Obj} {Q : Unit → Shared → Prop} (X : K.In s.heap) (I : InstAt s.heap x ox C od) (hc : excOver K C = true) (hq : Q () s) :
    wpAny M A (checkBoundCall "Exception.__init__" ⟨[.ref x, v], []⟩) Q E s := by
  have F := PySem.F.excBase_Exception.toExcCallFacts
  have hshort := F.noStar
  obtain ⟨cd, hc, -⟩ := any_some hc
  have L0 := I.type (M := M)
  have L1 := looks_clsIn (M := M) X hc
  obtain ⟨hh, g, d, t, os⟩ := s
  simp only [checkBoundCall, F.initKind, F.initRow]
  repeat (first | with_reducible refine Looks.at L0 ?_ | with_reducible refine Looks.at L1 ?_ | wp_step)
  exact hq
theorem superInit_call {K : Frag} {p : Program} {loose : List Str} {mg mb : Str → Option Value} {C : Addr} {Q : Value → Shared → Prop} (S : Sta K p loose mg mb hb) (hp : excOver K C = true) (hcl : cls = .ref C) (R : Run hb l fr V s₀ L m mu im s) (hq : (u, mwObj "Exception.__init__" x) ∈ im) (hx : (x, exO cls dx a tb c2 c3 c4) ∈ mu) (hdx : match dx with | some d => ∃ od, (d, od) ∈ mu | none => True) (ha : ∃ y, a = .ref y)
    (k : ∀ t s', (∀ mu', UpdL x (exO cls dx a tb c2 c3 c4) (exO cls dx (.ref t) tb c2 c3 c4) mu mu' → Run hb l fr V s₀ L m ((t, tupO [v]) :: mu') im s') → Q .none s') :
    wpAny (model prog w) A (call (.ref u) [v]) Q E s := by
  have F := PySem.F.excBase_Exception.toExcCallFacts
  obtain ⟨y, rfl⟩ := ha
  have hu := R.H.him _ hq
  have hxo := R.H.hmu _ hx
  refine wpAny_call (codeAny_of_tree ?_)
  show wpAny _ A.in1 (callAny (.ref u) ⟨[v], []⟩) _ _ s
  simp only [callAny]
  refine wpAny_bind (wpAny_load hu ?_)
  simp only [mwObj, show (Value.type "method-wrapper" == Value.type "method" || Value.type "method-wrapper" == Value.type "builtin_function_or_method" || Value.type "method-wrapper" == Value.type "method-wrapper") = true by decide, if_true]
  show wpAny _ _ (if (Value.type "method-wrapper" != Value.type "method") = true then _ else _) _ _ _
  rw [if_pos (by decide)]
  subst hcl
  have I : InstAt s.heap x (exO (.ref C) dx (.ref y) tb c2 c3 c4) C (match dx with | some d => s.heap.get? d | none => none) := by
    refine ⟨hxo, rfl, rfl, ?_⟩
    cases dx with
    | none => trivial
    | some d => obtain ⟨od, hd⟩ := hdx; show match (some d : Option Addr), s.heap.get? d with | some dx, some o => s.heap.get? dx = some o | none, none => True | _, _ => False; rw [R.H.hmu _ hd]; exact R.H.hmu _ hd
  refine wpAny_bind (check_mw (R.kin S) I hp ?_)
  refine wpAny_bind (wpAny_pure (wpAny_pure ?_))
  refine ⟨Code.quiet_builtin _ (by decide +kernel), codeAny_builtin F.initEntry ?_⟩
  show wpAny _ _ (do BaseException.bexcPut (.ref x) 0 (← newTuple [v]); ret Value.none) _ _ _
  have R1 := R.H.pushM (tupO [v]) rfl
  have hx1 := R1.hmu _ (.tail _ hx)
  refine wpAny_bind ?_
  unfold newTuple
  refine wpAny_newObj_type ?_ (by show 1 ≤ sizeLine; rw [sizeLine_eq]; decide)
  refine wpAny_bind ?_
  unfold BaseException.bexcPut
  refine wpAny_bind (wpAny_field hx1 rfl (x := .ref y) rfl ?_)
  refine wpAny_bind (wpAny_setField hx1 rfl (by simp) ?_)
  have hd := Heap.get?_update_self (Obj.mapFields (·.setIfInBounds 0 (Value.ref s.heap.objs.size))) hx1 rfl
  unfold letGo
  refine wpAny_bind (wpAny_holding (wpAny_point ?_))
  unfold letGo
  exact wpAny_pure (wpAny_pure (k _ _ fun mu' U => ⟨R1.upd (.tail U) (Heap.SameBut.update _ x (Obj.mapFields (·.setIfInBounds 0 (Value.ref s.heap.objs.size)))) hd, R.oth⟩))
end

def keysStr (o : Obj) : Bool := match o.data with
  | .dict es _ => es.toList.all fun e => match e.key with | .str _ _ => true | _ => false
  | _ => false
section
variable {prog : Program} {w : World} {A : Around} {E : Value → Shared → Prop} {s s₀ : Shared} {hb : Heap} {l : List Env} {fr V : List Addr} {L : Addr} {m : Vars} {mu mu' im : List (Addr × Obj)}
  {K : Frag} {p : Program} {loose : List Str} {mg mb : Str → Option Value} {C N fI : Addr} {oN : Obj} {rest : List Value}
variable {nm q : Str} {bs : List Value} {sn : List Str} {sub : List Value} {ab : Bool} {col : Option Bool} {dd : Option Addr} {k0 k1 k2 k3 k5 : Option Value}
theorem ns_K {h : Heap} (X : K.In h) (hN : K.lookup N = some oN) (hk : keysStr oN = true) {name : Str} {v : Option Value} (hv : nsIn K N name = some v) : ∃ mN, h.Ns N mN ∧ mN name = v := by
  obtain ⟨oc, od, odt, osl⟩ := oN
  unfold keysStr at hk
  split at hk
  · rename_i es ep hd
    dsimp only at hd
    subst hd
    refine ⟨nsFind es, ⟨_, es, ep, X _ _ hN, rfl, fun e he => ?_, fun _ => rfl⟩, ?_⟩
    · have := List.all_eq_true.mp hk e (Array.mem_toList_iff.mpr he)
      split at this
      · rename_i n t z; exact ⟨n, t, z⟩
      · cases this
    · unfold nsIn at hv
      rw [hN] at hv
      dsimp only at hv
      unfold nsFind findBy
      rw [← Array.find?_toList]
      split at hv
      · rename_i e he; cases hv; rw [he]; rfl
      · rename_i he
        split at hv
        · cases hv
        · cases hv; rw [he]; rfl
  · cases hk
theorem under_frames {a : Args} : (A.under (.builtin "type.__call__" a)).frames = A.frames := by
  unfold Around.under
  dsimp only
  have e : (Code.builtin "type.__call__" a).envs = [] := rfl
  rw [e]
  cases A.frames <;> rfl
theorem new_exc {Q : Value → Shared → Prop} (R : Run hb l fr V s₀ L m mu im s) (S : Sta K p loose mg mb hb)
    (hC : K.lookup C = some (excClassObj nm q C N bs [.type "Exception", .type "BaseException", .type "object"] true sn sub ab col dd k0 k1 k2 k3 k5 "Exception.__new__"))
    (hN : K.lookup N = some oN) (hk : keysStr oN = true) (hi : nsIn K N "__init__" = some (some (.ref fI))) (hf : typeIn K (.ref fI) = some (.type "function"))
    (h : ∀ (B : Around) e t s', B.depth = A.depth + 1 → B.frames = A.frames → B.handled = A.handled → Run hb l fr V s₀ L m ((e, exO (.ref C) none (.ref t) .none .none .none (.bool false)) :: mu) ((t, tupO rest) :: im) s' →
      wpAny (model prog w) B (call (.ref fI) (.ref e :: rest)) (fun r s' => r = .none ∧ Q (.ref e) s') E s') (hrest : rest.length ≤ sizeLine := by size_fits) :
    wpAny (model prog w) A (call (.ref C) rest) Q E s := by
  obtain ⟨mN, hns, hin⟩ := ns_K (R.kin S) hN hk hi
  obtain ⟨of, hof, hoc⟩ : ∃ of, s.heap.get? fI = some of ∧ of.cls = .type "function" := by
    have ht' : (K.lookup fI).map (·.cls) = some (.type "function") := hf
    cases z : K.lookup fI with
    | none => rw [z] at ht'; cases ht'
    | some of => rw [z] at ht'; exact ⟨of, R.kin S _ _ z, Option.some.inj ht'⟩
  have HC := R.kin S _ _ hC
  obtain ⟨hh, g, d, t, os⟩ := s
  refine wpAny_call_exc_init PySem.F.excBase_Exception HC hns hin hof hoc (fun h' e me => ?_) hrest
  obtain ⟨t', R1⟩ := R.H.made me
  exact h _ e t' _ rfl under_frames rfl ⟨R1, R.oth⟩
theorem isinst_str {x : Str} {t : Tok} {Q : Value → Shared → Prop} (h : Q (.bool true) s) : wpAny (model prog w) A (call (.builtin "isinstance") [.str x t, .type "str"]) Q E s :=
  call_isinstance (isinstance_true (x := .str x t) (Tx := "str") (T := "str") (by first | rfl | kernel_rfl) (by rw [isSubtype_type]; kernel_rfl)) ⟨typeIs_str s x t, h⟩
theorem isinst_bytes {x : Array UInt8} {t : Tok} {Q : Value → Shared → Prop} (R : Run hb l fr V s₀ L m mu im s) (h : ∀ s', Run hb l fr V s₀ L m mu im s' → Q (.bool false) s') : wpAny (model prog w) A (call (.builtin "isinstance") [.bytes x t, .type "str"]) Q E s := by
  have key : Meets (Builtin.«isinstance» ⟨[.bytes x t, .type "str"], []⟩) (fun _ R s => R (.ok (.ret (.bool false))) { s with toks := s.toks + 1 }) :=
    fun _ _ _ _ s hs => by
      obtain ⟨h, g, d, t, os⟩ := s
      exact isinstance_outer (isinstance_nested_false_bytes (by decide) (by first | rfl | kernel_rfl) (by rw [isSubtype_type]; kernel_rfl) hs)
  exact call_isinstance key (h _ (R.tok _))
end
end Mine
end

section
open PySem PySem.W PySem.Calls PyProof.Rows PySem.Builtin
set_option maxRecDepth 100000
namespace Mine
inductive Pat
  | t (x : Str)
  | b (x : Array UInt8)
def Pat.v : Pat → Tok → Value
  | .t x, u => .str x u
  | .b x, u => .bytes x u
def Pat.cs : Pat → List Nat
  | .t x => x.cps.toList
  | .b x => octs x
def nlBefore (cs : List Nat) (p : Int) : Int := ((cs.take (upto cs.length p)).count 10 : Nat)
def nlLast (cs : List Nat) (p : Int) : Int := lastI 10 (cs.take (upto cs.length p))
def linePos (cs : List Nat) (p : Int) : Int := nlBefore cs p + 1
def colPos (cs : List Nat) (p : Int) : Int := p - nlLast cs p
def wordsAt (m : Str) (p : Int) : Str := m ++ Str.ofString " at position " ++ numT p
def wordsLC (m : Str) (l c : Int) : Str := m ++ Str.ofString " (line " ++ numT l ++ Str.ofString ", column " ++ numT c ++ Str.ofString ")"
def wordsOf (m : Str) (cs : List Nat) (p : Int) : Str := if cs.contains 10 = true then wordsLC (wordsAt m p) (linePos cs p) (colPos cs p) else wordsAt m p
theorem nlS : Str.ofString "\n" = ⟨#[10]⟩ := by decide +kernel
section
variable {prog : Program} {w : World} {A : Around} {E : Value → Shared → Prop} {s s₀ : Shared} {hb : Heap} {l : List Env} {fr V : List Addr} {L : Addr} {m : Vars} {mu mu' im : List (Addr × Obj)}
theorem count_t {x : Str} {p : Int} {t u v q : Tok} {Q : Value → Shared → Prop} (R : Run hb l fr V s₀ L m mu im s) (h : ∀ u' s', Run hb l fr V s₀ L m mu im s' → Q (.int (nlBefore (Pat.t x).cs p) u') s') :
    wpAny (model prog w) A (call (.builtin "str.count") [.str x t, .str (Str.ofString "\n") u, .int 0 v, .int p q]) Q E s := by
  have e : nlBefore (Pat.t x).cs p = (((x.cps.toList.take (upto x.length p)).count 10 : Nat) : Int) := rfl
  rw [e] at h
  rw [nlS]
  exact call_gives F.slot_str_count (typeIs_str _ _ _) F.entry_str_count (F.args_str_count_4 _ _ _ _) (gives_count4 x 10 p t u v q) (h _ _ (R.tok _))
theorem rfind_t {x : Str} {p : Int} {t u v q : Tok} {Q : Value → Shared → Prop} (R : Run hb l fr V s₀ L m mu im s) (h : ∀ u' s', Run hb l fr V s₀ L m mu im s' → Q (.int (nlLast (Pat.t x).cs p) u') s') :
    wpAny (model prog w) A (call (.builtin "str.rfind") [.str x t, .str (Str.ofString "\n") u, .int 0 v, .int p q]) Q E s := by
  have e : nlLast (Pat.t x).cs p = lastI 10 (x.cps.toList.take (upto x.length p)) := rfl
  rw [e] at h
  rw [nlS]
  exact call_gives F.slot_str_rfind (typeIs_str _ _ _) F.entry_str_rfind (F.args_str_rfind_4 _ _ _ _) (gives_rfind4 x 10 p t u v q) (h _ _ (R.tok _))
theorem octs_len (b : Array UInt8) : (octs b).length = b.size := by simp [octs]
theorem count_b {x : Array UInt8} {p : Int} {t u v q : Tok} {Q : Value → Shared → Prop} (R : Run hb l fr V s₀ L m mu im s) (h : ∀ u' s', Run hb l fr V s₀ L m mu im s' → Q (.int (nlBefore (Pat.b x).cs p) u') s') :
    wpAny (model prog w) A (call (.builtin "bytes.count") [.bytes x t, .bytes [10].toArray u, .int 0 v, .int p q]) Q E s := by
  have e : nlBefore (Pat.b x).cs p = ((((octs x).take (upto x.size p)).count 10 : Nat) : Int) := by
    unfold nlBefore Pat.cs; rw [octs_len]
  rw [e] at h
  exact call_gives slot_bytes_count (typeIs_bytes _ _ _) entry_bytes_count (args_bytes_count_4 _ _ _ _) (gives_bcount4 x 10 p t u v q) (h _ _ (R.tok _))
theorem rfind_b {x : Array UInt8} {p : Int} {t u v q : Tok} {Q : Value → Shared → Prop} (R : Run hb l fr V s₀ L m mu im s) (h : ∀ u' s', Run hb l fr V s₀ L m mu im s' → Q (.int (nlLast (Pat.b x).cs p) u') s') :
    wpAny (model prog w) A (call (.builtin "bytes.rfind") [.bytes x t, .bytes [10].toArray u, .int 0 v, .int p q]) Q E s := by
  have e : nlLast (Pat.b x).cs p = lastI 10 ((octs x).take (upto x.size p)) := by
    unfold nlLast Pat.cs; rw [octs_len]
  rw [e] at h
  exact call_gives slot_bytes_rfind (typeIs_bytes _ _ _) entry_bytes_rfind (args_bytes_rfind_4 _ _ _ _) (gives_brfind4 x 10 p t u v q) (h _ _ (R.tok _))
theorem meth_count_b {M : Model} {b : Array UInt8} {t : Tok} {pl : Sem Bool} {Q : Value × List Value → Shared → Prop} (h : Q (.builtin "bytes.count", [.bytes b t]) s) : wpAny M A (getMethod (.bytes b t) "count" pl) Q E s := by
  with_reducible exact KBd.method_of (.bytes b t) (typeIs_bytes _ _ _) slot_bytes_count type_bytes_count KBd.noRef h
theorem meth_rfind_b {M : Model} {b : Array UInt8} {t : Tok} {pl : Sem Bool} {Q : Value × List Value → Shared → Prop} (h : Q (.builtin "bytes.rfind", [.bytes b t]) s) : wpAny M A (getMethod (.bytes b t) "rfind" pl) Q E s := by
  with_reducible exact KBd.method_of (.bytes b t) (typeIs_bytes _ _ _) slot_bytes_rfind type_bytes_rfind KBd.noRef h
theorem nl_in_t {x : Str} {t u : Tok} {Q : Value → Shared → Prop} (h : Q (.bool ((Pat.t x).cs.contains 10)) s) : wpAny (model prog w) A (compareOp .In (.str (Str.ofString "\n") u) (.str x t)) Q E s := by
  rw [nlS]; exact in_text h
theorem nl_in_b {x : Array UInt8} {t u : Tok} {Q : Value → Shared → Prop} (R : Run hb l fr V s₀ L m mu im s) (hh : A.handled = none) (h : ∀ s', Run hb l fr V s₀ L m mu im s' → Q (.bool ((Pat.b x).cs.contains 10)) s') :
    wpAny (model prog w) A (compareOp .In (.bytes [10].toArray u) (.bytes x t)) Q E s := in_octs (c := 10) R hh h
theorem nl_in_t' {x : Str} {t u : Tok} {b : Bool} {Q : Value → Shared → Prop} (hb : (Pat.t x).cs.contains 10 = b) (h : Q (.bool b) s) : wpAny (model prog w) A (compareOp .In (.str (Str.ofString "\n") u) (.str x t)) Q E s :=
  nl_in_t (by rw [hb]; exact h)
theorem nl_in_b' {x : Array UInt8} {t u : Tok} {b : Bool} {Q : Value → Shared → Prop} (R : Run hb l fr V s₀ L m mu im s) (hh : A.handled = none) (hb' : (Pat.b x).cs.contains 10 = b) (h : ∀ s', Run hb l fr V s₀ L m mu im s' → Q (.bool b) s') :
    wpAny (model prog w) A (compareOp .In (.bytes [10].toArray u) (.bytes x t)) Q E s := nl_in_b R hh (by rw [hb']; exact h)
theorem RunH.perm {h₀ h : Heap} (R : RunH hb l fr V h₀ L m mu im h) (p : mu.Perm mu') : RunH hb l fr V h₀ L m mu' im h :=
  ⟨R.stays, R.ff, R.ns, R.evo, fun q hq => R.hmu q (p.mem_iff.mpr hq), R.him, (p.map _).nodup_iff.mp R.nodup, fun q hq => R.apart q (p.mem_iff.mpr hq), fun q hq => R.offm q (p.mem_iff.mpr hq), R.offi, R.L0, R.sub⟩
theorem callWith_mw1 {M : Model} {x u : Addr} {env : Env} {pos : Pos} {id : String} {first : List Value} {e : Expr} {rest : List Expr} {Q : Value → Shared → Prop}
    (h : wpAny M A (spliced (backTo pos (starEach (e :: rest) env))) (fun vs s₁ => s₁.heap.get? u = some (mwObj id x) ∧ wpAny M A (call (.ref u) (first ++ vs)) Q E s₁) E s)
    (he : starEach (e :: rest) env = (false, eval e env) :: starEach rest env := by rfl) (hplain : (backTo pos (starEach rest env)).any (·.1) = false := by rfl) :
    wpAny M A (callWith pos (.ref u) first (backTo pos (starEach (e :: rest) env)) []) Q E s := by
  rw [he] at h ⊢
  exact callWith_mw (by show (false || (backTo pos (starEach rest env)).any (·.1)) = false; rw [hplain]; rfl) (evalArgs_plain h)
theorem isTup_im {a : Addr} {vs : List Value} (R : Run hb l fr V s₀ L m mu im s) (h : (a, tupO vs) ∈ im) : IsTup s.heap a vs.toArray := ⟨_, R.H.him _ h, rfl, 0, rfl⟩
theorem mod_t {X X' T : Str} {b : Addr} {vs : List Value} {t : Tok} {Q : Value → Shared → Prop} (R : Run hb l fr V s₀ L m mu im s) (hb' : (b, tupO vs) ∈ im) (hX : X = X')
    (hm : Meets («str.__mod__» ⟨[.str X' t, .ref b], []⟩) (fun _ R s => IsTup s.heap b vs.toArray ∧ ∀ t' k, R (.ok (.ret (.str T t'))) { s with toks := k }))
    (h : ∀ t' s', Run hb l fr V s₀ L m mu im s' → Q (.str T t') s') : wpAny (model prog w) A (binaryOp .Mod (.str X t) (.ref b)) Q E s := by
  subst hX
  have ht := isTup_im R hb'
  have hT : s.TypeIs (.ref b) "tuple" := ⟨_, R.H.him _ hb', rfl⟩
  exact KPt.bin_left (T := "str") (U := "tuple") (op := .Mod) (by decide) (typeIs_str s X t) hT F.fills_str_mod KPt.fills_tuple F.slot_str_mod
    (call_meets F.slot_str_mod (typeIs_str s X t) F.entry_str_mod (F.args_str_mod_2 _ _) hm ⟨ht, fun t' k => ⟨(fun e => nomatch e), h t' _ (R.tok _)⟩⟩)
theorem mod_at {b : Addr} {y : Str} {ty tn t : Tok} {n : Int} {Q : Value → Shared → Prop} (R : Run hb l fr V s₀ L m mu im s) (hb' : (b, tupO [.str y ty, .int n tn]) ∈ im) (hy : y.length ≤ 1000000) (hn : n.natAbs < 10 ^ 10)
    (h : ∀ t' s', Run hb l fr V s₀ L m mu im s' → Q (.str (wordsAt y n) t') s') : wpAny (model prog w) A (binaryOp .Mod (.str (Str.ofString "%s at position %d") t) (.ref b)) Q E s :=
  mod_t R hb' (by decide +kernel) (fmt_at hy hn) h
theorem mod_lc {b : Addr} {y : Str} {ty tn tc t : Tok} {n c : Int} {Q : Value → Shared → Prop} (R : Run hb l fr V s₀ L m mu im s) (hb' : (b, tupO [.str y ty, .int n tn, .int c tc]) ∈ im) (hy : y.length ≤ 1000000) (hn : n.natAbs < 10 ^ 10) (hc : c.natAbs < 10 ^ 10)
    (h : ∀ t' s', Run hb l fr V s₀ L m mu im s' → Q (.str (wordsLC y n c) t') s') : wpAny (model prog w) A (binaryOp .Mod (.str (Str.ofString "%s (line %d, column %d)") t) (.ref b)) Q E s :=
  mod_t R hb' (by decide +kernel) (fmt_lc hy hn hc) h
end

theorem str_app_len (a b : Str) : (a ++ b).length = a.length + b.length := by
  show (a ++ b).cps.size = a.cps.size + b.cps.size
  rw [Str.cps_append, Array.size_append]
theorem wordsAt_len {m : Str} {p : Int} (h : m.length ≤ 900000) (hp : p.natAbs < 10 ^ 10) : (wordsAt m p).length ≤ 900030 := by
  unfold wordsAt
  rw [str_app_len, str_app_len]
  have := numT_len hp
  have e : (Str.ofString " at position ").length = 13 := by decide +kernel
  omega
theorem nlBefore_le (cs : List Nat) (p : Int) : 0 ≤ nlBefore cs p ∧ nlBefore cs p ≤ cs.length := by
  unfold nlBefore
  exact ⟨Int.natCast_nonneg _, Int.ofNat_le.mpr (Nat.le_trans List.count_le_length (by rw [List.length_take]; exact Nat.min_le_right _ _))⟩
theorem nlLast_le (cs : List Nat) (p : Int) : -1 ≤ nlLast cs p ∧ nlLast cs p ≤ cs.length := by
  unfold nlLast lastI
  have h := tailLen_le 10 (cs.take (upto cs.length p))
  have h2 : (cs.take (upto cs.length p)).length ≤ cs.length := by rw [List.length_take]; exact Nat.min_le_right _ _
  omega
theorem abs_ok {z : Int} {n : Nat} (h1 : -1 ≤ z) (h2 : z ≤ n) : z.natAbs ≤ n + 1 := by
  cases z with
  | ofNat k => exact Nat.le_succ_of_le (Int.ofNat_le.mp h2)
  | negSucc k => exact Nat.le_trans (Int.ofNat_le.mp (show ((k + 1 : Nat) : Int) ≤ ((1 : Nat) : Int) from Int.neg_le_neg h1)) (Nat.succ_le_succ (Nat.zero_le n))
theorem line_ok {cs : List Nat} {p : Int} (h : cs.length < 10 ^ 5) : (nlBefore cs p + 1).natAbs < 10 ^ 10 :=
  have z := nlBefore_le cs p
  Nat.lt_of_le_of_lt (Nat.le_trans (Int.natAbs_add_le _ _) (Nat.add_le_add_right (Nat.le_trans (abs_ok (Int.le_trans (by decide) z.1) z.2) h) _)) (by decide)
theorem col_ok {cs : List Nat} {p : Int} (h : cs.length < 10 ^ 5) (hp : p.natAbs < 10 ^ 9) : (p - nlLast cs p).natAbs < 10 ^ 10 := by
  have z := nlLast_le cs p
  exact Nat.lt_of_le_of_lt (Nat.le_trans (Int.natAbs_sub_le _ _) (Nat.add_le_add (Nat.le_of_lt hp) (Nat.le_trans (abs_ok z.1 z.2) h))) (by decide)

structure Hold (P : Prop) : Prop where
  out : P
theorem stepAt {M : Model} {A : Around} {c : Code} {E : Value → Shared → Prop} {s : Shared} {env : Env} {st : Stmt} {rest : List Stmt} {Q : Flow → Shared → Prop}
    (h : wpAny M A (exec st env) (fun f s' => match f with | .next => Hold (PySem.wpAt M A c (execs rest env) Q E s') | f => Q f s') E s) :
    PySem.wpAt M A c (execs (st :: rest) env) Q E s :=
  ks_wpAt_execs_cons (wpAt_of_wpAny (wpAny_mono h (fun f s' h' => by cases f <;> first | exact h'.out | exact h') fun _ _ z => z))
end Mine
end

section
open PySem PySem.W PySem.Calls PyProof.Rows PySem.Builtin
set_option maxRecDepth 100000
namespace Mine
section
variable {prog : Program} {w : World} {A : Around} {E : Value → Shared → Prop} {s s₀ : Shared} {hb : Heap} {l : List Env} {fr V : List Addr} {L : Addr} {m : Vars} {mu mu' im : List (Addr × Obj)}
theorem truthy_s {x : Str} {t : Tok} {b : Bool} {Q : Bool → Shared → Prop} (R : Run hb l fr V s₀ L m mu im s) (hx : x.length < 2 ^ 60) (hb' : ((x.length : Int) != 0) = b) (h : ∀ s', Run hb l fr V s₀ L m mu im s' → Q b s') : wpAny (model prog w) A (truthy (.str x t)) Q E s :=
  P.truthy_str (by omega) (by rw [hb']; exact h _ (R.tok _))
theorem len_s {x : Str} {t : Tok} {n : Int} {Q : Value → Shared → Prop} (R : Run hb l fr V s₀ L m mu im s) (hx : x.length < 2 ^ 60) (hn : (x.length : Int) = n) (h : ∀ u s', Run hb l fr V s₀ L m mu im s' → Q (.int n u) s') : wpAny (model prog w) A (call (.builtin "len") [.str x t]) Q E s :=
  P.len_str (by omega) (by rw [hn]; exact h _ _ (R.tok _))
end
end Mine
end

section
open PySem PySem.W PySem.Calls PyProof.Rows PySem.Builtin PySem.Builtin._codecs
set_option maxRecDepth 100000
namespace Mine
section
def latin (b : Array UInt8) : Str := ⟨(octs b).toArray⟩
theorem octs_get {b : Array UInt8} {p : Nat} (h : p < b.size) : (octs b)[p]? = some (b.getD p 0).toNat := by
  simp [octs, h, Array.getD]
theorem octs_take {b : Array UInt8} {p : Nat} (h : p < b.size) : (octs b).take (p + 1) = (octs b).take p ++ [(b.getD p 0).toNat] := by
  rw [List.take_add_one, octs_get h]; rfl
theorem forIn_list {σ : Type} {f : Nat → σ → Sem (ForInStep σ)} {st : Nat → σ} : ∀ (n k : Nat), (∀ i, k ≤ i → i < k + n → f i (st i) = pure (.yield (st (i + 1)))) → forIn (List.range' k n 1) (st k) f = pure (st (k + n))
  | 0, k, _ => rfl
  | n + 1, k, h => by
    rw [List.range'_succ, List.forIn_cons, h k (Nat.le_refl _) (by omega), pure_bind]
    show forIn (List.range' (k + 1) n 1) (st (k + 1)) f = _
    rw [forIn_list n (k + 1) (fun i h1 h2 => h i (by omega) (by omega)), show k + 1 + n = k + (n + 1) from by omega]
theorem forIn_upto {σ : Type} {f : Nat → σ → Sem (ForInStep σ)} (st : Nat → σ) {n : Nat} (h : ∀ i, i < n → f i (st i) = pure (.yield (st (i + 1)))) : forIn [:n] (st 0) f = pure (st n) := by
  rw [KPc.range_list, forIn_list n 0 (fun i _ h2 => h i (by omega)), Nat.zero_add]
theorem latin_len (b : Array UInt8) : (latin b).length = b.size := by simp [latin, Str.length, octs]
theorem dec_eq (id : String) (d : Decoder) (errors : Option Str) (b : Array UInt8) (held : List Value) (hd : ∀ p, p < b.size → d.find true b p = .text [(b.getD p 0).toNat] (p + 1)) (hs : b.size ≤ sizeLine) :
    runDecoder id d errors true b 0 held = pure ((latin b).cps, b.size) := by
  have hl : (octs b).take b.size = octs b := List.take_of_length_le (by simp [octs])
  unfold runDecoder
  refine (congrArg (fun x => x >>= _) (forIn_upto (fun i => (i, ((octs b).take i).toArray, ({ held := held } : Faults))) (n := b.size) ?_)).trans ?_
  · intro i hi
    dsimp only
    have hz : ¬ ((octs b).take i).toArray.size > sizeLine := by
      simp only [List.size_toArray, List.length_take]; omega
    rw [if_neg hz, if_neg (by omega), hd i hi]
    dsimp only
    rw [octs_take hi]
    simp
  · rw [pure_bind, hl]; rfl

section
variable {b : Array UInt8} {c : UInt8} {cs : List UInt8} {t u : Tok}
theorem road_latin {id : String} : decodeRoad id b (Str.ofString "latin1") none [] = (runDecoder id latin1Decoder none true b 0 [] >>= fun r => mkStr ⟨r.1⟩) := by kernel_rfl
theorem road_ascii {id : String} : decodeRoad id b (Str.ofString "ascii") none [] = (runDecoder id asciiDecoder none true b 0 [] >>= fun r => mkStr ⟨r.1⟩) := by kernel_rfl
theorem meets_text2 {e x : Str} {n : Nat} {dd : Decoder} {t1 t2 : Tok} {d : Str} (hr : ∀ id, decodeRoad id b e none [] = (runDecoder id dd none true b 0 [] >>= fun r => mkStr ⟨r.1⟩)) (hd : ∀ id, runDecoder id dd none true b 0 [] = pure (x.cps, n)) :
    Meets («_codecs.decode.text» ⟨[.bytes b t, .str e t1, .none, .str d t2], []⟩) (fun _ R s => x.length ≤ sizeLine ∧ R (.ok (.ret (.str x s.toks))) { s with toks := s.toks + 1 }) := by
  refine .of_wp fun prog w A R s hS => ?_
  obtain ⟨hsz, h⟩ := hS
  show wpAny _ _ (Bytes.bytesLike _ (.bytes b t) >>= fun r => _) _ _ s
  refine wpAny_bind (wpAny_of_eq KBd.like_eq ?_)
  refine wpAny_bind (wpAny_of_eq KBd.held_eq ?_)
  show wpAny _ _ (decodeRoad _ b e none [] >>= fun v => _) _ _ s
  rw [hr, hd]
  refine wpAny_bind (wpAny_bind (wpAny_pure ?_))
  exact wpAny_mkStr (wpAny_pure ⟨_, rfl, h⟩) hsz
theorem decode_pos : «bytes.decode» ⟨[.bytes (c :: cs).toArray t, .str (Str.ofString "ascii") u], []⟩ = (mkStr (Str.ofString "utf-8") >>= fun _ => mkStr (Str.ofString "ascii") >>= fun e => mkStr (Str.ofString "bytes.decode") >>= fun d =>
    call (.builtin "_codecs.decode.text") [.bytes (c :: cs).toArray t, e, .none, d] >>= fun v => ret v) := by kernel_rfl
theorem decode_kw : «bytes.decode» ⟨[.bytes (c :: cs).toArray t], [(Str.ofString "encoding", .str (Str.ofString "latin1") u)]⟩ = (mkStr (Str.ofString "utf-8") >>= fun _ => mkStr (Str.ofString "latin1") >>= fun e => mkStr (Str.ofString "bytes.decode") >>= fun d =>
    call (.builtin "_codecs.decode.text") [.bytes (c :: cs).toArray t, e, .none, d] >>= fun v => ret v) := by kernel_rfl
theorem args_decode_2 (a b : Value) : argsOk "bytes.decode" ⟨[a, b], []⟩ := by
  unfold argsOk; rw [signature?_of (id := "bytes.decode") (n := ['e', 'd', 'o', 'c', 'e', 'd']) (o := ['s', 'e', 't', 'y', 'b']) (by kernel_rfl) FB.owner_bytes]; kernel_rfl
theorem args_decode_kw (a b : Value) : argsOk "bytes.decode" ⟨[a], [(Str.ofString "encoding", b)]⟩ := by
  unfold argsOk; rw [signature?_of (id := "bytes.decode") (n := ['e', 'd', 'o', 'c', 'e', 'd']) (o := ['s', 'e', 't', 'y', 'b']) (by kernel_rfl) FB.owner_bytes]; kernel_rfl
end

section
variable {prog : Program} {w : World} {A : Around} {E : Value → Shared → Prop} {s s₀ : Shared} {hb : Heap} {l : List Env} {fr V : List Addr} {L : Addr} {m : Vars} {mu mu' im : List (Addr × Obj)}
theorem latin_find (b : Array UInt8) : ∀ p, p < b.size → latin1Decoder.find true b p = .text [(b.getD p 0).toNat] (p + 1) := fun _ _ => rfl
theorem ascii_find {b : Array UInt8} (h : ∀ p, p < b.size → (b.getD p 0).toNat < 128) : ∀ p, p < b.size → asciiDecoder.find true b p = .text [(b.getD p 0).toNat] (p + 1) := fun p hp => by
  show (if (b.getD p 0).toNat < 128 then Found.char _ _ else _) = _
  rw [if_pos (h p hp)]; rfl
theorem cons_of {b : Array UInt8} (h : b.size ≠ 0) : ∃ c cs, b = (c :: cs).toArray := by
  obtain ⟨l⟩ := b
  cases l with
  | nil => exact absurd rfl h
  | cons c cs => exact ⟨c, cs, rfl⟩
theorem decode_ascii {b : Array UInt8} {t u : Tok} {Q : Value → Shared → Prop} (R : Run hb l fr V s₀ L m mu im s) (hne : b.size ≠ 0) (h128 : ∀ p, p < b.size → (b.getD p 0).toNat < 128) (hs : b.size ≤ 16777216)
    (h : ∀ u s', Run hb l fr V s₀ L m mu im s' → Q (.str (latin b) u) s') : wpAny (model prog w) A (call (.builtin "bytes.decode") [.bytes b t, .str (Str.ofString "ascii") u]) Q E s := by
  have hs' : b.size ≤ sizeLine := by rw [sizeLine_eq]; exact hs
  have hd := fun id => dec_eq id asciiDecoder none b [] (ascii_find h128) hs'
  obtain ⟨c, cs, rfl⟩ := cons_of hne
  have mt : Meets («bytes.decode» ⟨[.bytes (c :: cs).toArray t, .str (Str.ofString "ascii") u], []⟩) (fun _ R s => ∀ t' k, R (.ok (.ret (.str (latin (c :: cs).toArray) t'))) { s with toks := k }) := by
    refine .of_wp fun prog w A R s hS => ?_
    rw [decode_pos]
    refine wpAny_bind (wpAny_mkStr ?_ (by decide +kernel))
    refine wpAny_bind (wpAny_mkStr ?_ (by decide +kernel))
    refine wpAny_bind (wpAny_mkStr ?_ (by decide +kernel))
    exact wpAny_bind (call_function_meets KBd.kind_text KBd.plain_text KBd.entry_text (KBd.args_text _ _ _ _) (meets_text2 (fun _ => road_ascii) hd) ⟨by rw [latin_len]; exact hs', wpAny_pure ⟨_, rfl, hS _ _⟩⟩)
  exact call_meets FB.slot_bytes_decode (typeIs_bytes _ _ _) FB.entry_bytes_decode (args_decode_2 _ _) mt fun t' k => h _ _ (R.tok _)
theorem str_latin {b : Array UInt8} {t u : Tok} {Q : Value → Shared → Prop} (R : Run hb l fr V s₀ L m mu im s) (hne : b.size ≠ 0) (hs : b.size ≤ 16777216)
    (h : ∀ u s', Run hb l fr V s₀ L m mu im s' → Q (.str (latin b) u) s') : wpAny (model prog w) A (call (.type "str") [.bytes b t, .str (Str.ofString "latin1") u]) Q E s := by
  have hs' : b.size ≤ sizeLine := by rw [sizeLine_eq]; exact hs
  have hd := fun id => dec_eq id latin1Decoder none b [] (latin_find b) hs'
  obtain ⟨c, cs, rfl⟩ := cons_of hne
  have mt : Meets («str.__new__» ⟨[.type "str", .bytes (c :: cs).toArray t, .str (Str.ofString "latin1") u], []⟩) (fun _ R s => ∀ t' k, R (.ok (.ret (.str (latin (c :: cs).toArray) t'))) { s with toks := k }) := by
    refine .of_wp fun prog w A R s hS => ?_
    unfold «str.__new__»
    refine wpAny_bind (wpAny_pure ?_)
    refine wpAny_bind (wpAny_of_eq isSubtype_str_str ?_)
    refine wpAny_bind (wpAny_of_eq (a := [some (.bytes (c :: cs).toArray t), some (.str (Str.ofString "latin1") u), none]) (by kernel_rfl) ?_)
    refine wpAny_bind (wpAny_of_eq (a := some (Str.ofString "latin1")) (by kernel_rfl) ?_)
    refine wpAny_bind (wpAny_of_eq (a := none) (by kernel_rfl) ?_)
    refine wpAny_bind (m := (_ : Sem Value)) ?_
    refine wpAny_bind (wpAny_bind (wpAny_mkStr (wpAny_pure ?_) (by decide +kernel)))
    refine wpAny_bind (wpAny_pure ?_)
    refine wpAny_bind (wpAny_of_eq KBy.isInstance_eq ?_)
    refine wpAny_bind (wpAny_rule ?_)
    refine wpAny_call ?_
    refine codeAny_call_builtin FB.slot_bytes_decode.plain FB.entry_bytes_decode (FB.slot_bytes_decode.check _ _ _ _ _ _ _ _ (typeIs_bytes _ _ _) (args_decode_kw _ _) ?_)
    show wpAny _ _ («bytes.decode» ⟨[.bytes (c :: cs).toArray t], [(Str.ofString "encoding", .str (Str.ofString "latin1") s.toks)]⟩) _ _ _
    rw [decode_kw]
    refine wpAny_bind (wpAny_mkStr ?_ (by decide +kernel))
    refine wpAny_bind (wpAny_mkStr ?_ (by decide +kernel))
    refine wpAny_bind (wpAny_mkStr ?_ (by decide +kernel))
    refine wpAny_bind (call_function_meets KBd.kind_text KBd.plain_text KBd.entry_text (KBd.args_text _ _ _ _) (meets_text2 (fun _ => road_latin) hd) ⟨by rw [latin_len]; exact hs', wpAny_pure ?_⟩)
    exact wpAny_pure ⟨_, rfl, hS _ _⟩
  refine callType_new PySem.F.called_str (by decide) (by kernel_rfl) (by kernel_rfl) (fun obj => by unfold argsOk; kernel_rfl) PySem.F.entry_str_new mt (fun t' k => ⟨typeIs_str _ _ _, h _ _ (R.tok _)⟩)
end
end
end Mine
end

section
open PySem PySem.W PySem.Calls PyProof.Rows PySem.Builtin PySem.Builtin._codecs
set_option maxRecDepth 100000
namespace Mine
def EncIs (x : Str) (b : Array UInt8) : Prop := ∀ (M : Model) (A : Around) (E : Value → Shared → Prop) (s : Shared) (Q : Array UInt8 → Shared → Prop) (u : Tok), Q b s →
  wpAny M A (encodeNarrow "str.encode" asciiCodec (some (Str.ofString "backslashreplace")) (.str x u) x) Q E s
theorem encIs_of {x : Str} {b : Array UInt8} (h : ∀ (S : Setting) u, peek [] S (encodeNarrow "str.encode" asciiCodec (some (Str.ofString "backslashreplace")) (.str x u) x) = some b) : EncIs x b :=
  fun _M _A _E s _Q u q => (Looks.of_peek (h := s.heap) (fun _ _ e => by cases e) (h _ u)).here q
theorem enc_here : EncIs (Str.ofString "here") #[104, 101, 114, 101] := encIs_of fun S u => by kernel_rfl
theorem enc_here2 : EncIs (Str.ofString "hére") #[104, 92, 120, 101, 57, 114, 101] := encIs_of fun S u => by kernel_rfl
section
variable {prog : Program} {w : World} {A : Around} {E : Value → Shared → Prop} {s s₀ : Shared} {hb : Heap} {l : List Env} {fr V : List Addr} {L : Addr} {m : Vars} {mu mu' im : List (Addr × Obj)}
theorem encode_eq {x : Str} {t u v : Tok} : «str.encode» ⟨[.str x t, .str (Str.ofString "ascii") u, .str (Str.ofString "backslashreplace") v], []⟩ =
    ((encodeNarrow "str.encode" asciiCodec (some (Str.ofString "backslashreplace")) (.str x t) x >>= fun b => mkBytes b) >>= fun r => ret r) := by kernel_rfl
theorem slot_str_encode' : Slot "str" "encode" "str.encode" :=
  .of (owner := "str") (n := "encode") (by rw [typeLookup_type, builtinLookup_eq_fast]; kernel_rfl) (by decide +kernel) (by decide +kernel) (by decide +kernel)
    (by first | exact .inl (by decide +kernel) | exact .inr (by decide +kernel)) (by rw [isSubtype_type]; kernel_rfl)
theorem type_str_encode' : typeOf (.builtin "str.encode") = pure (.type "method_descriptor") := by show builtinType _ = _; rw [builtinType_eq_fast]; kernel_rfl
theorem entry_str_encode' : entryFor table "str.encode" = some Builtin.«str.encode» := entryFor_of_tree (by kernel_rfl)
theorem args_str_encode_3 (a b c : Value) : argsOk "str.encode" ⟨[a, b, c], []⟩ := by
  unfold argsOk; rw [signature?_of (id := "str.encode") (n := ['e', 'd', 'o', 'c', 'n', 'e']) (o := ['r', 't', 's']) (by kernel_rfl) F.owner_str]; kernel_rfl
theorem encode_r {x : Str} {b : Array UInt8} {t u v : Tok} {Q : Value → Shared → Prop} (R : Run hb l fr V s₀ L m mu im s) (he : EncIs x b) (hs : b.size ≤ 16777216)
    (h : ∀ u s', Run hb l fr V s₀ L m mu im s' → Q (.bytes b u) s') : wpAny (model prog w) A (call (.builtin "str.encode") [.str x t, .str (Str.ofString "ascii") u, .str (Str.ofString "backslashreplace") v]) Q E s := by
  have hs' : b.size ≤ sizeLine := by rw [sizeLine_eq]; exact hs
  have mt : Meets («str.encode» ⟨[.str x t, .str (Str.ofString "ascii") u, .str (Str.ofString "backslashreplace") v], []⟩) (fun _ R s => ∀ t' k, R (.ok (.ret (.bytes b t'))) { s with toks := k }) := by
    refine .of_wp fun prog w A R s hS => ?_
    rw [encode_eq]
    refine wpAny_bind (wpAny_bind (he _ _ _ _ _ _ ?_))
    exact wpAny_mkBytes (wpAny_pure ⟨_, rfl, hS _ _⟩) hs'
  exact call_meets slot_str_encode' (typeIs_str _ _ _) entry_str_encode' (args_str_encode_3 _ _ _) mt fun t' k => h _ _ (R.tok _)
theorem meth_encode {M : Model} {x : Str} {t : Tok} {pl : Sem Bool} {Q : Value × List Value → Shared → Prop} (h : Q (.builtin "str.encode", [.str x t]) s) : wpAny M A (getMethod (.str x t) "encode" pl) Q E s :=
  getMethod_builtin (typeIs_str _ _ _) F.plainAttrs_str slot_str_encode' type_str_encode' (fun _ e => nomatch e) h
theorem meth_decode {M : Model} {b : Array UInt8} {t : Tok} {pl : Sem Bool} {Q : Value × List Value → Shared → Prop} (h : Q (.builtin "bytes.decode", [.bytes b t]) s) : wpAny M A (getMethod (.bytes b t) "decode" pl) Q E s := KBd.method h
end
end Mine
end

section
open PySem PySem.W PySem.Calls PyProof.Rows PySem.Builtin PySem.Builtin._codecs
set_option maxRecDepth 100000
namespace Mine
section
variable {hb : Heap} {s₀ s s' : Shared} {l : List Env} {fr V : List Addr} {L L' : Addr} {m m' : Vars} {mu mu1 mu' muN im im1 im' nw : List (Addr × Obj)} {env : Env}
theorem RunH.gains {h₀ h h' : Heap} (R : RunH hb l fr V h₀ L m mu im h) (R1 : RunH hb l fr V h₀ L m mu1 im1 h') : ∀ nw : List (Addr × Obj), (∀ p ∈ nw, h.get? p.1 = none) → (∀ p ∈ nw, h'.get? p.1 = some p.2) → (nw.map (·.1)).Nodup →
    (∀ p ∈ mu1, h.get? p.1 ≠ none) → (∀ p ∈ im1, h.get? p.1 ≠ none) → RunH hb l fr V h₀ L m (nw ++ mu1) im1 h'
  | [], _, _, _, _, _ => R1
  | p :: r, hn, he, nd, h1, h2 => by
    simp only [List.map_cons, List.nodup_cons] at nd
    have ih := RunH.gains R R1 r (fun q hq => hn q (.tail _ hq)) (fun q hq => he q (.tail _ hq)) nd.2 h1 h2
    refine R.gainM ih (hn p (.head _)) (he p (.head _)) (fun q hq => ?_) fun q hq z => h2 q hq (z ▸ hn p (.head _))
    rcases List.mem_append.mp hq with hq | hq
    · exact fun z => nd.1 (List.mem_map.mpr ⟨q, hq, z⟩)
    · exact fun z => h1 q hq (z ▸ hn p (.head _))
theorem Run.back0N (nw : List (Addr × Obj)) (R : Run hb l fr V s₀ L m mu im s) (R' : Run hb (env :: l) (frs l) [] s L' m' mu' im' s') (hs : nw.Sublist mu') : Run hb l fr V s₀ L m (nw ++ mu) im s' := by
  have R1 := R.back0 R'
  exact ⟨R.H.gains R1.H nw (fun p hp => (R'.H.offm p (hs.subset hp)).2.2.2.resolve_left fun z => nomatch z) (fun p hp => R'.H.hmu p (hs.subset hp)) ((hs.map _).nodup R'.H.nodup)
    (fun p hp z => by have := R.H.hmu p hp; rw [z] at this; cases this) (fun p hp z => by have := R.H.him p hp; rw [z] at this; cases this), R1.oth⟩
theorem Run.back1N (nw : List (Addr × Obj)) {d : Addr} {o o' : Obj} (R : Run hb l fr V s₀ L m mu im s) (U : UpdL d o o' mu muN) (R' : Run hb (env :: l) (frs l) [d] s L' m' mu' im' s') (hm : (d, o') ∈ mu') (hs : nw.Sublist mu') (hd : ∀ p ∈ nw, p.1 ≠ d) :
    Run hb l fr V s₀ L m (nw ++ muN) im s' := by
  have R1 := R.back1 U R' hm
  exact ⟨R.H.gains R1.H nw (fun p hp => (R'.H.offm p (hs.subset hp)).2.2.2.resolve_left fun z => hd p hp (List.mem_singleton.mp z)) (fun p hp => R'.H.hmu p (hs.subset hp)) ((hs.map _).nodup R'.H.nodup)
    (fun p hp z => by
      have : p.1 ∈ muN.map (·.1) := List.mem_map.mpr ⟨p, hp, rfl⟩
      rw [U.addr] at this
      obtain ⟨q, hq, e⟩ := List.mem_map.mp this
      have := R.H.hmu q hq
      rw [e, z] at this; cases this) (fun p hp z => by have := R.H.him p hp; rw [z] at this; cases this), R1.oth⟩
end
def Said : Pat → Str → Str → Prop
  | .t _, m, s => s = m
  | .b _, m, s => ∃ b : Array UInt8, EncIs m b ∧ s = latin b ∧ b.size ≠ 0 ∧ (∀ p, p < b.size → (b.getD p 0).toNat < 128) ∧ b.size ≤ 900000
section
variable {prog : Program} {w : World} {A : Around} {E : Value → Shared → Prop} {s : Shared} {K : Frag} {p : Program} {loose : List Str} {mg mb : Str → Option Value} {hb : Heap} {env : Env} {pos : Pos}
theorem callWith_fS {f : Value} {first : List Value} {e : Expr} {rest : List Expr} {Q : Value → Shared → Prop} (_S : Sta K p loose mg mb hb) (hk : keepIn K f = true)
    (h : wpAny (model prog w) A (spliced (backTo pos (starEach (e :: rest) env))) (fun vs s₁ => K.In s₁.heap ∧ wpAny (model prog w) A (call f (first ++ vs)) Q E s₁) E s)
    (he : starEach (e :: rest) env = (false, eval e env) :: starEach rest env := by rfl) (hplain : (backTo pos (starEach rest env)).any (·.1) = false := by rfl) :
    wpAny (model prog w) A (callWith pos f first (backTo pos (starEach (e :: rest) env)) []) Q E s := callWith_f hk h he hplain
end
end Mine
end

section
open PySem PySem.W PySem.Calls PyProof.Rows PySem.Builtin PySem.Builtin._codecs
set_option maxRecDepth 100000
namespace Mine
section
variable {prog : Program} {w : World} {A : Around} {E : Value → Shared → Prop} {s s₀ : Shared} {hb : Heap} {l : List Env} {fr V : List Addr} {L : Addr} {m : Vars} {mu mu' im : List (Addr × Obj)}
  {K : Frag} {p : Program} {loose : List Str} {mg mb : Str → Option Value} {C fI : Addr} {rest : List Value}
theorem make_r {Q : Value → Shared → Prop} (R : Run hb l fr V s₀ L m mu im s) (S : Sta K p loose mg mb hb) (hm : makesIn K C = true)
    (hi : findIn K (.ref C) "__init__" = some (some (.ref fI))) (hf : typeIn K (.ref fI) = some (.type "function"))
    (h : ∀ (B : Around) x dx s', B.depth = A.depth + 1 → B.frames = A.frames → B.handled = A.handled → Run hb l fr V s₀ L m ((dx, dictOf [] 0) :: mu) ((x, instObj C dx) :: im) s' →
      codeAny (model prog w) B (.call (.ref fI) ⟨.ref x :: rest, []⟩) (InitBack x (fun r s' => match r with | .ok (.ret v) => Q v s' | .ok _ => False | .error e => E e s')) s') :
    wpAny (model prog w) A (call (.ref C) rest) Q E s := by
  refine wpAny_call ?_
  have X := R.kin S
  have R0 := R
  obtain ⟨hh, g, d, t, os⟩ := s
  refine make_core (makes_of X hm) (looks_findIn X hi) (fun self => bind_fn X self hf) (.inl rfl) (h _ _ hh.objs.size _ rfl under_frames rfl ?_)
  exact ⟨(R0.H.pushM emptyDict rfl).push (instObj C hh.objs.size) rfl |> fun z => by
    have e : (hh.push emptyDict).objs.size = hh.objs.size + 1 := by simp [Heap.push]
    rw [e] at z; exact z, R0.oth⟩
end
end Mine
end

section
open PySem PySem.W PySem.Calls PyProof.Rows PySem.Builtin PySem.Builtin._codecs
set_option maxRecDepth 100000
namespace Mine
abbrev listO (vs : List Value) (n : Nat) : Obj := { cls := .type "list", data := .seq vs.toArray n }
section
variable {prog : Program} {w : World} {A : Around} {E : Value → Shared → Prop} {s s₀ : Shared} {hb h' : Heap} {l : List Env} {fr V : List Addr} {L : Addr} {m m₁ : Vars} {mu mu' im mu₁ im₁ : List (Addr × Obj)} {env : Env}
theorem Run.start {s₁ : Shared} {tk : Nat} (F : Fr s₁.heap L h' (vmap m)) (hf : env.frame = some L) (hk : env.scope.kind = .function) : Run s₁.heap [env] [] [] s₁ L m [] [] { s₁ with heap := h', toks := tk } := by
  have nb : s₁.heap.get? L = none := by
    cases q : s₁.heap.get? L with
    | none => rfl
    | some o => exact absurd (Heap.lt_size q) (Nat.not_lt.mpr F.above)
  obtain ⟨oL, es, ep, hL, hLd, hLr⟩ := id F.ns
  refine ⟨⟨F.keep, ⟨by rw [hk]; decide, ⟨L, oL, hf, nb, hL, fun vs q => by rw [hLd] at q; cases q⟩, trivial⟩, ⟨_, F.ns, fun _ _ e => e⟩, Evo.keeps _ F.keep, (fun _ q => nomatch q), (fun _ q => nomatch q), .nil, (fun _ q => nomatch q), (fun _ q => nomatch q), (fun _ q => nomatch q), ⟨nb, nb⟩, fun a ha => ?_⟩, rfl, rfl, rfl⟩
  have : a = L := by
    obtain ⟨e, he, z⟩ := List.mem_filterMap.mp ha
    rw [List.mem_singleton.mp he, hf] at z
    exact (Option.some.inj z).symm
  exact .inl (this ▸ nb)
theorem Run.kept {tk : Nat} (R : Run hb l fr V s₀ L m mu im s) (k : ∀ b o, s.heap.get? b = some o → h'.get? b = some o) : Run hb l fr V s₀ L m mu im { s with heap := h', toks := tk } := ⟨R.H.keeps k, R.oth⟩
theorem Run.keptI {tk : Nat} {a : Addr} {o : Obj} (R : Run hb l fr V s₀ L m mu im s) (k : ∀ b o, s.heap.get? b = some o → h'.get? b = some o) (hn : s.heap.get? a = none) (e : h'.get? a = some o) :
    Run hb l fr V s₀ L m mu ((a, o) :: im) { s with heap := h', toks := tk } := ⟨R.H.gainI (R.H.keeps k) hn e (R.H.neM hn), R.oth⟩
theorem Run.list {a : Addr} {vs : List Value} {n : Nat} (R : Run hb l fr V s₀ L m mu im s) (h : (a, listO vs n) ∈ im) : s.heap.IsList a vs.toArray := ⟨_, R.H.him _ h, rfl, n, rfl⟩
theorem Run.listOld {a : Addr} {items : Array Value} (R : Run hb l fr V s₀ L m mu im s) (h : hb.IsList a items) : s.heap.IsList a items := by
  obtain ⟨o, e, r⟩ := h
  exact ⟨o, R.H.stays _ _ e, r⟩

def SliceQ (Q : Value → Shared → Prop) (o vu : Value) (s₃ : Shared) : Prop := ∃ l items lo hi, o = .ref l ∧ s₃.heap.IsList l items ∧ items.size ≤ sizeLine ∧ IsPart .none lo ∧ IsPart vu hi ∧
        Q (.ref (s₃.heap.objs.size + 1)) { s₃ with heap := (s₃.heap.push { cls := .type "slice", data := .fields #[.none, vu, .none] }).push { cls := .type "list", data := .seq (slicePick items lo hi none) } }
theorem slice_fin {a : Addr} {vs : List Value} {n : Nat} {i : Int} {u : Tok} {Q : Value → Shared → Prop} (R : Run hb l fr V s₀ L m mu im s) (hl : s.heap.IsList a vs.toArray) (hz : vs.length ≤ 16777216) (hi : (n : Int) = i)
    (k : ∀ D s', Run hb l fr V s₀ L m mu ((D, listO (vs.take n) 0) :: im) s' → Q (.ref D) s') :
    SliceQ Q (.ref a) (.int i u) s := by
  refine ⟨a, vs.toArray, none, some i, rfl, hl, by rw [List.size_toArray, sizeLine_eq]; exact hz, .none, .int i u, ?_⟩
  rw [← hi, slicePick_upto', List.toList_toArray]
  refine k _ _ ?_
  have R1 := (R.H.push { cls := .type "slice", data := .fields #[.none, .int (n : Int) u, .none] } rfl).push (listO (vs.take n) 0) rfl
  have R2 := R1.less (im' := ((s.heap.push { cls := .type "slice", data := .fields #[.none, .int (n : Int) u, .none] }).objs.size, listO (vs.take n) 0) :: im) (fun p hp => by
    rcases List.mem_cons.mp hp with rfl | hp
    · exact .head _
    · exact .tail _ (.tail _ hp))
  rw [Heap.size_push] at R2
  exact ⟨R2, R.oth⟩

def EltIs (prog : Program) (w : World) (A : Around) (env : Env) (scope : Scope) (cl : List (Str × Addr)) (x : Str) (elt : Expr) (s₂ : Shared) (v : Value) (F : Value → Value → Prop) : Prop :=
  ∀ C s₃ m₃ E', s₃.heap.Ns C m₃ → m₃ x = some v → (∀ b o, s₂.heap.get? b = some o → s₃.heap.get? b = some o) → wpAny (model prog w) A (eval elt (compEnvC scope cl C env)) (fun y s₄ => F v y ∧ Keeps s₃ s₄) E' s₃
structure CompL (prog : Program) (w : World) (A : Around) (hb : Heap) (l : List Env) (fr V : List Addr) (s₀ : Shared) (L : Addr) (env : Env) (scope : Scope) (cl : List (Str × Addr)) (x : Str) (elt : Expr) (F : Value → Value → Prop) (Q : Value → Shared → Prop) (xv : Value) (s₁ : Shared) : Prop where
  out : ∃ m mu im ax vs, xv = .ref ax ∧ Run hb l fr V s₀ L m mu im s₁ ∧ s₁.heap.IsList ax vs.toArray ∧ vs.length ≤ 16777216 ∧
      (∀ v ∈ vs, EltIs prog w A env scope cl x elt s₁ v F) ∧ ∀ D ys n s', Run hb l fr V s₀ L m mu ((D, listO ys n) :: im) s' → Paired F vs ys → Q (.ref D) s'
structure CompT (prog : Program) (w : World) (A : Around) (hb : Heap) (l : List Env) (fr V : List Addr) (s₀ : Shared) (L : Addr) (env : Env) (scope : Scope) (cl : List (Str × Addr)) (x : Str) (elt : Expr) (F : Value → Value → Prop) (Q : Value → Shared → Prop) (xv : Value) (s₁ : Shared) : Prop where
  out : ∃ m mu im t u, xv = .str t u ∧ Run hb l fr V s₀ L m mu im s₁ ∧ t.length ≤ 16777216 ∧
      (∀ c u, c ∈ t.cps.toList → EltIs prog w A env scope cl x elt s₁ (.str ⟨#[c]⟩ u) F) ∧ ∀ D ys n vs s', Run hb l fr V s₀ L m mu ((D, listO ys n) :: im) s' → vs.length = t.length → (∀ j v, vs[j]? = some v → SignAt t j v) → Paired F vs ys → Q (.ref D) s'
theorem compL_fin {scope : Scope} {cl : List (Str × Addr)} {x : Str} {elt : Expr} {F : Value → Value → Prop} {Q : Value → Shared → Prop} {a : Addr} {vs : List Value} (R : Run hb l fr V s₀ L m mu im s) (hl : s.heap.IsList a vs.toArray) (hz : vs.length ≤ 16777216)
    (he : ∀ v ∈ vs, EltIs prog w A env scope cl x elt s v F) (k : ∀ D ys n s', Run hb l fr V s₀ L m mu ((D, listO ys n) :: im) s' → Paired F vs ys → Q (.ref D) s') :
    CompL prog w A hb l fr V s₀ L env scope cl x elt F Q (.ref a) s := ⟨_, _, _, _, _, rfl, R, hl, hz, he, k⟩
theorem compT_fin {scope : Scope} {cl : List (Str × Addr)} {x : Str} {elt : Expr} {F : Value → Value → Prop} {Q : Value → Shared → Prop} {t : Str} {u : Tok} (R : Run hb l fr V s₀ L m mu im s) (hz : t.length ≤ 16777216)
    (he : ∀ c u, c ∈ t.cps.toList → EltIs prog w A env scope cl x elt s (.str ⟨#[c]⟩ u) F) (k : ∀ D ys n vs s', Run hb l fr V s₀ L m mu ((D, listO ys n) :: im) s' → vs.length = t.length → (∀ j v, vs[j]? = some v → SignAt t j v) → Paired F vs ys → Q (.ref D) s') :
    CompT prog w A hb l fr V s₀ L env scope cl x elt F Q (.str t u) s := ⟨_, _, _, _, _, rfl, R, hz, he, k⟩
theorem comp_list {elt iter : Expr} {x : Str} {px : Pos} {scope : Scope} {cl : List (Str × Addr)} {pos : Pos} {Q : Value → Shared → Prop} (F : Value → Value → Prop) (_R₀ : Run hb l fr V s₀ L m₁ mu₁ im₁ s) (hh : A.handled = none)
    (hclos : closureFor scope env = pure cl) (hcell : ∀ y ∈ scope.names, y.2 ≠ .cell) (hkind : scope.kind = .function)
    (hnames : ∀ y ∈ scope.names, y.2 = .local → scope.names.lookup y.1 = some .local) (hx : scope.names.lookup x = some .local)
    (h : wpAny (model prog w) A (eval iter env) (fun xv s₁ => CompL prog w A hb l fr V s₀ L env scope cl x elt F Q xv s₁) E s)
    (hs : ∀ x, foldedSetIterable iter env x = pure x := by intro _; rfl) :
    wpAny (model prog w) A (eval (.ListComp elt [⟨.Name x px, iter, [], 0⟩] scope pos) env) Q E s := by
  refine wpAny_ListComp_free (fun _ => true) F hclos hcell hkind hnames hx (wpAny_mono h (fun xv s₁ h₁ => ?_) fun _ _ e => e) hs
  obtain ⟨m, mu, im, ax, vs, rfl, R, hl, hz, he, hQ⟩ := h₁.out
  have hlt : ax < s₁.heap.objs.size := by obtain ⟨_, e, _⟩ := hl; exact Heap.lt_size e
  refine wpAny_pyIter_list hl ?_
  have up : ∀ b o, s₁.heap.get? b = some o → (s₁.heap.push { cls := .type "list_iterator", data := .fields #[.ref ax, .int 0 0] }).get? b = some o := fun b o e => Heap.get?_push_of_some _ e
  have off : ∀ b o, s₁.heap.get? b = some o → b ∉ [s₁.heap.objs.size] := fun b o e q => by rw [List.mem_singleton.mp q, get_size] at e; cases e
  refine ⟨s₁.heap.objs.size, _, _, _, _, _, rfl, Walks.list hh _ ax (Nat.ne_of_lt hlt) vs.toArray, ?_, ⟨⟨_, Heap.get?_push_size _ rfl, rfl, rfl⟩, hl.push _⟩, ?_, ⟨?_, ?_⟩, ?_⟩
  · rw [List.size_toArray, sizeLine_eq]; exact hz
  · intro b hb
    show b < (s₁.heap.push _).objs.size
    rw [Heap.size_push]
    rcases List.mem_cons.mp hb with rfl | hb
    · exact Nat.lt_succ_self _
    · rw [List.mem_singleton.mp hb]; exact Nat.lt_succ_of_lt hlt
  · intro C i v s₃ m₃ E' _ _ _ _ _ _
    exact wpAny_pure ⟨rfl, _, _, rfl, fun _ _ e => e⟩
  · intro C i v s₃ m₃ E' _ hP _ hn hm hk _
    have hv : v ∈ vs := by
      have := Array.mem_of_getElem? hP
      simpa using this
    exact he v hv C s₃ m₃ E' hn hm (fun b o e => hk b o (off b o e) (up b o e))
  · intro D h' tk ys vs' hD hlD hpl hlen hP hF hk
    obtain ⟨n, hpn⟩ := hpl
    have evs : vs' = vs := by
      apply List.ext_getElem?
      intro j
      cases q : vs'[j]? with
      | none =>
        have : vs.length ≤ j := by have := List.getElem?_eq_none_iff.mp q; rw [hlen, List.size_toArray] at this; exact this
        exact (List.getElem?_eq_none this).symm
      | some v => have := hP j v q; simpa using this.symm
    subst evs
    rw [List.filter_eq_self.mpr (fun _ _ => rfl)] at hF
    have kp : ∀ b o, s₁.heap.get? b = some o → h'.get? b = some o := fun b o e => hk b o (off b o e) (up b o e)
    have hD1 : s₁.heap.get? D = none := by
      cases q : s₁.heap.get? D with
      | none => rfl
      | some o => have := up D o q; rw [this] at hD; cases hD
    exact hQ D ys.toList n _ (R.keptI kp hD1 (by rw [hpn])) hF
theorem comp_text {elt iter : Expr} {x : Str} {px : Pos} {scope : Scope} {cl : List (Str × Addr)} {pos : Pos} {Q : Value → Shared → Prop} (F : Value → Value → Prop) (_R₀ : Run hb l fr V s₀ L m₁ mu₁ im₁ s) (hh : A.handled = none)
    (hclos : closureFor scope env = pure cl) (hcell : ∀ y ∈ scope.names, y.2 ≠ .cell) (hkind : scope.kind = .function)
    (hnames : ∀ y ∈ scope.names, y.2 = .local → scope.names.lookup y.1 = some .local) (hx : scope.names.lookup x = some .local)
    (h : wpAny (model prog w) A (eval iter env) (fun xv s₁ => CompT prog w A hb l fr V s₀ L env scope cl x elt F Q xv s₁) E s)
    (hs : ∀ x, foldedSetIterable iter env x = pure x := by intro _; rfl) :
    wpAny (model prog w) A (eval (.ListComp elt [⟨.Name x px, iter, [], 0⟩] scope pos) env) Q E s := by
  refine wpAny_ListComp_free (fun _ => true) F hclos hcell hkind hnames hx (wpAny_mono h (fun xv s₁ h₁ => ?_) fun _ _ e => e) hs
  obtain ⟨m, mu, im, t, u, rfl, R, hz, he, hQ⟩ := h₁.out
  refine wpAny_pyIter_str fun o St W hst => ?_
  have up : ∀ b o', s₁.heap.get? b = some o' → (s₁.heap.push o).get? b = some o' := fun b o e => Heap.get?_push_of_some _ e
  have off : ∀ b o, s₁.heap.get? b = some o → b ∉ [s₁.heap.objs.size] := fun b o e q => by rw [List.mem_singleton.mp q, get_size] at e; cases e
  refine ⟨s₁.heap.objs.size, _, _, _, _, _, rfl, W A hh, by rw [sizeLine_eq]; exact hz, hst, ?_, ⟨?_, ?_⟩, ?_⟩
  · intro b hb
    show b < (s₁.heap.push _).objs.size
    rw [Heap.size_push, List.mem_singleton.mp hb]
    exact Nat.lt_succ_self _
  · intro C i v s₃ m₃ E' _ _ _ _ _ _
    exact wpAny_pure ⟨rfl, _, _, rfl, fun _ _ e => e⟩
  · intro C i v s₃ m₃ E' _ hP _ hn hm hk _
    obtain ⟨c, u', hc, rfl⟩ := hP
    exact he c u' (by have := Array.mem_of_getElem? hc; simpa using this) C s₃ m₃ E' hn hm (fun b o e => hk b o (off b o e) (up b o e))
  · intro D h' tk ys vs hD hlD hpl hlen hP hF hk
    obtain ⟨n, hpn⟩ := hpl
    rw [List.filter_eq_self.mpr (fun _ _ => rfl)] at hF
    have kp : ∀ b o, s₁.heap.get? b = some o → h'.get? b = some o := fun b o e => hk b o (off b o e) (up b o e)
    have hD1 : s₁.heap.get? D = none := by
      cases q : s₁.heap.get? D with
      | none => rfl
      | some o => have := up D o q; rw [this] at hD; cases hD
    exact hQ D ys.toList n vs _ (R.keptI kp hD1 (by rw [hpn])) hlen hP hF
theorem startR {M M' : Model} (hM : M = M') {s₁ : Shared} {tk : Nat} {body : List Stmt} {f : Str → Option Value} {Q : Flow → Shared → Prop} {name : Str} {scope : Scope} {a : Addr} {cd : Value} (m : Vars) (F : Fr s₁.heap L h' f) (hm : f = vmap m) (hk : scope.kind = .function)
    (hq : ∀ m' s'', Fr s₁.heap L s''.heap m' → s''.gens = s₁.gens → s''.os = s₁.os → Q (.ret (.bool true)) s'')
    (k : ∀ s', let env := envOf name scope L a cd; let A := callerA.deeper env; ∀ (Q' : Flow → Shared → Prop) (E' : Value → Shared → Prop), (∀ m' mu' im' s'', Run s₁.heap [env] [] [] s₁ L m' mu' im' s'' → Q' (.ret (.bool true)) s'') → Run s₁.heap [env] [] [] s₁ L m [] [] s' →
      wpAny M' A (execs body env) Q' E' s') : wpAny M (callerA.deeper (envOf name scope L a cd)) (execs body (envOf name scope L a cd)) Q E { s₁ with heap := h', toks := tk } := by
  subst hm hM
  exact k _ Q E (fun m' mu' im' s'' R => let ⟨_, n1, _⟩ := R.H.ns; hq _ s'' ⟨n1, R.H.stays, F.above⟩ R.oth.1 R.oth.2.2) (Run.start F rfl hk)
theorem slice_r {value e : Expr} {p pos : Pos} {Q : Value → Shared → Prop}
    (h : wpAny (model prog w) A (eval value env) (fun o s₁ => wpAny (model prog w) A (eval e env) (fun vu s₃ => SliceQ Q o vu s₃) E s₁) E s)
    (ht : ∀ o r, letTemporaryGo value o r = pure () := by intro _ _; rfl) :
    wpAny (model prog w) A (eval (.Subscript value (.Slice none (some e) none p) pos) env) Q E s :=
  wpAny_Subscript_list_slice (wpAny_mono h (fun o s₁ h₁ => wpAny_of_eq (evalPart_none env) (by rw [evalPart_some]; exact h₁)) fun _ _ z => z) ht
theorem sum_r {D : Addr} {vs : List Value} {ns : List Int} {Q : Value → Shared → Prop} (R : Run hb l fr V s₀ L m mu im s) (hh : A.handled = none) (hl : s.heap.IsList D vs.toArray) (hi : IntsAre vs ns)
    (k : ∀ u s', Run hb l fr V s₀ L m mu im s' → Q (.int ns.sum u) s') : wpAny (model prog w) A (call (.builtin "sum") [.ref D]) Q E s := by
  obtain ⟨xs, hxs⟩ := hi.allInts.items
  rw [hxs] at hl
  refine sum_intListG hh hl fun h' tk t' hk => ?_
  have := k t' { s with heap := h', toks := tk } (R.kept hk)
  have e : ns.sum = preSum (numAt xs) xs.size := by
    rw [preSum_eq, List.take_of_length_le (by simp)]
    have := hi.numsOf
    have h2 : numsOf vs.toArray.toList = numsOf (intItems xs).toList := by rw [hxs]
    rw [show vs.toArray.toList = vs from rfl, this, nums_intItems] at h2
    rw [h2]
  rw [← e]; exact this
theorem join_r {x : Str} {D : Addr} {vs : List Value} {ys : List Str} {t : Tok} {Q : Value → Shared → Prop} (R : Run hb l fr V s₀ L m mu im s) (hl : s.heap.IsList D vs.toArray) (hi : StrsAre vs ys) (hsep : x.length ≤ 16) (hw : (ys.map (·.length)).sum + ys.length ≤ 1048576)
    (k : ∀ u s', Run hb l fr V s₀ L m mu im s' → Q (.str (Txt.join x ys) u) s') : wpAny (model prog w) A (call (.builtin "str.join") [.str x t, .ref D]) Q E s :=
  join_listW hl hi hsep hw fun t' tk => k _ _ (R.tok _)
theorem lenL_r {D : Addr} {vs : List Value} {n : Int} {Q : Value → Shared → Prop} (R : Run hb l fr V s₀ L m mu im s) (hl : s.heap.IsList D vs.toArray) (hn : (vs.length : Int) = n) (hz : vs.length ≤ 16384)
    (k : ∀ u s', Run hb l fr V s₀ L m mu im s' → Q (.int n u) s') : wpAny (model prog w) A (call (.builtin "len") [.ref D]) Q E s :=
  kun_lenL hl (by simpa using hn) (by omega) (k _ _ (R.tok _))
end
end Mine
end

section
open PySem PySem.W PySem.Calls PyProof.Rows PySem.Builtin PySem.Builtin._codecs
set_option maxRecDepth 100000
namespace Mine
structure El (C : Addr) (m : Str → Option Value) (s₃ : Shared) (im : List (Addr × Obj)) (s : Shared) : Prop where
  ns : s.heap.Ns C m
  keep : ∀ b o, s₃.heap.get? b = some o → s.heap.get? b = some o
  him : ∀ p ∈ im, s.heap.get? p.1 = some p.2
  oth : s.gens = s₃.gens ∧ s.drawn = s₃.drawn ∧ s.os = s₃.os
section
variable {prog : Program} {w : World} {A : Around} {E : Value → Shared → Prop} {C : Addr} {m : Str → Option Value} {s₃ s : Shared} {im : List (Addr × Obj)} {env : Env} {x : Str} {pos : Pos} {v : Value} {tk : Nat}
theorem El.start (hn : s₃.heap.Ns C m) : El C m s₃ [] s₃ := ⟨hn, fun _ _ e => e, (fun _ q => nomatch q), ⟨rfl, rfl, rfl⟩⟩
theorem El.tok (L : El C m s₃ im s) (tk : Nat) : El C m s₃ im { s with toks := tk } := ⟨L.ns, L.keep, L.him, L.oth⟩
theorem El.keeps (L : El C m s₃ im s) : Keeps s₃ s := by
  obtain ⟨h, g, d, t, os⟩ := s
  obtain ⟨h3, g3, d3, t3, os3⟩ := s₃
  obtain ⟨rfl, rfl, rfl⟩ := L.oth
  exact ⟨h, t, rfl, L.keep⟩
theorem El.push (L : El C m s₃ im s) (o : Obj) (hf : o.isFreed = false) : El C m s₃ ((s.heap.objs.size, o) :: im) { s with heap := s.heap.push o } :=
  ⟨L.ns.push o, fun b o' e => Heap.get?_push_of_some o (L.keep b o' e), fun p hp => by
    rcases List.mem_cons.mp hp with rfl | hp
    · exact Heap.get?_push_size _ hf
    · exact Heap.get?_push_of_some o (L.him p hp), L.oth⟩
theorem el_tok {α : Type} {M : Model} {t : Sem α} {Q : α → Shared → Prop} (L : El C m s₃ im s) (h : ∀ s', El C m s₃ im s' → wpAny M A t Q E s') : wpAny M A t Q E { s with toks := tk } := h _ (L.tok tk)
theorem el_same {α : Type} {M : Model} {t : Sem α} {Q : α → Shared → Prop} (_L : El C m s₃ im s) (h : wpAny M A t Q E s) : wpAny M A t Q E s := h
theorem el_name {Q : Value → Shared → Prop} (L : El C m s₃ im s) (hv : m x = some v) (h : Q v s) (hL : env.locals = C := by rfl)
    (hk : env.scope.kind = .function := by kernel_rfl!) (hx : env.kindOf x = some .local := by kernel_rfl!) (hd : (x == ("__debug__" : Str)) = false := by decide +kernel) : wpAny (model prog w) A (eval (.Name x pos) env) Q E s :=
  wpAny_Name (wpAny_loadName_local hk hx (hL ▸ L.ns) hv h) hd
theorem el_builtin {K : Frag} {p : Program} {loose : List Str} {mg mb : Str → Option Value} {hb : Heap} {Q : Value → Shared → Prop} (L : El C m s₃ im s) (S : Sta K p loose mg mb hb) (hst : hb.StaysIn s₃.heap) (e : nsIn K mainGlobals x = some none) (hv : bootBuiltins x = some v) (hn : x ≠ "__name__") (h : Q v s)
    (hg : env.globals = mainGlobals := by rfl) (hb' : env.builtins = builtinsNs := by rfl)
    (hk : env.scope.kind = .function := by kernel_rfl!) (hx : env.kindOf x = some .globalImplicit := by kernel_rfl!) (hd : (x == ("__debug__" : Str)) = false := by decide +kernel) : wpAny (model prog w) A (eval (.Name x pos) env) Q E s :=
  have st : hb.StaysIn s.heap := fun b o z => L.keep b o (hst b o z)
  Name_function_global hk hx (loadGlobal_builtin (hg ▸ S.T.g.keeps st) (mg_none_of S.X S.T.g e) (hb' ▸ S.T.b.keeps st) ((S.T.builtins x hn).trans hv) h) hd
theorem el_tuple {vs : List Value} {Q : Value → Shared → Prop} (L : El C m s₃ im s) (h : ∀ a s', El C m s₃ ((a, tupO vs) :: im) s' → Q (.ref a) s') (hsz : vs.length ≤ sizeLine := by size_fits) : wpAny (model prog w) A (newTuple vs) Q E s :=
  wpAny_newObj_type (h _ _ (L.push _ rfl)) (by show vs.toArray.size ≤ sizeLine; rw [List.size_toArray]; exact hsz)
theorem el_item {a : Addr} {vs : List Value} {i : Int} {k : Nat} {u : Tok} {value slice : Expr} {Q : Value → Shared → Prop} (L : El C m s₃ im s) (h : (a, tupO vs) ∈ im) (hi : i = (k : Int)) (hk : k < 1000) (hv : vs[k]? = some v) (hQ : Q v s)
    (hs : subscripted slice false (.ref a) (.int i u) = operate [.ref a, .int i u] (getItem (.ref a) (.int i u)) := by with_unfolding_all rfl) :
    wpAny (model prog w) A (subscriptTail value slice (.ref a) (.int i u)) Q E s := by
  have hlt := (List.getElem?_eq_some_iff.mp hv).1
  have hg : wpAny (model prog w) A (getItem (.ref a) (.int i u)) Q E s := P.getItem_tuple (k := k) (L.him _ h) (by omega) (by omega) (by
    subst hi
    unfold seqIndex?
    simp only [List.size_toArray]
    rw [if_neg (show ¬ ((k : Int) < 0) from by omega)]
    simp [hlt]) (by simpa using hv) hQ
  exact tail_any ⟨_, L.him _ h, rfl⟩ F.slot_tuple_getitem.lookup hg hs
theorem ints_fmod5 (n : Int) : n.fmod 5 = 0 ∨ n.fmod 5 = 1 ∨ n.fmod 5 = 2 ∨ n.fmod 5 = 3 ∨ n.fmod 5 = 4 := by
  obtain ⟨k, e⟩ := Int.eq_ofNat_of_zero_le (Int.fmod_nonneg_of_pos n (show (0 : Int) < 5 by decide))
  have h2 := Int.fmod_lt_of_pos n (show (0 : Int) < 5 by decide)
  rw [e] at h2 ⊢
  match k, Int.ofNat_lt.mp h2 with
  | 0, _ => exact .inl rfl
  | 1, _ => exact .inr (.inl rfl)
  | 2, _ => exact .inr (.inr (.inl rfl))
  | 3, _ => exact .inr (.inr (.inr (.inl rfl)))
  | 4, _ => exact .inr (.inr (.inr (.inr rfl)))
end
section
variable {prog : Program} {w : World} {A : Around} {E : Value → Shared → Prop} {s s₀ : Shared} {hb : Heap} {l : List Env} {fr V : List Addr} {L : Addr} {m : Vars} {mu im : List (Addr × Obj)}
theorem str_nil {x : Str} (h : (x.length == 0) = true) : x = ⟨#[]⟩ := by
  obtain ⟨⟨l⟩⟩ := x
  cases l with
  | nil => rfl
  | cons a r => simp [Str.length] at h
theorem nil_app (y : Str) : (⟨#[]⟩ : Str) ++ y = y := by
  apply congrArg Str.mk (a₁ := _) (a₂ := y.cps)
  simp
theorem app_nil (y : Str) : y ++ (⟨#[]⟩ : Str) = y := by
  apply congrArg Str.mk (a₁ := _) (a₂ := y.cps)
  simp
theorem add_s {x y z : Str} {t u : Tok} {Q : Value → Shared → Prop} (R : Run hb l fr V s₀ L m mu im s) (hx : x ++ y = z) (hz : z.length ≤ 16777216) (k : ∀ u s', Run hb l fr V s₀ L m mu im s' → Q (.str z u) s') :
    wpAny (model prog w) A (binaryOp .Add (.str x t) (.str y u)) Q E s := by
  refine P.add_str ?_
  subst hx
  split
  · rename_i h
    rw [str_nil h, nil_app] at k
    exact k _ _ R
  · split
    · rename_i h
      rw [str_nil h, app_nil] at k
      exact k _ _ R
    · exact ⟨by rw [sizeLine_eq]; exact hz, k _ _ (R.tok _)⟩
theorem iadd_s {x y z : Str} {t u : Tok} {Q : Value → Shared → Prop} (R : Run hb l fr V s₀ L m mu im s) (hx : x ++ y = z) (hz : z.length ≤ 16777216) (k : ∀ u s', Run hb l fr V s₀ L m mu im s' → Q (.str z u) s') :
    wpAny (model prog w) A (inplaceOp .Add (.str x t) (.str y u)) Q E s := by
  refine P.iadd_str ?_
  subst hx
  split
  · rename_i h
    rw [str_nil h, nil_app] at k
    exact k _ _ R
  · split
    · rename_i h
      rw [str_nil h, app_nil] at k
      exact k _ _ R
    · exact ⟨by rw [sizeLine_eq]; exact hz, k _ _ (R.tok _)⟩
structure ListAt (o : Obj) (vs : List Value) : Prop where
  cls : o.cls = .type "list"
  data : ∃ n, o.data = .seq vs.toArray n
theorem Run.listX {D : Addr} {o : Obj} {vs : List Value} (R : Run hb l fr V s₀ L m mu im s) (h : (D, o) ∈ im) (hl : ListAt o vs) : s.heap.IsList D vs.toArray :=
  let ⟨n, e⟩ := hl.data; ⟨o, R.H.him _ h, hl.cls, n, e⟩
theorem split_r0 {x y : Str} {t u : Tok} {Q : Value → Shared → Prop} (R : Run hb l fr V s₀ L m [] im s) (hfr : ∀ a ∈ frs l, a = L) (hy : (y.length == 0) = false) (hz : x.length ≤ 16777216) (hp : (Str.partsBetween x (Str.occurrences x y 0 x.length (x.length + 1)) y.length).length ≤ sizeLine)
    (k : ∀ D vs o s', Run hb l fr V s₀ L m [] ((D, o) :: im) s' → ListAt o vs → StrsAre vs (Txt.split x y) → Q (.ref D) s') : wpAny (model prog w) A (call (.builtin "str.split") [.str x t, .str y u]) Q E s := by
  refine SCH.split1 (P := fun h' => ∀ b o, s.heap.get? b = some o → h'.get? b = some o) (fun _ _ kp b o e => Heap.get?_push_of_some _ (kp b o e)) (fun _ _ e => e) hy (fun D ls h' tk hl kp hD => ?_) (by rw [sizeLine_eq]; exact hz) hp
  have R1 := R.kept (tk := tk) kp
  obtain ⟨o, ho, hc, n, hd⟩ := hD
  have nL : D ≠ L := fun q => by
    obtain ⟨_, ⟨oL, es, ep, hL, hLd, _⟩, _⟩ := R1.H.ns
    rw [← q] at hL
    have : o = oL := Option.some.inj (ho.symm.trans hL)
    rw [← this, hd] at hLd; cases hLd
  refine k D (strValues ls) o _ ⟨R1.H.more ho (fun _ q => nomatch q) nL (fun q => nL (hfr _ q)), R1.oth⟩ ⟨hc, n, hd⟩ ?_
  rw [← hl]
  clear hd hl
  induction ls with
  | nil => exact .nil
  | cons a r ih => exact .cons _ _ ih
theorem bytes_r {D : Addr} {vs : List Value} {ns : List Int} {Q : Value → Shared → Prop} (R : Run hb l fr V s₀ L m mu im s) (hl : s.heap.IsList D vs.toArray) (hi : IntsAre vs ns) (hr : ∀ n ∈ ns, 0 ≤ n ∧ n < 256) (hz : vs.length ≤ 16777216) (hh : A.handled = none)
    (k : ∀ u s', Run hb l fr V s₀ L m mu im s' → Q (.bytes (byteArr ns) u) s') : wpAny (model prog w) A (call (.type "bytes") [.ref D]) Q E s :=
  call_bytes_ints hl hi hr (by rw [sizeLine_eq]; exact hz) hh fun h' t tk hk => k _ _ (R.kept hk)
theorem truthy_i {i : Int} {t : Tok} {b : Bool} {Q : Bool → Shared → Prop} (hb' : (i != 0) = b) (h : Q b s) : wpAny (model prog w) A (truthy (.int i t)) Q E s := P.truthy_int (by rw [hb']; exact h)
end
end Mine
end

section
open PySem PySem.W PySem.Calls PyProof.Rows PySem.Builtin PySem.Builtin._codecs
set_option maxRecDepth 100000
namespace Mine
abbrev itO (x left : Int) : Obj := { cls := .type "range_iterator", data := .fields #[rawInt x, rawInt left, rawInt 1] }
section
variable {prog : Program} {w : World} {A : Around} {E : Value → Shared → Prop} {s s₀ : Shared} {hb h' : Heap} {l : List Env} {fr V : List Addr} {L : Addr} {m m₁ : Vars} {mu im mu₁ im₁ : List (Addr × Obj)} {env : Env}
theorem RunH.drop {h₀ h h' : Heap} {d : Addr} {o : Obj} (R : RunH hb l fr V h₀ L m ((d, o) :: mu) im h) (k : ∀ b o, b ≠ d → h.get? b = some o → h'.get? b = some o) : RunH hb l fr V h₀ L m mu im h' := by
  have D := R.offm _ (.head _)
  have nd := R.nodup
  simp only [List.map_cons, List.nodup_cons] at nd
  have e : Evo (frs l) [d] h h' := fun b o z n => ⟨o.slots, k b o (fun q => n (by rw [q]; exact .head _)) z, fun _ => rfl⟩
  refine ⟨fun b o z => k b o (fun q => by have := D.2.2.1; dsimp only at this; rw [← q, z] at this; cases this) (R.stays b o z), ff_evo e R.ff (fun a ha z => D.2.1 (by rw [List.mem_singleton.mp z] at ha; exact ha)),
    nsw_slots R.ns fun oL hL => let ⟨sl, a, _⟩ := e L oL hL (fun q => D.1 (List.mem_singleton.mp q).symm); ⟨sl, a⟩,
    R.evo.comp e (fun b q => by rw [List.mem_singleton.mp q]; exact D.2.2.2.symm) (fun b q => R.sub b q), fun p hp => k _ _ (fun z => nd.1 (List.mem_map.mpr ⟨p, hp, z⟩)) (R.hmu p (.tail _ hp)),
    fun p hp => k _ _ (fun z => R.apart _ (.head _) p hp z.symm) (R.him p hp), nd.2, fun p hp => R.apart p (.tail _ hp), fun p hp => R.offm p (.tail _ hp), R.offi, R.L0, R.sub⟩
abbrev rgO (n : Int) (t u v : Tok) : Obj := { cls := .type "range", data := .fields #[.int 0 t, .int n u, .int 1 v] }
theorem range_r {n : Int} {t : Tok} {Q : Value → Shared → Prop} (R : Run hb l fr V s₀ L m mu im s) (k : ∀ r u v s', Run hb l fr V s₀ L m mu ((r, rgO n u t v) :: im) s' → Q (.ref r) s') :
    wpAny (model prog w) A (call (.type "range") [.int n t]) Q E s :=
  call_range_1 (k _ _ _ _ ⟨R.H.push _ rfl, R.oth⟩)
end
end Mine
end

section
open PySem PySem.W PySem.Calls PyProof.Rows PySem.SeqAt
set_option maxRecDepth 100000
namespace Mine
inductive Sel : Vars → Vars → Prop
  | nil {m} : Sel [] m
  | cons {x v r m} : Get x m v → Sel r m → Sel ((x, v) :: r) m
theorem Sel.at {m' m : Vars} (h : Sel m' m) : ∀ x v, vmap m' x = some v → vmap m x = some v := by
  induction h with
  | nil => intro x v q; simp [vmap] at q
  | @cons y u r m g _ ih =>
    intro x v q
    simp only [vmap, List.lookup_cons] at q
    cases hz : x == y with
    | true =>
      rw [hz] at q
      cases q
      have : x = y := eq_of_beq hz
      subst this
      exact g.eq
    | false => rw [hz] at q; exact ih x v q
inductive Suf : List (Addr × Obj) → List (Addr × Obj) → Prop
  | refl {l} : Suf l l
  | cons {p l l'} : Suf l' l → Suf l' (p :: l)
theorem Suf.mem {l l' : List (Addr × Obj)} (h : Suf l' l) : ∀ p ∈ l', p ∈ l := by
  induction h with
  | refl => exact fun _ q => q
  | cons _ ih => exact fun p q => .tail _ (ih p q)
inductive Sbl : List (Addr × Obj) → List (Addr × Obj) → Prop
  | nil {l} : Sbl [] l
  | both {p l l'} : Sbl l' l → Sbl (p :: l') (p :: l)
  | skip {p l l'} : Sbl l' l → Sbl l' (p :: l)
theorem Sbl.sub {l l' : List (Addr × Obj)} (h : Sbl l' l) : l'.Sublist l := by
  induction h with
  | nil => exact List.nil_sublist _
  | both _ ih => exact .cons₂ _ ih
  | skip _ ih => exact .cons _ ih
section
variable {hb h h' : Heap} {s₀ s : Shared} {l : List Env} {fr V : List Addr} {L : Addr} {m m' : Vars} {mu mu' im im' : List (Addr × Obj)}
theorem RunH.sel {h₀ : Heap} (R : RunH hb l fr V h₀ L m mu im h) (k : ∀ x v, vmap m' x = some v → vmap m x = some v) : RunH hb l fr V h₀ L m' mu im h :=
  ⟨R.stays, R.ff, let ⟨f, a, b⟩ := R.ns; ⟨f, a, fun x v q => b x v (k x v q)⟩, R.evo, R.hmu, R.him, R.nodup, R.apart, R.offm, R.offi, R.L0, R.sub⟩
theorem Run.to (R : Run hb l fr V s₀ L m mu im s) (a : Sel m' m) (b : Sbl mu' mu) (c : Suf im' im) : Run hb l fr V s₀ L m' mu' im' s :=
  ⟨((R.H.sel a.at).lessM b.sub).less c.mem, R.oth⟩
theorem RunH.bump {h₀ : Heap} {d : Addr} {o o' : Obj} (R : RunH hb l fr V h₀ L m ((d, o) :: mu) im h) (k : ∀ b o, b ≠ d → h.get? b = some o → h'.get? b = some o) (hd : h'.get? d = some o') : RunH hb l fr V h₀ L m ((d, o') :: mu) im h' := by
  have D := R.offm _ (.head _)
  have e : Evo (frs l) [d] h h' := fun b o z n => ⟨o.slots, k b o (fun q => n (by rw [q]; exact .head _)) z, fun _ => rfl⟩
  exact R.call1 .head (fun b o z => k b o (fun q => by have := D.2.2.1; dsimp only at this; rw [← q, z] at this; cases this) (R.stays b o z)) (ff_evo e R.ff (fun a ha z => D.2.1 (by rw [List.mem_singleton.mp z] at ha; exact ha))) e hd
end
structure Stop (p : Prop) : Prop where
  out : p
section
variable {prog : Program} {w : World} {A : Around} {E : Value → Shared → Prop} {s s₀ : Shared} {hb h' : Heap} {l : List Env} {fr V : List Addr} {L : Addr} {m m₁ : Vars} {mu im mu₁ im₁ : List (Addr × Obj)} {env : Env}
theorem ite_a {P Q : Prop} {b c : Bool} (e : b = c) (h : cond c P Q) : if b = true then P else Q := by
  subst e
  cases b
  · exact h
  · exact h
structure Iter (prog : Program) (w : World) (A : Around) (I : Addr) (fp : List Addr) (n : Nat) (P : Nat → Value → Prop) (St : Nat → Heap → Prop) : Prop where
  W : Walks prog w A I fp [I] n P St
  live : ∀ i h, St i h → ∃ o, h.get? I = some o
structure ForW (prog : Program) (w : World) (A : Around) (hb : Heap) (l : List Env) (fr V : List Addr) (s₀ : Shared) (L : Addr) (env : Env) (x : Str) (body : List Stmt) (Q : Flow → Shared → Prop) (xv : Value) (s₁ : Shared) : Prop where
  out : ∃ (n : Nat) (P : Nat → Value → Prop) (m : Vars) (mu im : List (Addr × Obj)) (J : Nat → Vars → List (Addr × Obj) → Prop),
    (∀ (Q' : Value → Shared → Prop), (∀ I o fp St s₂, Iter prog w A I fp n P St → St 0 s₂.heap → (∀ b ∈ fp, b = I ∨ ∃ o, (b, o) ∈ im) → Run hb l fr V s₀ L m ((I, o) :: mu) im s₂ → Q' (.ref I) s₂) → ∀ E', wpAny (model prog w) A (pyIter xv) Q' E' s₁) ∧
    J 0 m mu ∧
    (∀ I o i v m mu s E', i < n → P i v → J i m mu → Run hb l fr V s₀ L m ((I, o) :: mu) im s → wpAny (model prog w) A (storeName env x v) (fun _ s₂ => wpAny (model prog w) A (execs body env)
      (fun f s₃ => match f with
        | .next | .cont => Stop (∃ m' mu', Run hb l fr V s₀ L m' ((I, o) :: mu') im s₃ ∧ J (i + 1) m' mu')
        | .brk => Q .next s₃
        | .ret v => Q (.ret v) s₃) E' s₂) E' s) ∧
    ∀ m mu s', Run hb l fr V s₀ L m mu im s' → J n m mu → Q .next s'
theorem forW_r {x : Str} {px pos : Pos} {iter : Expr} {body : List Stmt} {Q : Flow → Shared → Prop} (_R₀ : Run hb l fr V s₀ L m₁ mu₁ im₁ s)
    (h : wpAny (model prog w) A (eval iter env) (fun xv s₁ => ForW prog w A hb l fr V s₀ L env x body Q xv s₁) E s) (hs : ∀ x, foldedSetIterable iter env x = pure x := by intro _; rfl) :
    wpAny (model prog w) A (exec (.For (.Name x px) iter body [] pos) env) Q E s := by
  refine wpAny_For (wpAny_mono h (fun xv s₁ h₁ => ?_) fun _ _ e => e) hs
  obtain ⟨n, P, m, mu, im, J, it, h0, step, hQ⟩ := h₁.out
  refine it _ (fun I o fp St s₂ hI hst hfp R => ?_) _
  refine codeAny_forLoop_any (fun k s => ∃ i m mu o, i ≤ n ∧ k = n - i ∧ Run hb l fr V s₀ L m ((I, o) :: mu) im s ∧ St i s.heap ∧ J i m mu) (fun k s hJ => ?_) n ⟨0, m, mu, o, Nat.zero_le _, rfl, R, hst, h0⟩
  obtain ⟨i, m, mu, o, hi, rfl, R, hst, hJ⟩ := hJ
  by_cases hlt : i < n
  · refine hI.W.item i s _ _ hlt hst fun v h' tk hP hst' hk => ?_
    obtain ⟨o', ho'⟩ := hI.live _ _ hst'
    have R1 : Run hb l fr V s₀ L m ((I, o') :: mu) im { s with heap := h', toks := tk } := ⟨R.H.bump (fun b o hb z => hk b o (fun q => hb (List.mem_singleton.mp q)) z) ho', R.oth⟩
    refine wpAny_pure ?_
    refine wpAny_assign_Name (wpAny_mono (step I o' i v m mu _ _ hlt hP hJ R1) (fun _ s₂ h₂ => wpAny_mono h₂ (fun f s₃ h₃ => ?_) fun _ _ z => z) fun _ _ z => z)
    have go : ∀ {m' mu'}, Run hb l fr V s₀ L m' ((I, o') :: mu') im s₃ → St (i + 1) s₃.heap := fun R3 => hI.W.frame _ _ _ hst' fun b hb₁ ob hob => by
      rcases hfp b hb₁ with rfl | ⟨oo, hoo⟩
      · have e1 := R1.H.hmu _ (.head _)
        have e3 := R3.H.hmu _ (.head _)
        dsimp only at e1 e3
        rw [hob] at e1
        cases e1; exact e3
      · have e1 := R1.H.him _ hoo
        have e3 := R3.H.him _ hoo
        dsimp only at e1 e3
        rw [hob] at e1
        cases e1; exact e3
    cases f with
    | next => obtain ⟨m', mu', R', hJ'⟩ := h₃.out; exact ⟨n - (i + 1), by omega, i + 1, m', mu', o', hlt, rfl, R', go R', hJ'⟩
    | cont => obtain ⟨m', mu', R', hJ'⟩ := h₃.out; exact ⟨n - (i + 1), by omega, i + 1, m', mu', o', hlt, rfl, R', go R', hJ'⟩
    | brk => exact h₃
    | ret v => exact h₃
  · have e : i = n := by omega
    subst e
    refine hI.W.done s _ _ hst fun h' tk hk => ?_
    exact wpAny_of_eq (a := Flow.next) (by rfl) (hQ _ _ _ ⟨R.H.drop (fun b o hb z => hk b o (fun q => hb (List.mem_singleton.mp q)) z), R.oth⟩ hJ)
theorem forW_range {x : Str} {body : List Stmt} {Q : Flow → Shared → Prop} {r : Addr} {n : Nat} {i : Int} {t u v : Tok} (J : Nat → Vars → List (Addr × Obj) → Prop) (hh : A.handled = none) (R : Run hb l fr V s₀ L m mu im s) (hr : (r, rgO i t u v) ∈ im) (hi : (n : Int) = i) (hn : n < 2 ^ 60) (h0 : J 0 m mu)
    (step : ∀ I o i u m mu s E', i < n → J i m mu → Run hb l fr V s₀ L m ((I, o) :: mu) im s → wpAny (model prog w) A (storeName env x (.int i u)) (fun _ s₂ => wpAny (model prog w) A (execs body env)
      (fun f s₃ => match f with
        | .next | .cont => Stop (∃ m' mu', Run hb l fr V s₀ L m' ((I, o) :: mu') im s₃ ∧ J (i + 1) m' mu')
        | .brk => Q .next s₃
        | .ret v => Q (.ret v) s₃) E' s₂) E' s)
    (k : ∀ m mu s', Run hb l fr V s₀ L m mu im s' → J n m mu → Q .next s') : ForW prog w A hb l fr V s₀ L env x body Q (.ref r) s := by
  subst hi
  refine ⟨n, fun i v => ∃ u, v = .int i u, m, mu, im, J, fun Q' hQ' E' => ?_, h0, fun I o i v m mu s E' hlt hP hJ R1 => ?_, k⟩
  · refine wpAny_pyIter_range (R.H.him _ hr) (PySem.small_one (by omega) (by omega) (by omega) (by omega)) ?_
    have hsz : Builtin.Range.rangeSize 0 n 1 = (n : Int) := by rw [PySem.rangeSize_one]; split <;> omega
    rw [hsz]
    have W := Walks.range (prog := prog) (w := w) hh s.heap.objs.size 0 1 n
    simp only [Int.mul_one, Int.zero_add] at W
    refine hQ' _ _ _ _ _ ⟨W, fun i h st => ⟨_, st⟩⟩ ?_ (fun b hb => .inl (List.mem_singleton.mp hb)) ⟨R.H.pushM (itO 0 n) rfl, R.oth⟩
    have := R.H.pushM (itO 0 n) rfl
    have := this.hmu _ (.head _)
    simpa using this
  · obtain ⟨u, rfl⟩ := hP
    exact step I o i u m mu s E' hlt hJ R1
end
inductive Eqs (A : Around) (s : Shared) : List Value → List Value → Prop
  | nil : Eqs A s [] []
  | cons {x y : Value} {xs ys : List Value} : EqAt A s x y true → Eqs A s xs ys → Eqs A s (x :: xs) (y :: ys)
section
variable {prog : Program} {w : World} {A : Around} {E : Value → Shared → Prop} {s s₀ : Shared} {hb : Heap} {l : List Env} {fr V : List Addr} {L : Addr} {m : Vars} {mu im : List (Addr × Obj)}
theorem Eqs.at {xs ys : List Value} (h : Eqs A s xs ys) : xs.length = ys.length ∧ ∀ j (h1 : j < xs.toArray.size) (h2 : j < ys.toArray.size), EqAt A s xs.toArray[j] ys.toArray[j] true := by
  induction h with
  | nil => exact ⟨rfl, fun j h1 => absurd h1 (Nat.not_lt_zero _)⟩
  | cons e _ ih =>
    refine ⟨by simp [ih.1], fun j h1 h2 => ?_⟩
    cases j with
    | zero => exact e
    | succ j =>
      have := ih.2 j (by simpa using h1) (by simpa using h2)
      simpa using this
theorem eqt_int {a b : Int} {t u : Tok} (h : a = b) : EqAt A s (.int a t) (.int b u) true := by
  have := EqAt.int_int (A := A) (s := s) a t b u
  rw [h] at this ⊢
  simpa using this
theorem eqt_str {a b : Str} {t u : Tok} (h : a = b) : EqAt A s (.str a t) (.str b u) true := by
  have := EqAt.str_str (A := A) (s := s) a t b u
  rw [h] at this ⊢
  simpa using this
theorem eqt_bytes {a b : Array UInt8} {t u : Tok} (h : a = b) : EqAt A s (.bytes a t) (.bytes b u) true := by
  subst h
  intro prog w E Q hQ
  unfold eqBool
  refine wpAny_holding ?_
  refine wpAny_ite_split (fun _ => ?_) (fun _ => ?_)
  · exact wpAny_bind (wpAny_rule (wpAny_pure hQ))
  · exact wpAny_bind (eq_bytes (wpAny_truthy_bool (by simpa using hQ)))
theorem eqt_same {a : Value} : EqAt A s a a true := EqAt.same a
theorem Run.tup {a : Addr} {vs : List Value} (R : Run hb l fr V s₀ L m mu im s) (h : (a, tupO vs) ∈ im) : s.heap.IsTuple a vs.toArray := ⟨_, R.H.him _ h, rfl, 0, rfl⟩
theorem ne_tup_f {a b : Addr} {xs ys : List Value} {Q : Value → Shared → Prop} (R : Run hb l fr V s₀ L m mu im s) (ha : (a, tupO xs) ∈ im) (hb' : (b, tupO ys) ∈ im) (hu : A.units < cLine) (h : Eqs A.in1 s xs ys) (k : Q (.bool false) s) :
    wpAny (model prog w) A (compareOp .NotEq (.ref a) (.ref b)) Q E s := by
  have := RcNeAt.tuples (R.tup ha) (R.tup hb') hu h.at.2
  have e2 : (((List.range (min xs.toArray.size ys.toArray.size)).all fun _ => true) && xs.toArray.size == ys.toArray.size) = true := by simp [h.at.1]
  rw [e2] at this
  exact this prog w E Q k
end
end Mine
end

section
open PySem PySem.W PySem.Calls PyProof.Rows PySem.SeqAt PySem.Builtin PySem.Builtin.Str
set_option maxRecDepth 100000
namespace Mine
theorem pat_handed (pat : Pat) (u : Tok) : handedIn (pat.v u) = true := by cases pat <;> rfl
section
variable {prog : Program} {w : World} {A : Around} {E : Value → Shared → Prop} {s s₀ : Shared} {hb : Heap} {l : List Env} {fr V : List Addr} {L : Addr} {m : Vars} {mu im : List (Addr × Obj)}
  {K : Frag} {p : Program} {loose : List Str} {mg mb : Str → Option Value}
theorem type_exc {x C dx : Addr} {od : Obj} {a tb c2 c3 c4 : Value} {Q : Value → Shared → Prop} (R : Run hb l fr V s₀ L m mu im s) (h1 : (x, exO (.ref C) (some dx) a tb c2 c3 c4) ∈ mu) (h2 : (dx, od) ∈ mu) (h : Q (.ref C) s) :
    wpAny (model prog w) A (call (.type "type") [.ref x]) Q E s := kto_own (instE R h1 h2) h
theorem str_exc {x C dx t : Addr} {od : Obj} {tb c2 c3 c4 : Value} {y : Str} {u : Tok} {Q : Value → Shared → Prop} (R : Run hb l fr V s₀ L m mu im s) (S : Sta K p loose mg mb hb) (h1 : (x, exO (.ref C) (some dx) (.ref t) tb c2 c3 c4) ∈ mu) (h2 : (dx, od) ∈ mu)
    (h3 : (t, tupO [.str y u]) ∈ mu) (hs : findIn K (.ref C) "__str__" = some (some (.builtin "BaseException.__str__"))) (hm : mroIn K C (.type "BaseException") = some true) (hu : A.in1.in1.units < cLine) (k : Q (.str y u) s) :
    wpAny (model prog w) A (call (.type "str") [.ref x]) Q E s := by
  have X := R.kin S
  have I := instE R h1 h2
  refine callType_codes (T := "str") (Bi := Builtin.«object.__init__») (Q₁ := fun r s₁ => ∃ y u, r = .str y u ∧ Q r s₁) PySem.F.called_str (PySem.F.typeCall_str_1 _) PySem.F.entry_object_init ?_ ?_
  · refine codeAny_of_tree ?_
    show wpAny _ A.in1.in1 (do checkBuiltinCall "str.__new__" ⟨[.type "str", .ref x], []⟩; again (.builtin "str.__new__" ⟨[.type "str", .ref x], []⟩)) _ _ s
    refine wpAny_bind (wpAny_of_eq (PySem.F.newCall_str_1 _) (wpAny_pure ⟨plainId_quiet (by decide +kernel) _, codeAny_builtin PySem.F.entry_str_new ?_⟩))
    rw [Around.under_plainId (by decide +kernel) _]
    rw [str_new_tree]
    refine wpAny_bind (wpAny_pure ?_)
    refine wpAny_bind (wpAny_of_eq isSubtype_str_str ?_)
    have key : wpAny (model prog w) A.in1.in1 (PySem.Builtin.Str.strOf (.ref x)) (fun r s₁ => ∃ y u, r = .str y u ∧ Q r s₁) E s := by
      unfold PySem.Builtin.Str.strOf
      rw [show isExactStr (.ref x) = false from rfl]
      refine wpAny_bind (m := cRoomFor _ _) (wpAny_cRoomFor hu ?_)
      refine wpAny_bind (m := callSpecial? (.ref x) (Str.ofString "__str__")) (kfo_special X I hs PySem.F.excStr_Exception.str.bind ?_)
      refine wpAny_call (codeAny_call_builtin PySem.F.excStr_Exception.str.plain PySem.F.entry_bexc_str (check_slot (i := "BaseException.__str__") (owner := "BaseException") (n := "__str__") (by decide +kernel) (by decide +kernel) (I.type.andThen (looks_mroIn X hm)) (PySem.F.args_bexc_str _) ?_))
      unfold Builtin.«BaseException.__str__»
      have e1 : ∀ {M : Model} {A : Around} {E : Value → Shared → Prop} {Q : Value × List Value → Shared → Prop}, Q (.ref t, [.str y u]) s → wpAny M A (BaseException.bexcArgs (.ref x)) Q E s := by
        intro M A E Q hq
        unfold BaseException.bexcArgs
        exact wpAny_bind (wpAny_field (R.H.hmu _ h1) rfl (x := .ref t) rfl (wpAny_bind (wpAny_seqItems (R.H.hmu _ h3) rfl (wpAny_pure hq))))
      repeat (first | with_reducible refine e1 ?_ | wp_step)
      exact ⟨y, u, rfl, k⟩
    exact wpAny_bind (wpAny_mono key (fun r s₁ hr => wpAny_pure hr) fun _ _ y => y)
  · rintro obj s₁ ⟨y, u, rfl, hq⟩
    exact ⟨typeIs_str _ _ _, PySem.F.args_object_init_2 _ _, object_init_meets PySem.F.called_str.init.lookup PySem.F.called_str.made (by decide) prog w A.in1 _ s₁ ⟨typeIs_str _ _ _, rfl, hq⟩⟩
theorem str_int {n : Int} {t : Tok} {Q : Value → Shared → Prop} (R : Run hb l fr V s₀ L m mu im s) (h : n.natAbs < 10 ^ 10) (k : ∀ u s', Run hb l fr V s₀ L m mu im s' → Q (.str (numT n) u) s') : wpAny (model prog w) A (call (.type "str") [.int n t]) Q E s :=
  P.str_of_int (log_of h) (k _ _ (R.tok _))
theorem item_l {D : Addr} {vs : List Value} {i : Int} {u : Tok} {v : Value} {value slice : Expr} {Q : Value → Shared → Prop} (hl : s.heap.IsList D vs.toArray) (h0 : 0 ≤ i) (hz : vs.length ≤ 16777216) (hv : vs[i.toNat]? = some v) (h : Q v s)
    (hs : subscripted slice false (.ref D) (.int i u) = operate [.ref D, .int i u] (getItem (.ref D) (.int i u)) := by with_unfolding_all rfl) :
    wpAny (model prog w) A (subscriptTail value slice (.ref D) (.int i u)) Q E s := by
  have hlt := (List.getElem?_eq_some_iff.mp hv).1
  exact tail_any hl.typeIs slot_list_getitem.lookup (wpAny_getItem_list hl h0 (by omega) (by simpa using hv) h) hs
end
section
variable {prog : Program} {w : World} {A : Around} {E : Value → Shared → Prop} {C : Addr} {m : Str → Option Value} {s₃ s : Shared} {im : List (Addr × Obj)}
theorem el_len {x : Str} {n : Int} {t : Tok} {Q : Value → Shared → Prop} (L : El C m s₃ im s) (hx : x.length < 2 ^ 60) (hn : (x.length : Int) = n) (k : ∀ u s', El C m s₃ im s' → Q (.int n u) s') : wpAny (model prog w) A (call (.builtin "len") [.str x t]) Q E s := by
  subst hn
  exact P.len_str (by omega) (k _ _ (L.tok _))
end
section
variable {prog : Program} {w : World} {A : Around} {E : Value → Shared → Prop} {s s₀ : Shared} {hb : Heap} {l : List Env} {fr V : List Addr} {L : Addr} {m : Vars} {mu im : List (Addr × Obj)} {env : Env}
theorem cutR {α : Type} {M : Model} {t : Sem α} {Q : α → Shared → Prop} (_R : Run hb l fr V s₀ L m mu im s) (X : α → Prop) (h : wpAny M A t (fun v s' => Stop (X v ∧ Run hb l fr V s₀ L m mu im s')) E s)
    (k : ∀ v s', X v → Run hb l fr V s₀ L m mu im s' → Q v s') : wpAny M A t Q E s := wpAny_mono h (fun v s' z => k v s' z.out.1 z.out.2) fun _ _ e => e
theorem forW_rangeF {x : Str} {body : List Stmt} {Q : Flow → Shared → Prop} {r : Addr} {n : Nat} {i : Int} {t u v : Tok} (J : Nat → List (Addr × Obj) → Prop) (hh : A.handled = none) (R : Run hb l fr V s₀ L m mu im s) (hr : (r, rgO i t u v) ∈ im) (hi : (n : Int) = i) (hn : n < 2 ^ 60) (h0 : J 0 mu)
    (step : ∀ I o i u mu s E', i < n → J i mu → Run hb l fr V s₀ L m ((I, o) :: mu) im s → wpAny (model prog w) A (storeName env x (.int i u)) (fun _ s₂ => wpAny (model prog w) A (execs body env)
      (fun f s₃ => match f with
        | .next | .cont => Stop (∃ mu', Run hb l fr V s₀ L m ((I, o) :: mu') im s₃ ∧ J (i + 1) mu')
        | .brk => Q .next s₃
        | .ret v => Q (.ret v) s₃) E' s₂) E' s)
    (k : ∀ mu s', Run hb l fr V s₀ L m mu im s' → J n mu → Q .next s') : ForW prog w A hb l fr V s₀ L env x body Q (.ref r) s := by
  refine forW_range (fun i m' mu => m' = m ∧ J i mu) hh R hr hi hn ⟨rfl, h0⟩ (fun I o i u m' mu s E' hlt hJ R1 => ?_) fun m' mu s' R1 hJ => k mu s' (hJ.1 ▸ R1) hJ.2
  obtain ⟨rfl, hJ⟩ := hJ
  refine wpAny_mono (step I o i u mu s E' hlt hJ R1) (fun _ s₂ h₂ => wpAny_mono h₂ (fun f s₃ h₃ => ?_) fun _ _ z => z) fun _ _ z => z
  cases f with
  | next => obtain ⟨mu', a, b⟩ := h₃.out; exact ⟨_, mu', a, rfl, b⟩
  | cont => obtain ⟨mu', a, b⟩ := h₃.out; exact ⟨_, mu', a, rfl, b⟩
  | brk => exact h₃
  | ret v => exact h₃
end
end Mine
end

section
open PySem PySem.W PySem.Calls PyProof.Rows
set_option maxRecDepth 100000
namespace Mine
abbrev errD (P : Params) (k1 k2 k3 k4 k5 : Tok) (msg pat pos ln co : Value) : Obj :=
  dictOf [⟨PyData.keyHash P (Str.ofString "msg"), .str (Str.ofString "msg") k1, msg⟩, ⟨PyData.keyHash P (Str.ofString "pattern"), .str (Str.ofString "pattern") k2, pat⟩, ⟨PyData.keyHash P (Str.ofString "pos"), .str (Str.ofString "pos") k3, pos⟩,
    ⟨PyData.keyHash P (Str.ofString "lineno"), .str (Str.ofString "lineno") k4, ln⟩, ⟨PyData.keyHash P (Str.ofString "colno"), .str (Str.ofString "colno") k5, co⟩] 5
abbrev tokD (P : Params) (k1 k2 k3 k4 k5 : Tok) (ist st dec idx nx : Value) : Obj :=
  dictOf [⟨PyData.keyHash P (Str.ofString "istext"), .str (Str.ofString "istext") k1, ist⟩, ⟨PyData.keyHash P (Str.ofString "string"), .str (Str.ofString "string") k2, st⟩, ⟨PyData.keyHash P (Str.ofString "decoded_string"), .str (Str.ofString "decoded_string") k3, dec⟩,
    ⟨PyData.keyHash P (Str.ofString "index"), .str (Str.ofString "index") k4, idx⟩, ⟨PyData.keyHash P (Str.ofString "next"), .str (Str.ofString "next") k5, nx⟩] 5
def nxV : Option Str → Tok → Value
  | none, _ => .none
  | some x, u => .str x u
def nxLen : Option Str → Int
  | none => 0
  | some x => x.length
def NxOk (x : Option Str) : Prop := ∀ y, x = some y → y.length < 2 ^ 60 ∧ ((y.length : Int) != 0) = true
def nextOf (x : Str) (i : Int) : Option (Option Str) :=
  if fits63 i = true then (match itemC x i with
    | none => some none
    | some c => if c = 92 then (if fits63 (i + 1) = true then (itemC x (i + 1)).map fun e => some ⟨#[92, e]⟩ else none) else some (some ⟨#[c]⟩))
  else some none
theorem itemC_pos {x : Str} {i : Nat} (h : i < x.length) : itemC x (i : Int) = x.cps.toList[i]? := by
  unfold itemC seqIndex?
  have h1 : ¬ ((i : Int) < 0) := by omega
  have h2 : (i : Int) < (x.length : Int) := by omega
  have h3 : (0 : Int) ≤ (i : Int) := by omega
  simp [h1, h2]
theorem itemC_out {x : Str} {i : Int} (h : i < -(x.length : Int) ∨ (x.length : Int) ≤ i) : itemC x i = none := by
  unfold itemC seqIndex?
  rcases h with h | h
  · have h1 : i < 0 := by omega
    have h3 : ¬ (0 ≤ i + (x.length : Int)) := by omega
    simp [h1, h3]
  · have h1 : ¬ (i < 0) := by omega
    have h3 : ¬ (i < (x.length : Int)) := by omega
    simp [h1, h3]
theorem fits_small {i : Int} (h : i.natAbs < 2 ^ 62) : fits63 i = true := by
  unfold fits63
  simp only [Bool.and_eq_true, decide_eq_true_eq]
  omega
theorem nx_one (c : Nat) : NxOk (some ⟨#[c]⟩) := fun y e => by cases e; exact ⟨by show 1 < 2 ^ 60; decide, rfl⟩
theorem nx_two (c e : Nat) : NxOk (some ⟨#[c, e]⟩) := fun y q => by cases q; exact ⟨by show 2 < 2 ^ 60; decide, rfl⟩
theorem nx_none : NxOk none := fun _ q => nomatch q
theorem next_ok0 {x : Str} (hz : x.length < 2 ^ 60) (hl : ∀ c, x.cps.toList.getLast? = some c → c ≠ 92) (i : Nat) (hi : i ≤ x.length) : ∃ r, nextOf x i = some r ∧ NxOk r ∧ ((r = none ∧ i = x.length) ∨ ∃ y, r = some y) := by
  have hL : x.length = x.cps.toList.length := by simp [Str.length]
  unfold nextOf
  rw [if_pos (fits_small (by omega))]
  rcases Nat.lt_or_ge i x.length with h | h
  · rw [itemC_pos h]
    have h' : i < x.cps.toList.length := hL ▸ h
    rw [List.getElem?_eq_getElem h']
    dsimp only
    by_cases hc : x.cps.toList[i] = 92
    · rw [if_pos hc, if_pos (fits_small (by omega))]
      have h2 : i + 1 < x.length := by
        rcases Nat.lt_or_ge (i + 1) x.length with q | q
        · exact q
        · have e : i = x.cps.toList.length - 1 := by omega
          exact absurd hc (hl _ (by rw [List.getLast?_eq_getElem?, ← e, List.getElem?_eq_getElem h']))
      have h2' : i + 1 < x.cps.toList.length := hL ▸ h2
      have e1 : ((i : Int) + 1) = ((i + 1 : Nat) : Int) := by omega
      rw [e1, itemC_pos h2, List.getElem?_eq_getElem h2']
      exact ⟨_, rfl, nx_two _ _, .inr ⟨_, rfl⟩⟩
    · rw [if_neg hc]
      exact ⟨_, rfl, nx_one _, .inr ⟨_, rfl⟩⟩
  · rw [itemC_out (.inr (by omega))]
    exact ⟨_, rfl, nx_none, .inl ⟨rfl, by omega⟩⟩
section
variable {P Q : Prop} {a b : Int}
theorem ite_le {p : Prop} [Decidable p] (e : p) (h : P) : if decide p = true then P else Q := by rw [if_pos (decide_eq_true e)]; exact h
theorem ite_lef {p : Prop} [Decidable p] (e : ¬ p) (h : Q) : if decide p = true then P else Q := by rw [if_neg (by simpa using e)]; exact h
theorem ite_ne (e : a ≠ b) (h : P) : if (a != b) = true then P else Q := by rw [if_pos (bne_iff_ne.mpr e)]; exact h
theorem ite_nef (e : a = b) (h : Q) : if (a != b) = true then P else Q := by subst e; rw [if_neg (by simp)]; exact h
theorem ite_eq (e : a = b) (h : P) : if (a == b) = true then P else Q := by subst e; rw [if_pos (by simp)]; exact h
theorem ite_eqf (e : a ≠ b) (h : Q) : if (a == b) = true then P else Q := by rw [if_neg (by simpa using e)]; exact h
end
theorem slice_finT {s s₀ : Shared} {hb : Heap} {l : List Env} {fr V : List Addr} {L : Addr} {m : Vars} {mu im : List (Addr × Obj)} {tk : Nat} {a : Addr} {vs : List Value} {n : Nat} {i : Int} {u : Tok} {Q : Value → Shared → Prop} (R : Run hb l fr V s₀ L m mu im s) (hl : s.heap.IsList a vs.toArray) (hz : vs.length ≤ 16777216) (hi : (n : Int) = i)
    (k : ∀ D s', Run hb l fr V s₀ L m mu ((D, listO (vs.take n) 0) :: im) s' → Q (.ref D) s') :
    SliceQ Q (.ref a) (.int i u) { s with toks := tk } := slice_fin (R.tok tk) hl hz hi k
end Mine
end

section
open PySem PySem.W PySem.Calls PyProof.Rows
set_option maxRecDepth 100000
namespace Mine
theorem byte_id {c : Nat} (h : c < 256) : (((c : Nat) : Int).toNat.toUInt8).toNat = c := by
  simp [Nat.mod_eq_of_lt h]
theorem lat_of {x : Str} (h : ∀ c ∈ x.cps.toList, c < 256) : latin (byteArr (x.cps.toList.map fun c => ((c : Nat) : Int))) = x := by
  obtain ⟨⟨l⟩⟩ := x
  unfold latin octs byteArr
  refine congrArg Str.mk ?_
  apply Array.ext'
  simp only [List.map_map]
  refine (List.map_congr_left (g := id) fun c hc => ?_).trans (List.map_id _)
  exact byte_id (h c hc)
theorem arr_size (x : Str) : (byteArr (x.cps.toList.map fun c => ((c : Nat) : Int))).size = x.length := by
  rw [byteArr_size, List.length_map, Array.length_toList]; rfl
theorem glue_fold (g : Str) (hg : g.cps = #[]) : ∀ (ps : List Str) (acc : Array Nat), (ps.foldl (fun acc p => acc ++ g.cps ++ p.cps) acc).toList = acc.toList ++ (ps.map (·.cps.toList)).flatten
  | [], acc => by simp
  | p :: r, acc => by
    rw [List.foldl_cons, glue_fold g hg r]
    simp [hg]
theorem join_cps (ps : List Str) : (Txt.join (Str.ofString "") ps).cps.toList = (ps.map (·.cps.toList)).flatten := by
  have hg : (Str.ofString "").cps = #[] := by decide +kernel
  cases ps with
  | nil => rfl
  | cons p r =>
    show (r.foldl (fun acc q => acc ++ (Str.ofString "").cps ++ q.cps) p.cps).toList = _
    rw [glue_fold _ hg]
    simp
theorem app_cps (x y : Str) : (x ++ y).cps.toList = x.cps.toList ++ y.cps.toList := by
  rw [Str.cps_append]; simp
def piece (n : Int) : Str := if n.fmod 5 = 0 then Str.ofString "a" else if n.fmod 5 = 1 then Str.ofString "\n" else if n.fmod 5 = 2 then Str.ofString "\\\n" else if n.fmod 5 = 3 then Str.ofString "bb" else Str.ofString "\x0d"
theorem piece_len (n : Int) : 1 ≤ (piece n).length ∧ (piece n).length ≤ 2 := by
  unfold piece
  split
  · decide +kernel
  · split
    · decide +kernel
    · split
      · decide +kernel
      · split
        · decide +kernel
        · decide +kernel
def textOf (ns : List Int) : Str := Txt.join (Str.ofString "") ((ns.take 14).map piece) ++ Txt.item (Str.ofString "a\n") (ns.sum.fmod 2)

theorem piece_ascii (n : Int) : ∀ c ∈ (piece n).cps.toList, c < 256 := by
  unfold piece
  repeat' split
  all_goals decide +kernel
theorem item_is (n : Int) : Txt.item (Str.ofString "a\n") (n.fmod 2) = ⟨#[97]⟩ ∨ Txt.item (Str.ofString "a\n") (n.fmod 2) = ⟨#[10]⟩ := by
  have h1 := Int.fmod_nonneg_of_pos n (show (0 : Int) < 2 by decide)
  have h2 := Int.fmod_lt_of_pos n (show (0 : Int) < 2 by decide)
  rcases (show n.fmod 2 = 0 ∨ n.fmod 2 = 1 by omega) with h | h <;> rw [h]
  · exact .inl (by decide +kernel)
  · exact .inr (by decide +kernel)
theorem text_cps (ns : List Int) : ∃ c, (c = 97 ∨ c = 10) ∧ (textOf ns).cps.toList = ((ns.take 14).map fun n => (piece n).cps.toList).flatten ++ [c] := by
  unfold textOf
  rcases item_is ns.sum with h | h
  · exact ⟨97, .inl rfl, by rw [app_cps, join_cps, h, List.map_map]; rfl⟩
  · exact ⟨10, .inr rfl, by rw [app_cps, join_cps, h, List.map_map]; rfl⟩
theorem len_cps (x : Str) : x.length = x.cps.toList.length := by simp [Str.length]
theorem flat_len : ∀ ns : List Int, ((ns.map fun n => (piece n).cps.toList).flatten).length ≤ 2 * ns.length
  | [] => by simp
  | n :: r => by
    have h1 := flat_len r
    have h2 := (piece_len n).2
    rw [len_cps] at h2
    simp only [List.map_cons, List.flatten_cons, List.length_append, List.length_cons]
    omega
theorem text_len (ns : List Int) : (textOf ns).length ≤ 30 := by
  obtain ⟨c, -, e⟩ := text_cps ns
  rw [len_cps, e, List.length_append]
  have h1 := flat_len (ns.take 14)
  have h2 := List.length_take_le 14 ns
  simp only [List.length_cons, List.length_nil]
  omega
theorem text_pos (ns : List Int) : 1 ≤ (textOf ns).length := by
  obtain ⟨c, -, e⟩ := text_cps ns
  rw [len_cps, e, List.length_append]
  simp
theorem text_asc (ns : List Int) : ∀ c ∈ (textOf ns).cps.toList, c < 256 := by
  obtain ⟨c, hc, e⟩ := text_cps ns
  rw [e]
  intro z hz
  rcases List.mem_append.mp hz with hz | hz
  · obtain ⟨l, hl, hz⟩ := List.mem_flatten.mp hz
    obtain ⟨n, -, rfl⟩ := List.mem_map.mp hl
    exact piece_ascii n z hz
  · rw [List.mem_singleton.mp hz]; omega
end Mine
end

section
open PySem PySem.W PySem.Calls PyProof.Rows
set_option maxRecDepth 100000
namespace Mine
def glueL : List (List Nat) → List Nat
  | [] => []
  | p :: r => p ++ (r.map (10 :: ·)).flatten
theorem glue_cons (p q : List Nat) (r : List (List Nat)) : glueL (p :: q :: r) = p ++ 10 :: glueL (q :: r) := by simp [glueL]
theorem glue10_fold (g : Str) (hg : g.cps = #[10]) : ∀ (ps : List Str) (acc : Array Nat), (ps.foldl (fun acc p => acc ++ g.cps ++ p.cps) acc).toList = acc.toList ++ ((ps.map (·.cps.toList)).map (10 :: ·)).flatten
  | [], acc => by simp
  | p :: r, acc => by
    rw [List.foldl_cons, glue10_fold g hg r]
    simp [hg]
theorem glued_cps (ps : List Str) : (PySem.Builtin.Str.glued (Str.ofString "\n") ps).cps.toList = glueL (ps.map (·.cps.toList)) := by
  have hg : (Str.ofString "\n").cps = #[10] := by decide +kernel
  cases ps with
  | nil => rfl
  | cons p r =>
    show (r.foldl (fun acc q => acc ++ (Str.ofString "\n").cps ++ q.cps) p.cps).toList = _
    rw [glue10_fold _ hg]
    rfl
theorem tail_free {l : List Nat} (h : 10 ∉ l) : tailLen 10 l = l.length := by
  unfold tailLen
  have e : ∀ r : List Nat, 10 ∉ r → r.takeWhile (· != 10) = r := by
    intro r
    induction r with
    | nil => intro _; rfl
    | cons a r ih =>
      intro hr
      have h1 : (a != 10) = true := bne_iff_ne.mpr fun (q : a = 10) => hr (by rw [q]; exact .head _)
      rw [List.takeWhile_cons, if_pos h1, ih fun q => hr (.tail _ q)]
  rw [e _ (by simpa using h), List.length_reverse]
theorem tail_app (a l : List Nat) : tailLen 10 (a ++ 10 :: l) = tailLen 10 l := by
  unfold tailLen
  rw [List.reverse_append, List.reverse_cons, List.append_assoc, List.singleton_append]
  generalize l.reverse = r
  induction r with
  | nil => simp
  | cons x r ih =>
    simp only [List.cons_append, List.takeWhile_cons]
    split
    · simp only [List.length_cons, ih]
    · rfl
theorem rows_at : ∀ (rest : List (List Nat)) (p : List Nat) (n : Nat), (∀ q ∈ p :: rest, 10 ∉ q) → n ≤ (glueL (p :: rest)).length →
    ∃ row, (p :: rest)[((glueL (p :: rest)).take n).count 10]? = some row ∧ tailLen 10 ((glueL (p :: rest)).take n) ≤ row.length ∧ (((p :: rest).take (((glueL (p :: rest)).take n).count 10)).map (fun r => r.length + 1)).sum + tailLen 10 ((glueL (p :: rest)).take n) = n
  | [], p, n, hf, hn => by
    have e : glueL [p] = p := by simp [glueL]
    rw [e] at hn ⊢
    have h10 : 10 ∉ p.take n := fun q => hf p (.head _) (List.mem_of_mem_take q)
    rw [List.count_eq_zero.mpr h10, tail_free h10, List.length_take]
    exact ⟨p, rfl, by omega, by simp; omega⟩
  | q :: r, p, n, hf, hn => by
    rw [glue_cons] at hn ⊢
    by_cases h : n ≤ p.length
    · rw [List.take_append_of_le_length h]
      have h10 : 10 ∉ p.take n := fun q => hf p (.head _) (List.mem_of_mem_take q)
      rw [List.count_eq_zero.mpr h10, tail_free h10, List.length_take]
      exact ⟨p, rfl, by omega, by simp; omega⟩
    · obtain ⟨n', rfl⟩ : ∃ n', n = p.length + (n' + 1) := ⟨n - p.length - 1, by omega⟩
      rw [List.take_length_add_append, List.take_succ_cons]
      rw [tail_app, List.count_append, List.count_cons_self, List.count_eq_zero.mpr (hf p (.head _)), Nat.zero_add]
      obtain ⟨row, h1, h2, h3⟩ := rows_at r q n' (fun x hx => hf x (.tail _ hx)) (by simp only [List.length_append, List.length_cons] at hn; omega)
      refine ⟨row, by simpa using h1, h2, ?_⟩
      rw [List.take_succ_cons, List.map_cons, List.sum_cons]
      omega
theorem rows_many : ∀ (rest : List (List Nat)) (p : List Nat), (∀ q ∈ p :: rest, 10 ∉ q) → (glueL (p :: rest)).contains 10 = decide (1 < (p :: rest).length)
  | [], p, hf => by
    have e : glueL [p] = p := by simp [glueL]
    rw [e]
    simpa using hf p (.head _)
  | q :: r, p, hf => by rw [glue_cons]; simp
theorem rows_count : ∀ (rest : List (List Nat)) (p : List Nat), (∀ q ∈ p :: rest, 10 ∉ q) → (glueL (p :: rest)).count 10 + 1 = (p :: rest).length
  | [], p, hf => by
    have e : glueL [p] = p := by simp [glueL]
    rw [e, List.count_eq_zero.mpr (hf p (.head _))]; rfl
  | q :: r, p, hf => by
    rw [glue_cons, List.count_append, List.count_cons_self, List.count_eq_zero.mpr (hf p (.head _))]
    have := rows_count r q (fun x hx => hf x (.tail _ hx))
    simp only [List.length_cons] at *
    omega
def rowsOf (x : Str) : List (List Nat) := (Txt.split x (Str.ofString "\n")).map (·.cps.toList)
theorem rowsOf_glue (x : Str) : glueL (rowsOf x) = x.cps.toList := by
  unfold rowsOf
  rw [← glued_cps]
  have := PySem.StrLaws.join_split x (Str.ofString "\n")
  rw [PySem.StrLaws.glued_eq_join, this]
theorem rowsOf_free (x : Str) : ∀ q ∈ rowsOf x, 10 ∉ q := by
  intro q hq
  obtain ⟨s, hs, rfl⟩ := List.mem_map.mp hq
  have : Str.ofString "\n" = ⟨#[10]⟩ := by decide +kernel
  rw [this] at hs
  exact PySem.StrLaws.split_free x 10 s hs
theorem rowsOf_ne (x : Str) : ∃ p r, rowsOf x = p :: r := by
  unfold rowsOf Txt.split
  split
  · exact ⟨_, _, rfl⟩
  · split
    · exact ⟨_, _, rfl⟩
    · rename_i h
      unfold Builtin.Str.partsBetween
      cases q : Builtin.Str.occurrences x (Str.ofString "\n") 0 x.length (x.length + 1) with
      | nil => rw [q] at h; simp at h
      | cons a r => exact ⟨_, _, by simp only [List.map_cons, List.cons_append, List.zip_cons_cons]; rfl⟩
theorem rowsOf_at (x : Str) {n : Nat} (hn : n ≤ x.length) : ∃ row, (rowsOf x)[(x.cps.toList.take n).count 10]? = some row ∧ tailLen 10 (x.cps.toList.take n) ≤ row.length ∧ (((rowsOf x).take ((x.cps.toList.take n).count 10)).map (fun r => r.length + 1)).sum + tailLen 10 (x.cps.toList.take n) = n := by
  obtain ⟨p, r, e⟩ := rowsOf_ne x
  have h1 := rowsOf_glue x
  have h2 := rowsOf_free x
  rw [e] at h1 h2 ⊢
  rw [← h1]
  exact rows_at r p n h2 (by rw [h1, ← len_cps]; exact hn)
theorem rowsOf_many (x : Str) : x.cps.toList.contains 10 = decide (1 < (rowsOf x).length) := by
  obtain ⟨p, r, e⟩ := rowsOf_ne x
  have h1 := rowsOf_glue x
  have h2 := rowsOf_free x
  rw [e] at h1 h2 ⊢
  rw [← h1]
  exact rows_many r p h2
theorem rowsOf_count (x : Str) : x.cps.toList.count 10 + 1 = (rowsOf x).length := by
  obtain ⟨p, r, e⟩ := rowsOf_ne x
  have h1 := rowsOf_glue x
  have h2 := rowsOf_free x
  rw [e] at h1 h2 ⊢
  rw [← h1]
  exact rows_count r p h2
theorem parts_len (x : Str) : (Builtin.Str.partsBetween x (Builtin.Str.occurrences x (Str.ofString "\n") 0 x.length (x.length + 1)) (Str.ofString "\n").length).length ≤ x.length + 1 := by
  have : Str.ofString "\n" = ⟨#[10]⟩ := by decide +kernel
  rw [this]
  unfold Builtin.Str.partsBetween
  simp only [List.length_map, List.length_zip, List.length_cons, List.length_append]
  have h := occ1 x 10 x.length (x.length + 1) (Nat.le_refl _) (Nat.lt_succ_self _)
  have h2 := List.count_le_length (a := 10) (l := x.cps.toList.take x.length)
  rw [List.length_take] at h2
  omega
end Mine
end

section
open PySem PySem.W PySem.Calls PyProof.Rows
set_option maxRecDepth 100000
namespace Mine
theorem text_last (ns : List Int) : ∀ c, (textOf ns).cps.toList.getLast? = some c → c ≠ 92 := by
  obtain ⟨c, hc, e⟩ := text_cps ns
  intro d hd
  rw [e, List.getLast?_append] at hd
  simp at hd
  omega
theorem upto_nat {n i : Nat} (h : i ≤ n) : upto n (i : Int) = i := by
  unfold upto
  rw [if_neg (Int.not_lt.mpr (Int.natCast_nonneg i)), Int.max_eq_right (Int.natCast_nonneg i), Int.toNat_natCast]
  exact Nat.min_eq_left h
theorem line_at {cs : List Nat} {i : Nat} (h : i ≤ cs.length) : linePos cs i = ((cs.take i).count 10 : Nat) + 1 ∧ colPos cs i = (tailLen 10 (cs.take i) : Nat) + 1 := by
  unfold linePos colPos nlBefore nlLast lastI
  rw [upto_nat h, List.length_take]
  refine ⟨rfl, ?_⟩
  omega
def FL (v y : Value) : Prop := ∃ s u t, v = .str s u ∧ y = .int ((s.length : Int) + 1) t
theorem fl_ints {vs ys : List Value} (hp : Paired FL vs ys) : ∀ {xs : List Str}, StrsAre vs xs → IntsAre ys (xs.map fun s => ((s.length + 1 : Nat) : Int)) := by
  induction hp with
  | nil => intro xs h; cases h; exact .nil
  | cons hf _ ih =>
    obtain ⟨s, u, t, rfl, rfl⟩ := hf
    intro xs h
    cases h with
    | cons _ _ hr => exact .cons _ _ (ih hr)
theorem strs_take {vs : List Value} {xs : List Str} (h : StrsAre vs xs) : ∀ k, StrsAre (vs.take k) (xs.take k) := by
  induction h with
  | nil => intro k; simp; exact .nil
  | cons s u _ ih =>
    intro k
    cases k with
    | zero => exact .nil
    | succ k => exact .cons _ _ (ih k)
theorem strs_at {vs : List Value} {xs : List Str} (h : StrsAre vs xs) : ∀ {k : Nat} {x : Str}, xs[k]? = some x → ∃ u, vs[k]? = some (.str x u) := by
  induction h with
  | nil => intro k x q; simp at q
  | cons s u _ ih =>
    intro k x q
    cases k with
    | zero => simp at q; subst q; exact ⟨u, rfl⟩
    | succ k => simpa using ih (by simpa using q)
theorem strs_mem {vs : List Value} {xs : List Str} (h : StrsAre vs xs) : ∀ {v : Value}, v ∈ vs → ∃ x u, x ∈ xs ∧ v = .str x u := by
  induction h with
  | nil => intro v q; cases q
  | cons s u _ ih =>
    intro v q
    rcases List.mem_cons.mp q with rfl | q
    · exact ⟨_, _, .head _, rfl⟩
    · obtain ⟨x, u, hx, e⟩ := ih q
      exact ⟨x, u, .tail _ hx, e⟩
theorem split_len {x s : Str} (h : s ∈ Txt.split x (Str.ofString "\n")) : s.length ≤ x.length := by
  have hg := rowsOf_glue x
  have hm : s.cps.toList ∈ rowsOf x := List.mem_map.mpr ⟨s, h, rfl⟩
  rw [len_cps, len_cps, ← hg]
  generalize rowsOf x = l at hm
  cases l with
  | nil => cases hm
  | cons p r =>
    simp only [glueL, List.length_append]
    rcases List.mem_cons.mp hm with e | e
    · rw [e]; omega
    · have : ∀ r : List (List Nat), s.cps.toList ∈ r → s.cps.toList.length ≤ ((r.map (10 :: ·)).flatten).length := by
        intro r
        induction r with
        | nil => intro h; cases h
        | cons a r ih =>
          intro h
          simp only [List.map_cons, List.flatten_cons, List.length_append, List.length_cons]
          rcases List.mem_cons.mp h with e | e
          · rw [e]; omega
          · have := ih e; omega
      have := this r e
      omega
theorem strs_len {vs : List Value} {xs : List Str} (h : StrsAre vs xs) : vs.length = xs.length := by
  induction h with
  | nil => rfl
  | cons s u _ ih => simp [ih]
theorem sum_cast : ∀ xs : List Str, (xs.map fun s => ((s.length + 1 : Nat) : Int)).sum = (((xs.map fun s => s.length + 1).sum : Nat) : Int)
  | [] => rfl
  | x :: r => by simp only [List.map_cons, List.sum_cons, sum_cast r]; omega
theorem rows_v {vs : List Value} {x : Str} (hV : StrsAre vs (Txt.split x (Str.ofString "\n"))) {i : Nat} (hi : i ≤ x.length) :
    ∃ s u, vs[(x.cps.toList.take i).count 10]? = some (.str s u) ∧ tailLen 10 (x.cps.toList.take i) ≤ s.length ∧ s.length ≤ x.length ∧
      ∀ ys, Paired FL (vs.take ((x.cps.toList.take i).count 10)) ys → ∃ ns, IntsAre ys ns ∧ ns.sum + (tailLen 10 (x.cps.toList.take i) : Nat) = (i : Int) := by
  obtain ⟨row, h1, h2, h3⟩ := rowsOf_at x hi
  unfold rowsOf at h1
  rw [List.getElem?_map] at h1
  obtain ⟨s, hs, rfl⟩ := Option.map_eq_some_iff.mp h1
  obtain ⟨u, hu⟩ := strs_at hV hs
  refine ⟨s, u, hu, by rw [len_cps]; exact h2, ?_, fun ys hp => ⟨_, fl_ints hp (strs_take hV _), ?_⟩⟩
  · exact split_len (List.mem_of_getElem? hs)
  · rw [sum_cast]
    have e : ((rowsOf x).take ((x.cps.toList.take i).count 10)).map (fun r => r.length + 1) = ((Txt.split x (Str.ofString "\n")).take ((x.cps.toList.take i).count 10)).map fun s => s.length + 1 := by
      unfold rowsOf
      rw [← List.map_take, List.map_map]
      exact List.map_congr_left fun s _ => by simp [Str.length]
    rw [e] at h3
    omega
theorem rows_n {vs : List Value} {x : Str} (hV : StrsAre vs (Txt.split x (Str.ofString "\n"))) : vs.length = x.cps.toList.count 10 + 1 ∧ x.cps.toList.contains 10 = decide (1 < vs.length) ∧ vs.length ≤ x.length + 1 := by
  have h1 := rowsOf_count x
  have h2 := rowsOf_many x
  have h3 := strs_len hV
  have h4 : (rowsOf x).length = (Txt.split x (Str.ofString "\n")).length := by simp [rowsOf]
  have h5 := List.count_le_length (a := 10) (l := x.cps.toList)
  rw [← len_cps] at h5
  refine ⟨by omega, ?_, by omega⟩
  rw [h2, h4, h3]
theorem oct_cs0 {x : Str} (h : ∀ c ∈ x.cps.toList, c < 256) : (Pat.b (byteArr (x.cps.toList.map fun c => ((c : Nat) : Int)))).cs = x.cps.toList := by
  have := lat_of h
  have := congrArg (fun s : Str => s.cps.toList) this
  simpa [latin, Pat.cs] using this
end Mine
end

section
open PySem PySem.W PyProof.Rows
namespace Mine
set_option maxRecDepth 100000 in
set_option maxHeartbeats 8000000 in
open_top hd for PySem.Challenge.rw_kq0018_02
end Mine
end

open PySem PySem.W PySem.Calls PyProof.Rows PySem.SeqAt
set_option maxRecDepth 100000
set_option maxHeartbeats 8000000
namespace Mine
abbrev PG : Program := PySem.Challenge.pw_kq0018_02
local macro_rules | `(tactic| k_keys) => `(tactic| first | with_reducible exact Get.here | (with_reducible refine' Get.there ?pa ?pb; (case pa => decide +kernel); (case pb => k_keys)))
local macro_rules | `(tactic| k_all) => `(tactic| first | with_reducible exact Put.here | with_reducible exact Put.nil | (with_reducible refine' Put.there ?pa ?pb ?pc; (case pa => decide +kernel); (case pb => decide +kernel); (case pc => k_all)))
local macro_rules | `(tactic| k_mem) => `(tactic| first | k_dflt (exact List.Mem.head _) | (k_dflt (refine' List.Mem.tail _ ?pa); (case pa => k_mem)) | assumption)
local macro_rules | `(tactic| k_upd) => `(tactic| first | k_dflt (exact UpdL.head) | (k_dflt (refine' UpdL.tail ?pa); (case pa => k_upd)) | assumption)
local macro_rules | `(tactic| k_updF) => `(tactic| first | k_dflt (exact UpdG.head) | (k_dflt (refine' UpdG.tail ?pa); (case pa => k_updF)) | assumption)
local macro_rules | `(tactic| k_inst) => `(tactic| first
  | (refine' instAt ?i1 ?i2 ?i3; (case i1 => with_reducible assumption); (case i2 => k_mem); (case i3 => k_mem))
  | (refine' instAtI ?i1 ?i2 ?i3 ?i4 ?i5 ?i6; (case i1 => with_reducible assumption); (case i2 => k_mem); (case i3 => exact rfl); (case i4 => exact rfl); (case i5 => exact rfl); (case i6 => k_mem)))
local macro_rules | `(tactic| k_tabat) => `(tactic| ((with_reducible rename Run .. => R0); (fail_if_success (with_reducible refine gen_same R0 ?_)); with_reducible refine gen_tok R0 ?_; intro s' R'; clear R0))
local macro_rules | `(tactic| ktr_units) => `(tactic| repeat' (first | k_tabat | walk1 | (dsimp only; walk1)))
local macro_rules | `(tactic| walk_at "eval Name") => `(tactic| (first
  | (with_reducible refine' name_l ?R ?v ?_ ?a ?b ?c ?d; (case R => with_reducible assumption); (case v => k_keys); (case a => k_dflt (exact rfl)); (case b => kernel_rfl!); (case c => kernel_rfl!); (case d => decide +kernel))
  | (with_reducible refine' name_g ?R ?S ?v ?_ ?a ?b ?c ?d; (case R => with_reducible assumption); (case S => assumption); (case v => k_dflt k_is); (case a => kernel_rfl!); (case b => kernel_rfl!); (case c => kernel_rfl!); (case d => decide +kernel))
  | (with_reducible refine' name_b ?R ?S ?v ?v2 ?n ?_ ?a ?a2 ?b ?c ?d; (case R => with_reducible assumption); (case S => assumption); (case v => k_dflt k_is); (case v2 => k_dflt boot_fast); (case n => decide +kernel); (case a => kernel_rfl!); (case a2 => kernel_rfl!); (case b => kernel_rfl!); (case c => kernel_rfl!); (case d => decide +kernel))))
local macro_rules | `(tactic| walk_at "eval Constant int") => `(tactic| ((with_reducible rename Run .. => R0); with_reducible refine const_int R0 ?_; intro u' s' R'; clear R0))
local macro_rules | `(tactic| walk_at "eval Constant str") => `(tactic| ((with_reducible rename Run .. => R0); with_reducible refine const_str R0 ?_; intro u' s' R'; clear R0))
local macro_rules | `(tactic| walk_at "eval Constant bytes") => `(tactic| ((with_reducible rename Run .. => R0); with_reducible refine const_bytes R0 ?_; intro u' s' R'; clear R0))
local macro_rules | `(tactic| walk_at "loadName") => `(tactic| (with_reducible refine' loadName_l ?R ?v ?_ ?a ?b ?c; (case R => with_reducible assumption); (case v => k_keys); (case a => k_dflt (exact rfl)); (case b => kernel_rfl!); (case c => kernel_rfl!)))
local macro_rules | `(tactic| walk_at "storeName") => `(tactic| ((with_reducible rename Run .. => R0); with_reducible refine' store_l R0 ?v ?_ ?a ?b ?c; (case v => k_all); (case a => k_dflt (exact rfl)); (case b => kernel_rfl!); (case c => kernel_rfl!); intro s' R'; clear R0))
local macro_rules | `(tactic| walk_at "getMethod ref") => `(tactic| (with_reducible refine' meth_i ?R ?S ?I ?a ?b ?c ?e ?_; (case R => with_reducible assumption); (case S => assumption); (case I => k_dflt k_inst); (case a => k_dflt k_is); (case b => k_dflt k_is); (case c => k_dflt k_is); (case e => k_dflt k_get); k_whole))
local macro_rules | `(tactic| walk_at "callWith ref") => `(tactic| (first
  | (with_reducible refine' callWith_fS ?S ?k ?_ ?a ?b; (case S => assumption); (case k => k_dflt k_is); (case a => k_dflt (exact rfl)); (case b => k_dflt (exact rfl)); k_whole)
  | (with_reducible refine' callWith_f0 ?X ?k ?_; (case X => exact Run.kin (by with_reducible assumption) (by assumption)); (case k => k_dflt k_is); k_whole)))
local macro_rules | `(tactic| walk_at "And") => `(tactic| ((with_reducible show Frag.In _ _ ∧ _); refine ⟨Run.kin (by assumption) (by assumption), ?_⟩; try dsimp only [List.nil_append, List.cons_append]))
local macro_rules | `(tactic| walk_at "newTuple") => `(tactic| ((with_reducible rename Run .. => R0); with_reducible refine newTuple_r R0 ?_; intro a' s' R'; clear R0))
local macro_rules | `(tactic| walk_at "exec Try") => `(tactic| (with_reducible refine wpAny_Try_except ?_))
local macro_rules | `(tactic| walk_at "subscriptTail Attribute") => `(tactic| ((with_reducible show wpAny _ _ (subscriptTail _ _ (Value.str _ _) (Value.int _ _)) _ _ _); ((with_reducible rename Run .. => R0); (first
  | (with_reducible refine' item_in R0 ?a ?b ?_ ?c; (case a => with_reducible assumption); (case b => with_reducible assumption); (case c => with_unfolding_all rfl); intro u' s' R'; clear R0)
  | (with_reducible refine' item_out R0 ?a ?b ?_ ?c; (case a => first | with_reducible assumption | k_dflt assumption); (case b => with_reducible assumption); (case c => with_unfolding_all rfl); intro e' t' msg' u' s' R'; clear R0)))))
local macro_rules | `(tactic| walk_at "compareOp Eq str str") => `(tactic| (first
  | (with_reducible refine' eq_str_b (b := true) ?a ?_; (case a => first | with_reducible assumption | decide +kernel))
  | (with_reducible refine' eq_str_b (b := false) ?a ?_; (case a => first | with_reducible assumption | decide +kernel))
  | with_reducible refine eq_str_b rfl ?_))
local macro_rules | `(tactic| walk_at "ite") => `(tactic| first | with_reducible refine ite_t ?_ | with_reducible refine ite_f ?_)
local macro_rules | `(tactic| walk_at "exec Assign cons") => `(tactic| ((with_reducible show wpAny _ _ (exec (Stmt.Assign [Expr.Attribute _ _ _] _ _) _) _ _ _); with_reducible refine plainObj_wpAny_Assign_Attribute ?_ ?_; rotate_left; with_unfolding_all rfl))
local macro_rules | `(tactic| walk_at "exec Assign cons") => `(tactic| ((with_reducible show wpAny _ _ (exec (Stmt.Assign [Expr.Name _ _] _ _) _) _ _ _); with_reducible refine wpAny_Assign_Name ?_ ?_; rotate_left; with_unfolding_all rfl))
local macro_rules | `(tactic| walk_at "noteFrame ref") => `(tactic| (
  (with_reducible rename Run _ _ _ _ _ _ _ _ _ _ => R0);
  with_reducible refine' caught_b (T' := "IndexError") R0 ?S ?A ?F ?a ?b ?c PySem.F.isExc_IndexError PySem.F.notTuple_IndexError PySem.F.self_IndexError ?d ?e ?f ?g ?h ?k;
  (case S => assumption); (case A => k_dflt (exact Around.frames_deeper (by assumption))); (case F => k_dflt (exact rfl)); (case a => k_dflt k_is); (case b => k_dflt boot_fast); (case c => decide +kernel); (case d => kernel_rfl!); (case e => kernel_rfl!); (case f => kernel_rfl!); (case g => kernel_rfl!); (case h => decide +kernel);
  intro T' oT' s' h' R'; clear R0))
local macro_rules | `(tactic| k_inst) => `(tactic| (refine' instE ?i1 ?i2 ?i3; (case i1 => with_reducible assumption); (case i2 => k_mem); (case i3 => k_mem)))
local macro_rules | `(tactic| walk_at "setAttr ref") => `(tactic| ((with_reducible rename Run .. => R0); (first
  | (with_reducible refine' set_i R0 ?S ?I ?a ?b ?c ?d ?e ?f ?g ?U ?z ?_; (case S => assumption); (case I => k_dflt k_inst); (case a => k_dflt (exact rfl)); (case b => k_dflt k_is); (case c => k_dflt k_is); (case d => k_dflt k_is); (case e => k_dflt k_is); (case f => k_dflt k_get); (case g => k_dflt k_put); (case U => k_upd); (case z => k_dflt (exact Nat.le_of_ble_eq_true rfl)); k_whole; intro s' R'; clear R0)
  | (with_reducible refine' set_e R0 ?S ?b ?c ?d ?e ?he ?hm ?f ?g ?U ?z ?_; (case S => assumption); (case he => k_mem); (case hm => k_mem); (case b => k_dflt k_is); (case c => k_dflt kernel_rfl); (case d => k_dflt k_is); (case e => k_dflt k_is); (case f => k_dflt k_get); (case g => k_dflt k_put); (case U => k_upd); (case z => k_dflt (exact Nat.le_of_ble_eq_true rfl)); k_whole; intro s' R'; clear R0)
  | (with_reducible refine' set_e1 R0 ?S ?b ?c ?d ?e ?he ?_; (case S => assumption); (case he => k_mem); (case b => k_dflt k_is); (case c => k_dflt kernel_rfl); (case d => k_dflt k_is); (case e => k_dflt k_is); k_whole; intro dx' u' s' R'; replace R' := R' _ (by k_upd); clear R0))))
local macro_rules | `(tactic| walk_at "getAttr ref") => `(tactic| ((with_reducible rename Run .. => R0); (first
  | (with_reducible refine' get_i R0 ?S ?I ?a ?b ?c ?d ?e ?f ?_; (case S => assumption); (case I => k_dflt k_inst); (case a => k_dflt k_is); (case b => k_dflt k_is); (case c => k_dflt k_is); (case d => k_dflt k_is); (case e => k_dflt k_get); (case f => first | k_dflt k_handed | exact pat_handed _ _); k_whole; intro s' R'; clear R0)
  | (with_reducible refine' get_e R0 ?S ?I ?a ?b ?c ?d ?e ?f ?_; (case S => assumption); (case I => k_dflt k_inst); (case a => k_dflt kernel_rfl); (case b => k_dflt k_is); (case c => k_dflt k_is); (case d => k_dflt k_is); (case e => k_dflt k_get); (case f => first | k_dflt k_handed | exact pat_handed _ _); k_whole; intro s' R'; clear R0))))
local macro_rules | `(tactic| walk_at "call builtin:isinstance") => `(tactic| (first
  | (with_reducible refine isinst_str ?_)
  | ((with_reducible rename Run _ _ _ _ _ _ _ _ _ _ => R0); with_reducible refine isinst_bytes R0 ?_; intro s' R'; clear R0)))
local macro_rules | `(tactic| walk_at "call builtin:str.count") => `(tactic| ((with_reducible rename Run .. => R0); with_reducible refine count_t R0 ?_; intro u' s' R'; clear R0))
local macro_rules | `(tactic| walk_at "call builtin:str.rfind") => `(tactic| ((with_reducible rename Run .. => R0); with_reducible refine rfind_t R0 ?_; intro u' s' R'; clear R0))
local macro_rules | `(tactic| walk_at "call builtin:bytes.count") => `(tactic| ((with_reducible rename Run .. => R0); with_reducible refine count_b R0 ?_; intro u' s' R'; clear R0))
local macro_rules | `(tactic| walk_at "call builtin:bytes.rfind") => `(tactic| ((with_reducible rename Run .. => R0); with_reducible refine rfind_b R0 ?_; intro u' s' R'; clear R0))
local macro_rules | `(tactic| walk_at "getMethod bytes") => `(tactic| (first | (with_reducible refine meth_count_b ?_) | (with_reducible refine meth_rfind_b ?_)))
local macro_rules | `(tactic| walk_at "compareOp In str str") => `(tactic| ((with_reducible refine' nl_in_t' ?hb ?_); (case hb => with_reducible assumption)))
local macro_rules | `(tactic| walk_at "compareOp In bytes bytes") => `(tactic| ((with_reducible rename Run .. => R0); with_reducible refine' nl_in_b' R0 ?hh ?hb ?_; (case hh => first | with_reducible assumption | k_dflt assumption); (case hb => with_reducible assumption); intro s' R'; clear R0))
local macro_rules | `(tactic| walk_at "binaryOp Mod str ref") => `(tactic| ((with_reducible rename Run .. => R0); (first
  | (with_reducible refine' mod_at R0 ?b ?y ?n ?_; (case b => k_mem); (case y => assumption); (case n => assumption))
  | (with_reducible refine' mod_lc R0 ?b ?y ?n ?c ?_; (case b => k_mem); (case y => assumption); (case n => assumption); (case c => assumption))); intro t' s' R'; clear R0))
local macro_rules | `(tactic| walk_at "truthy str") => `(tactic| ((with_reducible rename Run .. => R0); (first
  | (with_reducible refine' truthy_s (b := true) R0 ?a ?b ?_; (case a => first | with_reducible assumption | decide +kernel); (case b => first | with_reducible assumption | decide +kernel))
  | (with_reducible refine' truthy_s (b := false) R0 ?a ?b ?_; (case a => first | with_reducible assumption | decide +kernel); (case b => first | with_reducible assumption | decide +kernel))); intro s' R'; clear R0))
local macro_rules | `(tactic| walk_at "call builtin:len") => `(tactic| ((with_reducible rename Run .. => R0); (first
  | (with_reducible refine' len_s R0 ?a ?b ?_; (case a => with_reducible assumption); (case b => exact rfl))
  | (with_reducible refine' len_s (n := 0) R0 ?a ?b ?_; (case a => decide +kernel); (case b => decide +kernel))); intro u' s' R'; clear R0))
local macro_rules | `(tactic| walk_at "getMethod str") => `(tactic| (with_reducible refine meth_encode ?_))
local macro_rules | `(tactic| walk_at "getMethod bytes") => `(tactic| (with_reducible refine meth_decode ?_))
local macro_rules | `(tactic| walk_at "call builtin:str.encode") => `(tactic| ((with_reducible rename Run .. => R0); with_reducible refine' encode_r R0 ?a ?b ?_; (case a => with_reducible assumption); (case b => with_reducible assumption); intro u' s' R'; clear R0))
local macro_rules | `(tactic| walk_at "call builtin:bytes.decode") => `(tactic| ((with_reducible rename Run .. => R0); with_reducible refine' decode_ascii R0 ?a ?b ?c ?_; (case a => with_reducible assumption); (case b => with_reducible assumption); (case c => with_reducible assumption); intro u' s' R'; clear R0))
local macro_rules | `(tactic| walk_at "call type:str") => `(tactic| ((with_reducible rename Run .. => R0); with_reducible refine' str_latin R0 ?a ?b ?_; (case a => with_reducible assumption); (case b => with_reducible assumption); intro u' s' R'; clear R0))
section
variable {w : World} {A : Around} {E : Value → Shared → Prop} {Q : Value → Shared → Prop} {s s₀ : Shared} {p : Program} {loose : List Str} {mg mb : Str → Option Value} {hb : Heap} {l : List Env}
  {fr V : List Addr} {L : Addr} {m : Vars} {mu im : List (Addr × Obj)}
theorem anyE_at {α : Type} {M : Model} {c : Code} {t : Sem α} {Q : α → Shared → Prop} {E : Value → Shared → Prop} (h : ∀ E' : Value → Shared → Prop, PySem.wpAt M A c t Q E' s) : PySem.wpAt M A c t Q E s := h E
theorem perr_r {msg : Str} {pat : Pat} {pos : Int} {u1 u2 u3 : Tok} (R : Run hb l fr V s₀ L m mu im s) (S : Sta (hd.heap_39 w.params) p loose mg mb hb) (hA : A.frames = some l) (hh : A.handled = none) (hr : A.depth < 900)
    (h1 : msg.length ≤ 900000) (h2 : pos.natAbs < 10 ^ 9) (h3 : pat.cs.length < 10 ^ 5)
    (k : ∀ e dx t k1 k2 k3 k4 k5 v1 v2 v3 s', Run hb l fr V s₀ L m ((dx, errD w.params k1 k2 k3 k4 k5 (.str msg u1) (pat.v u2) (.int pos u3) (.int (linePos pat.cs pos) v1) (.int (colPos pat.cs pos) v2)) :: (t, tupO [.str (wordsOf msg pat.cs pos) v3]) :: (e, exO (.ref 41) (some dx) (.ref t) .none .none .none (.bool false)) :: mu) im s' → Q (.ref e) s') :
    wpAny (model PG w) A (call (.ref 41) [.str msg u1, pat.v u2, .int pos u3]) Q E s := by
  refine' new_exc R S (by k_is) (by k_is) (by kernel_rfl) (by k_is) (by k_is) (fI := 38) (N := 40) ?_
  intro B e t₀ s₁ hB hBf hBh R1
  refine wpAny_call ?_
  refine' enterAt e _ im [(Str.ofString "self", Value.ref e), (Str.ofString "msg", Value.str msg u1), (Str.ofString "pattern", pat.v u2), (Str.ofString "pos", Value.int pos u3)] [(Str.ofString "pos", Value.int pos u3), (Str.ofString "pattern", pat.v u2), (Str.ofString "msg", Value.str msg u1), (Str.ofString "self", Value.ref e)] R1 S (.head _) (fun q hq => .tail _ hq) ?ho ?hcd ?hroom ?hbind ?hloc ?hm ?hcell ?c1 ?c2 ?c3 ?h
  case ho => k_is
  case c1 => exact rfl
  case c2 => exact rfl
  case c3 => exact rfl
  case hcd => k_is
  case hroom => simp only [recursionLimit]; omega
  case hbind => exact binds_K (R1.kin S) rfl (by k_is) rfl rfl rfl
  case hloc => exact locs rfl
  case hm => exact rfl
  case hcell => decide
  case h =>
    intro L' s' env B' R'
    refine anyE_at fun E => ?_
    have b2 : pos.natAbs < 10 ^ 10 := Nat.lt_trans h2 (by decide)
    have b1 : msg.length ≤ 1000000 := Nat.le_trans h1 (by decide)
    have b3 : (wordsAt msg pos).length ≤ 1000000 := Nat.le_trans (wordsAt_len h1 b2) (by decide)
    have b4 := line_ok (p := pos) h3
    have b5 := col_ok h3 h2
    have hBh' : B'.handled = none := (rfl : B'.handled = B.handled).trans (hBh.trans hh)
    have hx : excOver (hd.heap_39 w.params) 41 = true := by kernel_rfl
    rcases pat with x | x <;> dsimp only [Pat.v] at R' k ⊢
    all_goals
      refine stepAt ?_
      ktr_units
      refine .mk (stepAt ?_)
      ktr_units
      refine .mk (stepAt ?_)
      ktr_units
    · cases hc : (Pat.t x).cs.contains 10
      all_goals
        refine .mk (stepAt ?_)
        ktr_units
        refine .mk (ks_wpAt_execs_cons (ks_wpAt_Expr_any (ks_wpAt_MethodCall ?_)))
        with_reducible rename Run _ _ _ _ _ _ _ _ _ _ => R0
        refine node_r R0 S (by k_is) (by exact rfl) (by k_keys) (instE R0 (by k_mem) (by k_mem)) (by k_is) (by exact rfl) (by kernel_rfl) (by k_is) (by k_is) (by k_is) (by k_is) (by decide +kernel) (by kernel_rfl) (by kernel_rfl) (by kernel_rfl) (by exact rfl) (by kernel_rfl) (by first | boot_by_name | rfl | kernel_rfl) ?_
        intro so s' R2
        dsimp only
        refine superInit_get R2 S (.head _) (instE R2 (by k_mem) (by k_mem)) (by k_is) rfl hx ?_
        intro q s' R3
        dsimp only
        refine callWith_mw1 (id := "Exception.__init__") (x := e) ?_
        ktr_units
        · with_reducible rename Run _ _ _ _ _ _ _ _ _ _ => R4
          exact R4.H.him _ (by k_mem)
        with_reducible rename Run _ _ _ _ _ _ _ _ _ _ => R4
        try dsimp only [List.nil_append, List.cons_append]
        refine superInit_call S hx rfl R4 (by k_mem) (by k_mem) (by exact ⟨_, by k_mem⟩) ⟨_, rfl⟩ ?_
        intro t s' R5
        have R6 := R5 _ (by k_upd)
        try dsimp only
        refine wpAt_of_wpAny (wpAny_pure ?_)
        have nd := R6.H.nodup
        simp only [List.map_cons, List.nodup_cons, List.mem_cons, not_or] at nd
        have R7 := Run.back1N [_, _] R1 .head R6 (by k_mem) (.cons₂ _ (.cons₂ _ (List.nil_sublist _))) (fun p hp => by
          rcases List.mem_cons.mp hp with rfl | hp
          · exact nd.1.2.1
          · rw [List.mem_singleton.mp hp]; exact nd.2.1.1)
        have R8 : Run _ _ _ _ _ _ _ _ _ _ := ⟨R7.H.perm (List.Perm.swap _ _ _), R7.oth⟩
        unfold wordsOf at k
        rw [hc] at k
        exact ⟨rfl, k _ _ _ _ _ _ _ _ _ _ _ _ (R8.less fun q hq => .tail _ hq)⟩
    · cases hc : (Pat.b x).cs.contains 10
      all_goals
        refine .mk (stepAt ?_)
        ktr_units
        refine .mk (ks_wpAt_execs_cons (ks_wpAt_Expr_any (ks_wpAt_MethodCall ?_)))
        with_reducible rename Run _ _ _ _ _ _ _ _ _ _ => R0
        refine node_r R0 S (by k_is) (by exact rfl) (by k_keys) (instE R0 (by k_mem) (by k_mem)) (by k_is) (by exact rfl) (by kernel_rfl) (by k_is) (by k_is) (by k_is) (by k_is) (by decide +kernel) (by kernel_rfl) (by kernel_rfl) (by kernel_rfl) (by exact rfl) (by kernel_rfl) (by first | boot_by_name | rfl | kernel_rfl) ?_
        intro so s' R2
        dsimp only
        refine superInit_get R2 S (.head _) (instE R2 (by k_mem) (by k_mem)) (by k_is) rfl hx ?_
        intro q s' R3
        dsimp only
        refine callWith_mw1 (id := "Exception.__init__") (x := e) ?_
        ktr_units
        · with_reducible rename Run _ _ _ _ _ _ _ _ _ _ => R4
          exact R4.H.him _ (by k_mem)
        with_reducible rename Run _ _ _ _ _ _ _ _ _ _ => R4
        try dsimp only [List.nil_append, List.cons_append]
        refine superInit_call S hx rfl R4 (by k_mem) (by k_mem) (by exact ⟨_, by k_mem⟩) ⟨_, rfl⟩ ?_
        intro t s' R5
        have R6 := R5 _ (by k_upd)
        try dsimp only
        refine wpAt_of_wpAny (wpAny_pure ?_)
        have nd := R6.H.nodup
        simp only [List.map_cons, List.nodup_cons, List.mem_cons, not_or] at nd
        have R7 := Run.back1N [_, _] R1 .head R6 (by k_mem) (.cons₂ _ (.cons₂ _ (List.nil_sublist _))) (fun p hp => by
          rcases List.mem_cons.mp hp with rfl | hp
          · exact nd.1.2.1
          · rw [List.mem_singleton.mp hp]; exact nd.2.1.1)
        have R8 : Run _ _ _ _ _ _ _ _ _ _ := ⟨R7.H.perm (List.Perm.swap _ _ _), R7.oth⟩
        unfold wordsOf at k
        rw [hc] at k
        exact ⟨rfl, k _ _ _ _ _ _ _ _ _ _ _ _ (R8.less fun q hq => .tail _ hq)⟩
theorem perr_t {msg : Str} {y : Str} {pos : Int} {u1 u2 u3 : Tok} (R : Run hb l fr V s₀ L m mu im s) (S : Sta (hd.heap_39 w.params) p loose mg mb hb) (hA : A.frames = some l) (hh : A.handled = none) (hr : A.depth < 900)
    (h1 : msg.length ≤ 900000) (h2 : pos.natAbs < 10 ^ 9) (h3 : (Pat.t y).cs.length < 10 ^ 5)
    (k : ∀ e dx t k1 k2 k3 k4 k5 v1 v2 v3 s', Run hb l fr V s₀ L m ((dx, errD w.params k1 k2 k3 k4 k5 (.str msg u1) (.str y u2) (.int pos u3) (.int (linePos (Pat.t y).cs pos) v1) (.int (colPos (Pat.t y).cs pos) v2)) :: (t, tupO [.str (wordsOf msg (Pat.t y).cs pos) v3]) :: (e, exO (.ref 41) (some dx) (.ref t) .none .none .none (.bool false)) :: mu) im s' → Q (.ref e) s') :
    wpAny (model PG w) A (call (.ref 41) [.str msg u1, .str y u2, .int pos u3]) Q E s := perr_r (pat := .t y) R S hA hh hr h1 h2 h3 k
theorem perr_b {msg : Str} {y : Array UInt8} {pos : Int} {u1 u2 u3 : Tok} (R : Run hb l fr V s₀ L m mu im s) (S : Sta (hd.heap_39 w.params) p loose mg mb hb) (hA : A.frames = some l) (hh : A.handled = none) (hr : A.depth < 900)
    (h1 : msg.length ≤ 900000) (h2 : pos.natAbs < 10 ^ 9) (h3 : (Pat.b y).cs.length < 10 ^ 5)
    (k : ∀ e dx t k1 k2 k3 k4 k5 v1 v2 v3 s', Run hb l fr V s₀ L m ((dx, errD w.params k1 k2 k3 k4 k5 (.str msg u1) (.bytes y u2) (.int pos u3) (.int (linePos (Pat.b y).cs pos) v1) (.int (colPos (Pat.b y).cs pos) v2)) :: (t, tupO [.str (wordsOf msg (Pat.b y).cs pos) v3]) :: (e, exO (.ref 41) (some dx) (.ref t) .none .none .none (.bool false)) :: mu) im s' → Q (.ref e) s') :
    wpAny (model PG w) A (call (.ref 41) [.str msg u1, .bytes y u2, .int pos u3]) Q E s := perr_r (pat := .b y) R S hA hh hr h1 h2 h3 k
variable {mu' : List (Addr × Obj)}
  {t d : Addr} {k1 k2 k3 k4 k5 : Tok} {n : Nat} {ist st dec : Value} {i : Int} {u u' : Tok} {x : Option Str}
theorem tell_r (R : Run hb l fr V s₀ L m mu im s) (S : Sta (hd.heap_39 w.params) p loose mg mb hb) (hr : A.depth < 900)
    (h1 : (t, instObj 133 d) ∈ im) (h2 : (d, tokD w.params k1 k2 k3 k4 k5 ist st dec (.int i u) (nxV x u')) ∈ mu ∨ (d, tokD w.params k1 k2 k3 k4 k5 ist st dec (.int i u) (nxV x u')) ∈ im) (hx : NxOk x)
    (k : ∀ u s', Run hb l fr V s₀ L m mu im s' → Q (.int (i - nxLen x) u) s') :
    wpAny (model PG w) A (call (.ref 108) [.ref t]) Q E s := by
  refine wpAny_call ?_
  refine' enterRO [(t, instObj 133 d), (d, tokD w.params k1 k2 k3 k4 k5 ist st dec (.int i u) (nxV x u'))] [(Str.ofString "self", Value.ref t)] [(Str.ofString "self", Value.ref t)] R S ?hin ?ho ?hcd ?hroom ?hbind ?hloc ?hm ?hcell ?c1 ?c2 ?c3 ?h
  case ho => k_is
  case c1 => exact rfl
  case c2 => exact rfl
  case c3 => exact rfl
  case hcd => k_is
  case hroom => simp only [recursionLimit]; omega
  case hbind => exact BindsTo.of_eq rfl
  case hloc => exact locs rfl
  case hm => exact rfl
  case hin => intro q hq; rcases List.mem_cons.mp hq with rfl | hq; exact .inr h1; rw [List.mem_singleton.mp hq]; exact h2
  case hcell => decide
  case h =>
    intro L s' env B R'
    refine anyE fun E => ?_
    rcases x with _ | y
    · dsimp only [nxV, nxLen] at R' k ⊢
      ktr_units
      exact k _ _ (R.back0 (Run.tok (by assumption) _))
    · have hx1 := (hx y rfl).1
      have hx2 := (hx y rfl).2
      dsimp only [nxV, nxLen] at R' k ⊢
      ktr_units
      exact k _ _ (R.back0 (Run.tok (by assumption) _))
variable {g : Obj → List (Addr × Obj)} {nx : Value} {u0 : Tok} {xs : Str} {r : Option Str}
section
theorem next_r (R : Run hb l fr V s₀ L m mu im s) (S : Sta (hd.heap_39 w.params) p loose mg mb hb) (hA : A.frames = some l) (hh : A.handled = none) (hr : A.depth < 900)
    (h1 : (t, instObj 133 d) ∈ im) (U : UpdG d (tokD w.params k1 k2 k3 k4 k5 ist st (.str xs u0) (.int i u) nx) mu g) (hx : nextOf xs i = some r)
    (k : ∀ u1 u2 s', Run hb l fr V s₀ L m (g (tokD w.params k1 k2 k3 k4 k5 ist st (.str xs u0) (.int (i + nxLen r) u1) (nxV r u2))) im s' → Q .none s') :
    wpAny (model PG w) A (call (.ref 65) [.ref t]) Q E s := by
  refine wpAny_call ?_
  refine' enterRW d _ [(t, instObj 133 d)] [(Str.ofString "self", Value.ref t)] [(Str.ofString "self", Value.ref t)] R S U.mem ?hin ?ho ?hcd ?hroom ?hbind ?hloc ?hm ?hcell ?c1 ?c2 ?c3 ?h
  case ho => k_is
  case c1 => exact rfl
  case c2 => exact rfl
  case c3 => exact rfl
  case hcd => k_is
  case hroom => simp only [recursionLimit]; omega
  case hbind => exact BindsTo.of_eq rfl
  case hloc => exact locs rfl
  case hm => exact rfl
  case hin => simp [h1]
  case hcell => decide
  case h =>
    intro L s' env B R'
    refine anyE fun E => ?_
    have key : (fits63 i = true → itemC xs i = none) ∧ r = none ∨ (fits63 i = true ∧ ∃ c, itemC xs i = some c ∧ c ≠ 92 ∧ r = some ⟨#[c]⟩) ∨ (fits63 i = true ∧ itemC xs i = some 92 ∧ fits63 (i + 1) = true ∧ ∃ e, itemC xs (i + 1) = some e ∧ r = some ⟨#[92, e]⟩) := by
      unfold nextOf at hx
      split at hx
      · rename_i hf
        split at hx
        · rename_i hc; cases hx; exact .inl ⟨fun _ => hc, rfl⟩
        · rename_i c hc
          split at hx
          · rename_i hq
            subst hq
            split at hx
            · rename_i hf2
              obtain ⟨e, he, rfl⟩ := Option.map_eq_some_iff.mp hx
              cases he2 : itemC xs (i + 1) with
              | none => rw [he2] at he; cases he
              | some e2 => rw [he2] at he; cases he; exact .inr (.inr ⟨hf, hc, hf2, _, rfl, rfl⟩)
            · cases hx
          · rename_i hq; cases hx; exact .inr (.inl ⟨hf, c, hc, hq, rfl⟩)
      · rename_i hf; cases hx; exact .inl ⟨fun z => absurd z hf, rfl⟩
    clear hx
    rcases key with ⟨ho, rfl⟩ | ⟨hf, c, hc, hq, rfl⟩ | ⟨hf, hc, hf2, e, he, rfl⟩
    · have e1 : i + nxLen none = i := Int.add_zero i
      rw [e1] at k
      dsimp only [nxV] at k
      ktr_units
      dsimp only
      exact k _ 0 _ (R.back1 (U.upd _) (by assumption) (by k_mem))
    · have hne : ((⟨#[c]⟩ : Str) == Str.ofString "\\") = false := by
        rw [show Str.ofString "\\" = (⟨#[92]⟩ : Str) from by decide +kernel]
        simpa using hq
      have e1 : i + nxLen (some ⟨#[c]⟩) = i + 1 := rfl
      rw [e1] at k
      dsimp only [nxV] at k
      ktr_units
      dsimp only
      exact k _ _ _ (R.back1 (U.upd _) (by assumption) (by k_mem))
    · have heq : ((⟨#[92]⟩ : Str) == Str.ofString "\\") = true := by decide +kernel
      have e1 : i + nxLen (some ⟨#[92, e]⟩) = i + 1 + 1 := (Int.add_assoc i 1 1).symm
      rw [e1] at k
      dsimp only [nxV] at k
      ktr_units
      dsimp only
      exact k _ _ _ (R.back1 (U.upd _) (by assumption) (by k_mem))
end
end
local macro_rules | `(tactic| walk_at "call ref") => `(tactic| ((try dsimp only [List.cons_append, List.nil_append, List.append_nil]); (with_reducible rename Run .. => R0); (first
  | (with_reducible refine' tell_r R0 ?S ?hr ?h1 ?h2 ?hx ?_; (case S => assumption); (case hr => first | with_reducible assumption | k_dflt assumption); (case h1 => k_mem); (case h2 => first | exact Or.inl (by k_mem) | exact Or.inr (by k_mem)); (case hx => with_reducible assumption); intro u' s' R'; clear R0)
  | (with_reducible refine' next_r R0 ?S ?hA ?hh ?hr ?h1 ?U ?hx ?_; (case S => assumption); (case hA => first | with_reducible assumption | k_dflt assumption); (case hh => first | with_reducible assumption | k_dflt assumption); (case hr => first | with_reducible assumption | k_dflt assumption); (case h1 => k_mem); (case U => k_updF); (case hx => with_reducible assumption); intro u1' u2' s' R'; clear R0)
  | (with_reducible refine' perr_t R0 ?S ?hA ?hh ?hr ?h1 ?h2 ?h3 ?_; (case S => assumption); (case hA => first | with_reducible assumption | k_dflt assumption); (case hh => first | with_reducible assumption | k_dflt assumption); (case hr => first | with_reducible assumption | k_dflt assumption); (case h1 => with_reducible assumption); (case h2 => with_reducible assumption); (case h3 => with_reducible assumption); intro e' dx' t' k1' k2' k3' k4' k5' v1' v2' v3' s' R'; clear R0)
  | (with_reducible refine' perr_b R0 ?S ?hA ?hh ?hr ?h1 ?h2 ?h3 ?_; (case S => assumption); (case hA => first | with_reducible assumption | k_dflt assumption); (case hh => first | with_reducible assumption | k_dflt assumption); (case hr => first | with_reducible assumption | k_dflt assumption); (case h1 => with_reducible assumption); (case h2 => with_reducible assumption); (case h3 => with_reducible assumption); intro e' dx' t' k1' k2' k3' k4' k5' v1' v2' v3' s' R'; clear R0))))
section
def Pat.isT : Pat → Bool
  | .t _ => true
  | .b _ => false
def Pat.dec : Pat → Str
  | .t x => x
  | .b x => latin x
def Pat.okB : Pat → Prop
  | .t _ => True
  | .b x => x.size ≠ 0 ∧ x.size ≤ 16777216
variable {w : World} {A : Around} {E : Value → Shared → Prop} {Q : Value → Shared → Prop} {s s₀ : Shared} {p : Program} {loose : List Str} {mg mb : Str → Option Value} {hb : Heap} {l : List Env}
  {fr V : List Addr} {L : Addr} {m : Vars} {mu mu' im : List (Addr × Obj)} {g : Obj → List (Addr × Obj)}
  {t d : Addr} {k1 k2 k3 k4 k5 : Tok} {n : Nat} {ist st dec nx : Value} {i j : Int} {u u' uj u0 : Tok} {x : Option Str} {xs : Str} {r : Option Str}
theorem error_g {pat : Pat} {msg sd : Str} {off : Int} {um uo : Tok} {args : List Value} (za : args = [.ref t, .str msg um, .int off uo] ∨ (args = [.ref t, .str msg um] ∧ off = 0 ∧ uo = 325)) (R : Run hb l fr V s₀ L m mu im s) (S : Sta (hd.heap_39 w.params) p loose mg mb hb) (hA : A.frames = some l) (hh : A.handled = none) (hr : A.depth < 890)
    (h1 : (t, instObj 133 d) ∈ im) (h2 : (d, tokD w.params k1 k2 k3 k4 k5 (.bool pat.isT) (pat.v u0) dec (.int i u) (nxV x u')) ∈ mu ∨ (d, tokD w.params k1 k2 k3 k4 k5 (.bool pat.isT) (pat.v u0) dec (.int i u) (nxV x u')) ∈ im) (hx : NxOk x)
    (hs : Said pat msg sd) (hm : sd.length ≤ 900000) (hp : (i - nxLen x - off).natAbs < 10 ^ 9) (hc : pat.cs.length < 10 ^ 5)
    (k : ∀ e dx t k1 k2 k3 k4 k5 v0 v1 v2 v3 v4 s', Run hb l fr V s₀ L m ((dx, errD w.params k1 k2 k3 k4 k5 (.str sd v0) (pat.v u0) (.int (i - nxLen x - off) v4) (.int (linePos pat.cs (i - nxLen x - off)) v1) (.int (colPos pat.cs (i - nxLen x - off)) v2)) :: (t, tupO [.str (wordsOf sd pat.cs (i - nxLen x - off)) v3]) :: (e, exO (.ref 41) (some dx) (.ref t) .none .none .none (.bool false)) :: mu) im s' → Q (.ref e) s') :
    wpAny (model PG w) A (call (.ref 123) args) Q E s := by
  refine wpAny_call ?_
  refine' enterRO [(t, instObj 133 d), (d, tokD w.params k1 k2 k3 k4 k5 (.bool pat.isT) (pat.v u0) dec (.int i u) (nxV x u'))] [(Str.ofString "self", Value.ref t), (Str.ofString "msg", Value.str msg um), (Str.ofString "offset", .int off uo)] [(Str.ofString "offset", .int off uo), (Str.ofString "msg", Value.str msg um), (Str.ofString "self", Value.ref t)] R S ?hin ?ho ?hcd ?hroom ?hbind ?hloc ?hm ?hcell ?c1 ?c2 ?c3 ?h
  case ho => k_is
  case c1 => exact rfl
  case c2 => exact rfl
  case c3 => exact rfl
  case hcd => k_is
  case hroom => simp only [recursionLimit]; omega
  case hbind => rcases za with rfl | ⟨rfl, rfl, rfl⟩ <;> exact binds_K (R.kin S) rfl (by k_is) rfl rfl rfl
  case hloc => exact locs rfl
  case hm => exact rfl
  case hin => intro q hq; rcases List.mem_cons.mp hq with rfl | hq; exact .inr h1; rw [List.mem_singleton.mp hq]; exact h2
  case hcell => decide
  case h =>
    clear za
    intro L s' env B R'
    have hB1 : B.frames = some (env :: l) := Around.frames_deeper hA
    have hB2 : B.handled = none := hh
    have hB3 : B.depth < 900 := by show A.depth + 1 < 900; omega
    refine anyE fun E => ?_
    rcases pat with y | y
    · obtain rfl : sd = msg := hs
      dsimp only [Pat.isT, Pat.v] at R' k ⊢
      ktr_units
      exact k _ _ _ _ _ _ _ _ _ _ _ _ _ _ (R.back0N [_, _, _] (by assumption) (List.Sublist.refl _))
    · obtain ⟨b, e1, rfl, e2, e3, e4⟩ := hs
      have e5 : b.size ≤ 16777216 := Nat.le_trans e4 (by decide)
      dsimp only [Pat.isT, Pat.v] at R' k ⊢
      ktr_units
      exact k _ _ _ _ _ _ _ _ _ _ _ _ _ _ (R.back0N [_, _, _] (by assumption) (List.Sublist.refl _))
theorem error_r {pat : Pat} {msg sd : Str} {off : Int} {um uo : Tok} (R : Run hb l fr V s₀ L m mu im s) (S : Sta (hd.heap_39 w.params) p loose mg mb hb) (hA : A.frames = some l) (hh : A.handled = none) (hr : A.depth < 890)
    (h1 : (t, instObj 133 d) ∈ im) (h2 : (d, tokD w.params k1 k2 k3 k4 k5 (.bool pat.isT) (pat.v u0) dec (.int i u) (nxV x u')) ∈ mu ∨ (d, tokD w.params k1 k2 k3 k4 k5 (.bool pat.isT) (pat.v u0) dec (.int i u) (nxV x u')) ∈ im) (hx : NxOk x)
    (hs : Said pat msg sd) (hm : sd.length ≤ 900000) (hp : (i - nxLen x - off).natAbs < 10 ^ 9) (hc : pat.cs.length < 10 ^ 5)
    (k : ∀ e dx t k1 k2 k3 k4 k5 v0 v1 v2 v3 v4 s', Run hb l fr V s₀ L m ((dx, errD w.params k1 k2 k3 k4 k5 (.str sd v0) (pat.v u0) (.int (i - nxLen x - off) v4) (.int (linePos pat.cs (i - nxLen x - off)) v1) (.int (colPos pat.cs (i - nxLen x - off)) v2)) :: (t, tupO [.str (wordsOf sd pat.cs (i - nxLen x - off)) v3]) :: (e, exO (.ref 41) (some dx) (.ref t) .none .none .none (.bool false)) :: mu) im s' → Q (.ref e) s') :
    wpAny (model PG w) A (call (.ref 123) [.ref t, .str msg um, .int off uo]) Q E s := error_g (.inl rfl) R S hA hh hr h1 h2 hx hs hm hp hc k
theorem error_r0 {pat : Pat} {msg sd : Str} {um : Tok} (R : Run hb l fr V s₀ L m mu im s) (S : Sta (hd.heap_39 w.params) p loose mg mb hb) (hA : A.frames = some l) (hh : A.handled = none) (hr : A.depth < 890)
    (h1 : (t, instObj 133 d) ∈ im) (h2 : (d, tokD w.params k1 k2 k3 k4 k5 (.bool pat.isT) (pat.v u0) dec (.int i u) (nxV x u')) ∈ mu ∨ (d, tokD w.params k1 k2 k3 k4 k5 (.bool pat.isT) (pat.v u0) dec (.int i u) (nxV x u')) ∈ im) (hx : NxOk x)
    (hs : Said pat msg sd) (hm : sd.length ≤ 900000) (hp : (i - nxLen x - 0).natAbs < 10 ^ 9) (hc : pat.cs.length < 10 ^ 5)
    (k : ∀ e dx t k1 k2 k3 k4 k5 v0 v1 v2 v3 v4 s', Run hb l fr V s₀ L m ((dx, errD w.params k1 k2 k3 k4 k5 (.str sd v0) (pat.v u0) (.int (i - nxLen x - 0) v4) (.int (linePos pat.cs (i - nxLen x - 0)) v1) (.int (colPos pat.cs (i - nxLen x - 0)) v2)) :: (t, tupO [.str (wordsOf sd pat.cs (i - nxLen x - 0)) v3]) :: (e, exO (.ref 41) (some dx) (.ref t) .none .none .none (.bool false)) :: mu) im s' → Q (.ref e) s') :
    wpAny (model PG w) A (call (.ref 123) [.ref t, .str msg um]) Q E s := error_g (.inr ⟨rfl, rfl, rfl⟩) R S hA hh hr h1 h2 hx hs hm hp hc k
theorem seek_r (R : Run hb l fr V s₀ L m mu im s) (S : Sta (hd.heap_39 w.params) p loose mg mb hb) (hA : A.frames = some l) (hh : A.handled = none) (hr : A.depth < 890)
    (h1 : (t, instObj 133 d) ∈ im) (U : UpdG d (tokD w.params k1 k2 k3 k4 k5 ist st (.str xs u0) (.int i u) nx) mu g) (hx : nextOf xs j = some r)
    (k : ∀ u1 u2 s', Run hb l fr V s₀ L m (g (tokD w.params k1 k2 k3 k4 k5 ist st (.str xs u0) (.int (j + nxLen r) u1) (nxV r u2))) im s' → Q .none s') :
    wpAny (model PG w) A (call (.ref 115) [.ref t, .int j uj]) Q E s := by
  refine wpAny_call ?_
  refine' enterRW d _ [(t, instObj 133 d)] [(Str.ofString "self", Value.ref t), (Str.ofString "index", Value.int j uj)] [(Str.ofString "index", Value.int j uj), (Str.ofString "self", Value.ref t)] R S U.mem ?hin ?ho ?hcd ?hroom ?hbind ?hloc ?hm ?hcell ?c1 ?c2 ?c3 ?h
  case ho => k_is
  case c1 => exact rfl
  case c2 => exact rfl
  case c3 => exact rfl
  case hcd => k_is
  case hroom => simp only [recursionLimit]; omega
  case hbind => exact BindsTo.of_eq rfl
  case hloc => exact locs rfl
  case hm => exact rfl
  case hin => simp [h1]
  case hcell => decide
  case h =>
    intro L s' env B R'
    have hB1 : B.frames = some (env :: l) := Around.frames_deeper hA
    have hB2 : B.handled = none := hh
    have hB3 : B.depth < 900 := by show A.depth + 1 < 900; omega
    refine anyE fun E => ?_
    ktr_units
    dsimp only
    exact k _ _ _ (R.back1 (U.upd _) (by assumption) (by k_mem))
theorem tok_r {pat : Pat} (R : Run hb l fr V s₀ L m mu im s) (S : Sta (hd.heap_39 w.params) p loose mg mb hb) (hA : A.frames = some l) (hh : A.handled = none) (hr : A.depth < 880)
    (hp : pat.okB) (hx : nextOf pat.dec 0 = some r)
    (k : ∀ t d k1 k2 k3 k4 k5 u1 u2 u3 s', Run hb l fr V s₀ L m ((d, tokD w.params k1 k2 k3 k4 k5 (.bool pat.isT) (pat.v u0) (.str pat.dec u1) (.int (0 + nxLen r) u2) (nxV r u3)) :: mu) ((t, instObj 133 d) :: im) s' → Q (.ref t) s') :
    wpAny (model PG w) A (call (.ref 133) [pat.v u0]) Q E s := by
  refine make_r R S (by k_is) (fI := 58) (by k_is) (by k_is) ?_
  intro B₀ t d s₁ hB hBf hBh R1
  refine' enterRW d _ [(t, instObj 133 d)] [(Str.ofString "self", Value.ref t), (Str.ofString "string", pat.v u0)] [(Str.ofString "string", pat.v u0), (Str.ofString "self", Value.ref t)] R1 S (.head _) ?hin ?ho ?hcd ?hroom ?hbind ?hloc ?hm ?hcell ?c1 ?c2 ?c3 ?h
  case ho => k_is
  case c1 => exact rfl
  case c2 => exact rfl
  case c3 => exact rfl
  case hcd => k_is
  case hroom => simp only [recursionLimit]; omega
  case hbind => exact BindsTo.of_eq rfl
  case hloc => exact locs rfl
  case hm => exact rfl
  case hin => simp
  case hcell => decide
  case h =>
    intro L s' env B R'
    have hB1 : B.frames = some (env :: l) := Around.frames_deeper (hBf.trans hA)
    have hB2 : B.handled = none := (rfl : B.handled = B₀.handled).trans (hBh.trans hh)
    have hB3 : B.depth < 900 := by show B₀.depth + 1 < 900; omega
    refine anyE fun E => ?_
    rcases pat with y | y
    · dsimp only [Pat.isT, Pat.v, Pat.dec] at R' k hx ⊢
      ktr_units
      exact ⟨rfl, k _ _ _ _ _ _ _ _ _ _ _ (R1.back1 .head (by assumption) (by k_mem))⟩
    · obtain ⟨hp1, hp2⟩ := hp
      dsimp only [Pat.isT, Pat.v, Pat.dec] at R' k hx ⊢
      ktr_units
      exact ⟨rfl, k _ _ _ _ _ _ _ _ _ _ _ (R1.back1 .head (by assumption) (by k_mem))⟩
end
local macro_rules | `(tactic| walk_at "eval Subscript") => `(tactic| ((with_reducible show wpAny _ _ (eval (Expr.Subscript _ (Expr.Slice none (some _) none _) _) _) _ _ _); with_reducible refine' slice_r ?_ ?ht; (case ht => intro _ _; k_dflt (exact rfl))))
local macro_rules | `(tactic| k_tabat) => `(tactic| ((with_reducible rename Run .. => R0); with_reducible refine' slice_fin R0 ?hl ?hz ?hi ?_; (case hl => first | exact Run.listOld R0 (by with_reducible assumption) | exact Run.list R0 (by k_mem) | exact Run.listX R0 (by k_mem) (by with_reducible assumption)); (case hz => with_reducible assumption); (case hi => first | with_reducible assumption | k_dflt (exact (rfl : ((14 : Nat) : Int) = 14))); intro D' s' R'; clear R0))
local macro_rules | `(tactic| walk_at "call builtin:sum") => `(tactic| ((with_reducible rename Run .. => R0); with_reducible refine' sum_r R0 ?hh ?hl ?hi ?_; (case hh => k_dflt (exact rfl)); (case hl => first | exact Run.listOld R0 (by with_reducible assumption) | exact Run.list R0 (by k_mem)); (case hi => with_reducible assumption); intro u' s' R'; clear R0))
local macro_rules | `(tactic| walk_at "call builtin:str.join") => `(tactic| ((with_reducible rename Run .. => R0); with_reducible refine' join_r R0 ?hl ?hi ?hs ?hw ?_; (case hl => exact Run.list R0 (by k_mem)); (case hi => with_reducible assumption); (case hs => decide +kernel); (case hw => with_reducible assumption); intro u' s' R'; clear R0))
local macro_rules | `(tactic| walk_at "call builtin:len") => `(tactic| ((with_reducible rename Run .. => R0); (with_reducible show wpAny _ _ (call (Value.builtin "len") [Value.ref _]) _ _ _); with_reducible refine' lenL_r R0 ?hl ?hn ?hz ?_; (case hl => first | exact Run.listOld R0 (by with_reducible assumption) | exact Run.list R0 (by k_mem) | with_reducible assumption); (case hn => first | with_reducible assumption | exact rfl); (case hz => with_reducible assumption); intro u' s' R'; clear R0))
local macro_rules | `(tactic| k_tabat) => `(tactic| ((with_reducible rename El .. => L0); (fail_if_success (with_reducible refine el_same L0 ?_)); with_reducible refine el_tok L0 ?_; intro s' L'; clear L0))
local macro_rules | `(tactic| walk_at "eval Name") => `(tactic| ((with_reducible rename El .. => L0); with_reducible refine' el_name L0 ?v ?_ ?a ?b ?c ?d; (case v => with_reducible assumption); (case a => k_dflt (exact rfl)); (case b => kernel_rfl!); (case c => kernel_rfl!); (case d => decide +kernel)))
local macro_rules | `(tactic| walk_at "newTuple") => `(tactic| ((with_reducible rename El .. => L0); with_reducible refine el_tuple L0 ?_; intro a' s' L'; clear L0))
local macro_rules | `(tactic| walk_at "call builtin:str.split") => `(tactic| ((with_reducible rename Run .. => R0); with_reducible refine' split_r0 R0 ?hf ?hy ?hz ?hp ?_; (case hf => with_reducible assumption); (case hy => decide +kernel); (case hz => with_reducible assumption); (case hp => with_reducible assumption); intro D' vs' o' s' R' hO' hV'; clear R0))
local macro_rules | `(tactic| walk_at "call builtin:len") => `(tactic| ((with_reducible rename Run .. => R0); (with_reducible show wpAny _ _ (call (Value.builtin "len") [Value.ref _]) _ _ _); with_reducible refine' lenL_r R0 ?hl ?hn ?hz ?_; (case hl => exact Run.listX R0 (by k_mem) (by with_reducible assumption)); (case hn => first | with_reducible assumption | exact rfl); (case hz => with_reducible assumption); intro u' s' R'; clear R0))
local macro_rules | `(tactic| walk_at "eval Name") => `(tactic| ((with_reducible rename El .. => L0); with_reducible refine' el_builtin L0 ?S ?st ?v ?v2 ?n ?_ ?a ?a2 ?b ?c ?d; (case S => assumption); (case st => with_reducible assumption); (case v => k_dflt k_is); (case v2 => k_dflt boot_fast); (case n => decide +kernel); (case a => k_dflt (exact rfl)); (case a2 => k_dflt (exact rfl)); (case b => kernel_rfl!); (case c => kernel_rfl!); (case d => decide +kernel)))
local macro_rules | `(tactic| walk_at "call type:bytes") => `(tactic| ((with_reducible rename Run .. => R0); with_reducible refine' bytes_r R0 ?hl ?hi ?hr ?hz ?hh ?_; (case hl => exact Run.list R0 (by k_mem)); (case hi => with_reducible assumption); (case hr => with_reducible assumption); (case hz => with_reducible assumption); (case hh => first | with_reducible assumption | k_dflt assumption); intro u' s' R'; clear R0))
local macro_rules | `(tactic| walk_at "truthy int") => `(tactic| (first
  | (with_reducible refine' truthy_i (b := true) ?a ?_; (case a => with_reducible assumption))
  | (with_reducible refine' truthy_i (b := false) ?a ?_; (case a => with_reducible assumption))))
local macro_rules | `(tactic| walk_at "call type:range") => `(tactic| ((with_reducible rename Run .. => R0); with_reducible refine range_r R0 ?_; intro r' u' v' s' R'; clear R0))
section
variable {w : World} {A : Around} {E : Value → Shared → Prop} {Q : Value → Shared → Prop} {s s₀ : Shared} {p : Program} {loose : List Str} {mg mb : Str → Option Value} {hb : Heap} {l : List Env}
  {fr V : List Addr} {L : Addr} {m : Vars} {mu mu' im : List (Addr × Obj)}
def F2 (v y : Value) : Prop := ∃ c u t, v = .str ⟨#[c]⟩ u ∧ y = .int (c : Nat) t
local macro_rules | `(tactic| walk_at "eval ListComp") => `(tactic| ((with_reducible show wpAny _ _ (eval (Expr.ListComp (Expr.Call _ _ _ _) _ _ _) _) _ _ _); (with_reducible rename Run .. => R0); with_reducible refine' comp_text F2 R0 ?h1 ?h2 ?h3 ?h4 ?h5 ?h6 ?_ ?h7; (case h1 => k_dflt assumption); (case h2 => k_dflt (exact rfl)); (case h3 => k_dflt decide); (case h4 => k_dflt (exact rfl)); (case h5 => k_dflt decide); (case h6 => k_dflt (exact rfl)); (case h7 => intro _; k_dflt (exact rfl))))
theorem ints_of {ys vs : List Value} (h : Paired F2 vs ys) : ∀ cs : List Nat, vs.length = cs.length → (∀ (j : Nat) (v : Value), vs[j]? = some v → ∃ c u, cs[j]? = some c ∧ v = Value.str ⟨#[c]⟩ u) → IntsAre ys (cs.map fun c => ((c : Nat) : Int)) := by
  induction h with
  | nil => intro cs h1 _; cases cs with | nil => exact .nil | cons => cases h1
  | cons hf _ ih =>
    intro cs h1 h2
    cases cs with
    | nil => cases h1
    | cons c r =>
      obtain ⟨c', u', t, rfl, rfl⟩ := hf
      obtain ⟨c2, u2, e1, e2⟩ := h2 0 (Value.str ⟨#[c']⟩ u') rfl
      cases e2
      cases e1
      exact .cons _ _ (ih r (Nat.succ.inj h1) fun j v hv => h2 (j + 1) v hv)
theorem oct_r {x : Str} {u : Tok} (R : Run hb l fr V s₀ L m mu im s) (S : Sta (hd.heap_39 w.params) p loose mg mb hb) (hA : A.frames = some l) (hh : A.handled = none) (hr : A.depth < 880) (hx : x.length ≤ 10000) (hx2 : ∀ c ∈ x.cps.toList, c < 256)
    (k : ∀ u s', Run hb l fr V s₀ L m mu im s' → Q (.bytes (byteArr (x.cps.toList.map fun c => ((c : Nat) : Int))) u) s') :
    wpAny (model PG w) A (call (.ref 142) [.str x u]) Q E s := by
  refine wpAny_call ?_
  refine' enterRO [] [(Str.ofString "text", Value.str x u)] [(Str.ofString "text", Value.str x u)] R S ?hin ?ho ?hcd ?hroom ?hbind ?hloc ?hm ?hcell ?c1 ?c2 ?c3 ?h
  case ho => k_is
  case c1 => exact rfl
  case c2 => exact rfl
  case c3 => exact rfl
  case hcd => k_is
  case hroom => simp only [recursionLimit]; omega
  case hbind => exact BindsTo.of_eq rfl
  case hloc => exact locs rfl
  case hm => exact rfl
  case hin => simp
  case hcell => decide
  case h =>
    intro L s' env B R'
    have hB2 : B.handled = none := hh
    refine anyE fun E => ?_
    iterate 8 (first | k_tabat | walk1 | (dsimp only; walk1))
    with_reducible rename Run _ _ _ _ _ _ _ _ _ _ => R0
    refine compT_fin R0 ?xz ?xe ?xk
    case xz => omega
    case xe =>
      intro c u hc C s₃ m₃ E₃ hn hm hk
      have hst : hb.StaysIn s₃.heap := fun b o e => hk b o (R0.H.stays b o e)
      clear R0 R
      have L0 := El.start hn
      iterate 8 (first | k_tabat | walk1 | (dsimp only; walk1))
      · exact ⟨c, u, _, rfl, rfl⟩
      · with_reducible rename El _ _ _ _ _ => L1
        exact (El.tok L1 _).keeps
    case xk =>
      intro D ys n vs s' R' hlen hsg hP
      have hI := ints_of hP x.cps.toList (by rw [hlen]; simp [Str.length]) (fun j v hv => by
        obtain ⟨c, u, hc, e⟩ := hsg j v hv
        exact ⟨c, u, by simpa using hc, e⟩)
      have hr2 : ∀ n ∈ x.cps.toList.map (fun c => ((c : Nat) : Int)), 0 ≤ n ∧ n < 256 := fun n hn => by
        obtain ⟨c, hc, rfl⟩ := List.mem_map.mp hn
        have := hx2 c hc
        omega
      have h9 : ys.length = (x.cps.toList.map fun c => ((c : Nat) : Int)).length := PyProof.Rows.IntsAre.length hI
      have hz2 : ys.length ≤ 16777216 := by
        rw [h9, List.length_map, Array.length_toList]
        exact Nat.le_trans hx (by decide)
      iterate 2 (first | k_tabat | walk1 | (dsimp only; walk1))
      exact k _ _ (R.back0 (by assumption))
end
local macro_rules | `(tactic| walk_at "call ref") => `(tactic| ((try dsimp only [List.cons_append, List.nil_append, List.append_nil]); (with_reducible rename Run .. => R0); (first
  | (with_reducible refine' oct_r R0 ?S ?hA ?hh ?hr ?h1 ?h2 ?_; (case S => assumption); (case hA => first | with_reducible assumption | k_dflt assumption); (case hh => first | with_reducible assumption | k_dflt assumption); (case hr => first | with_reducible assumption | k_dflt assumption); (case h1 => with_reducible assumption); (case h2 => with_reducible assumption); intro u' s' R'; clear R0))))
local macro_rules | `(tactic| walk_at "ite") => `(tactic| refine Stop.out ?_)
local macro_rules | `(tactic| walk_at "call ref") => `(tactic| (plain_pass; refine Stop.out ?_))
local macro_rules | `(tactic| ke_reads) => `(tactic| first | with_reducible exact Sel.nil | (with_reducible refine' Sel.cons ?sa ?sb; (case sa => k_keys); (case sb => ke_reads)))
local macro_rules | `(tactic| ke_read) => `(tactic| first | with_reducible exact Suf.refl | (with_reducible refine' Suf.cons ?sa; (case sa => ke_read)))
local macro_rules | `(tactic| ke_shaped) => `(tactic| first | with_reducible exact Sbl.nil | (with_reducible refine' Sbl.both ?sa; (case sa => ke_shaped)) | (with_reducible refine' Sbl.skip ?sa; (case sa => ke_shaped)))
local macro_rules | `(tactic| ke_norm) => `(tactic| ((with_reducible rename Run .. => R9); with_reducible refine' Run.to R9 ?ta ?tb ?tc; (case ta => ke_reads); (case tb => ke_shaped); (case tc => ke_read)))
local macro_rules | `(tactic| ke_room) => `(tactic| first | assumption | exact Nat.lt_of_le_of_lt ‹_› (by decide) | decide)
local macro_rules | `(tactic| kto_ne) => `(tactic| first
  | with_reducible exact Eqs.nil
  | (with_reducible refine' Eqs.cons ?qa ?qb; (case qa => first | exact eqt_same | (with_reducible refine' eqt_int ?qc; (case qc => kto_not)) | (with_reducible refine' eqt_str ?qc; (case qc => kto_not)) | (with_reducible refine' eqt_bytes ?qc; (case qc => kto_not)) | assumption); (case qb => kto_ne)))
local macro_rules | `(tactic| kto_not) => `(tactic| first | exact rfl | assumption | omega | (symm; assumption))
local macro_rules | `(tactic| walk_at "compareOp NotEq ref ref") => `(tactic| ((with_reducible rename Run .. => R0); with_reducible refine' ne_tup_f R0 ?ha ?hb ?hu ?hq ?_; (case ha => k_mem); (case hb => k_mem); (case hu => ke_room); (case hq => kto_ne)))
local macro_rules | `(tactic| walk_at "call type:type") => `(tactic| ((with_reducible rename Run .. => R0); with_reducible refine' type_exc R0 ?ha ?hb ?_; (case ha => k_mem); (case hb => k_mem)))
local macro_rules | `(tactic| walk_at "compareOp IsNot ref ref") => `(tactic| with_reducible refine wpAny_isNot_ref_self ?_)
local macro_rules | `(tactic| walk_at "call type:str") => `(tactic| ((with_reducible rename Run .. => R0); (first
  | (with_reducible refine' str_exc R0 ?S ?ha ?hb ?hc ?hs ?hm ?hu ?_; (case S => assumption); (case ha => k_mem); (case hb => k_mem); (case hc => k_mem); (case hs => k_dflt k_is); (case hm => k_dflt k_is); (case hu => ke_room))
  | (with_reducible refine' str_int R0 ?hn ?_; (case hn => with_reducible assumption); intro u' s' R'; clear R0))))
local macro_rules | `(tactic| walk_at "subscriptTail") => `(tactic| ((with_reducible show wpAny _ _ (subscriptTail _ _ (Value.ref _) (Value.int _ _)) _ _ _); (with_reducible rename Run .. => R0); with_reducible refine' item_l ?hl ?h0 ?hz ?hv ?_ ?hs; (case hl => first | exact Run.list R0 (by k_mem) | exact Run.listX R0 (by k_mem) (by with_reducible assumption)); (case h0 => with_reducible assumption); (case hz => with_reducible assumption); (case hv => with_reducible assumption); (case hs => with_unfolding_all rfl)))
local macro_rules | `(tactic| walk_at "ite") => `(tactic| (first
  | with_reducible refine ite_t ?_
  | with_reducible refine ite_f ?_
  | (with_reducible refine' ite_a (c := true) ?a ?_; (case a => with_reducible assumption); dsimp only [cond])
  | (with_reducible refine' ite_a (c := false) ?a ?_; (case a => with_reducible assumption); dsimp only [cond])
  | (with_reducible refine' ite_a (c := false) ?a ?_; (case a => with_reducible exact Bool.not_true); dsimp only [cond])
  | (with_reducible refine' ite_a (c := true) ?a ?_; (case a => with_reducible exact Bool.not_false); dsimp only [cond])
  | (with_reducible refine' ite_le ?a ?_; (case a => omega))
  | (with_reducible refine' ite_lef ?a ?_; (case a => omega))
  | (with_reducible refine' ite_ne ?a ?_; (case a => omega))
  | (with_reducible refine' ite_nef ?a ?_; (case a => omega))
  | (with_reducible refine' ite_eq ?a ?_; (case a => omega))
  | (with_reducible refine' ite_eqf ?a ?_; (case a => omega))))
local macro_rules | `(tactic| walk_at "exec For Name Call cons nil") => `(tactic| ((with_reducible rename Run .. => R0); with_reducible refine' forW_r R0 ?_ ?hs; (case hs => intro _; k_dflt (exact rfl))))
local macro_rules | `(tactic| k_tabat) => `(tactic| ((with_reducible rename Run .. => R0); with_reducible refine' slice_finT R0 ?hl ?hz ?hi ?_; (case hl => first | exact Run.listOld R0 (by with_reducible assumption) | exact Run.list R0 (by k_mem) | exact Run.listX R0 (by k_mem) (by with_reducible assumption)); (case hz => with_reducible assumption); (case hi => with_reducible assumption); intro D' s' R'; clear R0))
local macro_rules | `(tactic| walk_at "call builtin:len") => `(tactic| ((with_reducible rename El .. => L0); with_reducible refine' el_len L0 ?ea ?eb ?_; (case ea => with_reducible assumption); (case eb => exact rfl); intro u' s' L'; clear L0))
local macro_rules | `(tactic| walk_at "binaryOp Add str str") => `(tactic| ((with_reducible rename Run .. => R0); with_reducible refine' add_s R0 ?hx ?hz ?_; (case hx => first | with_reducible assumption | exact rfl); (case hz => first | with_reducible assumption | (simp only [Str.length_append]; omega)); intro u' s' R'; clear R0))
local macro_rules | `(tactic| walk_at "inplaceOp Add str str") => `(tactic| ((with_reducible rename Run .. => R0); with_reducible refine' iadd_s R0 ?hx ?hz ?_; (case hx => first | with_reducible assumption | exact rfl); (case hz => first | with_reducible assumption | (simp only [Str.length_append]; omega)); intro u' s' R'; clear R0))
section
def F1 (v y : Value) : Prop := ∃ n u t, v = .int n u ∧ y = .str (piece n) t
local macro_rules | `(tactic| walk_at "eval ListComp") => `(tactic| ((with_reducible show wpAny _ _ (eval (Expr.ListComp (Expr.Subscript _ _ _) _ _ _) _) _ _ _); (with_reducible rename Run .. => R0); with_reducible refine' comp_list F1 R0 ?h1 ?h2 ?h3 ?h4 ?h5 ?h6 ?_ ?h7; (case h1 => k_dflt (exact rfl)); (case h2 => k_dflt (exact rfl)); (case h3 => k_dflt decide); (case h4 => k_dflt (exact rfl)); (case h5 => k_dflt decide); (case h6 => k_dflt (exact rfl)); (case h7 => intro _; k_dflt (exact rfl))))
local macro_rules | `(tactic| walk_at "eval ListComp") => `(tactic| ((with_reducible show wpAny _ _ (eval (Expr.ListComp (Expr.BinOp _ _ _ _) _ _ _) _) _ _ _); (with_reducible rename Run .. => R0); with_reducible refine' comp_list FL R0 ?h1 ?h2 ?h3 ?h4 ?h5 ?h6 ?_ ?h7; (case h1 => k_dflt (exact rfl)); (case h2 => k_dflt (exact rfl)); (case h3 => k_dflt decide); (case h4 => k_dflt (exact rfl)); (case h5 => k_dflt decide); (case h6 => k_dflt (exact rfl)); (case h7 => intro _; k_dflt (exact rfl))))
theorem strs_of {vs ys : List Value} {ns : List Int} (h : Paired F1 vs ys) (hi : IntsAre vs ns) : StrsAre ys (ns.map piece) := by
  induction h generalizing ns with
  | nil => cases hi; exact .nil
  | cons hf _ ih =>
    obtain ⟨n, u, t, rfl, rfl⟩ := hf
    cases hi with
    | cons _ _ hr => exact .cons _ _ (ih hr)
theorem pieces_len : ∀ ns : List Int, ((ns.map piece).map (·.length)).sum + (ns.map piece).length ≤ 3 * ns.length
  | [] => by simp
  | n :: r => by
    have := pieces_len r
    have := piece_len n
    simp only [List.map_cons, List.sum_cons, List.length_cons, List.length_map] at *
    omega
theorem pieces_fit {vs : List Value} {ns : List Int} (_ : IntsAre vs ns) : (((ns.take 14).map piece).map (·.length)).sum + ((ns.take 14).map piece).length ≤ 1048576 := by
  have := pieces_len (ns.take 14)
  have := List.length_take_le 14 ns
  omega
theorem text_is {vs : List Value} {ns : List Int} (_ : IntsAre vs ns) : Txt.join (Str.ofString "") ((ns.take 14).map piece) ++ Txt.item (Str.ofString "a\n") (ns.sum.fmod 2) = textOf ns := rfl
theorem text_fits {vs : List Value} {ns : List Int} (_ : IntsAre vs ns) : (textOf ns).length ≤ 16777216 := Nat.le_trans (text_len ns) (by decide)
theorem text_fits2 {vs : List Value} {ns : List Int} (_ : IntsAre vs ns) : (textOf ns).length < 2 ^ 60 := Nat.lt_of_le_of_lt (text_len ns) (by decide)
theorem parts_fit {vs : List Value} {ns : List Int} (_ : IntsAre vs ns) : (Builtin.Str.partsBetween (textOf ns) (Builtin.Str.occurrences (textOf ns) (Str.ofString "\n") 0 (textOf ns).length ((textOf ns).length + 1)) (Str.ofString "\n").length).length ≤ sizeLine := by
  have h1 := parts_len (textOf ns)
  have h2 := text_len ns
  rw [sizeLine_eq]; omega
theorem par_split {vs : List Value} {ns : List Int} (_ : IntsAre vs ns) : (((vs.length : Nat) : Int).fmod 2 != 0) = true ∨ (((vs.length : Nat) : Int).fmod 2 != 0) = false := by
  cases (((vs.length : Nat) : Int).fmod 2 != 0) <;> simp
theorem text_len4 {vs : List Value} {ns : List Int} (_ : IntsAre vs ns) : (textOf ns).length ≤ 10000 := Nat.le_trans (text_len ns) (by decide)
theorem text_ascii {vs : List Value} {ns : List Int} (_ : IntsAre vs ns) : ∀ c ∈ (textOf ns).cps.toList, c < 256 := text_asc ns
theorem oct_ok {vs : List Value} {ns : List Int} (_ : IntsAre vs ns) : (Pat.b (byteArr ((textOf ns).cps.toList.map fun c => ((c : Nat) : Int)))).okB := by
  have h1 := text_pos ns
  have h2 := text_len ns
  refine ⟨?_, ?_⟩ <;> rw [arr_size] <;> omega
theorem oct_lat {vs : List Value} {ns : List Int} (_ : IntsAre vs ns) : latin (byteArr ((textOf ns).cps.toList.map fun c => ((c : Nat) : Int))) = textOf ns := lat_of (text_asc ns)
theorem next_ok {vs : List Value} {ns : List Int} (_ : IntsAre vs ns) (i : Nat) (_ : i ≤ (textOf ns).length) : ∃ r, nextOf (textOf ns) i = some r ∧ NxOk r ∧ ((r = none ∧ i = (textOf ns).length) ∨ ∃ y, r = some y) := next_ok0 (Nat.lt_of_le_of_lt (text_len ns) (by decide)) (text_last ns) i ‹_›
theorem stays_via {hb h h' : Heap} (st : hb.StaysIn h) (k : ∀ b o, h.get? b = some o → h'.get? b = some o) : hb.StaysIn h' := fun b o e => k b o (st b o e)
theorem words_same0 (sd : Str) (i : Nat) : (wordsAt sd (i : Int) != sd ++ Str.ofString " at position " ++ numT (i : Int)) = false := by
  unfold wordsAt; simp
theorem words_same1 (sd : Str) (i : Nat) (a b : Int) : (wordsLC (wordsAt sd (i : Int)) a b != sd ++ Str.ofString " at position " ++ numT (i : Int) ++ (Str.ofString " (line " ++ numT a ++ Str.ofString ", column " ++ numT b ++ Str.ofString ")")) = false := by
  unfold wordsLC wordsAt
  simp only [Str.append_assoc, bne_self_eq_false]
theorem forW_tokF {w : World} {A : Around} {s s₀ : Shared} {hb : Heap} {l : List Env} {fr V : List Addr} {L : Addr} {m : Vars} {im : List (Addr × Obj)} {env : Env}
    {x : Str} {body : List Stmt} {Q : Flow → Shared → Prop} {rg : Addr} {n : Nat} {iv : Int} {t u v : Tok} {d : Addr} {P : Params} {k1 k2 k3 k4 k5 : Tok} {ist st dec : Value} {i : Int} {ui : Tok} {r : Option Str} {ur : Tok}
    (G : Nat → Int → Option Str → Prop) (hh : A.handled = none) (R : Run hb l fr V s₀ L m [(d, tokD P k1 k2 k3 k4 k5 ist st dec (.int i ui) (nxV r ur))] im s) (hr : (rg, rgO iv t u v) ∈ im) (hi : (n : Int) = iv) (hn : n < 2 ^ 60) (h0 : G 0 i r)
    (step : ∀ I o j u i ui r ur s E', j < n → G j i r → Run hb l fr V s₀ L m [(I, o), (d, tokD P k1 k2 k3 k4 k5 ist st dec (.int i ui) (nxV r ur))] im s → wpAny (model PG w) A (storeName env x (.int j u)) (fun _ s₂ => wpAny (model PG w) A (execs body env)
      (fun f s₃ => match f with
        | .next | .cont => Stop (∃ i ui r ur, Run hb l fr V s₀ L m [(I, o), (d, tokD P k1 k2 k3 k4 k5 ist st dec (.int i ui) (nxV r ur))] im s₃ ∧ G (j + 1) i r)
        | .brk => Q .next s₃
        | .ret v => Q (.ret v) s₃) E' s₂) E' s)
    (k : ∀ i ui r ur s', Run hb l fr V s₀ L m [(d, tokD P k1 k2 k3 k4 k5 ist st dec (.int i ui) (nxV r ur))] im s' → G n i r → Q .next s') : ForW PG w A hb l fr V s₀ L env x body Q (.ref rg) s := by
  refine forW_rangeF (fun n mu => ∃ i ui r ur, mu = [(d, tokD P k1 k2 k3 k4 k5 ist st dec (.int i ui) (nxV r ur))] ∧ G n i r) hh R hr hi hn ⟨_, _, _, _, rfl, h0⟩ (fun I o j u mu s E' hlt hJ R1 => ?_) fun mu s' R1 hJ => ?_
  · obtain ⟨i, ui, r, ur, rfl, hG⟩ := hJ
    refine wpAny_mono (step I o j u i ui r ur s E' hlt hG R1) (fun _ s₂ h₂ => wpAny_mono h₂ (fun f s₃ h₃ => ?_) fun _ _ z => z) fun _ _ z => z
    cases f with
    | next => obtain ⟨i, ui, r, ur, a, b⟩ := h₃.out; exact ⟨⟨_, a, _, _, _, _, rfl, b⟩⟩
    | cont => obtain ⟨i, ui, r, ur, a, b⟩ := h₃.out; exact ⟨⟨_, a, _, _, _, _, rfl, b⟩⟩
    | brk => exact h₃
    | ret v => exact h₃
  · obtain ⟨i, ui, r, ur, rfl, hG⟩ := hJ
    exact k _ _ _ _ _ R1 hG
local macro_rules | `(tactic| walk_at "eval IfExp") => `(tactic| refine Stop.out ?_)
structure PatFor {vs : List Value} {ns : List Int} (_ : IntsAre vs ns) (pat : Pat) : Prop where
  dec : pat.dec = textOf ns
  ok : pat.okB
  cs : pat.cs = (textOf ns).cps.toList
  par : (((vs.length : Nat) : Int).fmod 2 != 0) = !pat.isT
theorem PatFor.len {vs : List Value} {ns : List Int} {h : IntsAre vs ns} {pat : Pat} (P : PatFor h pat) : pat.cs.length ≤ 30 := by
  rw [P.cs, ← len_cps]; exact text_len ns
theorem PatFor.tlen {vs : List Value} {ns : List Int} {h : IntsAre vs ns} {pat : Pat} (P : PatFor h pat) : (textOf ns).length ≤ 30 := text_len ns
theorem said_here (pat : Pat) : Said pat (Str.ofString "here") (Str.ofString "here") := by
  cases pat with
  | t _ => rfl
  | b _ => exact ⟨_, enc_here, by decide +kernel, by decide, by decide +kernel, by decide⟩
theorem mod_gen {w : World} {A : Around} {E : Value → Shared → Prop} {Q : Value → Shared → Prop} {s s₀ : Shared} {hb : Heap} {l : List Env} {fr V : List Addr} {L : Addr} {m : Vars} {mu im : List (Addr × Obj)} {a : Int} {n : Nat} {t u : Tok}
    (R : Run hb l fr V s₀ L m mu im s) (h : ∀ (j : Nat) u s', j ≤ n → Run hb l fr V s₀ L m mu im s' → Q (.int (j : Int) u) s') : wpAny (model PG w) A (binaryOp .Mod (.int a t) (.int ((n : Int) + 1) u)) Q E s := by
  have h1 := Int.fmod_nonneg_of_pos a (show (0 : Int) < (n : Int) + 1 by omega)
  have h2 := Int.fmod_lt_of_pos a (show (0 : Int) < (n : Int) + 1 by omega)
  refine mod_int' (by omega) ?_
  have := h (a.fmod ((n : Int) + 1)).toNat s.toks { s with toks := s.toks + 1 } (by omega) (R.tok _)
  rwa [show (((a.fmod ((n : Int) + 1)).toNat : Nat) : Int) = a.fmod ((n : Int) + 1) by omega] at this
local macro_rules | `(tactic| walk_at "binaryOp Mod int int") => `(tactic| ((with_reducible rename Run .. => R0); with_reducible refine' mod_gen R0 ?_; intro j' u' s' hj' R'; clear R0))
theorem error_p {w : World} {A : Around} {E : Value → Shared → Prop} {Q : Value → Shared → Prop} {s s₀ : Shared} {p : Program} {loose : List Str} {mg mb : Str → Option Value} {hb : Heap} {l : List Env} {fr V : List Addr} {L : Addr} {m : Vars} {mu im : List (Addr × Obj)}
    {t d : Addr} {k1 k2 k3 k4 k5 : Tok} {dec : Value} {i pos : Int} {u u' u0 : Tok} {x : Option Str} {pat : Pat} {msg sd : Str} {off : Int} {um uo : Tok} (R : Run hb l fr V s₀ L m mu im s) (S : Sta (hd.heap_39 w.params) p loose mg mb hb) (hA : A.frames = some l) (hh : A.handled = none) (hr : A.depth < 890)
    (h1 : (t, instObj 133 d) ∈ im) (h2 : (d, tokD w.params k1 k2 k3 k4 k5 (.bool pat.isT) (pat.v u0) dec (.int i u) (nxV x u')) ∈ mu ∨ (d, tokD w.params k1 k2 k3 k4 k5 (.bool pat.isT) (pat.v u0) dec (.int i u) (nxV x u')) ∈ im) (hx : NxOk x)
    (hs : Said pat msg sd) (hm : sd.length ≤ 900000) (e : i - nxLen x - off = pos) (hp : pos.natAbs < 10 ^ 9) (hc : pat.cs.length < 10 ^ 5)
    (k : ∀ e dx t k1 k2 k3 k4 k5 v0 v1 v2 v3 v4 s', Run hb l fr V s₀ L m ((dx, errD w.params k1 k2 k3 k4 k5 (.str sd v0) (pat.v u0) (.int pos v4) (.int (linePos pat.cs pos) v1) (.int (colPos pat.cs pos) v2)) :: (t, tupO [.str (wordsOf sd pat.cs pos) v3]) :: (e, exO (.ref 41) (some dx) (.ref t) .none .none .none (.bool false)) :: mu) im s' → Q (.ref e) s') :
    wpAny (model PG w) A (call (.ref 123) [.ref t, .str msg um, .int off uo]) Q E s := by
  subst e
  exact error_r R S hA hh hr h1 h2 hx hs hm hp hc k
theorem error_p0 {w : World} {A : Around} {E : Value → Shared → Prop} {Q : Value → Shared → Prop} {s s₀ : Shared} {p : Program} {loose : List Str} {mg mb : Str → Option Value} {hb : Heap} {l : List Env} {fr V : List Addr} {L : Addr} {m : Vars} {mu im : List (Addr × Obj)}
    {t d : Addr} {k1 k2 k3 k4 k5 : Tok} {dec : Value} {i pos : Int} {u u' u0 : Tok} {x : Option Str} {pat : Pat} {msg sd : Str} {um : Tok} (R : Run hb l fr V s₀ L m mu im s) (S : Sta (hd.heap_39 w.params) p loose mg mb hb) (hA : A.frames = some l) (hh : A.handled = none) (hr : A.depth < 890)
    (h1 : (t, instObj 133 d) ∈ im) (h2 : (d, tokD w.params k1 k2 k3 k4 k5 (.bool pat.isT) (pat.v u0) dec (.int i u) (nxV x u')) ∈ mu ∨ (d, tokD w.params k1 k2 k3 k4 k5 (.bool pat.isT) (pat.v u0) dec (.int i u) (nxV x u')) ∈ im) (hx : NxOk x)
    (hs : Said pat msg sd) (hm : sd.length ≤ 900000) (e : i - nxLen x = pos) (hp : pos.natAbs < 10 ^ 9) (hc : pat.cs.length < 10 ^ 5)
    (k : ∀ e dx t k1 k2 k3 k4 k5 v0 v1 v2 v3 v4 s', Run hb l fr V s₀ L m ((dx, errD w.params k1 k2 k3 k4 k5 (.str sd v0) (pat.v u0) (.int pos v4) (.int (linePos pat.cs pos) v1) (.int (colPos pat.cs pos) v2)) :: (t, tupO [.str (wordsOf sd pat.cs pos) v3]) :: (e, exO (.ref 41) (some dx) (.ref t) .none .none .none (.bool false)) :: mu) im s' → Q (.ref e) s') :
    wpAny (model PG w) A (call (.ref 123) [.ref t, .str msg um]) Q E s := by
  have e' : i - nxLen x - 0 = pos := by omega
  subst e'
  exact error_r0 R S hA hh hr h1 h2 hx hs hm hp hc k
theorem oct_cs {vs : List Value} {ns : List Int} (_ : IntsAre vs ns) : (Pat.b (byteArr ((textOf ns).cps.toList.map fun c => ((c : Nat) : Int)))).cs = (textOf ns).cps.toList := oct_cs0 (text_asc ns)
local macro_rules | `(tactic| walk_at "call ref") => `(tactic| ((try dsimp only [List.cons_append, List.nil_append, List.append_nil]); (with_reducible rename Run .. => R0); (first
  | (with_reducible refine' tok_r R0 ?S ?hA ?hh ?hr ?h1 ?h2 ?_; (case S => assumption); (case hA => first | with_reducible assumption | k_dflt assumption); (case hh => first | with_reducible assumption | k_dflt assumption); (case hr => first | with_reducible assumption | k_dflt assumption); (case h1 => with_reducible assumption); (case h2 => with_reducible assumption); intro t' d' k1' k2' k3' k4' k5' u1' u2' u3' s' R'; clear R0)
  | (with_reducible refine' seek_r R0 ?S ?hA ?hh ?hr ?h1 ?U ?hx ?_; (case S => assumption); (case hA => first | with_reducible assumption | k_dflt assumption); (case hh => first | with_reducible assumption | k_dflt assumption); (case hr => first | with_reducible assumption | k_dflt assumption); (case h1 => k_mem); (case U => k_updF); (case hx => with_reducible assumption); intro u1' u2' s' R'; clear R0))))
theorem law02 : PySem.Challenge.rw_kq0018_02.Holds := hd (by
  k_go0
  (all_goals try k_fold)
  rename Fr _ _ _ _ => F
  rename Frag.In _ _ => KX
  rename Top _ _ _ _ _ _ => T
  rename IntsAre _ _ => hI
  rename Heap.IsList _ _ _ => hL
  rename Shared.gens _ = _ => hg
  rename ¬ _ => hlen
  have S := Sta.mk KX (topRead_of T)
  rename Heap.CodeRec _ _ _ => z; clear z
  rename Below _ _ _ _ => z; clear z
  dsimp only at F ⊢
  refine startR (M' := model PG _) rfl [(Str.ofString "script", Value.ref _)] F rfl rfl ?_ ?_
  · intro m' s'' F' hg' ho'
    show GoodW _ _ _ _ _ (.ok (.ret (.bool _))) _
    refine goodW_bool F' (hg'.trans hg) (raisesW_false ?_) ?_ ho'
    · wrow_none_raised
    · wrow_post
  clear F
  intro s' env A Q' E' hQ R'
  have hvl := hI.length
  have hvs : (_ : List Value).length ≤ 16777216 := Nat.le_trans (Nat.le_of_eq hvl) (by omega)
  ktr_units
  with_reducible rename Run _ _ _ _ _ _ _ _ _ _ => R0
  refine compL_fin R0 (R0.list (.head _)) ?xz ?xe ?xk
  case xz => exact Nat.le_trans (List.length_take_le _ _) (by decide)
  case xe =>
    clear R0
    intro v hv C s₃ m₃ E₃ hn hm hk
    obtain ⟨n, u, rfl⟩ := hI.all v (List.mem_of_mem_take hv)
    have L0 := El.start hn
    iterate 25 (first | k_tabat | walk1 | (dsimp only; walk1))
    with_reducible rename El _ _ _ _ _ => L1
    rcases ints_fmod5 n with h | h | h | h | h
    · exact el_item (k := 0) L1 (.head _) h (by decide) rfl ⟨⟨n, u, _, rfl, by unfold piece; rw [if_pos h]⟩, L1.keeps⟩
    · exact el_item (k := 1) L1 (.head _) h (by decide) rfl ⟨⟨n, u, _, rfl, by unfold piece; rw [if_neg (by omega), if_pos h]⟩, L1.keeps⟩
    · exact el_item (k := 2) L1 (.head _) h (by decide) rfl ⟨⟨n, u, _, rfl, by unfold piece; rw [if_neg (by omega), if_neg (by omega), if_pos h]⟩, L1.keeps⟩
    · exact el_item (k := 3) L1 (.head _) h (by decide) rfl ⟨⟨n, u, _, rfl, by unfold piece; rw [if_neg (by omega), if_neg (by omega), if_neg (by omega), if_pos h]⟩, L1.keeps⟩
    · exact el_item (k := 4) L1 (.head _) h (by decide) rfl ⟨⟨n, u, _, rfl, by unfold piece; rw [if_neg (by omega), if_neg (by omega), if_neg (by omega), if_neg (by omega)]⟩, L1.keeps⟩
  case xk =>
    intro D ys nn s' R' hP
    have hS := strs_of hP (hI.take 14)
    have hW := pieces_fit hI
    have hT := text_is hI
    have hTz := text_fits hI
    have hTz2 := text_fits2 hI
    have hTp := parts_fit hI
    have hfr : ∀ a ∈ frs [env], a = _ := fun a ha => List.mem_singleton.mp ha
    have hv3 : (_ : List Value).length ≤ 16384 := Nat.le_trans (Nat.le_of_eq hvl) (by omega)
    have hpar : (((_ : List Value).length : Int).fmod 2 != 0) = true ∨ (((_ : List Value).length : Int).fmod 2 != 0) = false := par_split hI
    have hA1 : A.frames = some [env] := rfl
    have hA2 : A.handled = none := rfl
    have hA3 : A.depth < 880 := by show 1 + claimMargin + 1 < 880; decide
    have hA5 : A.in1.in1.units < cLine := by simp only [A, env, units_in1, units_deeper, units_caller, cLine]; decide
    have hA6 : A.units < cLine := by simp only [A, env, units_in1, units_deeper, units_caller, cLine]; decide
    have hA4 : A.depth < 890 := Nat.lt_trans hA3 (by decide)
    have hx1 := text_len4 hI
    have hx2 := text_ascii hI
    ktr_units
    with_reducible rename Run _ _ _ _ _ _ _ _ _ _ => R1
    refine ⟨cutR R1 (fun v => ∃ pat u, v = pat.v u ∧ PatFor hI pat) (IfExp_ ?_) ?_⟩
    · rcases hpar with hp | hp
      · ktr_units
        with_reducible rename Run _ _ _ _ _ _ _ _ _ _ => R2
        exact ⟨⟨⟨.b _, _, rfl, oct_lat hI, oct_ok hI, oct_cs hI, hp⟩, by ke_norm⟩⟩
      · ktr_units
        with_reducible rename Run _ _ _ _ _ _ _ _ _ _ => R2
        exact ⟨⟨⟨.t _, _, rfl, rfl, trivial, rfl, hp⟩, by ke_norm⟩⟩
    clear R1
    rename StrsAre _ (Txt.split _ _) => hV
    obtain ⟨hrn, hrc, hrz⟩ := rows_n hV
    rintro _ s' ⟨pat, up, rfl, hP⟩ R'
    obtain ⟨r0, hr0, hr0', -⟩ := next_ok hI 0 (Nat.zero_le _)
    replace hr0 : nextOf pat.dec 0 = some r0 := hP.dec ▸ hr0
    have hpok := hP.ok
    ktr_units
    with_reducible rename Run _ _ _ _ _ _ _ _ _ _ => R1
    refine ⟨cutR R1 (fun v => ∃ sd u, v = .str sd u ∧ Said pat (Str.ofString "hére") sd ∧ sd.length ≤ 7) (IfExp_ ?_) ?_⟩
    · have hp := hP.par
      rcases pat with y | y
      · replace hp : (((_ : List Value).length : Int).fmod 2 != 0) = false := hp
        ktr_units
        exact ⟨⟨⟨_, _, rfl, rfl, by decide +kernel⟩, by ke_norm⟩⟩
      · replace hp : (((_ : List Value).length : Int).fmod 2 != 0) = true := hp
        ktr_units
        exact ⟨⟨⟨_, _, rfl, ⟨_, enc_here2, by decide +kernel, by decide, by decide +kernel, by decide⟩, by decide +kernel⟩, by ke_norm⟩⟩
    clear R1
    rintro _ s' ⟨sd, us, rfl, hSd, hSl⟩ R'
    ktr_units
    with_reducible rename Run _ _ _ _ _ _ _ _ _ _ => R1
    refine forW_tokF (fun _ _ _ => True) rfl R1 (.head _) (n := (textOf _).length + 1) rfl (Nat.lt_of_le_of_lt (Nat.succ_le_succ (text_len _)) (by decide)) trivial ?_ ?_
    · clear R1
      intro I o i u i' u' r u'' s' E' hi _ R'
      have hi0 : i ≤ (textOf _).length := Nat.le_of_lt_succ hi
      obtain ⟨row, ur, hf1, hf2, hf3, hf4⟩ := rows_v hV hi0
      rw [← hP.cs] at hf1 hf2 hf4 hrn hrc
      obtain ⟨hl1, hl2⟩ := line_at (cs := pat.cs) (i := i) (by rw [hP.cs, ← len_cps]; exact hi0)
      have hcl := List.count_le_length (a := 10) (l := pat.cs.take i)
      rw [List.length_take] at hcl
      have hlen1 : (_ : List Value).length ≤ 16384 := Nat.le_trans hrz (Nat.le_trans (Nat.succ_le_succ hP.tlen) (by decide))
      have hcc : (pat.cs.take i).count 10 ≤ pat.cs.count 10 := (List.take_sublist _ _).count_le _
      have hf0 : 0 ≤ linePos pat.cs (i : Int) - 1 := by omega
      have hf5 : (((pat.cs.take i).count 10 : Nat) : Int) = linePos pat.cs (i : Int) - 1 := by omega
      have hf6 : (linePos pat.cs (i : Int) - 1).toNat = (pat.cs.take i).count 10 := by omega
      rw [← hf6] at hf1
      have hlen2 : (_ : List Value).length ≤ 16777216 := Nat.le_trans hlen1 (by decide)
      have hrow : row.length < 2 ^ 60 := by have := hP.tlen; omega
      ktr_units
      refine ⟨?_⟩
      rename _ ≤ (textOf _).length => hj
      obtain ⟨rj, hrj, hrj', -⟩ := next_ok hI _ hj
      replace hrj : nextOf pat.dec _ = some rj := hP.dec ▸ hrj
      ktr_units
      refine ⟨?_⟩
      with_reducible rename Run _ _ _ _ _ _ _ _ _ _ => R2
      have hi2 : i ≤ 31 := by have := hP.tlen; omega
      have hcs := hP.len
      refine error_p R2 S hA1 hA2 (by omega) (by k_mem) (.inl (by k_mem)) hrj' hSd (by omega) (pos := (i : Int)) (by omega) (by omega) (by omega) ?_
      clear R2
      intro e1 dx1 t1 k11 k12 k13 k14 k15 v10 v11 v12 v13 v14 s1 R'
      ktr_units
      refine ⟨?_⟩
      with_reducible rename Run _ _ _ _ _ _ _ _ _ _ => R2
      have hj2 := hP.tlen
      refine error_p0 R2 S hA1 hA2 hA4 (by k_mem) (.inl (by k_mem)) hrj' (said_here pat) (by decide +kernel) (Int.add_sub_cancel _ _) (by omega) (by omega) ?_
      clear R2
      intro e2 dx2 t2 k21 k22 k23 k24 k25 v20 v21 v22 v23 v24 s2 R'
      ktr_units
      with_reducible rename Run _ _ _ _ _ _ _ _ _ _ => R2
      refine compL_fin R2 (R2.list (.head _)) ?yz ?ye ?yk
      case yz => exact Nat.le_trans (by rw [List.length_take]; exact Nat.min_le_right _ _) hlen2
      case ye =>
        have hst0 := R2.H.stays
        clear R2
        intro v hv C s₃ m₃ E₃ hn hm hk
        have hst := stays_via hst0 hk
        clear hst0
        obtain ⟨ry, uy, hrm, rfl⟩ := strs_mem hV (List.mem_of_mem_take hv)
        have hry : ry.length < 2 ^ 60 := by have := split_len hrm; have := hP.tlen; omega
        have L0 := El.start hn
        ktr_units
        · exact ⟨_, _, _, rfl, rfl⟩
        · exact (El.tok (by assumption) _).keeps
      case yk =>
        intro D2 ys2 nn2 s2 R' hP2
        obtain ⟨ns2, hI2, hsum2⟩ := hf4 _ hP2
        have hb1 : ((i : Int)).natAbs < 10 ^ 10 := by omega
        have hb2 : (linePos pat.cs (i : Int)).natAbs < 10 ^ 10 := by omega
        have hb3 : (colPos pat.cs (i : Int)).natAbs < 10 ^ 10 := by omega
        have hn1 := numT_len hb1
        have hn2 := numT_len hb2
        have hn3 := numT_len hb3
        have ht1 : (Str.ofString " at position ").length ≤ 30 := by decide +kernel
        have ht2 : (Str.ofString " (line ").length ≤ 30 := by decide +kernel
        have ht3 : (Str.ofString ", column ").length ≤ 30 := by decide +kernel
        have ht4 : (Str.ofString ")").length ≤ 30 := by decide +kernel
        ktr_units
        refine ⟨?_⟩
        rcases Nat.lt_or_ge 1 (_ : List Value).length with hm | hm
        · have hw : wordsOf sd pat.cs (i : Int) = wordsLC (wordsAt sd i) (linePos pat.cs i) (colPos pat.cs i) := by
            unfold wordsOf; rw [hrc, decide_eq_true hm]; rfl
          with_reducible rename Run _ _ _ _ _ _ _ _ _ _ => R2
          rw [hw] at R2
          have hwe := words_same1 sd i (linePos pat.cs (i : Int)) (colPos pat.cs (i : Int))
          ktr_units
          exact ⟨⟨_, _, _, _, by ke_norm, trivial⟩⟩
        · have hw : wordsOf sd pat.cs (i : Int) = wordsAt sd i := by
            unfold wordsOf; rw [hrc, decide_eq_false (Nat.not_lt.mpr hm)]; rfl
          with_reducible rename Run _ _ _ _ _ _ _ _ _ _ => R2
          rw [hw] at R2
          have hwe := words_same0 sd i
          ktr_units
          exact ⟨⟨_, _, _, _, by ke_norm, trivial⟩⟩
    · intro i ui r ur s' R' _
      ktr_units
      exact hQ _ _ _ _ (by with_reducible assumption))
end
end Mine
theorem PySem.Challenge.cw_kq0018_02_holds : PySem.Challenge.rw_kq0018_02.Holds :=
  Mine.law02
