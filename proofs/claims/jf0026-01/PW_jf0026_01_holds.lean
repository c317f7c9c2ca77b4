import PyProof.Rows.All
import Wide.All
import OpenK.AllK
import Wide.FinOn
import Lean
import PySem.Challenge.RW_jf0026_01

set_option Elab.async false
set_option maxRecDepth 100000

section
open PySem PySem.W PyProof.Rows
namespace Mine
open_top hd for PySem.Challenge.rw_jf0026_01
end Mine
end

section
open PySem PySem.W PyProof.Rows
set_option Elab.async false
set_option maxRecDepth 100000
namespace Mine
open Sem (wp)

/-! ### canonical arounds -/
def cn (d u : Nat) : Around := { handled := none, depth := d, frames := none, guards := none, units := u }

theorem In_cn {Γ : Ctx} {A : Around} {d u : Nat} (h : Γ.In A) (hh : A.handled = none) (hd : A.depth ≤ d) (hu : A.units ≤ u) : Γ.In (cn d u) :=
  ⟨h.1.trans hh, Nat.le_trans h.2.1 hd, (fun _ hl => by cases hl), (fun _ hl => by cases hl), Nat.le_trans h.2.2.2.2 hu⟩
theorem Below_cn {Γ : Ctx} {A : Around} {d u : Nat} (h : Γ.Below A) (hh : A.handled = none) (hd : A.depth ≤ d) (hu : A.units ≤ u) : Γ.Below (cn d u) :=
  ⟨h.1.trans hh, Nat.le_trans h.2.1 hd, (fun _ hl => by cases hl), (fun _ hl => by cases hl), Nat.le_trans h.2.2.2.2 hu⟩
theorem wpAny_cn {α : Type} {M : Model} {A : Around} {d u : Nat} {t : Sem α} {Q : α → Shared → Prop} {E : Value → Shared → Prop} {s : Shared}
    (hh : A.handled = none) (hd : A.depth ≤ d) (hu : A.units ≤ u) (h : wpAny M (cn d u) t Q E s) : wpAny M A t Q E s :=
  fun Γ p hΓ => h Γ p (In_cn hΓ hh hd hu)
theorem codeAny_cn {M : Model} {A : Around} {d u : Nat} {c : Code} {R : Result → Shared → Prop} {s : Shared}
    (hh : A.handled = none) (hd : A.depth ≤ d) (hu : A.units ≤ u) (h : codeAny M (cn d u) c R s) : codeAny M A c R s :=
  fun Γ p hc hΓ => h Γ p hc (Below_cn hΓ hh hd hu)

/-! ### segments with any end -/
def SegP (M : Model) (A : Around) (Φ : End → Shared → Prop) (c : Code) (t : Sem Fin) (fs : List Frame) (s : Shared) : Prop :=
  ∀ Γ p, Γ.code = c → Γ.Woken A → ∃ e s', Runs M Γ p t fs s e s' ∧ Φ e s'

section
variable {M : Model} {A : Around} {Φ : End → Shared → Prop} {c : Code} {fs : List Frame} {s : Shared}

theorem SegP.mono {Φ' : End → Shared → Prop} {t : Sem Fin} (h : SegP M A Φ c t fs s) (hΦ : ∀ e s', Φ e s' → Φ' e s') : SegP M A Φ' c t fs s :=
  fun Γ p hc hΓ => let ⟨e, s', a, b⟩ := h Γ p hc hΓ; ⟨e, s', a, hΦ e s' b⟩

theorem segP_cn {d u : Nat} {t : Sem Fin} (hh : A.handled = none) (hd : A.depth ≤ d) (hu : A.units ≤ u) (h : SegP M (cn d u) Φ c t fs s) : SegP M A Φ c t fs s :=
  fun Γ p hc hΓ => h Γ p hc ⟨Below_cn hΓ.1 hh hd hu, hΓ.2⟩

theorem segP_wrap {α : Type} {m : Sem α} {K : α → Sem Fin} {H : Value → Sem Fin} {gd lv}
    (h : wpAny M (A.over c fs) m (fun a s' => SegP M A Φ c (K a) fs s') (fun x s' => SegP M A Φ c (H x) fs s') s) :
    SegP M A Φ c (m.wrap K H gd lv) fs s := by
  rintro Γ p rfl hΓ
  exact runs_wrap_of_wp K H gd lv m (h (Γ.over fs) p (hΓ.over fs)) (fun a p' s' h' => h' Γ p' rfl hΓ) (fun x p' s' h' => h' Γ p' rfl hΓ)

theorem segP_bind {α : Type} {m : Sem α} {K : α → Sem Fin}
    (h : wpAny M (A.over c fs) m (fun a s' => SegP M A Φ c (K a) fs s') (fun x s' => SegP M A Φ c (.raise x) fs s') s) :
    SegP M A Φ c (m >>= K) fs s := by
  rw [Sem.bind_eq_wrap']; exact segP_wrap h

theorem segP_bind_wrap {α β : Type} {m : Sem α} {f : α → Sem β} {K : β → Sem Fin} {H : Value → Sem Fin} {gd lv}
    (h : wpAny M (A.over c fs) m (fun a s' => SegP M A Φ c ((f a).wrap K H gd lv) fs s') (fun x s' => SegP M A Φ c (H x) fs s') s) :
    SegP M A Φ c ((m >>= f).wrap K H gd lv) fs s := by
  rw [Sem.bind_eq_wrap', Sem.wrap_wrap]
  exact segP_wrap h

theorem segP_at {p' : Pos} {k : Unit → Sem Fin} (h : SegP M A Φ c (k ()) fs s) : SegP M A Φ c (.at p' k) fs s :=
  segP_wrap (m := standAt p') (K := k) (H := .raise) (gd := id) (lv := id) (wpAny_standAt h)
theorem segP_point {l : List Value} {k : Unit → Sem Fin} (h : SegP M A Φ c (k ()) fs s) : SegP M A Φ c (.point l k) fs s :=
  segP_wrap (m := point) (K := k) (H := .raise) (gd := id) (lv := fun _ => l) (wpAny_point h)

theorem segP_call {c' : Code} {h g l} {k : Result → Sem Fin} (hc : ∀ p, SegP M A Φ c' (M.den c') (.ret k h g l c p [] :: fs) s) :
    SegP M A Φ c (.call c' h g l k) fs s := by
  rintro Γ p rfl hΓ
  obtain ⟨e, s', hr, he⟩ := (hc p) (Γ.goto c') p rfl (hΓ.goto c')
  exact ⟨e, s', runs_call_seg hr, he⟩

theorem segP_leaf {k h g l c₁ p₁ kp} (r : Result) (hk : SegP M A Φ c₁ (k r) fs s) : SegP M A Φ c (leafOf r) (.ret k h g l c₁ p₁ kp :: fs) s := by
  rintro Γ p rfl hΓ
  obtain ⟨e, s', hr, he⟩ := hk (Γ.goto c₁) p₁ rfl (hΓ.goto c₁)
  exact ⟨e, s', Runs.pop r hr, he⟩

theorem segP_again {c' : Code} (hq : c'.quiet = true) (hc : SegP M A Φ c' (M.den c') fs s) : SegP M A Φ c (.pure (.again c')) fs s := by
  rintro Γ p rfl hΓ
  obtain ⟨e, s', hr, he⟩ := hc (Γ.goto c') p rfl (hΓ.goto c')
  exact ⟨e, s', Runs.head (c₁ := c') (fun _ _ x => .again hq x) hr, he⟩

theorem segP_end (r : Result) (h : Φ (.ret r) s) : SegP M A Φ c (leafOf r) [] s := by
  rintro Γ p rfl _
  exact ⟨.ret r, s, Runs.leaf r, h⟩

theorem segP_yield {v g l} {k : Resume → Sem Fin} (hfs : splitAtGen fs = none)
    (h : ∀ p, Φ (.susp v g l k c p fs) s) : SegP M A Φ c (.yield v g l k) fs s := by
  rintro Γ p rfl _
  exact ⟨_, s, Runs.yield' fs hfs, h p⟩

theorem segP_execs_nil {env : Env} {K : Flow → Sem Fin} {H : Value → Sem Fin} {gd lv} (h : SegP M A Φ c (K .next) fs s) : SegP M A Φ c ((execs [] env).wrap K H gd lv) fs s := h

theorem segP_execs_cons {env : Env} {st : Stmt} {rest : List Stmt} {K : Flow → Sem Fin} {H : Value → Sem Fin} {gd : Bool → Bool} {lv : List Value → List Value}
    (h : SegP M A Φ c ((exec st env).wrap (fun f => match f with | .next => (execs rest env).wrap K H gd lv | f => K f) H gd lv) fs s) :
    SegP M A Φ c ((execs (st :: rest) env).wrap K H gd lv) fs s := by rw [execs_cons_wrap]; exact h
end

/-- what a generator does when it is asked -/
def GoP (M : Model) (A : Around) (Φ : End → Shared → Prop) (gs : GenState) (s : Shared) : Prop :=
  match gs with
  | .fresh c => SegP M A Φ c (M.den c) [] s
  | .suspended k _ c _ fs _ => SegP M A Φ c (k (.send .none)) fs s
  | _ => False

theorem wpAny_resumeP {M : Model} {A : Around} {Φ : End → Shared → Prop} {E : Value → Shared → Prop} {s : Shared} {g : Nat} {gs : GenState}
    {l : List Value} {α : Type} {k : GenResult → Sem α} {Q : α → Shared → Prop} (hg : s.gens[g]? = some gs)
    (hgo : GoP M A Φ gs (s.setGen g .running))
    (hΦ : ∀ e s₁, Φ e s₁ → e.quiet = true ∧ wpAny M A (k e.result) Q E (s₁.setGen g e.genState)) :
    wpAny M A (.resume g (.send .none) l k) Q E s := by
  intro Γ p hΓ
  rw [Sem.wp_resume]
  have hB : ∀ c, (Γ.wake c p).Woken A := fun c => hΓ.wake c p
  cases gs with
  | fresh c =>
    obtain ⟨e₁, s₁, hr, he⟩ := hgo (Γ.wake c p) p rfl (hB c)
    exact ⟨_, _, by unfold Wakes; rw [hg]; exact ⟨e₁, s₁, hr, (hΦ e₁ s₁ he).1, rfl, rfl⟩, (hΦ e₁ s₁ he).2 Γ p hΓ⟩
  | suspended k₀ l₀ c₀ p₀ fs₀ cl =>
    obtain ⟨e₁, s₁, hr, he⟩ := hgo (Γ.wake c₀ p) p₀ rfl (hB c₀)
    exact ⟨_, _, by unfold Wakes; rw [hg]; exact ⟨e₁, s₁, hr, (hΦ e₁ s₁ he).1, rfl, rfl⟩, (hΦ e₁ s₁ he).2 Γ p hΓ⟩
  | running => exact hgo.elim
  | finished => exact hgo.elim
end Mine
end

section
open PySem PySem.W PyProof.Rows
set_option Elab.async false
set_option maxRecDepth 100000
namespace Mine
open Sem (wp)

/-- the ground: the heap at the call, and the one code table that may grow -/
structure Gnd where
  K : Heap
  c : Addr
  P : Addr

structure Ok (B : Gnd) (h : Heap) : Prop where
  keep : ∀ b o, b ≠ B.P → B.K.get? b = some o → h.get? b = some o
  tab : ∃ ps, h.IsCode B.c B.P ps ∧ h.TableAt B.c B.P ps

theorem Ok.keeps {B : Gnd} {h h' : Heap} (x : Ok B h) (hk : ∀ b o, h.get? b = some o → h'.get? b = some o) : Ok B h' :=
  ⟨fun b o hb e => hk _ _ (x.keep b o hb e), let ⟨ps, a, b⟩ := x.tab; ⟨ps, a.keeps hk, b.keeps hk⟩⟩
theorem Ok.liveP {B : Gnd} {h : Heap} (x : Ok B h) : B.P < h.objs.size := let ⟨_, _, b⟩ := x.tab; Heap.lt_size b.2
theorem Ok.livec {B : Gnd} {h : Heap} (x : Ok B h) : B.c < h.objs.size := let ⟨_, _, b⟩ := x.tab; let ⟨_, _, e1, _⟩ := b.1; Heap.lt_size e1
/-- a write to a place that is no place of the ground -/
theorem Ok.but {B : Gnd} {h h' : Heap} {a : Addr} (x : Ok B h) (hs : Heap.ExtBut a h h') (ha : B.K.get? a = none) (hP : a ≠ B.P) (hc : a ≠ B.c) : Ok B h' :=
  ⟨fun b o hb e => hs b o (fun q => by rw [q, ha] at e; cases e) (x.keep b o hb e), let ⟨ps, p, q⟩ := x.tab; ⟨ps, p.extBut hs (Ne.symm hc) (Ne.symm hP), q.extBut hs (Ne.symm hc) (Ne.symm hP)⟩⟩

/-- from s to s': only the places of W, the generators of G and new ones have changed -/
structure Mv (B : Gnd) (W : Addr → Prop) (G : Nat → Prop) (s s' : Shared) : Prop where
  heap : ∀ b o, ¬ W b → b ≠ B.P → s.heap.get? b = some o → s'.heap.get? b = some o
  size : s.heap.objs.size ≤ s'.heap.objs.size
  gens : ∀ i, ¬ G i → i < s.gens.size → s'.gens[i]? = s.gens[i]?
  gsz : s.gens.size ≤ s'.gens.size
  ok : Ok B s.heap → Ok B s'.heap
  os : s'.os = s.os
  bare : AllBare s.gens → AllBare s'.gens
  toks : s.toks ≤ s'.toks

def No {α : Type} : α → Prop := fun _ => False

theorem Mv.refl {B : Gnd} {W G} (s : Shared) : Mv B W G s s := ⟨fun _ _ _ _ e => e, Nat.le_refl _, fun _ _ _ => rfl, Nat.le_refl _, id, rfl, id, Nat.le_refl _⟩

theorem Mv.trans {B : Gnd} {W W' : Addr → Prop} {G G' : Nat → Prop} {s s' s'' : Shared} (x : Mv B W G s s') (y : Mv B W' G' s' s'')
    (hW : ∀ b, W' b → W b ∨ s.heap.objs.size ≤ b) (hG : ∀ i, G' i → G i ∨ s.gens.size ≤ i) : Mv B W G s s'' where
  heap := fun b o hb hP e => y.heap b o (fun h => (hW b h).elim hb fun q => absurd (Heap.lt_size e) (Nat.not_lt.mpr q)) hP (x.heap b o hb hP e)
  size := Nat.le_trans x.size y.size
  gens := fun i hi hl => (y.gens i (fun h => (hG i h).elim hi fun q => absurd hl (Nat.not_lt.mpr q)) (Nat.lt_of_lt_of_le hl x.gsz)).trans (x.gens i hi hl)
  gsz := Nat.le_trans x.gsz y.gsz
  ok := fun h => y.ok (x.ok h)
  os := y.os.trans x.os
  bare := fun h => y.bare (x.bare h)
  toks := Nat.le_trans x.toks y.toks

theorem Mv.mono {B : Gnd} {W W' : Addr → Prop} {G G' : Nat → Prop} {s s' : Shared} (x : Mv B W G s s')
    (hW : ∀ b, W b → W' b ∨ s.heap.objs.size ≤ b) (hG : ∀ i, G i → G' i ∨ s.gens.size ≤ i) : Mv B W' G' s s' :=
  (Mv.refl s).trans x hW hG

/-- same allowance twice -/
theorem Mv.then {B : Gnd} {W : Addr → Prop} {G : Nat → Prop} {s s' s'' : Shared} (x : Mv B W G s s') (y : Mv B W G s' s'') : Mv B W G s s'' :=
  x.trans y (fun _ h => .inl h) fun _ h => .inl h
theorem Mv.thenNo {B : Gnd} {W : Addr → Prop} {G : Nat → Prop} {s s' s'' : Shared} (x : Mv B W G s s') (y : Mv B No No s' s'') : Mv B W G s s'' :=
  x.trans y (fun _ h => h.elim) fun _ h => h.elim
theorem Mv.no {B : Gnd} {W : Addr → Prop} {G : Nat → Prop} {s s' : Shared} (y : Mv B No No s s') : Mv B W G s s' := (Mv.refl s).thenNo y

theorem Mv.keeps {B : Gnd} {W G} {s : Shared} {h' : Heap} {tk : Nat} (hk : ∀ b o, s.heap.get? b = some o → h'.get? b = some o) (hz : s.heap.objs.size ≤ h'.objs.size) (ht : s.toks ≤ tk) :
    Mv B W G s { s with heap := h', toks := tk } where
  heap := fun b o _ _ e => hk b o e
  size := hz
  gens := fun _ _ _ => rfl
  gsz := Nat.le_refl _
  ok := fun x => x.keeps hk
  os := rfl
  bare := id
  toks := ht

/-- one place is written -/
theorem Mv.but {B : Gnd} {W : Addr → Prop} {G : Nat → Prop} {s : Shared} {h' : Heap} {tk : Nat} {a : Addr} (hs : Heap.ExtBut a s.heap h') (ha : W a) (hz : s.heap.objs.size ≤ h'.objs.size)
    (hK : B.K.get? a = none) (hP : a ≠ B.P) (hc : a ≠ B.c) (ht : s.toks ≤ tk) : Mv B W G s { s with heap := h', toks := tk } where
  heap := fun b o hb _ e => hs b o (fun q => hb (q ▸ ha)) e
  size := hz
  gens := fun _ _ _ => rfl
  gsz := Nat.le_refl _
  ok := fun x => x.but hs hK hP hc
  os := rfl
  bare := id
  toks := ht

theorem AllBare.set {gens : Array GenState} {g : Nat} {x : GenState} (h : AllBare gens) (hx : x.bare = true) : AllBare (gens.setIfInBounds g x) := by
  intro y hy
  rcases Array.mem_or_eq_of_mem_setIfInBounds hy with h1 | h1
  · exact h y h1
  · exact h1 ▸ hx

theorem Mv.setGen {B : Gnd} {W : Addr → Prop} {G : Nat → Prop} {s : Shared} {g : Nat} {x : GenState} (hg : G g) (hx : x.bare = true) : Mv B W G s (s.setGen g x) where
  heap := fun _ _ _ _ e => e
  size := Nat.le_refl _
  gens := fun i hi _ => by
    have : g ≠ i := fun q => hi (q ▸ hg)
    simp [Shared.setGen, this]
  gsz := by simp [Shared.setGen]
  ok := id
  os := rfl
  bare := fun h => AllBare.set h hx
  toks := Nat.le_refl _

/-- what a sleeping generator relies on is as it was -/
structure Ag (B : Gnd) (O : Addr → Prop) (OG : Nat → Prop) (s s'' : Shared) : Prop where
  heap : ∀ b o, O b → s.heap.get? b = some o → s''.heap.get? b = some o
  gens : ∀ i, OG i → s''.gens[i]? = s.gens[i]?
  gsz : s.gens.size ≤ s''.gens.size
  size : s.heap.objs.size ≤ s''.heap.objs.size
  ok : Ok B s''.heap

theorem Ag.mono {B : Gnd} {O O' : Addr → Prop} {OG OG' : Nat → Prop} {s s'' : Shared} (x : Ag B O OG s s'') (h : ∀ b, O' b → O b) (hg : ∀ i, OG' i → OG i) : Ag B O' OG' s s'' :=
  ⟨fun b o hb e => x.heap b o (h b hb) e, fun i hi => x.gens i (hg i hi), x.gsz, x.size, x.ok⟩
theorem Ag.trans {B : Gnd} {O : Addr → Prop} {OG : Nat → Prop} {s s' s'' : Shared} (x : Ag B O OG s s') (y : Ag B O OG s' s'') : Ag B O OG s s'' :=
  ⟨fun b o hb e => y.heap b o hb (x.heap b o hb e), fun i hi => (y.gens i hi).trans (x.gens i hi), Nat.le_trans x.gsz y.gsz, Nat.le_trans x.size y.size, y.ok⟩
theorem Mv.ag {B : Gnd} {W O : Addr → Prop} {G OG : Nat → Prop} {s s' : Shared} (x : Mv B W G s s') (ok : Ok B s.heap) (h : ∀ b, O b → ¬ W b) (hP : ¬ O B.P) (hg : ∀ i, OG i → ¬ G i) (hl : ∀ i, OG i → i < s.gens.size) : Ag B O OG s s' :=
  ⟨fun b o hb e => x.heap b o (h b hb) (fun q => hP (q ▸ hb)) e, fun i hi => x.gens i (hg i hi) (hl i hi), x.gsz, x.size, x.ok ok⟩

/-- a value that was told holds whatever happens to what stood at s₀ and to the teller's own places -/
def Told {ρ : Type} (Is : ρ → Heap → Value → Prop) (O' : Addr → Prop) (s₀ : Shared) (r : ρ) (h : Heap) (v : Value) : Prop :=
  ∀ h'' : Heap, (∀ b o, ¬ O' b → s₀.heap.objs.size ≤ b → h.get? b = some o → h''.get? b = some o) → Is r h'' v

def Emit (B : Gnd) (M : Model) (A : Around) {ρ : Type} (Is : ρ → Heap → Value → Prop) : List ρ → (Addr → Prop) → (Nat → Prop) → Shared → End → Shared → Prop
  | [], O, OG, s₀, e, s' => (e = .ret (.ok (.ret .none)) ∨ e = .ret (.ok .next)) ∧ Mv B O OG s₀ s'
  | r :: rs, O, OG, s₀, e, s' => ∃ v g l k c p fs, e = .susp v g l k c p fs ∧ e.quiet = true ∧ Mv B O OG s₀ s' ∧
      ∃ (O' : Addr → Prop) (OG' : Nat → Prop), Told Is O' s₀ r s'.heap v ∧ (∀ b, O' b → O b ∨ s₀.heap.objs.size ≤ b) ∧ (∀ b, O' b → b < s'.heap.objs.size) ∧ ¬ O' B.P ∧
        (∀ i, OG' i → OG i ∨ s₀.gens.size ≤ i) ∧ (∀ i, OG' i → i < s'.gens.size) ∧
        ∀ s'', Ag B O' OG' s' s'' → SegP M A (Emit B M A Is rs O' OG' s'') c (k (.send .none)) fs s''

/-- the generator object a, at rest in s, will tell rs and end -/
structure GAt (B : Gnd) (M : Model) (A : Around) {ρ : Type} (Is : ρ → Heap → Value → Prop) (rs : List ρ) (O : Addr → Prop) (OG : Nat → Prop) (a : Addr) (g : Nat) (s : Shared) : Prop where
  isGen : s.heap.IsGen a g
  nO : ∀ b, O b → b < s.heap.objs.size
  nP : ¬ O B.P
  nG : ¬ OG g
  lG : ∀ i, OG i → i < s.gens.size
  goes : ∃ gs, s.gens[g]? = some gs ∧ ∀ s'', Ag B O OG s s'' → GoP M A (Emit B M A Is rs O OG s'') gs s''

theorem GAt.lt {B : Gnd} {M : Model} {A : Around} {ρ : Type} {Is : ρ → Heap → Value → Prop} {rs : List ρ} {O OG a g s} (x : GAt B M A Is rs O OG a g s) : g < s.gens.size := by
  obtain ⟨gs, h, _⟩ := x.goes
  rcases Nat.lt_or_ge g s.gens.size with h' | h'
  · exact h'
  · rw [Array.getElem?_eq_none h'] at h; cases h

theorem GAt.ag {B : Gnd} {M : Model} {A : Around} {ρ : Type} {Is : ρ → Heap → Value → Prop} {rs : List ρ} {O OG a g} {s s' : Shared} (x : GAt B M A Is rs O OG a g s)
    (y : Ag B (fun b => O b ∨ b = a) (fun i => OG i ∨ i = g) s s') : GAt B M A Is rs O OG a g s' where
  isGen := let ⟨o, nm, qn, ho, r⟩ := x.isGen; ⟨o, nm, qn, y.heap a o (.inr rfl) ho, r⟩
  nO := fun b hb => Nat.lt_of_lt_of_le (x.nO b hb) y.size
  nP := x.nP
  nG := x.nG
  lG := fun i hi => Nat.lt_of_lt_of_le (x.lG i hi) y.gsz
  goes := let ⟨gs, h, hgo⟩ := x.goes; ⟨gs, (y.gens g (.inr rfl)).trans h, fun s'' h'' => hgo s'' ((y.mono (fun _ h => .inl h) fun _ h => .inl h).trans h'')⟩

end Mine
end

section
open PySem PySem.W PyProof.Rows
set_option Elab.async false
set_option maxRecDepth 100000
namespace Mine
open Sem (wp)

theorem ve_not_stop : isSubtype (.type "ValueError") (.type "StopIteration") = pure false := by rw [isSubtype_type]; kernel_rfl

section
variable {prog : Program} {w : World} {A : Around} {E : Value → Shared → Prop} {s : Shared}

theorem IsGen_field3 {h : Heap} {a : Addr} {g : Nat} (x : h.IsGen a g) : ∃ o, h.get? a = some o ∧ (o.cls == .type "generator" && (match o.data with | .fields vs => vs[3]? == some (.bool true) | _ => false)) = false := by
  obtain ⟨o, nm, qn, ho, hc, hd, hs⟩ := x
  refine ⟨o, ho, ?_⟩
  rw [hd]
  simp

/-- next() of a generator object: any end -/
theorem wpAny_pyNext_P {a : Addr} {g : Nat} {gs : GenState} {Φ : End → Shared → Prop} {Q : Option Value → Shared → Prop} (hh : A.handled = none)
    (hl : s.heap.NoLimit) (hroom : A.depth < recursionLimit) (hg : s.heap.IsGen a g) (hgs : s.gens[g]? = some gs)
    (hgo : GoP (model prog w) A.in1 Φ gs (s.setGen g .running))
    (hΦ : ∀ e s₁, Φ e s₁ →
      (∃ v gd l k c p fs, e = .susp v gd l k c p fs ∧ e.quiet = true ∧ Q (some v) (s₁.setGen g e.genState)) ∨
      ((e = .ret (.ok (.ret .none)) ∨ e = .ret (.ok .next)) ∧ ∀ h', s₁.heap.objs.size ≤ h'.objs.size → (∀ b o, s₁.heap.get? b = some o → h'.get? b = some o) → Q none { s₁.setGen g .finished with heap := h' }) ∨
      (∃ er, e = .ret (.error (.ref er)) ∧ s₁.TypeIs (.ref er) "ValueError" ∧ s₁.heap.IsGen a g ∧ E (.ref er) (s₁.setGen g .finished))) :
    wpAny (model prog w) A (pyNext (.ref a)) Q E s := by
  unfold pyNext
  refine wpAny_bind (wpAny_attempt (wpAny_callSpecial?_slot (name := Str.ofString "__next__") hg.typeIs slot_gen_next
    (wpAny_call_entry slot_gen_next hg.typeIs entry_gen_next ?_ (args_gen_next _))))
  show wpAny _ _ (Builtin.Generator.genWake (.ref a) (.send .none)) _ _ s
  unfold Builtin.Generator.genWake
  refine wpAny_bind (wpAny_holding (wpAny_genNumber hg (wpAny_bind (wpAny_genState hgs ?_))))
  cases gs with
  | running => exact hgo.elim
  | finished => exact hgo.elim
  | _ =>
    refine wpAny_bind (wpAny_roomToWake hl hroom ?_)
    show wpAny _ _ (.resume g (.send .none) [] _) _ _ s
    refine wpAny_resumeP hgs hgo fun e s₁ he => ?_
    rcases hΦ e s₁ he with ⟨v, gd, l, k, c, p, fs, rfl, hq, hQ⟩ | ⟨h1, hQ⟩ | ⟨er, rfl, hT, hg₁, hE⟩
    · exact ⟨hq, wpAny_pure ⟨v, rfl, wpAny_pure hQ⟩⟩
    · refine ⟨by rcases h1 with rfl | rfl <;> rfl, ?_⟩
      have e1 : (match e.result with | .returned v => v == Value.none | _ => false) = true := by rcases h1 with rfl | rfl <;> rfl
      have e2 : e.genState = .finished := by rcases h1 with rfl | rfl <;> rfl
      have e3 : e.result = .returned .none := by rcases h1 with rfl | rfl <;> rfl
      rw [e2, e3]
      show wpAny _ _ (newExc (.type "StopIteration") [] >>= _) _ _ _
      refine wpAny_bind ?_
      simp only [newExc, newTuple]
      refine wpAny_bind (wpAny_newObj_type ?_ (by size_fits))
      refine wpAny_bind (m := firstArgMember _ _) (wpAny_of_eq (a := Value.none) (by first | rfl | (simp only [firstArgMember]; rfl)) ?_)
      refine wpAny_newObj_type ?_ (by size_fits)
      simp only [raiseNew]
      refine wpAny_bind (wpAny_bind (wpAny_handled ?_))
      rw [show A.in1.handled = none from hh]
      refine wpAny_throw ?_
      refine wpAny_bind (wpAny_isInstance (T := "StopIteration") (b := true) ⟨_, Heap.get?_push_size _ rfl, rfl⟩ isSubtype_stop ?_)
      exact wpAny_pure (hQ _ (by simp only [Heap.size_push]; exact Nat.le_add_right s₁.heap.objs.size 2) fun b o hb => Heap.get?_push_of_some _ (Heap.get?_push_of_some _ hb))
    · refine ⟨rfl, ?_⟩
      show wpAny _ _ (Builtin.Generator.genLeft (.ref a) (.ref er)) _ _ (s₁.setGen g .finished)
      unfold Builtin.Generator.genLeft Builtin.Generator.madeByALambda Builtin.Generator.genEscaped
      obtain ⟨o, ho, _⟩ := IsGen_field3 hg₁
      refine wpAny_bind (wpAny_bind (wpAny_load (o := o) ho (wpAny_pure ?_)))
      refine wpAny_bind (wpAny_isInstance (T := "ValueError") (b := false) hT ve_not_stop ?_)
      rw [Bool.and_false, if_neg Bool.false_ne_true]
      refine wpAny_bind (wpAny_isInstance (T := "ValueError") (b := false) hT ve_not_stop ?_)
      rw [Bool.not_false, if_pos rfl]
      refine wpAny_bind (wpAny_throw ?_)
      refine wpAny_bind (wpAny_isInstance (T := "ValueError") (b := false) hT ve_not_stop ?_)
      rw [if_neg Bool.false_ne_true]
      exact wpAny_throw hE
end

section
variable {B : Gnd} {prog : Program} {w : World} {A : Around} {E : Value → Shared → Prop} {s : Shared} {ρ : Type} {Is : ρ → Heap → Value → Prop} {O : Addr → Prop} {OG : Nat → Prop} {a : Addr} {g : Nat}

theorem setGen_self' {s : Shared} {g : Nat} (x : GenState) (h : g < s.gens.size) : (s.setGen g x).gens[g]? = some x := by
  simp [Shared.setGen, h]
theorem setGen_other {s : Shared} {g i : Nat} (x : GenState) (h : g ≠ i) : (s.setGen g x).gens[i]? = s.gens[i]? := by
  simp [Shared.setGen, h]

theorem GAt.item {r : ρ} {rs : List ρ} {Q : Option Value → Shared → Prop} (x : GAt B (model prog w) A.in1 Is (r :: rs) O OG a g s) (hh : A.handled = none)
    (hl : s.heap.NoLimit) (hroom : A.depth < recursionLimit) (ok : Ok B s.heap) (haO : ¬ O a) (haP : a ≠ B.P)
    (hQ : ∀ v s' O' OG', Told Is O' s r s'.heap v → GAt B (model prog w) A.in1 Is rs O' OG' a g s' → Mv B O (fun i => OG i ∨ i = g) s s' → (∀ b, O' b → O b ∨ s.heap.objs.size ≤ b) →
      (∀ i, OG' i → OG i ∨ s.gens.size ≤ i) → Q (some v) s') : wpAny (model prog w) A (pyNext (.ref a)) Q E s := by
  obtain ⟨gs, hgs, hgo⟩ := x.goes
  have hlt := x.lt
  refine wpAny_pyNext_P hh hl hroom x.isGen hgs (hgo _ ⟨fun _ _ _ e => e, fun i hi => ?_, by simp [Shared.setGen], Nat.le_refl _, ok⟩) fun e s₁ he => .inl ?_
  · exact setGen_other _ fun q => x.nG (q ▸ hi)
  obtain ⟨v, gd, l, k, c, p, fs, rfl, hq, hm, O', OG', ht, hO', hO'l, hO'P, hOG', hOG'l, hgo'⟩ := he
  refine ⟨v, gd, l, k, c, p, fs, rfl, hq, ?_⟩
  have hsz : (s.setGen g .running).gens.size = s.gens.size := by simp [Shared.setGen]
  have hg1 : g < s₁.gens.size := Nat.lt_of_lt_of_le (hsz ▸ hlt) hm.gsz
  have hb : (End.susp v gd l k c p fs).genState.bare = true := End.bare_of_quiet hq
  have hm' : Mv B O (fun i => OG i ∨ i = g) s (s₁.setGen g (End.susp v gd l k c p fs).genState) :=
    (((Mv.setGen (.inr rfl) rfl : Mv B O (fun i => OG i ∨ i = g) s (s.setGen g .running)).trans hm (fun _ h => .inl h) fun _ h => .inl (.inl h))).trans
      (Mv.setGen (G := fun i => i = g) (W := O) rfl hb) (fun _ h => .inl h) fun _ h => .inl (.inr h)
  have hnG : ¬ OG' g := fun h => (hOG' g h).elim x.nG fun q => absurd hlt (Nat.not_lt.mpr (hsz ▸ q))
  refine hQ v _ O' OG' ht ⟨?_, hO'l, hO'P, hnG, fun i hi => by have := hOG'l i hi; simpa [Shared.setGen] using this, _, setGen_self' _ hg1, fun s'' hag => ?_⟩ hm' hO' fun i hi => by rw [← hsz]; exact hOG' i hi
  · obtain ⟨o, nm, qn, ho, rr⟩ := x.isGen
    exact ⟨o, nm, qn, hm'.heap a o haO haP ho, rr⟩
  · refine hgo' s'' ⟨fun b o hb e => hag.heap b o hb e, fun i hi => (hag.gens i hi).trans (setGen_other _ fun q => hnG (q ▸ hi)), ?_, hag.size, hag.ok⟩
    have := hag.gsz
    simpa [Shared.setGen] using this

theorem GAt.stop {Q : Option Value → Shared → Prop} (x : GAt B (model prog w) A.in1 Is [] O OG a g s) (hh : A.handled = none)
    (hl : s.heap.NoLimit) (hroom : A.depth < recursionLimit) (ok : Ok B s.heap)
    (hQ : ∀ s', Mv B O (fun i => OG i ∨ i = g) s s' → Q none s') : wpAny (model prog w) A (pyNext (.ref a)) Q E s := by
  obtain ⟨gs, hgs, hgo⟩ := x.goes
  have hlt := x.lt
  refine wpAny_pyNext_P hh hl hroom x.isGen hgs (hgo _ ⟨fun _ _ _ e => e, fun i hi => ?_, by simp [Shared.setGen], Nat.le_refl _, ok⟩) fun e s₁ he => .inr (.inl ?_)
  · exact setGen_other _ fun q => x.nG (q ▸ hi)
  obtain ⟨h1, hm⟩ := he
  refine ⟨h1, fun h' hz hk => hQ _ ?_⟩
  have hm' : Mv B O (fun i => OG i ∨ i = g) s (s₁.setGen g .finished) :=
    (((Mv.setGen (.inr rfl) rfl : Mv B O (fun i => OG i ∨ i = g) s (s.setGen g .running)).trans hm (fun _ h => .inl h) fun _ h => .inl (.inl h))).trans
      (Mv.setGen (G := fun i => i = g) (W := O) rfl rfl) (fun _ h => .inl h) fun _ h => .inl (.inr h)
  exact hm'.thenNo (Mv.keeps (tk := (s₁.setGen g .finished).toks) hk hz (Nat.le_refl _))
end
end Mine
end

section
open PySem PySem.W PyProof.Rows
set_option Elab.async false
set_option maxRecDepth 100000
namespace Mine
open Sem (wp)

/-- within one turn of a generator: begun at s₀ with the places O, now at s with the places C -/
structure Run (B : Gnd) (O : Addr → Prop) (OG : Nat → Prop) (s₀ : Shared) (C : Addr → Prop) (CG : Nat → Prop) (s : Shared) : Prop where
  mv : Mv B O OG s₀ s
  sub : ∀ b, C b → O b ∨ s₀.heap.objs.size ≤ b
  live : ∀ b, C b → b < s.heap.objs.size
  nP : ¬ C B.P
  nc : ¬ C B.c
  nK : ∀ b, C b → B.K.get? b = none
  gsub : ∀ i, CG i → OG i ∨ s₀.gens.size ≤ i
  glive : ∀ i, CG i → i < s.gens.size
  ok : Ok B s.heap

section
variable {B : Gnd} {O : Addr → Prop} {OG : Nat → Prop} {s₀ : Shared} {C : Addr → Prop} {CG : Nat → Prop} {s s' : Shared}

theorem Run.go {C' : Addr → Prop} {CG' : Nat → Prop} (R : Run B O OG s₀ C CG s) (y : Mv B C CG s s') (hC : ∀ b, C' b → C b ∨ (s.heap.objs.size ≤ b ∧ b < s'.heap.objs.size))
    (hG : ∀ i, CG' i → CG i ∨ (s.gens.size ≤ i ∧ i < s'.gens.size)) : Run B O OG s₀ C' CG' s' where
  mv := R.mv.trans y R.sub R.gsub
  sub := fun b hb => (hC b hb).elim (R.sub b) fun q => .inr (Nat.le_trans R.mv.size q.1)
  live := fun b hb => (hC b hb).elim (fun q => Nat.lt_of_lt_of_le (R.live b q) y.size) fun q => q.2
  nP := fun hb => (hC _ hb).elim R.nP fun q => absurd R.ok.liveP (Nat.not_lt.mpr q.1)
  nc := fun hb => (hC _ hb).elim R.nc fun q => absurd R.ok.livec (Nat.not_lt.mpr q.1)
  nK := fun b hb => (hC b hb).elim (R.nK b) fun q => by
    cases e : B.K.get? b with
    | none => rfl
    | some o =>
      by_cases hP : b = B.P
      · exact absurd (hP ▸ R.ok.liveP) (Nat.not_lt.mpr q.1)
      · exact absurd (Heap.lt_size (R.ok.keep b o hP e)) (Nat.not_lt.mpr q.1)
  gsub := fun i hi => (hG i hi).elim (R.gsub i) fun q => .inr (Nat.le_trans R.mv.gsz q.1)
  glive := fun i hi => (hG i hi).elim (fun q => Nat.lt_of_lt_of_le (R.glive i q) y.gsz) fun q => q.2
  ok := y.ok R.ok

theorem Run.step (R : Run B O OG s₀ C CG s) (y : Mv B C CG s s') : Run B O OG s₀ C CG s' := R.go y (fun _ h => .inl h) fun _ h => .inl h
theorem Run.no (R : Run B O OG s₀ C CG s) (y : Mv B No No s s') : Run B O OG s₀ C CG s' := R.step y.no
theorem Run.less {C' : Addr → Prop} {CG' : Nat → Prop} (R : Run B O OG s₀ C CG s) (hC : ∀ b, C' b → C b) (hG : ∀ i, CG' i → CG i) : Run B O OG s₀ C' CG' s :=
  R.go (Mv.refl s) (fun b h => .inl (hC b h)) fun i h => .inl (hG i h)
/-- asleep with C, woken at s'' -/
theorem Run.again {s'' : Shared} (R : Run B O OG s₀ C CG s) (y : Ag B C CG s s'') : Run B C CG s'' C CG s'' where
  mv := Mv.refl _
  sub := fun _ h => .inl h
  live := fun b hb => Nat.lt_of_lt_of_le (R.live b hb) y.size
  nP := R.nP
  nc := R.nc
  nK := R.nK
  gsub := fun _ h => .inl h
  glive := fun i hi => Nat.lt_of_lt_of_le (R.glive i hi) y.gsz
  ok := y.ok
end

section
variable {B : Gnd} {M : Model} {A : Around} {O : Addr → Prop} {OG : Nat → Prop} {s₀ : Shared} {s : Shared} {c : Code} {fs : List Frame} {env : Env} {ρ : Type} {Is : ρ → Heap → Value → Prop}
  {K : Flow → Sem Fin} {H : Value → Sem Fin} {gd : Bool → Bool} {lv : List Value → List Value}

theorem segP_Yield {r : ρ} {rs : List ρ} {e : Expr} {ypos pos : Pos} (hfs : splitAtGen fs = none) (hgd : gd false = false) (hfg : fs.any Frame.guarded = false)
    (h : wpAny M (A.over c fs) (eval e env) (fun v s' => ∃ (C : Addr → Prop) (CG : Nat → Prop), Run B O OG s₀ C CG s' ∧ Told Is C s₀ r s'.heap v ∧
        ∀ s'', Ag B C CG s' s'' → Run B C CG s'' C CG s'' → SegP M A (Emit B M A Is rs C CG s'') c (K .next) fs s'') (fun _ _ => False) s)
    (hco : env.scope.isCoroutine = false := by rfl) (hi : interactive env = false := by rfl) :
    SegP M A (Emit B M A Is (r :: rs) O OG s₀) c ((exec (.Expr (.Yield (some e) ypos) pos) env).wrap K H gd lv) fs s := by
  rw [exec_Expr env _ pos hi rfl]
  show SegP M A _ c (.at pos fun _ => ((eval e env >>= fun v => (standAt ypos >>= fun _ => yieldOut env v)) >>= fun x =>
    dropValue (.Yield (some e) ypos) pos x).wrap K H gd lv) fs s
  have hy : ∀ v, yieldOut env v = yieldValue v := fun v => by simp only [yieldOut, hco, Bool.false_eq_true, if_false]
  simp only [hy]
  refine segP_at ?_
  rw [Sem.bind_eq_wrap', Sem.bind_eq_wrap', Sem.wrap_wrap, Sem.wrap_wrap]
  refine segP_wrap (wpAny_mono h (fun v s' h' => ?_) fun _ _ x => x.elim)
  refine segP_at (segP_yield hfs fun p => ?_)
  obtain ⟨C, CG, R, ht, hk⟩ := h'
  refine ⟨v, _, _, _, _, _, _, rfl, by simp [End.quiet, hgd, hfg], R.mv, C, CG, ht, R.sub, R.live, R.nP, R.gsub, R.glive, fun s'' hag => ?_⟩
  exact hk s'' hag (R.again hag)

theorem segP_For {Φ : End → Shared → Prop} {target iter : Expr} {body orelse : List Stmt} {pos : Pos}
    (h : wpAny M (A.over c fs) (eval iter env) (fun x s₁ => wpAny M (A.over c fs) (pyIter x) (fun it s₂ =>
      ∀ p, SegP M A Φ (.forLoop target it body orelse env) (M.den (.forLoop target it body orelse env))
        (.ret (fun r => ((match r with | .ok f => (.pure f : Sem Flow) | .error e => .raise e).onRaise fun (x : Value) => do
          if (← field x 1) == Value.none then unsupported "frame.own-activation:exception-without-traceback"
          setFlight x env.frame).wrap K H gd lv) none (gd false) (lv []) c p [] :: fs) s₂) (fun _ _ => False) s₁) (fun _ _ => False) s)
    (hs : ∀ x, foldedSetIterable iter env x = pure x := by intro _; rfl) :
    SegP M A Φ c ((exec (.For target iter body orelse pos) env).wrap K H gd lv) fs s := by
  rw [exec_For]
  refine segP_bind_wrap (wpAny_standAt ?_)
  refine segP_bind_wrap (wpAny_mono h (fun x s₁ h₁ => ?_) fun _ _ z => z.elim)
  refine segP_bind_wrap (wpAny_of_eq (hs x) ?_)
  refine segP_bind_wrap (wpAny_standAt ?_)
  refine segP_bind_wrap (wpAny_holding (wpAny_mono h₁ (fun it s₂ h₂ => ?_) fun _ _ z => z.elim))
  exact segP_call h₂
end

section
variable {prog : Program} {w : World} {A : Around} {s : Shared} {fs : List Frame} {env : Env} {Φ : End → Shared → Prop}

theorem segP_forLoop {target : Expr} {it : Value} {body orelse : List Stmt}
    (h : wpAny (model prog w) (A.over (.forLoop target it body orelse env) fs) (pyNext it) (fun r s₁ => match r with
      | none => SegP (model prog w) A Φ (.block orelse env) ((model prog w).den (.block orelse env)) fs s₁
      | some v => wpAny (model prog w) (A.over (.forLoop target it body orelse env) fs) (assign target env v) (fun _ s₂ =>
          SegP (model prog w) A Φ (.forLoop target it body orelse env) ((execs body env).wrap (fun f => match f with
            | .next | .cont => .pure (.again (.forLoop target it body orelse env))
            | .brk => .pure (.done .next)
            | .ret v => .pure (.done (.ret v))) (fun e => (do noteFrame e env; theTreesLotGoes e : Sem Unit).wrap (fun _ => .raise e) .raise id id) id id) fs s₂) (fun _ _ => False) s₁) (fun _ _ => False) s)
    (ht : ∀ v, letOwnedTupleGo target it v = pure () := by intro _; rfl) :
    SegP (model prog w) A Φ (.forLoop target it body orelse env) ((model prog w).den (.forLoop target it body orelse env)) fs s := by
  show SegP _ A Φ _ ((forTurn target it body orelse env).onRaise (fun x => do noteFrame x env; theTreesLotGoes x)) fs s
  rw [Sem.onRaise_eq_wrap]
  unfold forTurn
  refine segP_bind_wrap (wpAny_standAt ?_)
  refine segP_bind_wrap (wpAny_onRaise (wpAny_mono h (fun r s₁ h₁ => ?_) fun _ _ z => z.elim))
  cases r with
  | none => exact segP_again rfl h₁
  | some v =>
    refine segP_bind_wrap (wpAny_of_eq (ht v) ?_)
    refine segP_bind_wrap (wpAny_mono h₁ (fun _ s₂ h₂ => ?_) fun _ _ z => z.elim)
    rw [Sem.bind_eq_wrap', Sem.wrap_wrap]
    rw [Sem.wrap_congr (execs body env) _ _ (K' := fun f => match f with
            | .next | .cont => .pure (.again (.forLoop target it body orelse env))
            | .brk => .pure (.done .next)
            | .ret v => .pure (.done (.ret v))) (H' := (fun e => (do noteFrame e env; theTreesLotGoes e : Sem Unit).wrap (fun _ => .raise e) .raise id id))
        (fun f => by cases f <;> rfl)
        (fun e => by first | exact Sem.bind_eq_wrap _ _ | (show (do noteFrame e env; theTreesLotGoes e : Sem Unit).bind (fun _ => .raise e) = _; rw [Sem.bind_eq_wrap]))]
    exact h₂

/-- the loop's end, its else empty -/
theorem segP_loopEnd {k g l c₁ p₁ kp} {h : Option Value} (hk : SegP (model prog w) A Φ c₁ (k (.ok .next)) fs s) :
    SegP (model prog w) A Φ (.block [] env) ((model prog w).den (.block [] env)) (.ret k h g l c₁ p₁ kp :: fs) s :=
  segP_leaf (.ok .next) hk

theorem segP_func {body : List Stmt}
    (h : SegP (model prog w) A Φ (.func body env) ((execs body env).wrap (fun f => .pure (.done (.ret (match f with | .ret v => v | _ => .none))))
      (fun e => (leaving env e).wrap (fun _ => .raise e) .raise id id) id id) fs s) :
    SegP (model prog w) A Φ (.func body env) ((model prog w).den (.func body env)) fs s := by
  show SegP _ A Φ (.func body env) (.point [] fun _ => ((execs body env).onRaise (leaving env)) >>= _) fs s
  refine segP_point ?_
  rw [Sem.onRaise_eq_wrap, Sem.bind_eq_wrap', Sem.wrap_wrap]
  rw [Sem.wrap_congr (execs body env) _ _ (K' := fun f => .pure (.done (.ret (match f with | .ret v => v | _ => .none))))
    (H' := fun e => (leaving env e).wrap (fun _ => .raise e) .raise id id) (fun f => by cases f <;> rfl)
    (fun e => by rw [Sem.bind_eq_wrap, Sem.wrap_wrap]; rfl)]
  exact h
end
end Mine
end

section
open PySem PySem.W PySem.Calls PyProof.Rows
set_option linter.unusedVariables false
set_option Elab.async false
set_option maxRecDepth 100000
namespace Mine
open Sem (wp)

/-- only new objects and tokens -/
structure Up (s s' : Shared) : Prop where
  eq : ∃ h' tk, s' = { s with heap := h', toks := tk }
  keep : ∀ b o, s.heap.get? b = some o → s'.heap.get? b = some o
  size : s.heap.objs.size ≤ s'.heap.objs.size
  toks : s.toks ≤ s'.toks

theorem Up.refl (s : Shared) : Up s s := ⟨⟨_, _, rfl⟩, fun _ _ e => e, Nat.le_refl _, Nat.le_refl _⟩
theorem Up.trans {s s' s'' : Shared} (x : Up s s') (y : Up s' s'') : Up s s'' := by
  obtain ⟨⟨h, t, rfl⟩, k, z, l⟩ := x
  obtain ⟨⟨h', t', rfl⟩, k', z', l'⟩ := y
  exact ⟨⟨_, _, rfl⟩, fun b o e => k' b o (k b o e), Nat.le_trans z z', Nat.le_trans l l'⟩
theorem Up.tok {s : Shared} {t : Nat} (h : s.toks ≤ t) : Up s { s with toks := t } := ⟨⟨_, _, rfl⟩, fun _ _ e => e, Nat.le_refl _, h⟩
theorem Up.push {s : Shared} (o : Obj) : Up s { s with heap := s.heap.push o } := ⟨⟨_, _, rfl⟩, fun _ _ e => Heap.get?_push_of_some o e, by simp, Nat.le_refl _⟩
theorem Up.heap {s : Shared} {h' : Heap} {t : Nat} (hk : ∀ b o, s.heap.get? b = some o → h'.get? b = some o) (hz : s.heap.objs.size ≤ h'.objs.size) (h : s.toks ≤ t) : Up s { s with heap := h', toks := t } := ⟨⟨_, _, rfl⟩, hk, hz, h⟩
theorem Up.mv {B : Gnd} {W G} {s s' : Shared} (x : Up s s') : Mv B W G s s' := by
  obtain ⟨⟨h, t, rfl⟩, k, z, l⟩ := x
  exact Mv.keeps k z l
theorem Up.gens {s s' : Shared} (x : Up s s') : s'.gens = s.gens := by obtain ⟨⟨h, t, rfl⟩, k, z, l⟩ := x; rfl
theorem Up.ns {s s' : Shared} (x : Up s s') {L : Addr} {m : Str → Option Value} (h : s.heap.Ns L m) : s'.heap.Ns L m := h.keeps x.keep
theorem Up.ok {B : Gnd} {s s' : Shared} (x : Up s s') (h : Ok B s.heap) : Ok B s'.heap := h.keeps x.keep
theorem Up.nl {s s' : Shared} (x : Up s s') (h : s.heap.NoLimit) : s'.heap.NoLimit := h.keeps x.keep

/-! ### names -/
structure Wd (mg mb : Str → Option Value) (B : Gnd) : Prop where
  g : B.K.Ns mainGlobals mg
  b : B.K.Ns builtinsNs mb
  bb : ∀ x : Str, x ≠ "__name__" → mb x = bootBuiltins x
  nl : B.K.NoLimit
  tabP : ∃ ps, B.K.get? B.P = some { cls := .none, data := .fields ps } ∧ ∀ q t, ps[1]? ≠ some (.str q t)
  free : ∀ x ∈ (["range", "len", "sum", "max", "min", "tuple", "list", "zip", "isinstance", "bool", "ValueError"] : List Str), mg x = none
  bm : ∃ a o, mg "__builtins__" = some (.ref a) ∧ a ≠ builtinsNs ∧ B.K.get? a = some o ∧ o.cls = .type "module" ∧ o.dict = some builtinsNs ∧ o.data = .plain
  bb' : ∀ x ∈ (["range", "len", "sum", "max", "min", "tuple", "list", "zip", "isinstance", "bool", "ValueError"] : List Str), x ≠ "__name__"

theorem Wd.get {mg mb} {B : Gnd} (X : Wd mg mb B) {h : Heap} (ok : Ok B h) {a : Addr} {o : Obj} (e : B.K.get? a = some o) (hd : ∀ ps, (∀ q t, ps[1]? ≠ some (.str q t)) → o.data ≠ .fields ps) : h.get? a = some o :=
  ok.keep a o (fun q => by obtain ⟨ps, hp, hq⟩ := X.tabP; rw [q, hp] at e; cases e; exact hd ps hq rfl) e
theorem Wd.ns {mg mb} {B : Gnd} (X : Wd mg mb B) {h : Heap} (ok : Ok B h) {a : Addr} {m : Str → Option Value} (e : B.K.Ns a m) : h.Ns a m := by
  obtain ⟨o, es, ep, ho, hd, r⟩ := e
  exact ⟨o, es, ep, X.get ok ho (by rw [hd]; exact nofun), hd, r⟩
theorem Wd.nolimit {mg mb} {B : Gnd} (X : Wd mg mb B) {h : Heap} (ok : Ok B h) : h.NoLimit := let ⟨mc, a, b⟩ := X.nl; ⟨mc, X.ns ok a, b⟩
theorem Wd.code {mg mb} {B : Gnd} (X : Wd mg mb B) {h : Heap} (ok : Ok B h) {cd : Value} {q : Str} (e : B.K.CodeRec cd q) : h.CodeRec cd q := by
  obtain ⟨c, o, vs, t, rfl, ho, hd, hq⟩ := e
  refine ⟨c, o, vs, t, rfl, X.get ok ho ?_, hd, hq⟩
  rw [hd]; intro ps hps q'
  injection q' with q'
  subst q'
  exact hps _ _ hq

theorem Wd.bfor {mg mb} {B : Gnd} (X : Wd mg mb B) {M : Model} {A : Around} {E : Value → Shared → Prop} {s : Shared} (ok : Ok B s.heap) {r : Addr} {Q : Addr → Shared → Prop} (h : Q builtinsNs s) : wpAny M A (builtinsFor mainGlobals r) Q E s := by
  obtain ⟨bm, o, hb, hne, ho, hc, hdi, hda⟩ := X.bm
  exact wpAny_builtinsFor (X.ns ok X.g) hb hne (X.get ok ho (by rw [hda]; exact nofun)) hc hdi hda h

structure En (env : Env) : Prop where
  kind : env.scope.kind = .function
  glob : env.globals = mainGlobals
  blt : env.builtins = builtinsNs
  co : env.scope.isCoroutine = false
  int : interactive env = false

section
variable {prog : Program} {w : World} {A : Around} {E : Value → Shared → Prop} {s : Shared} {env : Env} {mg mb : Str → Option Value} {B : Gnd}

theorem ldl {x : Str} {p : Pos} {m : Str → Option Value} {v : Value} {Q : Value → Shared → Prop} (hk : En env) (hl : env.kindOf x = some .local) (hn : s.heap.Ns env.locals m) (hv : m x = some v) (h : Q v s)
    (hd : (x == ("__debug__" : Str)) = false := by decide) : wpAny (model prog w) A (eval (.Name x p) env) Q E s := wpAny_Name (wpAny_loadName_local hk.kind hl hn hv h) hd

theorem ldb {x : Str} {p : Pos} {v : Value} {Q : Value → Shared → Prop} (X : Wd mg mb B) (ok : Ok B s.heap) (hk : En env) (hx : env.kindOf x = some .globalImplicit) (hf : mg x = none) (hv : bootBuiltins x = some v) (h : Q v s)
    (hn : x ≠ "__name__" := by decide) (hd : (x == ("__debug__" : Str)) = false := by decide) : wpAny (model prog w) A (eval (.Name x p) env) Q E s :=
  Name_function_global hk.kind hx (loadGlobal_builtin (hk.glob ▸ X.ns ok X.g) hf (hk.blt ▸ X.ns ok X.b) ((X.bb x hn).trans hv) h) hd

theorem ldg {x : Str} {p : Pos} {v : Value} {Q : Value → Shared → Prop} (X : Wd mg mb B) (ok : Ok B s.heap) (hk : En env) (hx : env.kindOf x = some .globalImplicit) (hf : mg x = some v) (h : Q v s)
    (hd : (x == ("__debug__" : Str)) = false := by decide) : wpAny (model prog w) A (eval (.Name x p) env) Q E s :=
  Name_function_global hk.kind hx (loadGlobal_global (hk.glob ▸ X.ns ok X.g) hf h) hd

/-! ### int expressions -/
inductive IEv (env : Env) (m : Str → Option Value) : Expr → Int → Prop
  | name {x p n t} (hl : env.kindOf x = some .local) (hd : (x == ("__debug__" : Str)) = false) (hv : m x = some (.int n t)) : IEv env m (.Name x p) n
  | const {n k p} : IEv env m (.Constant (.int n) k p) n
  | add {l r p a b} : IEv env m l a → IEv env m r b → IEv env m (.BinOp l .Add r p) (a + b)
  | sub {l r p a b} : IEv env m l a → IEv env m r b → IEv env m (.BinOp l .Sub r p) (a - b)
  | neg {l p a} : IEv env m l a → IEv env m (.UnaryOp .USub l p) (-a)

theorem IEv.run {m : Str → Option Value} {e : Expr} {n : Int} (hk : En env) (h : IEv env m e n) : ∀ {s : Shared} {Q : Value → Shared → Prop}, s.heap.Ns env.locals m →
    (∀ t s', Up s s' → Q (.int n t) s') → wpAny (model prog w) A (eval e env) Q E s := by
  induction h with
  | name hl hd hv => intro s Q hn hQ; exact ldl hk hl hn hv (hQ _ s (Up.refl s)) hd
  | const => intro s Q hn hQ; exact wpAny_Constant_int (hQ _ _ (Up.tok (Nat.le_succ _)))
  | add _ _ ih1 ih2 =>
    intro s Q hn hQ
    refine wpAny_BinOp (ih1 hn fun t s₁ u₁ => ih2 (u₁.ns hn) fun t' s₂ u₂ => PyProof.Rows.add_int ?_)
    exact hQ _ _ ((u₁.trans u₂).trans (Up.tok (Nat.le_succ _)))
  | sub _ _ ih1 ih2 =>
    intro s Q hn hQ
    refine wpAny_BinOp (ih1 hn fun t s₁ u₁ => ih2 (u₁.ns hn) fun t' s₂ u₂ => PyProof.Rows.sub_int ?_)
    exact hQ _ _ ((u₁.trans u₂).trans (Up.tok (Nat.le_succ _)))
  | neg _ ih =>
    intro s Q hn hQ
    refine UnaryOp_ (ih hn fun t s₁ u₁ => PyProof.Rows.neg_int ?_)
    exact hQ _ _ (u₁.trans (Up.tok (Nat.le_succ _)))

theorem IEv.runV {m : Str → Option Value} {e : Expr} {n n' : Int} (hk : En env) (h : IEv env m e n') (q : n' = n) {s : Shared} {Q : Value → Shared → Prop} (hn : s.heap.Ns env.locals m)
    (hQ : ∀ t s', Up s s' → Q (.int n t) s') : wpAny (model prog w) A (eval e env) Q E s := IEv.run hk (q ▸ h) hn hQ

theorem evC {n : Int} {k : Nat} {p : Pos} {Q : Value → Shared → Prop} (h : ∀ t s', Up s s' → Q (.int n t) s') : wpAny (model prog w) A (eval (.Constant (.int n) k p) env) Q E s :=
  wpAny_Constant_int (h _ _ (Up.tok (Nat.le_succ _)))

/-- a test of two ints -/
theorem cmpI {m : Str → Option Value} {l r : Expr} {p : Pos} {a b : Int} {op : CmpOp} {c : Bool} {Q : Bool → Shared → Prop} (hk : En env) (hl : IEv env m l a) (hr : IEv env m r b) (hn : s.heap.Ns env.locals m)
    (hc : ∀ t u (s : Shared) (Q : Value → Shared → Prop), Q (.bool c) s → wpAny (model prog w) A (compareOp op (.int a t) (.int b u)) Q E s)
    (h : ∀ s', Up s s' → Q c s') (hm : behindInMarks op r = false := by with_unfolding_all rfl) :
    wpAny (model prog w) A (isTrue (.Compare l [op] [r] p) env (eval (.Compare l [op] [r] p) env)) Q E s :=
  wpAny_isTrue_Compare1 (hl.run hk hn fun t s₁ u₁ => hr.run hk (u₁.ns hn) fun t' s₂ u₂ => hc _ _ _ _ (wpAny_truthy_bool (h _ (u₁.trans u₂)))) hm
end

/-! ### tuples of ints -/
def TupI (h : Heap) (a : Addr) (ns : List Int) : Prop := ∃ vs : List Value, IsTup h a vs.toArray ∧ IntsAre vs ns
theorem TupI.keeps {h h' : Heap} {a ns} (x : TupI h a ns) (hk : ∀ b o, h.get? b = some o → h'.get? b = some o) : TupI h' a ns := let ⟨vs, p, q⟩ := x; ⟨vs, p.keeps hk, q⟩
theorem TupI.at {h h' : Heap} {a ns} (x : TupI h a ns) (hk : ∀ o, h.get? a = some o → h'.get? a = some o) : TupI h' a ns := let ⟨vs, ⟨o, ho, r⟩, q⟩ := x; ⟨vs, ⟨o, hk o ho, r⟩, q⟩
theorem TupI.live {h : Heap} {a ns} (x : TupI h a ns) : a < h.objs.size := let ⟨_, ⟨o, ho, _⟩, _⟩ := x; Heap.lt_size ho

section
variable {prog : Program} {w : World} {A : Around} {E : Value → Shared → Prop} {s : Shared} {env : Env}

theorem newTupI {vs : List Value} {ns : List Int} {Q : Value → Shared → Prop} (hi : IntsAre vs ns) (hsz : vs.length ≤ sizeLine)
    (h : ∀ a s', Up s s' → s.heap.objs.size ≤ a → TupI s'.heap a ns → Q (.ref a) s') : wpAny (model prog w) A (newTuple vs) Q E s :=
  wpAny_newObj_type (h _ _ (Up.push _) (Nat.le_refl _) ⟨vs, IsTup.new _ _, hi⟩) (by show vs.toArray.size ≤ sizeLine; rw [List.size_toArray]; exact hsz)

theorem addTupI {t b : Addr} {xs ys : List Int} {Q : Value → Shared → Prop} (ht : TupI s.heap t xs) (hb : TupI s.heap b ys) (hsz : xs.length + ys.length ≤ sizeLine)
    (h : ∀ r s', Up s s' → TupI s'.heap r (xs ++ ys) → (r = t ∨ (xs = [] ∧ r = b) ∨ s.heap.objs.size ≤ r) → Q (.ref r) s') :
    wpAny (model prog w) A (binaryOp .Add (.ref t) (.ref b)) Q E s := by
  obtain ⟨vs, ht, hi⟩ := ht
  obtain ⟨ws, hb, hj⟩ := hb
  have hv : vs.length = xs.length := hi.length
  have hw : ws.length = ys.length := hj.length
  obtain ⟨⟨cls, dd, data, sl⟩, ho, hc, n, hd⟩ := id ht
  obtain ⟨⟨cls2, dd2, data2, sl2⟩, ho2, hc2, n2, hd2⟩ := id hb
  simp only at hc hd hc2 hd2
  subst hc hd hc2 hd2
  have e : vs.toArray ++ ws.toArray = (vs ++ ws).toArray := by simp
  by_cases hv0 : vs = []
  · subst hv0
    have hx : xs = [] := by cases hi; rfl
    subst hx
    exact concat_meets ⟨_, ho, rfl⟩ ⟨_, ho2, rfl⟩ noFill_tuple_add seq_tuple_add PySem.F.slot_tuple_add PySem.F.entry_tuple_add (PySem.F.args_tuple_add_2 _ _)
      (tuple_addW0 t b #[] ws.toArray n n2 dd dd2 sl sl2 (by simp)) ⟨ho, ho2, h _ _ (Up.refl _) ⟨ws, hb, hj⟩ (.inr (.inl ⟨rfl, rfl⟩))⟩
  · by_cases hw0 : ws = []
    · subst hw0
      have hy : ys = [] := by cases hj; rfl
      subst hy
      exact concat_meets ⟨_, ho, rfl⟩ ⟨_, ho2, rfl⟩ noFill_tuple_add seq_tuple_add PySem.F.slot_tuple_add PySem.F.entry_tuple_add (PySem.F.args_tuple_add_2 _ _)
        (tuple_addW1 t b vs.toArray #[] n n2 dd dd2 sl sl2 (by simpa using hv0) (by simp)) ⟨ho, ho2, h _ _ (Up.refl _) (by rw [List.append_nil]; exact ⟨vs, ht, hi⟩) (.inl rfl)⟩
    · refine concat_meets ⟨_, ho, rfl⟩ ⟨_, ho2, rfl⟩ noFill_tuple_add seq_tuple_add PySem.F.slot_tuple_add PySem.F.entry_tuple_add (PySem.F.args_tuple_add_2 _ _)
        (tuple_addW2 t b vs.toArray ws.toArray n n2 dd dd2 sl sl2 (by simpa using hv0) (by simpa using hw0) (by rw [List.size_toArray, List.size_toArray, hv, hw]; exact hsz)) ⟨ho, ho2, ?_⟩
      rw [e]
      exact h _ _ (Up.push _) ⟨vs ++ ws, IsTup.new _ _, hi.append hj⟩ (.inr (.inr (Nat.le_refl _)))

end
end Mine
end

section
open PySem PySem.W PySem.Calls PyProof.Rows
set_option linter.unusedVariables false
set_option Elab.async false
set_option maxRecDepth 100000
namespace Mine
open Sem (wp)

section
variable {M : Model} {α : Type} {t : Sem α} {Q : α → Shared → Prop} {E : Value → Shared → Prop} {s : Shared} {d u : Nat}
theorem cn_mono {d' u' : Nat} (hd : d ≤ d') (hu : u ≤ u') (h : wpAny M (cn d' u') t Q E s) : wpAny M (cn d u) t Q E s := wpAny_cn rfl hd hu h

theorem cn_over1 {body : List Stmt} {env : Env} (h : wpAny M (cn (d + 1) (u + 3)) t Q E s) : wpAny M ((cn d u).over (.func body env) []) t Q E s :=
  wpAny_cn rfl (Nat.le_refl _) (Nat.le_refl _) h
theorem cn_over2 {body b o : List Stmt} {env env' : Env} {tg : Expr} {it : Value} {k g l p kp} (h : wpAny M (cn (d + 1) (u + 3)) t Q E s) :
    wpAny M ((cn d u).over (.forLoop tg it b o env') [.ret k none g l (.func body env) p kp]) t Q E s :=
  wpAny_cn rfl (Nat.le_of_eq rfl) (Nat.le_of_eq rfl) h
theorem cn_over3 {body b o b' o' : List Stmt} {env env' env'' : Env} {tg tg' : Expr} {it it' : Value} {k g l p kp k' g' l' p' kp'} (h : wpAny M (cn (d + 1) (u + 3)) t Q E s) :
    wpAny M ((cn d u).over (.forLoop tg it b o env') [.ret k' none g' l' (.forLoop tg' it' b' o' env'') p' kp', .ret k none g l (.func body env) p kp]) t Q E s :=
  wpAny_cn rfl (Nat.le_of_eq rfl) (Nat.le_of_eq rfl) h
end

section
variable {prog : Program} {w : World} {A : Around} {E : Value → Shared → Prop} {s : Shared} {B : Gnd}

/-- a new generator -/
structure Newg (s s' : Shared) (L ga : Addr) (c : Code) (m : Str → Option Value) : Prop where
  keep : ∀ b o, s.heap.get? b = some o → s'.heap.get? b = some o
  gens : s'.gens = s.gens.push (.fresh c)
  os : s'.os = s.os
  toks : s.toks ≤ s'.toks
  size : s.heap.objs.size ≤ s'.heap.objs.size
  nL : s.heap.objs.size ≤ L
  na : s.heap.objs.size ≤ ga
  ne : L ≠ ga
  ns : s'.heap.Ns L m
  isGen : s'.heap.IsGen ga s.gens.size

theorem Newg.mv {s s' : Shared} {L ga : Addr} {c : Code} {m : Str → Option Value} {W G} (x : Newg s s' L ga c m) : Mv B W G s s' where
  heap := fun b o _ _ e => x.keep b o e
  size := x.size
  gens := fun i _ hi => by rw [x.gens, Array.getElem?_push_lt hi, Array.getElem?_eq_getElem hi]
  gsz := by rw [x.gens]; simp
  ok := fun o => o.keeps x.keep
  os := x.os
  bare := fun h => by rw [x.gens]; exact h.push rfl
  toks := x.toks

theorem gen_make {R : Result → Shared → Prop} {name : Str} {params : Arguments} {body : List Stmt} {scope : Scope} {pm cd doc : Value} {a : Addr} {o : Obj} {args : List Value} {binds : List (Str × Value)}
    (hroom : A.depth < recursionLimit) (ho : s.heap.get? a = some o) (hdata : o.data = .func (docDef name params body scope pm cd doc)) (hlim : s.heap.NoLimit) (hcd : s.heap.CodeRec cd name)
    (hbind : bindArgs (docDef name params body scope pm cd doc) ⟨args, []⟩ = pure binds)
    (hloc : ∀ x ∈ binds, scope.names.lookup x.1 = some .local)
    (h : ∀ L ga s', Newg s s' L ga (.func body (envOf name scope L a cd)) (fun x => binds.reverse.lookup x) → R (.ok (.ret (.ref ga))) s')
    (hco : scope.isCoroutine = false := by rfl) (hgen : scope.isGenerator = true := by rfl) (hk : scope.kind = .function := by rfl)
    (hcell : ∀ x ∈ scope.names, x.2 ≠ .cell := by decide) :
    codeAny (model prog w) A (.call (.ref a) ⟨args, []⟩) R s := by
  refine codeAny_call_generator hroom ho hdata hco hgen rfl hcd ?_
  rw [hbind]
  refine wpAny_pure (wpAny_newFunctionEnv hcell hloc (fun h₁ hns hsb => ⟨hlim.fresh _ hsb, ?_⟩) hk)
  have keep : ∀ b o, s.heap.get? b = some o → h₁.get? b = some o := fun b o e => hsb.extBut b o (Nat.ne_of_lt (Heap.lt_size e)) (Heap.get?_push_of_some _ e)
  have hsz : h₁.objs.size = s.heap.objs.size + 1 := by rw [hsb.1, Heap.size_push]
  refine h s.heap.objs.size h₁.objs.size _ ⟨fun b o e => Heap.get?_push_of_some _ (keep b o e), rfl, rfl, Nat.le_trans (Nat.le_add_right s.toks binds.length) (Nat.le_add_right _ 2), ?_, Nat.le_refl _, ?_, (fun q => by have q' : s.heap.objs.size = h₁.objs.size := q; omega), hns.push _, ?_⟩
  · show s.heap.objs.size ≤ (h₁.push _).objs.size; rw [Heap.size_push]; omega
  · show s.heap.objs.size ≤ h₁.objs.size; omega
  · exact ⟨_, _, _, Heap.get?_push_size _ rfl, rfl, rfl, rfl⟩

variable {ρ : Type} {Is : ρ → Heap → Value → Prop}

/-- the new generator, its contract known -/
theorem Newg.gat {s' : Shared} {L ga : Addr} {c : Code} {m : Str → Option Value} {d u : Nat} {rs : List ρ} {Oa : Addr → Prop} (x : Newg s s' L ga c m) (ok : Ok B s.heap)
    (ha : ∀ b, Oa b → b < s.heap.objs.size) (haP : ¬ Oa B.P) (hac : ¬ Oa B.c) (haK : ∀ b, Oa b → B.K.get? b = none)
    (body : ∀ s'', (∀ b o, Oa b → s'.heap.get? b = some o → s''.heap.get? b = some o) → Run B (fun b => b = L ∨ Oa b) No s'' (fun b => b = L ∨ Oa b) No s'' → s''.heap.Ns L m →
      SegP (model prog w) (cn d u) (Emit B (model prog w) (cn d u) Is rs (fun b => b = L ∨ Oa b) No s'') c ((model prog w).den c) [] s'') :
    GAt B (model prog w) (cn d u) Is rs (fun b => b = L ∨ Oa b) No ga s.gens.size s' where
  isGen := x.isGen
  nO := fun b hb => by
    rcases hb with rfl | hb
    · obtain ⟨o, _, _, e, _⟩ := x.ns; exact Heap.lt_size e
    · exact Nat.lt_of_lt_of_le (ha b hb) x.size
  nP := fun hb => hb.elim (fun q => absurd ok.liveP (Nat.not_lt.mpr (q ▸ x.nL))) haP
  nG := id
  lG := fun _ h => h.elim
  goes := ⟨_, by rw [x.gens]; exact Array.getElem?_push_size .., fun s'' hag => by
    refine body s'' (fun b o hb e => hag.heap b o (.inr hb) e) ?_ ?_
    · refine ⟨Mv.refl _, fun _ h => .inl h, fun b hb => ?_, fun hb => hb.elim (fun q => absurd ok.liveP (Nat.not_lt.mpr (q ▸ x.nL))) haP, fun hb => hb.elim (fun q => absurd ok.livec (Nat.not_lt.mpr (q ▸ x.nL))) hac, fun b hb => ?_, fun _ h => h.elim, fun _ h => h.elim, hag.ok⟩
      · refine Nat.lt_of_lt_of_le ?_ hag.size
        rcases hb with rfl | hb
        · obtain ⟨o, _, _, e, _⟩ := x.ns; exact Heap.lt_size e
        · exact Nat.lt_of_lt_of_le (ha b hb) x.size
      · rcases hb with rfl | hb
        · cases e : B.K.get? b with
          | none => rfl
          | some o =>
            by_cases hP : b = B.P
            · exact absurd (hP ▸ ok.liveP) (Nat.not_lt.mpr x.nL)
            · exact absurd (Heap.lt_size (ok.keep b o hP e)) (Nat.not_lt.mpr x.nL)
        · exact haK b hb
    · obtain ⟨o, es, ep, e, r⟩ := x.ns
      exact ⟨o, es, ep, hag.heap L o (.inl rfl) e, r⟩⟩
end
end Mine
end

section
open PySem PySem.W PySem.Calls PyProof.Rows
set_option linter.unusedVariables false
set_option Elab.async false
set_option maxRecDepth 100000
namespace Mine
open Sem (wp)

theorem Mv.ns {B : Gnd} {W : Addr → Prop} {G : Nat → Prop} {s s' : Shared} {L : Addr} {m : Str → Option Value} (x : Mv B W G s s') (h : s.heap.Ns L m) (hW : ¬ W L) (hP : L ≠ B.P) : s'.heap.Ns L m :=
  let ⟨o, es, ep, e, r⟩ := h; ⟨o, es, ep, x.heap L o hW hP e, r⟩
theorem Ag.ns {B : Gnd} {O : Addr → Prop} {OG : Nat → Prop} {s s' : Shared} {L : Addr} {m : Str → Option Value} (x : Ag B O OG s s') (h : s.heap.Ns L m) (hO : O L) : s'.heap.Ns L m :=
  let ⟨o, es, ep, e, r⟩ := h; ⟨o, es, ep, x.heap L o hO e, r⟩
theorem Ns_live {h : Heap} {L : Addr} {m : Str → Option Value} (x : h.Ns L m) : L < h.objs.size := let ⟨_, _, _, e, _⟩ := x; Heap.lt_size e

section
variable {prog : Program} {w : World} {mg mb : Str → Option Value} {B : Gnd} {ρ σ : Type} {Is : ρ → Heap → Value → Prop} {Is' : σ → Heap → Value → Prop}

theorem genLoop (X : Wd mg mb B) {d u : Nat} {env : Env} (hE : En env) {L ga : Addr} {g : Nat} (hL : env.locals = L) {y : Str} {py yp ep : Pos} {e : Expr} (hy : env.kindOf y = some .local) (f : ρ → σ) (rest : List σ)
    {k : Result → Sem Fin} {g1 : Bool} {l1 : List Value} {c₁ : Code} {p₁ : Pos} {kp : List Value} {fs : List Frame} {hd1 : Option Value}
    (hover : ∀ {α : Type} {t : Sem α} {Q : α → Shared → Prop} {E : Value → Shared → Prop} {s : Shared}, wpAny (model prog w) (cn (d + 1) (u + 3)) t Q E s →
      wpAny (model prog w) ((cn d u).over (.forLoop (.Name y py) (.ref ga) [.Expr (.Yield (some e) yp) ep] [] env) (.ret k hd1 g1 l1 c₁ p₁ kp :: fs)) t Q E s)
    (hfs : splitAtGen (.ret k hd1 g1 l1 c₁ p₁ kp :: fs) = none) (hfg : (Frame.ret k hd1 g1 l1 c₁ p₁ kp :: fs).any Frame.guarded = false)
    (hroom : d + 1 < recursionLimit)
    (Z : Addr → Prop) (MM : (Str → Option Value) → Prop) (J : Heap → Prop)
    (hM : ∀ m v, MM m → MM (fun x => if x = y then some v else m x))
    (hJ : ∀ h h' : Heap, J h → (∀ b o, Z b → h.get? b = some o → h'.get? b = some o) → J h')
    (hgaL : ga ≠ L)
    (hev : ∀ r v s O OG s₀ C CG m, Run B O OG s₀ C CG s → C L → (∀ b, Z b → C b) → s.heap.Ns L m → MM m → m y = some v → J s.heap → Told Is C s₀ r s.heap v →
      wpAny (model prog w) (cn (d + 1) (u + 3)) (eval e env) (fun v' s' => Mv B No No s s' ∧ Told Is' C s₀ (f r) s'.heap v') (fun _ _ => False) s)
    (cont : ∀ s O OG s₀ C CG m, Run B O OG s₀ C CG s → C L → (∀ b, Z b → C b) → s.heap.Ns L m → MM m → J s.heap →
      SegP (model prog w) (cn d u) (Emit B (model prog w) (cn d u) Is' rest O OG s₀) c₁ (k (.ok .next)) fs s) :
    ∀ (rs : List ρ) s O OG s₀ C CG Oi OGi m, Run B O OG s₀ C CG s → GAt B (model prog w) (cn (d + 1) (u + 4)) Is rs Oi OGi ga g s → C L → C ga → (∀ b, Oi b → C b) → ¬ Oi L → ¬ Oi ga →
      (∀ i, OGi i → CG i) → CG g → (∀ b, Z b → C b ∧ b ≠ L ∧ ¬ Oi b) → s.heap.Ns L m → MM m → J s.heap →
      SegP (model prog w) (cn d u) (Emit B (model prog w) (cn d u) Is' (rs.map f ++ rest) O OG s₀) (.forLoop (.Name y py) (.ref ga) [.Expr (.Yield (some e) yp) ep] [] env)
        ((model prog w).den (.forLoop (.Name y py) (.ref ga) [.Expr (.Yield (some e) yp) ep] [] env)) (.ret k hd1 g1 l1 c₁ p₁ kp :: fs) s := by
  have hp : (env.scope.kind == .class || (env.scope.kind == .module && env.locals != env.globals)) = false := by rw [hE.kind]; rfl
  intro rs
  induction rs with
  | nil =>
    intro s O OG s₀ C CG Oi OGi m R G hCL hCga hOi hOiL hOiga hOGi hCg hZ hns hm hj
    have hPL : L ≠ B.P := fun q => R.nP (q ▸ hCL)
    refine segP_forLoop (hover (GAt.stop (A := cn (d + 1) (u + 3)) G rfl (X.nolimit R.ok) hroom R.ok fun s' mv => ?_))
    refine segP_loopEnd ?_
    have R' := R.step (mv.mono (fun b hb => .inl (hOi b hb)) fun i hi => .inl (hi.elim (hOGi i) fun q => q ▸ hCg))
    exact cont s' O OG s₀ C CG m R' hCL (fun b hb => (hZ b hb).1) (mv.ns hns hOiL hPL) hm
      (hJ _ _ hj fun b o hb e => mv.heap b o (hZ b hb).2.2 (fun q => R.nP (q ▸ (hZ b hb).1)) e)
  | cons r rs ih =>
    intro s O OG s₀ C CG Oi OGi m R G hCL hCga hOi hOiL hOiga hOGi hCg hZ hns hm hj
    have hPL : L ≠ B.P := fun q => R.nP (q ▸ hCL)
    refine segP_forLoop (hover (GAt.item (A := cn (d + 1) (u + 3)) G rfl (X.nolimit R.ok) hroom R.ok hOiga (fun q => R.nP (q ▸ hCga)) fun v s' O' OG' ht G' mv hO' hOG' => ?_))
    have hns' : s'.heap.Ns env.locals m := hL ▸ mv.ns hns hOiL hPL
    refine hover (wpAny_assign_Name (wpAny_storeName_local hy hns' (fun h₂ hn₂ hs₂ => ?_) hp))
    rw [hL] at hn₂ hs₂
    have hO'L : ¬ O' L := fun h => (hO' L h).elim hOiL fun q => absurd (Ns_live hns) (Nat.not_lt.mpr q)
    have hO'ga : ¬ O' ga := fun h => (hO' ga h).elim hOiga fun q => absurd (R.live ga hCga) (Nat.not_lt.mpr q)
    have mv₁ : Mv B C CG s s' := mv.mono (fun b hb => .inl (hOi b hb)) fun i hi => .inl (hi.elim (hOGi i) fun q => q ▸ hCg)
    have R₁ : Run B O OG s₀ (fun b => C b ∨ O' b) (fun i => CG i ∨ OG' i) s' := R.go mv₁
      (fun b hb => hb.elim .inl fun q => (hO' b q).elim (fun z => .inl (hOi b z)) fun z => .inr ⟨z, G'.nO b q⟩)
      (fun i hi => hi.elim .inl fun q => (hOG' i q).elim (fun z => .inl (hOGi i z)) fun z => .inr ⟨z, G'.lG i q⟩)
    have mv₂ : Mv B (fun b => b = L) No s' { s' with heap := h₂, toks := s'.toks + 1 } :=
      Mv.but hs₂.extBut rfl (Nat.le_of_eq hs₂.1.symm) (R₁.nK L (.inl hCL)) hPL (fun q => R₁.nc (q ▸ .inl hCL)) (Nat.le_succ _)
    have R₂ := R₁.step (mv₂.mono (fun b q => .inl (.inl (by rw [q]; exact hCL))) fun _ h => h.elim)
    have G₂ : GAt B (model prog w) (cn (d + 1) (u + 4)) Is rs O' OG' ga g { s' with heap := h₂, toks := s'.toks + 1 } :=
      G'.ag (mv₂.ag R₁.ok (fun b hb q => by
        rcases hb with hb | hb
        · exact hO'L (q ▸ hb)
        · exact hgaL (hb.symm.trans q)) (fun hb => hb.elim G'.nP fun q => R.nP (q ▸ hCga)) (fun _ _ h => h) fun i hi => hi.elim (G'.lG i) fun q => q ▸ G'.lt)
    have hk₂ : ∀ b o, b ≠ L → s'.heap.get? b = some o → h₂.get? b = some o := fun b o hb e => hs₂.extBut b o hb e
    have hj₂ : J h₂ := hJ _ _ hj fun b o hb e => hk₂ b o (hZ b hb).2.1 (mv.heap b o (hZ b hb).2.2 (fun q => R.nP (q ▸ (hZ b hb).1)) e)
    have ht₂ : Told Is (fun b => C b ∨ O' b) s₀ r h₂ v := by
      intro h'' hk
      exact ht h'' fun b o hb hn e => hk b o (fun h => h.elim (fun q => absurd (R.live b q) (Nat.not_lt.mpr hn)) hb) (Nat.le_trans R.mv.size hn)
        (hk₂ b o (fun q => absurd (q ▸ Ns_live hns) (Nat.not_lt.mpr hn)) e)
    refine segP_execs_cons ?_
    refine segP_Yield hfs rfl hfg (hover (wpAny_mono (hev r v { s' with heap := h₂, toks := s'.toks + 1 } O OG s₀ _ _ _ R₂ (.inl hCL) (fun b hb => .inl (hZ b hb).1) hn₂ (hM m v hm) (by simp) hj₂ ht₂) (fun v' s₃ h₃ => ?_) fun _ _ z => z)) hE.co hE.int
    obtain ⟨mv₃, ht₃⟩ := h₃
    have R₃ := R₂.no mv₃
    refine ⟨_, _, R₃, ht₃, fun s₄ hag R₄ => ?_⟩
    refine segP_again rfl ?_
    have G₃ : GAt B (model prog w) (cn (d + 1) (u + 4)) Is rs O' OG' ga g s₃ :=
      G₂.ag (mv₃.ag R₂.ok (fun _ _ h => h) (fun hb => hb.elim G'.nP fun q => R.nP (q ▸ hCga)) (fun _ _ h => h) fun i hi => hi.elim (G₂.lG i) fun q => q ▸ G₂.lt)
    have G₄ : GAt B (model prog w) (cn (d + 1) (u + 4)) Is rs O' OG' ga g s₄ :=
      G₃.ag (hag.mono (fun b hb => hb.elim .inr fun q => .inl (by rw [q]; exact hCga)) fun i hi => hi.elim .inr fun q => .inl (by rw [q]; exact hCg))
    refine ih s₄ _ _ s₄ _ _ O' OG' _ R₄ G₄ (.inl hCL) (.inl hCga) (fun _ h => .inr h) hO'L hO'ga (fun _ h => .inr h) (.inl hCg) (fun b hb => ⟨.inl (hZ b hb).1, (hZ b hb).2.1, fun h => (hO' b h).elim (hZ b hb).2.2 fun q => absurd (R.live b (hZ b hb).1) (Nat.not_lt.mpr q)⟩)
      (hag.ns (mv₃.ns hn₂ id hPL) (.inl hCL)) (hM m v hm) ?_
    exact hJ _ _ hj₂ fun b o hb e => hag.heap b o (.inl (hZ b hb).1) (mv₃.heap b o id (fun q => R.nP (q ▸ (hZ b hb).1)) e)
end
end Mine
end

section
open PySem PySem.W PySem.Calls PyProof.Rows
set_option linter.unusedVariables false
set_option Elab.async false
set_option maxRecDepth 100000
namespace Mine
open Sem (wp)

/-! ### the heap never shrinks -/
theorem runs_size {M : Model} {Γ : Ctx} {p : Pos} {t : Sem Fin} {fs : List Frame} {s s' : Shared} {e : End} (h : Runs M Γ p t fs s e s') : s.heap.objs.size ≤ s'.heap.objs.size := by
  induction h <;> (try simp only [Shared.setGen, Heap.size_push, Heap.size_after_update] at *) <;> omega
theorem wakes_size {M : Model} {Γ : Ctx} {p : Pos} {g : Nat} {r : Resume} {s s' : Shared} {res : GenResult} (h : Wakes M Γ p g r s res s') : s.heap.objs.size ≤ s'.heap.objs.size := by
  unfold Wakes at h
  split at h
  · exact h.elim
  · split at h
    · obtain ⟨e₁, s₁, hr, _, _, rfl⟩ := h; exact (runs_size hr : (s.setGen _ .running).heap.objs.size ≤ s₁.heap.objs.size)
    · rw [h.2]; exact Nat.le_refl _
    · rw [h.2]; exact Nat.le_refl _
  · obtain ⟨e₁, s₁, hr, _, _, rfl⟩ := h; exact (runs_size hr : (s.setGen _ .running).heap.objs.size ≤ s₁.heap.objs.size)
  · rw [h.2]; exact Nat.le_refl _
  · rw [h.2]; exact Nat.le_refl _
theorem wp_size {α : Type} (M : Model) (Γ : Ctx) (n : Nat) (t : Sem α) : ∀ (Q : α → Pos → Shared → Prop) (E : Value → Pos → Shared → Prop) (p : Pos) (s : Shared), n ≤ s.heap.objs.size → wp M Γ t Q E p s →
    wp M Γ t (fun a p' s' => n ≤ s'.heap.objs.size ∧ Q a p' s') (fun e p' s' => n ≤ s'.heap.objs.size ∧ E e p' s') p s := by
  induction t with
  | pure a => intro Q E p s hn h; exact ⟨hn, h⟩
  | raise e => intro Q E p s hn h; exact ⟨hn, h⟩
  | unsupported _ => intro Q E p s _ h; exact h
  | finish _ => intro Q E p s _ h; exact h
  | rule _ k ih => intro Q E p s hn h; exact ih () Q E p s hn h
  | «at» p' k ih => intro Q E p s hn h; exact ih () Q E p' s hn h
  | load a _ k ih => intro Q E p s hn h; obtain ⟨o, ho, h⟩ := h; exact ⟨o, ho, ih o Q E p s hn h⟩
  | update a _ f k ih => intro Q E p s hn h; exact ⟨h.1, ih () Q E p _ (by simpa using hn) h.2⟩
  | loadIfAlive a k ih => intro Q E p s hn h; exact ih _ Q E p s hn h
  | point _ k ih => intro Q E p s hn h; exact ih () Q E p s hn h
  | register _ _ => intro Q E p s _ h; exact h
  | alloc o k ih => intro Q E p s hn h; exact ih _ Q E p _ (by simp only [Heap.size_push]; omega) h
  | fresh k ih => intro Q E p s hn h; exact ih _ Q E p _ hn h
  | ask k ih => intro Q E p s hn h; exact ih _ Q E p s hn h
  | choose src m k ih => intro Q E p s hn h; exact ⟨h.1, ih _ Q E p _ hn h.2⟩
  | os q _ k ih => intro Q E p s hn h; exact ih _ Q E p _ hn h
  | call c hd _ _ k ih => intro Q E p s hn h; obtain ⟨r, s', hr, h⟩ := h; exact ⟨r, s', hr, ih r Q E p s' (Nat.le_trans hn (runs_size hr)) h⟩
  | handled own k ih => intro Q E p s hn h; exact ih _ Q E p s hn h
  | genState g k ih => intro Q E p s hn h; obtain ⟨st, hs, h⟩ := h; exact ⟨st, hs, ih _ Q E p s hn h⟩
  | newGen c k ih => intro Q E p s hn h; exact ih _ Q E p _ hn h
  | resume g r _ k ih => intro Q E p s hn h; obtain ⟨res, s', hw, h⟩ := h; exact ⟨res, s', hw, ih res Q E p s' (Nat.le_trans hn (wakes_size hw)) h⟩
  | yield _ _ _ _ => intro Q E p s _ h; exact h
  | stack k ih => intro Q E p s hn h; exact ih _ Q E p s hn h
  | fork _ _ => intro Q E p s _ h; exact h
  | thread k ih => intro Q E p s hn h; exact ih _ Q E p s hn h
  | await _ _ _ _ _ => intro Q E p s _ h; exact h

theorem wpAny_sizes {α : Type} {M : Model} {A : Around} {s : Shared} {t : Sem α} {Q : α → Shared → Prop} {E : Value → Shared → Prop}
    (h : wpAny M A t (fun a s' => s.heap.objs.size ≤ s'.heap.objs.size → s.toks ≤ s'.toks → Q a s') E s) : wpAny M A t Q E s := by
  intro Γ p hΓ
  have h1 := Sem.wp_toks M Γ s.toks t _ _ p s (Nat.le_refl _) (wp_size M Γ s.heap.objs.size t _ _ p s (Nat.le_refl _) (h Γ p hΓ))
  exact Sem.wp_mono M Γ t (fun a p' s' h' => h'.2.2 h'.2.1 h'.1) (fun _ _ _ x => x.2.2) p s h1
end Mine
end

section
open PySem PySem.W PySem.Calls PyProof.Rows
set_option linter.unusedVariables false
set_option Elab.async false
set_option maxRecDepth 100000
namespace Mine
open Sem (wp)

/-- a call that makes a generator has come back -/
structure Made (B : Gnd) (M : Model) (A : Around) {ρ : Type} (Is : ρ → Heap → Value → Prop) (rs : List ρ) (C : Addr → Prop) (CG : Nat → Prop) (s s' : Shared) (ga : Addr) (g : Nat) (C' : Addr → Prop) (CG' : Nat → Prop) (Oi : Addr → Prop) (OGi : Nat → Prop) : Prop where
  mv : Mv B No No s s'
  gat : GAt B M A Is rs Oi OGi ga g s'
  sub : ∀ b, C b → C' b
  gsub : ∀ i, CG i → CG' i
  new : ∀ b, C' b → C b ∨ (s.heap.objs.size ≤ b ∧ b < s'.heap.objs.size)
  gnew : ∀ i, CG' i → CG i ∨ (s.gens.size ≤ i ∧ i < s'.gens.size)
  oi : ∀ b, Oi b → C' b
  ogi : ∀ i, OGi i → CG' i
  ga' : C' ga
  g' : CG' g
  noC : ∀ b, b < s.heap.objs.size → ¬ Oi b
  noga : ¬ Oi ga
  gan : s.heap.objs.size ≤ ga

/-- writes to some of one's own places -/
theorem Run.mvOf {B : Gnd} {O : Addr → Prop} {OG : Nat → Prop} {s₀ : Shared} {C : Addr → Prop} {CG : Nat → Prop} {s : Shared} {h' : Heap} {tk : Nat} {D : Addr → Prop} (R : Run B O OG s₀ C CG s)
    (hk : ∀ b o, ¬ D b → s.heap.get? b = some o → h'.get? b = some o) (hD : ∀ b, D b → C b) (hz : s.heap.objs.size ≤ h'.objs.size) (ht : s.toks ≤ tk) : Mv B D No s { s with heap := h', toks := tk } where
  heap := fun b o hb _ e => hk b o hb e
  size := hz
  gens := fun _ _ _ => rfl
  gsz := Nat.le_refl _
  ok := fun x => ⟨fun b o hb e => hk b o (fun h => by rw [R.nK b (hD b h)] at e; cases e) (x.keep b o hb e), by
    obtain ⟨ps, ⟨o, vs, file, tf, flags, tg, inF, text, tt, op, a, r1, r2, r3, r4, r5, r6, b, r⟩, ⟨⟨o', vs', e1, r'⟩, e2⟩⟩ := x.tab
    have nc : ¬ D B.c := fun h => R.nc (hD _ h)
    have nP : ¬ D B.P := fun h => R.nP (hD _ h)
    exact ⟨ps, ⟨o, vs, file, tf, flags, tg, inF, text, tt, op, hk _ _ nc a, r1, r2, r3, r4, r5, r6, hk _ _ nP b, r⟩, ⟨⟨o', vs', hk _ _ nc e1, r'⟩, hk _ _ nP e2⟩⟩⟩
  os := rfl
  bare := id
  toks := ht

section
variable {prog : Program} {w : World} {mg mb : Str → Option Value} {B : Gnd} {σ : Type} {Is' : σ → Heap → Value → Prop}

theorem outerLoop (X : Wd mg mb B) {d u : Nat} {env : Env} (hE : En env) {L I : Addr} (hL : env.locals = L) {x : Str} {px : Pos} {body : List Stmt} (hx : env.kindOf x = some .local) {fp wr : List Addr} {n : Nat} {P : Nat → Value → Prop} {St : Nat → Heap → Prop}
    (W : Walks prog w (cn (d + 1) (u + 3)) I fp wr n P St) (rows : Nat → List σ)
    {k : Result → Sem Fin} {g1 : Bool} {l1 : List Value} {c₁ : Code} {p₁ : Pos} {kp : List Value} {fs : List Frame} {hd1 : Option Value}
    (hover : ∀ {α : Type} {t : Sem α} {Q : α → Shared → Prop} {E : Value → Shared → Prop} {s : Shared}, wpAny (model prog w) (cn (d + 1) (u + 3)) t Q E s →
      wpAny (model prog w) ((cn d u).over (.forLoop (.Name x px) (.ref I) body [] env) (.ret k hd1 g1 l1 c₁ p₁ kp :: fs)) t Q E s)
    (Z : Addr → Prop) (MM : (Str → Option Value) → Prop) (J : Heap → Prop)
    (hM : ∀ m v, MM m → MM (fun y => if y = x then some v else m y))
    (hJ : ∀ h h' : Heap, J h → (∀ b o, Z b → h.get? b = some o → h'.get? b = some o) → J h')
    (hZ : ∀ b, Z b → b ≠ L ∧ b ∉ wr) (hLfp : L ∉ fp)
    (turn : ∀ i v s O OG s₀ C CG m, i < n → P i v → Run B O OG s₀ C CG s → C L → (∀ b, Z b → C b) → (∀ b ∈ fp, C b) → St (i + 1) s.heap → s.heap.Ns L m → MM m → m x = some v → J s.heap →
      (∀ s' O' OG' s₀' C' CG' m', Run B O' OG' s₀' C' CG' s' → C' L → (∀ b, Z b → C' b) → (∀ b ∈ fp, C' b) → (∀ b o, b ∈ fp → s.heap.get? b = some o → s'.heap.get? b = some o) → s'.heap.Ns L m' → MM m' → J s'.heap →
        SegP (model prog w) (cn d u) (Emit B (model prog w) (cn d u) Is' (rows (i + 1)) O' OG' s₀') (.forLoop (.Name x px) (.ref I) body [] env) (.pure (.again (.forLoop (.Name x px) (.ref I) body [] env))) (.ret k hd1 g1 l1 c₁ p₁ kp :: fs) s') →
      SegP (model prog w) (cn d u) (Emit B (model prog w) (cn d u) Is' (rows i) O OG s₀) (.forLoop (.Name x px) (.ref I) body [] env) ((execs body env).wrap (fun f => match f with
            | .next | .cont => .pure (.again (.forLoop (.Name x px) (.ref I) body [] env))
            | .brk => .pure (.done .next)
            | .ret v => .pure (.done (.ret v))) (fun e => (do noteFrame e env; theTreesLotGoes e : Sem Unit).wrap (fun _ => .raise e) .raise id id) id id) (.ret k hd1 g1 l1 c₁ p₁ kp :: fs) s)
    (cont : ∀ s O OG s₀ C CG m, Run B O OG s₀ C CG s → C L → (∀ b, Z b → C b) → s.heap.Ns L m → MM m → J s.heap →
      SegP (model prog w) (cn d u) (Emit B (model prog w) (cn d u) Is' (rows n) O OG s₀) c₁ (k (.ok .next)) fs s) :
    ∀ (j i : Nat) s O OG s₀ C CG m, n - i = j → i ≤ n → Run B O OG s₀ C CG s → C L → (∀ b, Z b → C b) → (∀ b ∈ fp, C b) → St i s.heap → s.heap.Ns L m → MM m → J s.heap →
      SegP (model prog w) (cn d u) (Emit B (model prog w) (cn d u) Is' (rows i) O OG s₀) (.forLoop (.Name x px) (.ref I) body [] env)
        ((model prog w).den (.forLoop (.Name x px) (.ref I) body [] env)) (.ret k hd1 g1 l1 c₁ p₁ kp :: fs) s := by
  have hp : (env.scope.kind == .class || (env.scope.kind == .module && env.locals != env.globals)) = false := by rw [hE.kind]; rfl
  have hLw : L ∉ wr := fun h => hLfp (W.sub _ h)
  intro j
  induction j with
  | zero =>
    intro i s O OG s₀ C CG m hj hi R hCL hZC hfp hst hns hm hJs
    have hin : i = n := by omega
    subst hin
    refine segP_forLoop (hover (wpAny_sizes (W.done s _ _ hst fun h' tk hk hz ht => ?_)))
    refine segP_loopEnd ?_
    have mv : Mv B (fun b => b ∈ wr) No s { s with heap := h', toks := tk } := R.mvOf hk (fun b h => hfp b (W.sub b h)) hz ht
    exact cont _ O OG s₀ C CG m (R.step (mv.mono (fun b h => .inl (hfp b (W.sub b h))) fun _ h => h.elim)) hCL hZC (hns.at' fun o e => hk _ o hLw e) hm
      (hJ _ _ hJs fun b o hb e => hk b o (hZ b hb).2 e)
  | succ j ih =>
    intro i s O OG s₀ C CG m hj hi R hCL hZC hfp hst hns hm hJs
    have hlt : i < n := by omega
    refine segP_forLoop (hover (wpAny_sizes (W.item i s _ _ hlt hst fun v h₁ tk₁ hP hst₁ hk₁ hz₁ ht₁ => ?_)))
    have mv₁ : Mv B (fun b => b ∈ wr) No s { s with heap := h₁, toks := tk₁ } := R.mvOf hk₁ (fun b h => hfp b (W.sub b h)) hz₁ ht₁
    have R₁ := R.step (mv₁.mono (fun b h => .inl (hfp b (W.sub b h))) fun _ h => h.elim)
    have hns₁ : h₁.Ns env.locals m := hL ▸ hns.at' fun o e => hk₁ _ o hLw e
    refine hover (wpAny_assign_Name (wpAny_storeName_local hx hns₁ (fun h₂ hn₂ hs₂ => ?_) hp))
    rw [hL] at hn₂ hs₂
    have mv₂ : Mv B (fun b => b = L) No { s with heap := h₁, toks := tk₁ } { s with heap := h₂, toks := tk₁ + 1 } :=
      R₁.mvOf (fun b o hb e => hs₂.extBut b o hb e) (fun b q => q ▸ hCL) (Nat.le_of_eq hs₂.1.symm) (Nat.le_succ _)
    have R₂ := R₁.step (mv₂.mono (fun b q => .inl (q ▸ hCL)) fun _ h => h.elim)
    have hst₂ : St (i + 1) h₂ := W.frame _ _ _ hst₁ fun b hb o e => hs₂.extBut b o (fun q => hLfp (q ▸ hb)) e
    have hJ₂ : J h₂ := hJ _ _ hJs fun b o hb e => hs₂.extBut b o (hZ b hb).1 (hk₁ b o (hZ b hb).2 e)
    refine turn i v _ O OG s₀ C CG _ hlt hP R₂ hCL hZC hfp hst₂ hn₂ (hM m v hm) (by simp) hJ₂ fun s' O' OG' s₀' C' CG' m' R' hCL' hZ' hfp' hk' hns' hm' hJ' => ?_
    refine segP_again rfl ?_
    exact ih (i + 1) s' O' OG' s₀' C' CG' m' (by omega) hlt R' hCL' hZ' hfp' (W.frame _ _ _ hst₂ fun b hb o e => hk' b o hb e) hns' hm' hJ'
end
end Mine
end

section
open PySem PySem.W PySem.Calls PyProof.Rows
set_option linter.unusedVariables false
set_option Elab.async false
set_option maxRecDepth 100000
namespace Mine
open Sem (wp)

/-- a row of N ints, as a tuple -/
def IsRow (N : Nat) (r : List Int) (h : Heap) (v : Value) : Prop := r.length = N ∧ ∃ a, v = .ref a ∧ TupI h a r

theorem Told.now {ρ : Type} {Is : ρ → Heap → Value → Prop} {C : Addr → Prop} {s₀ : Shared} {r : ρ} {h : Heap} {v : Value} (x : Told Is C s₀ r h v) : Is r h v := x h fun _ _ _ _ e => e

theorem told_row {C : Addr → Prop} {s₀ : Shared} {N : Nat} {r : List Int} {h : Heap} {a : Addr} (hl : r.length = N) (ht : TupI h a r) (hC : ¬ C a) (hn : s₀.heap.objs.size ≤ a) : Told (IsRow N) C s₀ r h (.ref a) :=
  fun h'' hk => ⟨hl, a, rfl, ht.at fun o e => hk a o hC hn e⟩

section
variable {prog : Program} {w : World} {mg mb : Str → Option Value} {B : Gnd}

/-- (x,) + y -/
theorem ev_cons {env : Env} (hE : En env) {L : Addr} (hL : env.locals = L) {x y : Str} {p1 p2 p3 p4 : Pos} {k : Nat} (hx : env.kindOf x = some .local) (hy : env.kindOf y = some .local) (hdx : (x == ("__debug__" : Str)) = false) (hdy : (y == ("__debug__" : Str)) = false)
    {N : Nat} (hN : N + 1 ≤ sizeLine) {j : Int} {t : Tok} {A : Around} {r : List Int} {v : Value} {s : Shared} {O : Addr → Prop} {OG : Nat → Prop} {s₀ : Shared} {C : Addr → Prop} {CG : Nat → Prop} {m : Str → Option Value} {E : Value → Shared → Prop}
    (R : Run B O OG s₀ C CG s) (hns : s.heap.Ns L m) (hmx : m x = some (.int j t)) (hmy : m y = some v) (ht : Told (IsRow N) C s₀ r s.heap v) :
    wpAny (model prog w) A (eval (.BinOp (.Tuple [.Name x p1] k p2) .Add (.Name y p3) p4) env) (fun v' s' => Mv B No No s s' ∧ Told (IsRow (N + 1)) C s₀ (j :: r) s'.heap v') E s := by
  obtain ⟨hl, b, rfl, hb⟩ := ht.now
  refine wpAny_BinOp (Tuple_ (args_cons (ldl hE hx (hL ▸ hns) hmx (args_nil ?_) hdx)))
  refine newTupI (ns := [j]) (.cons j t .nil) (by rw [sizeLine_eq]; simp) fun a s₁ u₁ ha h₁ => ?_
  refine ldl hE hy (hL ▸ u₁.ns hns) hmy ?_ hdy
  refine addTupI h₁ (hb.keeps u₁.keep) (by simp only [List.length_cons, List.length_nil]; omega) fun rr s₂ u₂ h₂ hrr => ?_
  have hfr : s.heap.objs.size ≤ rr := by
    rcases hrr with rfl | ⟨h, _⟩ | h
    · exact ha
    · cases h
    · exact Nat.le_trans u₁.size h
  refine ⟨(u₁.trans u₂).mv, told_row (by simp [hl]) h₂ (fun h => absurd (R.live _ h) (Nat.not_lt.mpr hfr)) (Nat.le_trans R.mv.size hfr)⟩

theorem nestLoop (X : Wd mg mb B) {d u : Nat} {env : Env} (hE : En env) {L I : Addr} (hL : env.locals = L) {x y : Str} {px py p1 p2 p3 p4 yp ep fp' : Pos} {kk : Nat} {iter : Expr} (hx : env.kindOf x = some .local) (hy : env.kindOf y = some .local) (hxy : x ≠ y)
    (hdx : (x == ("__debug__" : Str)) = false) (hdy : (y == ("__debug__" : Str)) = false)
    {fp wr : List Addr} {n : Nat} {P : Nat → Value → Prop} {St : Nat → Heap → Prop}
    (W : Walks prog w (cn (d + 1) (u + 3)) I fp wr n P St) (num : Nat → Int) (hP : ∀ i v, P i v → ∃ t, v = .int (num i) t) {N : Nat} (hN : N + 1 ≤ sizeLine) (rowsI : Nat → List (List Int)) (rows : Nat → List (List Int))
    (hrows : ∀ i, i < n → rows i = (rowsI i).map (num i :: ·) ++ rows (i + 1))
    {k : Result → Sem Fin} {g1 : Bool} {l1 : List Value} {body1 : List Stmt} {env1 : Env} {p₁ : Pos} {kp : List Value}
    (hg1 : g1 = false)
    (Z : Addr → Prop) (MM : (Str → Option Value) → Prop) (J : Heap → Prop)
    (hMx : ∀ m v, MM m → MM (fun z => if z = x then some v else m z)) (hMy : ∀ m v, MM m → MM (fun z => if z = y then some v else m z))
    (hJ : ∀ h h' : Heap, J h → (∀ b o, Z b → h.get? b = some o → h'.get? b = some o) → J h')
    (hZ : ∀ b, Z b → b ≠ L ∧ b ∉ wr) (hLfp : L ∉ fp) (hroom : d + 1 < recursionLimit)
    (hs : ∀ z, foldedSetIterable iter env z = pure z)
    (hcall : ∀ i s O OG s₀ C CG m t, i < n → Run B O OG s₀ C CG s → C L → (∀ b, Z b → C b) → s.heap.Ns L m → MM m → m x = some (.int (num i) t) → J s.heap →
      wpAny (model prog w) (cn (d + 1) (u + 3)) (eval iter env) (fun r s' => ∃ ga g C' CG' Oi OGi, r = .ref ga ∧ Made B (model prog w) (cn (d + 1) (u + 4)) (IsRow N) (rowsI i) C CG s s' ga g C' CG' Oi OGi) (fun _ _ => False) s)
    (cont : ∀ s O OG s₀ C CG m, Run B O OG s₀ C CG s → C L → (∀ b, Z b → C b) → s.heap.Ns L m → MM m → J s.heap →
      SegP (model prog w) (cn d u) (Emit B (model prog w) (cn d u) (IsRow (N + 1)) (rows n) O OG s₀) (.func body1 env1) (k (.ok .next)) [] s)
    {s O OG s₀ C CG m} (R : Run B O OG s₀ C CG s) (hCL : C L) (hZC : ∀ b, Z b → C b) (hfpC : ∀ b ∈ fp, C b) (hst : St 0 s.heap) (hns : s.heap.Ns L m) (hm : MM m) (hj : J s.heap) :
    SegP (model prog w) (cn d u) (Emit B (model prog w) (cn d u) (IsRow (N + 1)) (rows 0) O OG s₀)
      (.forLoop (.Name x px) (.ref I) [.For (.Name y py) iter [.Expr (.Yield (some (.BinOp (.Tuple [.Name x p1] kk p2) .Add (.Name y p3) p4)) yp) ep] [] fp'] [] env)
      ((model prog w).den (.forLoop (.Name x px) (.ref I) [.For (.Name y py) iter [.Expr (.Yield (some (.BinOp (.Tuple [.Name x p1] kk p2) .Add (.Name y p3) p4)) yp) ep] [] fp'] [] env))
      [.ret k none g1 l1 (.func body1 env1) p₁ kp] s := by
  subst hg1
  refine outerLoop X hE hL hx W rows (fun h => cn_over2 h) Z MM J hMx hJ hZ hLfp ?_ cont n 0 s O OG s₀ C CG m (Nat.sub_zero _) (Nat.zero_le _) R hCL hZC hfpC hst hns hm hj
  clear R hCL hZC hfpC hst hns hm hj
  intro i v s O OG s₀ C CG m hi hPv R hCL hZC hfpC hst hns hm hmx hj kont
  obtain ⟨t, rfl⟩ := hP i v hPv
  refine segP_execs_cons (segP_For (cn_over2 (wpAny_mono (hcall i s O OG s₀ C CG m t hi R hCL hZC hns hm hmx hj) (fun r s₁ h₁ => ?_) fun _ _ z => z)) hs)
  obtain ⟨ga, g, C', CG', Oi, OGi, rfl, mk⟩ := h₁
  refine cn_over2 (wpAny_pyIter_gen mk.gat.isGen fun p => ?_)
  have R₁ : Run B O OG s₀ C' CG' s₁ := R.go mk.mv.no mk.new mk.gnew
  have hPL : L ≠ B.P := fun q => R.nP (q ▸ hCL)
  rw [hrows i hi]
  refine genLoop X hE hL (e := .BinOp (.Tuple [.Name x p1] kk p2) .Add (.Name y p3) p4) hy (num i :: ·) (rows (i + 1)) (fun h => cn_over3 h) rfl rfl hroom (fun b => Z b ∨ b ∈ fp) (fun m => MM m ∧ m x = some (.int (num i) t))
    (fun h => J h ∧ ∀ b o, b ∈ fp → s.heap.get? b = some o → h.get? b = some o) (fun m v h => ⟨hMy m v h.1, by simp [hxy, h.2]⟩)
    (fun h h' x hk => ⟨hJ _ _ x.1 fun b o hb e => hk b o (.inl hb) e, fun b o hb e => hk b o (.inr hb) (x.2 b o hb e)⟩)
    (fun q => absurd (q ▸ mk.gan) (Nat.not_le.mpr (Ns_live hns))) ?_ ?_ (rowsI i) s₁ O OG s₀ C' CG' Oi OGi m R₁ mk.gat (mk.sub _ hCL) mk.ga' mk.oi (mk.noC _ (Ns_live hns)) mk.noga mk.ogi mk.g' ?_ (mk.mv.ns hns id hPL) ⟨hm, hmx⟩ ⟨?_, ?_⟩
  · intro r v s O OG s₀ C CG m R hCL hZ' hns hm hmy hj ht
    exact ev_cons hE hL hx hy hdx hdy hN R hns hm.2 hmy ht
  · intro s' O OG s₀ C CG m R hCL hZ' hns hm hj
    exact kont s' O OG s₀ C CG m R hCL (fun b hb => hZ' b (.inl hb)) (fun b hb => hZ' b (.inr hb)) hj.2 hns hm.1 hj.1
  · rintro b (hb | hb)
    · exact ⟨mk.sub _ (hZC b hb), (hZ b hb).1, mk.noC _ (R.live _ (hZC b hb))⟩
    · exact ⟨mk.sub _ (hfpC b hb), fun q => hLfp (q ▸ hb), mk.noC _ (R.live _ (hfpC b hb))⟩
  · exact hJ _ _ hj fun b o hb e => mk.mv.heap b o id (fun q => R.nP (q ▸ hZC b hb)) e
  · exact fun b o hb e => mk.mv.heap b o id (fun q => R.nP (q ▸ hfpC b hb)) e
end
end Mine
end

section
open PySem PySem.W PySem.Calls PyProof.Rows
set_option linter.unusedVariables false
set_option Elab.async false
set_option maxRecDepth 100000
namespace Mine
open Sem (wp)

section
variable {M : Model} {A : Around} {Φ : End → Shared → Prop} {c : Code} {fs : List Frame} {s : Shared} {env : Env} {K : Flow → Sem Fin} {H : Value → Sem Fin} {gd : Bool → Bool} {lv : List Value → List Value}
theorem segP_If {test : Expr} {body orelse : List Stmt} {pos : Pos}
    (h : wpAny M (A.over c fs) (isTrue test env (eval test env)) (fun b s' => SegP M A Φ c ((execs (if b = true then body else orelse) env).wrap K H gd lv) fs s') (fun _ _ => False) s) :
    SegP M A Φ c ((exec (.If test body orelse pos) env).wrap K H gd lv) fs s := by
  rw [exec_If]
  refine segP_bind_wrap (wpAny_standAt ?_)
  refine segP_bind_wrap (wpAny_mono h (fun b s' h' => ?_) fun _ _ z => z.elim)
  cases b
  · exact h'
  · exact h'
theorem segP_Return_none {pos : Pos} (h : SegP M A Φ c (K (.ret .none)) fs s) : SegP M A Φ c ((exec (.Return none pos) env).wrap K H gd lv) fs s := by
  rw [exec_Return_none]
  refine segP_bind_wrap (wpAny_standAt ?_)
  exact h
theorem segP_Assign {x : Str} {p pos : Pos} {e : Expr}
    (h : wpAny M (A.over c fs) (exec (.Assign [.Name x p] e pos) env) (fun f s' => f = .next ∧ SegP M A Φ c (K .next) fs s') (fun _ _ => False) s) :
    SegP M A Φ c ((exec (.Assign [.Name x p] e pos) env).wrap K H gd lv) fs s :=
  segP_wrap (wpAny_mono h (fun f s' h' => by obtain ⟨rfl, h'⟩ := h'; exact h') fun _ _ z => z.elim)
end

section
variable {prog : Program} {w : World} {B : Gnd} {ρ : Type} {Is : ρ → Heap → Value → Prop}
theorem made_of {sa s s' : Shared} {L ga : Addr} {c : Code} {m : Str → Option Value} {d u : Nat} {rs : List ρ} {Oa : Addr → Prop} {O : Addr → Prop} {OG : Nat → Prop} {s₀ : Shared} {C : Addr → Prop} {CG : Nat → Prop}
    (up : Up sa s) (x : Newg s s' L ga c m) (R : Run B O OG s₀ C CG sa) (hOa : ∀ b, Oa b → sa.heap.objs.size ≤ b ∧ b < s.heap.objs.size)
    (body : ∀ s'', (∀ b o, Oa b → s'.heap.get? b = some o → s''.heap.get? b = some o) → Run B (fun b => b = L ∨ Oa b) No s'' (fun b => b = L ∨ Oa b) No s'' → s''.heap.Ns L m →
      SegP (model prog w) (cn d u) (Emit B (model prog w) (cn d u) Is rs (fun b => b = L ∨ Oa b) No s'') c ((model prog w).den c) [] s'') :
    Made B (model prog w) (cn d u) Is rs C CG sa s' ga s.gens.size (fun b => C b ∨ b = L ∨ b = ga ∨ Oa b) (fun i => CG i ∨ i = s.gens.size) (fun b => b = L ∨ Oa b) No := by
  have ok := up.ok R.ok
  have hz := up.size
  have hP := R.ok.liveP
  have hc := R.ok.livec
  have hLs : L < s'.heap.objs.size := by obtain ⟨o, _, _, e, _⟩ := x.ns; exact Heap.lt_size e
  have hgs : ga < s'.heap.objs.size := by obtain ⟨o, _, _, e, _⟩ := x.isGen; exact Heap.lt_size e
  have hx := x.size
  have hgz : sa.gens.size = s.gens.size := by rw [up.gens]
  refine ⟨up.mv.thenNo x.mv, x.gat ok (fun b h => (hOa b h).2) (fun h => absurd hP (Nat.not_lt.mpr (hOa _ h).1)) (fun h => absurd hc (Nat.not_lt.mpr (hOa _ h).1)) (fun b h => ?_) body,
    fun _ h => .inl h, fun _ h => .inl h, ?_, ?_, ?_, fun _ h => h.elim, .inr (.inr (.inl rfl)), .inr rfl, ?_, ?_, Nat.le_trans hz x.na⟩
  · cases e : B.K.get? b with
    | none => rfl
    | some o =>
      have h1 := (hOa b h).1
      by_cases q : b = B.P
      · exact absurd (q ▸ hP) (Nat.not_lt.mpr h1)
      · exact absurd (Heap.lt_size (R.ok.keep b o q e)) (Nat.not_lt.mpr h1)
  · rintro b (h | rfl | rfl | h)
    · exact .inl h
    · exact .inr ⟨Nat.le_trans hz x.nL, hLs⟩
    · exact .inr ⟨Nat.le_trans hz x.na, hgs⟩
    · exact .inr ⟨(hOa b h).1, Nat.lt_of_lt_of_le (hOa b h).2 hx⟩
  · rintro i (h | rfl)
    · exact .inl h
    · exact .inr ⟨Nat.le_of_eq hgz, by rw [x.gens]; simp⟩
  · rintro b (rfl | h)
    · exact .inr (.inl rfl)
    · exact .inr (.inr (.inr h))
  · rintro b hb (rfl | h)
    · exact absurd hb (Nat.not_lt.mpr (Nat.le_trans hz x.nL))
    · exact absurd hb (Nat.not_lt.mpr (hOa b h).1)
  · rintro (h | h)
    · exact x.ne h.symm
    · exact absurd (hOa _ h).2 (Nat.not_lt.mpr x.na)
end

/-- the i-th statement of the text, a def: its parts -/
def dName (i : Nat) : Str := match PySem.Challenge.pw_jf0026_01.main.body[i]? with | some (.FunctionDef n _ _ _ _ _ _ _ _ _) => n | _ => ""
def dArgs (i : Nat) : Arguments := match PySem.Challenge.pw_jf0026_01.main.body[i]? with | some (.FunctionDef _ a _ _ _ _ _ _ _ _) => a | _ => ⟨[], [], none, [], [], none, []⟩
def dBody (i : Nat) : List Stmt := match PySem.Challenge.pw_jf0026_01.main.body[i]? with | some (.FunctionDef _ _ b _ _ _ _ _ _ _) => b | _ => []
def dScope (i : Nat) : Scope := match PySem.Challenge.pw_jf0026_01.main.body[i]? with | some (.FunctionDef _ _ _ _ _ _ s _ _ _) => s | _ => PySem.Challenge.pw_jf0026_01.main.scope

/-- the i-th def stands at the ground -/
def Fn (B : Gnd) (mg : Str → Option Value) (i : Nat) (x : Str) : Prop :=
  ∃ a o pm cd doc, mg x = some (.ref a) ∧ B.K.get? a = some o ∧ o.data = .func (docDef (dName i) (dArgs i) (dBody i) (dScope i) pm cd doc) ∧ B.K.CodeRec cd (dName i)

theorem en_of {name : Str} {scope : Scope} {L a : Addr} {cd : Value} (hk : scope.kind = .function) (hco : scope.isCoroutine = false) : En (envOf name scope L a cd) :=
  ⟨hk, rfl, rfl, hco, by first | rfl | (unfold interactive; simp [envOf, hk])⟩

theorem newTupV {prog : Program} {w : World} {A : Around} {E : Value → Shared → Prop} {s : Shared} {vs : List Value} {Q : Value → Shared → Prop} (hsz : vs.length ≤ sizeLine)
    (h : ∀ a s', Up s s' → s.heap.objs.size ≤ a → IsTup s'.heap a vs.toArray → Q (.ref a) s') : wpAny (model prog w) A (newTuple vs) Q E s :=
  wpAny_newObj_type (h _ _ (Up.push _) (Nat.le_refl _) (IsTup.new _ _)) (by show vs.toArray.size ≤ sizeLine; rw [List.size_toArray]; exact hsz)

theorem iterTup {prog : Program} {w : World} {A : Around} {E : Value → Shared → Prop} {s : Shared} {a : Addr} {items : Array Value} {Q : Value → Shared → Prop} (ht : IsTup s.heap a items)
    (h : ∀ I s', Up s s' → s.heap.objs.size ≤ I → s'.heap.IsTupleIter I a 0 → Q (.ref I) s') : wpAny (model prog w) A (pyIter (.ref a)) Q E s :=
  iter_tuple ht (h _ _ (Up.push _) (Nat.le_refl _) ⟨_, Heap.get?_push_size _ rfl, rfl, rfl⟩)

def choices : Nat → List (List Int)
  | 0 => [[]]
  | n + 1 => (choices n).map (0 :: ·) ++ (choices n).map (1 :: ·)

section
variable {prog : Program} {w : World} {mg mb : Str → Option Value} {B : Gnd}

theorem choices_body (X : Wd mg mb B) (f2 : Fn B mg 2 "_choices") (n : Nat) : ∀ {d u : Nat} {L a : Addr} {cd : Value} {O : Addr → Prop} {t : Tok} {m : Str → Option Value} {s : Shared},
    n ≤ 60 → d + 3 * n + 10 < 1000 → u + 10 * n + 100 < 9900 → O L → Run B O No s O No s → s.heap.Ns L m → m "many" = some (.int n t) →
    SegP (model prog w) (cn d u) (Emit B (model prog w) (cn d u) (IsRow n) (choices n) O No s) (.func (dBody 2) (envOf (dName 2) (dScope 2) L a cd))
      ((model prog w).den (.func (dBody 2) (envOf (dName 2) (dScope 2) L a cd))) [] s := by
  induction n with
  | zero =>
    intro d u L a cd O t m s hn0 hd hu hOL R hns hm
    have hE : En (envOf (dName 2) (dScope 2) L a cd) := en_of rfl rfl
    refine segP_func ?_
    dsimp only [dBody, PySem.Challenge.pw_jf0026_01, List.getElem?_cons_succ, List.getElem?_cons_zero]
    refine segP_execs_cons (segP_If (cn_over1 (cmpI (a := 0) (b := 0) (c := true) hE (.name rfl rfl hm) .const hns (fun t u s Q h => PyProof.Rows.eq_int h) fun sa ua => ?_)))
    refine segP_execs_cons (segP_Yield rfl rfl rfl (cn_over1 (Tuple_ (args_nil (newTupI .nil (Nat.zero_le _) fun b s₁ u₁ hb h₁ => ?_)))) rfl rfl)
    have up := ua.trans u₁
    have R₁ := R.no up.mv
    have hb := Nat.le_trans ua.size hb
    refine ⟨O, No, R₁, told_row rfl h₁ (fun h => absurd (R.live _ h) (Nat.not_lt.mpr hb)) hb, fun s₂ hag R₂ => ?_⟩
    exact segP_execs_cons (segP_Return_none (segP_end (.ok (.ret .none)) ⟨.inl rfl, R₂.mv⟩))
  | succ n ih =>
    intro d u L a cd O t m s hn0 hd hu hOL R hns hm
    have hE : En (envOf (dName 2) (dScope 2) L a cd) := en_of rfl rfl
    refine segP_func ?_
    dsimp only [dBody, PySem.Challenge.pw_jf0026_01, List.getElem?_cons_succ, List.getElem?_cons_zero]
    refine segP_execs_cons (segP_If (cn_over1 (cmpI (a := (n + 1 : Nat)) (b := 0) (c := false) hE (.name rfl rfl hm) .const hns (fun t u s Q h => PyProof.Rows.eq_int (by rw [show (((n + 1 : Nat) : Int) == 0) = false from by simp; omega]; exact h)) fun sa ua => ?_)))
    rw [if_neg Bool.false_ne_true]
    refine segP_execs_nil ?_
    refine segP_execs_cons (segP_For (cn_over1 (Tuple_ (args_cons (evC fun t0 sb ub => args_cons (evC fun t1 sc uc => args_nil (newTupV (by rw [sizeLine_eq]; simp) fun tp sd ud htp hdt => cn_over1 (iterTup hdt fun I se ue hI hIt p => ?_)))))))
      (by intro _; rfl))
    have up : Up s se := ((((ua.trans ub).trans uc).trans ud).trans ue)
    have hz1 : s.heap.objs.size ≤ sc.heap.objs.size := ((ua.trans ub).trans uc).size
    have hz2 := ud.size
    have htl : tp < sd.heap.objs.size := hdt.lt
    have hIl : I < se.heap.objs.size := let ⟨_, e, _⟩ := hIt; Heap.lt_size e
    have hz3 := ue.size
    have R₁ : Run B O No s (fun b => O b ∨ b = I ∨ b = tp) No se := R.go up.mv (fun b hb => by
      rcases hb with hb | rfl | rfl
      · exact .inl hb
      · exact .inr ⟨Nat.le_trans (Nat.le_trans hz1 hz2) hI, hIl⟩
      · exact .inr ⟨Nat.le_trans hz1 htp, Nat.lt_of_lt_of_le htl hz3⟩) fun _ h => .inl h
    have hLs : L < s.heap.objs.size := Ns_live hns
    have hroom : d + 1 < recursionLimit := by show d + 1 < 1000; omega
    refine nestLoop X hE rfl (L := L) rfl rfl (by decide) rfl rfl (Walks.tuple (A := cn (d + 1) (u + 3)) rfl I tp (fun q => absurd (q ▸ htl) (Nat.not_lt.mpr hI)) #[.int 0 t0, .int 1 t1]) (fun i => (i : Int)) ?_ (N := n) (by rw [sizeLine_eq]; omega)
      (fun _ => choices n) (fun i => match i with | 0 => choices (n + 1) | 1 => (choices n).map (1 :: ·) | _ => []) ?_ rfl No (fun m => ∃ t, m "many" = some (.int (n + 1 : Nat) t)) (fun _ => True) ?_ ?_ (fun _ _ _ _ => trivial) (fun _ h => h.elim) ?_ hroom (by intro _; rfl) ?_ ?_
      R₁ (.inl hOL) (fun _ h => h.elim) ?_ ⟨hIt, ?_⟩ (up.ns hns) ⟨t, hm⟩ trivial
    · intro i v hv
      match i with
      | 0 => exact ⟨t0, by simpa using hv.symm⟩
      | 1 => exact ⟨t1, by simpa using hv.symm⟩
      | i + 2 => simp at hv
    · intro i hi
      match i with
      | 0 => rfl
      | 1 => simp
      | i + 2 => simp at hi; omega
    · rintro m v ⟨t, h⟩; exact ⟨t, (if_neg (by decide)).trans h⟩
    · rintro m v ⟨t, h⟩; exact ⟨t, (if_neg (by decide)).trans h⟩
    · intro h
      simp only [List.mem_cons, List.not_mem_nil, or_false] at h
      rcases h with q | q
      · exact absurd (Nat.lt_of_lt_of_le hLs (Nat.le_trans (Nat.le_trans hz1 hz2) hI)) (by rw [q]; exact Nat.lt_irrefl _)
      · exact absurd (Nat.lt_of_lt_of_le hLs (Nat.le_trans hz1 htp)) (by rw [q]; exact Nat.lt_irrefl _)
    · intro i s O OG s₀ C CG m t hi R hCL _ hns hm hmx _
      obtain ⟨tm, hm⟩ := hm
      obtain ⟨fa, o, pm, cd', doc, hmg, ho, hdata, hcd⟩ := f2
      refine Call_ (ldg X R.ok hE rfl hmg (callWith_def hdata (args_cons (IEv.runV (n := n) hE (.sub (.name rfl rfl hm) .const) (by omega) hns fun t' s₁ u₁ => args_nil ⟨X.get (u₁.ok R.ok) ho (by rw [hdata]; exact nofun), wpAny_call (gen_make (binds := [("many", .int n t')]) hroom (X.get (u₁.ok R.ok) ho (by rw [hdata]; exact nofun)) hdata
        (X.nolimit (u₁.ok R.ok)) (X.code (u₁.ok R.ok) hcd) rfl (locs rfl) ?_ rfl rfl rfl)⟩))))
      intro L' ga s' x
      exact ⟨ga, _, _, _, _, _, rfl, made_of (Oa := No) u₁ x R (fun _ h => h.elim) fun s'' _ R'' hns'' => ih (by omega) (by omega) (by omega) (.inl rfl) R'' hns'' rfl⟩
    · intro s O OG s₀ C CG m R hCL _ hns _ _
      exact segP_end (.ok (.ret .none)) ⟨.inl rfl, R.mv⟩
    · intro b hb
      simp only [List.mem_cons, List.not_mem_nil, or_false] at hb
      exact .inr hb
    · exact hdt.keeps ue.keep
end
end Mine
end

section
open PySem PySem.W PySem.Calls PyProof.Rows
set_option linter.unusedVariables false
set_option Elab.async false
set_option maxRecDepth 100000
namespace Mine
open Sem (wp)

section
variable {prog : Program} {w : World} {A : Around} {E : Value → Shared → Prop} {s : Shared} {env : Env} {mg mb : Str → Option Value} {B : Gnd}

theorem IEv.star {m : Str → Option Value} {e : Expr} {n : Int} (h : IEv env m e n) (rest : List Expr) : starEach (e :: rest) env = (false, eval e env) :: starEach rest env := by cases h <;> rfl

theorem evRange (X : Wd mg mb B) (ok : Ok B s.heap) (hE : En env) {e1 e2 : Expr} {p pc : Pos} {m : Str → Option Value} {a b : Int} {Q : Value → Shared → Prop} (hx : env.kindOf "range" = some .globalImplicit)
    (hn : s.heap.Ns env.locals m) (h1 : IEv env m e1 a) (h2 : IEv env m e2 b) (h : ∀ r s' t u v, Up s s' → IsRange s'.heap r a b 1 t u v → Q (.ref r) s') :
    wpAny (model prog w) A (eval (.Call (.Name "range" p) [e1, e2] [] pc) env) Q E s := by
  refine Call_ (ldb X ok hE hx (X.free _ (by simp)) boot_range (callWith_type1 (args_cons (h1.run hE hn fun t s₁ u₁ => args_cons (h2.run hE (u₁.ns hn) fun t' s₂ u₂ => args_nil ?_) (h2.star _)) (h1.star _)) (h1.star _) (by rw [h2.star]; rfl)))
  refine call_range_2 (h _ _ _ _ _ ((u₁.trans u₂).trans (Up.heap (fun b o e => Heap.get?_push_of_some _ e) (by simp) (Nat.le_succ _))) (IsRange.new ..))

theorem iterRange {r : Addr} {a b : Int} {t u v : Tok} {Q : Value → Shared → Prop} (hr : IsRange s.heap r a b 1 t u v) (ha : -(2 ^ 62) ≤ a) (ha' : a < 2 ^ 62) (hb : -(2 ^ 62) ≤ b) (hb' : b < 2 ^ 62)
    (h : ∀ I s', Up s s' → s.heap.objs.size ≤ I → I < s'.heap.objs.size → IsRangeIter s'.heap I (a + (0 : Nat) * 1) (((b - a).toNat : Nat) - (0 : Nat)) 1 → Q (.ref I) s') :
    wpAny (model prog w) A (pyIter (.ref r)) Q E s := by
  refine wpAny_pyIter_range hr (small_one ha ha' hb hb') (h _ _ (Up.push _) (Nat.le_refl _) (by simp) ?_)
  have e : Builtin.Range.rangeSize a b 1 = ((b - a).toNat : Nat) - ((0 : Nat) : Int) := by rw [rangeSize_one]; split <;> omega
  rw [e, show a + ((0 : Nat) : Int) * 1 = a from by omega]
  exact Heap.get?_push_size _ rfl

theorem drop_flat {σ : Type} (g : Nat → List σ) {n i : Nat} (h : i < n) : ((List.range n).drop i).flatMap g = g i ++ ((List.range n).drop (i + 1)).flatMap g := by
  rw [List.drop_eq_getElem_cons (by simpa using h), List.flatMap_cons]; simp

theorem rangeNest (X : Wd mg mb B) {d u : Nat} (hE : En env) {L : Addr} (hL : env.locals = L) {x y : Str} {px py p1 p2 p3 p4 yp ep fp' pr pc pf : Pos} {kk : Nat} {e1 e2 iter : Expr} (hx : env.kindOf x = some .local) (hy : env.kindOf y = some .local) (hxy : x ≠ y)
    (hdx : (x == ("__debug__" : Str)) = false) (hdy : (y == ("__debug__" : Str)) = false) (hrg : env.kindOf "range" = some .globalImplicit)
    {a b : Int} (ha : -(2 ^ 62) ≤ a) (ha' : a < 2 ^ 62) (hb : -(2 ^ 62) ≤ b) (hb' : b < 2 ^ 62)
    {N : Nat} (hN : N + 1 ≤ sizeLine) (rowsI : Nat → List (List Int))
    {body1 : List Stmt} {env1 : Env} {K : Flow → Sem Fin} {H : Value → Sem Fin} {gd : Bool → Bool} {lv : List Value → List Value} (hgd : gd false = false)
    (Z : Addr → Prop) (MM : (Str → Option Value) → Prop) (J : Heap → Prop)
    (hMx : ∀ m v, MM m → MM (fun z => if z = x then some v else m z)) (hMy : ∀ m v, MM m → MM (fun z => if z = y then some v else m z))
    (hJ : ∀ h h' : Heap, J h → (∀ b o, Z b → h.get? b = some o → h'.get? b = some o) → J h')
    (hZ : ∀ b, Z b → b ≠ L) (hroom : d + 1 < recursionLimit)
    (hs : ∀ z, foldedSetIterable iter env z = pure z)
    (hcall : ∀ i s O OG s₀ C CG m t, i < (b - a).toNat → Run B O OG s₀ C CG s → C L → (∀ b, Z b → C b) → s.heap.Ns L m → MM m → m x = some (.int (a + i) t) → J s.heap →
      wpAny (model prog w) (cn (d + 1) (u + 3)) (eval iter env) (fun r s' => ∃ ga g C' CG' Oi OGi, r = .ref ga ∧ Made B (model prog w) (cn (d + 1) (u + 4)) (IsRow N) (rowsI i) C CG s s' ga g C' CG' Oi OGi) (fun _ _ => False) s)
    (cont : ∀ s O OG s₀ C CG m, Run B O OG s₀ C CG s → C L → (∀ b, Z b → C b) → s.heap.Ns L m → MM m → J s.heap →
      SegP (model prog w) (cn d u) (Emit B (model prog w) (cn d u) (IsRow (N + 1)) [] O OG s₀) (.func body1 env1) (K .next) [] s)
    {s O OG s₀ C CG m} (R : Run B O OG s₀ C CG s) (hCL : C L) (hZC : ∀ b, Z b → C b) (hns : s.heap.Ns L m) (hm : MM m) (hj : J s.heap) (h1 : IEv env m e1 a) (h2 : IEv env m e2 b) :
    SegP (model prog w) (cn d u) (Emit B (model prog w) (cn d u) (IsRow (N + 1)) ((List.range (b - a).toNat).flatMap fun i => (rowsI i).map ((a + i) :: ·)) O OG s₀) (.func body1 env1)
      ((exec (.For (.Name x px) (.Call (.Name "range" pr) [e1, e2] [] pc) [.For (.Name y py) iter [.Expr (.Yield (some (.BinOp (.Tuple [.Name x p1] kk p2) .Add (.Name y p3) p4)) yp) ep] [] fp'] [] pf) env).wrap K H gd lv) [] s := by
  refine segP_For (cn_over1 (evRange X R.ok hE hrg (hL ▸ hns) h1 h2 fun r sa t u' v ua hr => cn_over1 (iterRange hr ha ha' hb hb' fun I sb ub hI hIl hIt p => ?_))) (by intro _; rfl)
  have up := ua.trans ub
  have hIs := Nat.le_trans ua.size hI
  have R₁ : Run B O OG s₀ (fun b => C b ∨ b = I) CG sb := R.go up.mv (fun b hb => by
      rcases hb with hb | rfl
      · exact .inl hb
      · exact .inr ⟨hIs, hIl⟩) fun _ h => .inl h
  have hLs := R.live L hCL
  have hne : ∀ b, C b → b ≠ I := fun b hb q => absurd (R.live b hb) (Nat.not_lt.mpr (q ▸ hIs))
  refine nestLoop X hE hL (L := L) hx hy hxy hdx hdy (Walks.range (A := cn (d + 1) (u + 3)) rfl I a 1 (b - a).toNat) (fun i => a + i) ?_ hN rowsI (fun i => ((List.range (b - a).toNat).drop i).flatMap fun i => (rowsI i).map ((a + i) :: ·)) ?_ hgd Z MM J hMx hMy hJ
    (fun b hb => ⟨hZ b hb, by simpa using hne b (hZC b hb)⟩) (by simpa using hne L hCL) hroom hs hcall ?_ R₁ (.inl hCL) (fun b hb => .inl (hZC b hb)) (fun b hb => .inr (by simpa using hb)) hIt (up.ns hns) hm (hJ _ _ hj fun b o _ e => up.keep b o e)
  · rintro i v ⟨t, rfl⟩; exact ⟨t, by rw [Int.mul_one]⟩
  · intro i hi; exact drop_flat _ hi
  · intro s O OG s₀ C CG m R hCL hZC hns hm hj
    have := cont s O OG s₀ C CG m R hCL hZC hns hm hj
    rw [List.drop_eq_nil_of_le (by simp)]
    exact this
end
end Mine
end

section
open PySem PySem.W PySem.Calls PyProof.Rows
set_option linter.unusedVariables false
set_option Elab.async false
set_option maxRecDepth 100000
namespace Mine
open Sem (wp)

def combos (high : Int) : Int → Nat → List (List Int)
  | _, 0 => [[]]
  | low, m + 1 => (List.range (high - m - low).toNat).flatMap fun (i : Nat) => (combos high (low + i + 1) m).map ((low + i) :: ·)

theorem sizeLine_big : (1000000 : Nat) ≤ sizeLine := by rw [sizeLine_eq]; decide

section
variable {prog : Program} {w : World} {mg mb : Str → Option Value} {B : Gnd}

theorem combos_body (X : Wd mg mb B) (f1 : Fn B mg 1 "_combinations") (n : Nat) : ∀ {d u : Nat} {L a : Addr} {cd : Value} {O : Addr → Prop} {t1 t2 t3 : Tok} {low high : Int} {m : Str → Option Value} {s : Shared},
    n ≤ 60 → d + 3 * n + 10 < 1000 → u + 10 * n + 100 < 9900 → -1000 ≤ low → low ≤ 1000 → -1000 ≤ high → high ≤ 1000 → O L → Run B O No s O No s → s.heap.Ns L m → m "low" = some (.int low t1) → m "high" = some (.int high t2) → m "many" = some (.int n t3) →
    SegP (model prog w) (cn d u) (Emit B (model prog w) (cn d u) (IsRow n) (combos high low n) O No s) (.func (dBody 1) (envOf (dName 1) (dScope 1) L a cd))
      ((model prog w).den (.func (dBody 1) (envOf (dName 1) (dScope 1) L a cd))) [] s := by
  induction n with
  | zero =>
    intro d u L a cd O t1 t2 t3 low high m s hn0 hd hu hl1 hl2 hh1 hh2 hOL R hns hm1 hm2 hm
    have hE : En (envOf (dName 1) (dScope 1) L a cd) := en_of rfl rfl
    refine segP_func ?_
    dsimp only [dBody, PySem.Challenge.pw_jf0026_01, List.getElem?_cons_succ, List.getElem?_cons_zero]
    refine segP_execs_cons (segP_If (cn_over1 (cmpI (a := 0) (b := 0) (c := true) hE (.name rfl rfl hm) .const hns (fun t u s Q h => PyProof.Rows.eq_int h) fun sa ua => ?_)))
    refine segP_execs_cons (segP_Yield rfl rfl rfl (cn_over1 (Tuple_ (args_nil (newTupI .nil (Nat.zero_le _) fun b s₁ u₁ hb h₁ => ?_)))) rfl rfl)
    have up := ua.trans u₁
    have R₁ := R.no up.mv
    have hb := Nat.le_trans ua.size hb
    refine ⟨O, No, R₁, told_row rfl h₁ (fun h => absurd (R.live _ h) (Nat.not_lt.mpr hb)) hb, fun s₂ hag R₂ => ?_⟩
    exact segP_execs_cons (segP_Return_none (segP_end (.ok (.ret .none)) ⟨.inl rfl, R₂.mv⟩))
  | succ n ih =>
    intro d u L a cd O t1 t2 t3 low high m s hn0 hd hu hl1 hl2 hh1 hh2 hOL R hns hm1 hm2 hm
    have hE : En (envOf (dName 1) (dScope 1) L a cd) := en_of rfl rfl
    have hroom : d + 1 < recursionLimit := by show d + 1 < 1000; omega
    refine segP_func ?_
    dsimp only [dBody, PySem.Challenge.pw_jf0026_01, List.getElem?_cons_succ, List.getElem?_cons_zero]
    refine segP_execs_cons (segP_If (cn_over1 (cmpI (a := (n + 1 : Nat)) (b := 0) (c := false) hE (.name rfl rfl hm) .const hns (fun t u s Q h => PyProof.Rows.eq_int (by rw [show (((n + 1 : Nat) : Int) == 0) = false from by simp; omega]; exact h)) fun sa ua => ?_)))
    rw [if_neg Bool.false_ne_true]
    refine segP_execs_nil (segP_execs_cons ?_)
    have e : combos high low (n + 1) = (List.range (high - (n + 1 : Nat) + 1 - low).toNat).flatMap fun (i : Nat) => (combos high (low + i + 1) n).map ((low + i) :: ·) := by
      rw [combos, show high - (n + 1 : Nat) + 1 - low = high - n - low from by omega]
    rw [e]
    refine rangeNest (a := low) (b := high - (n + 1 : Nat) + 1) (N := n) (x := "first") (y := "rest") X hE (L := L) rfl rfl rfl (by decide) rfl rfl rfl (by omega) (by omega) (by omega) (by omega) (Nat.le_trans (by omega) sizeLine_big) (fun (i : Nat) => combos high (low + i + 1) n) rfl No
      (fun m => (∃ t, m "high" = some (.int high t)) ∧ ∃ t, m "many" = some (.int (n + 1 : Nat) t)) (fun _ => True) ?_ ?_ (fun _ _ _ _ => trivial) (fun _ h => h.elim) hroom (by intro _; rfl) ?_ ?_
      (R.no ua.mv) hOL (fun _ h => h.elim) (ua.ns hns) ⟨⟨_, hm2⟩, ⟨_, hm⟩⟩ trivial (.name rfl rfl hm1) (.add (.sub (.name rfl rfl hm2) (.name rfl rfl hm)) .const)
    · rintro m v ⟨⟨t, h⟩, ⟨t', h'⟩⟩; exact ⟨⟨t, (if_neg (by decide)).trans h⟩, ⟨t', (if_neg (by decide)).trans h'⟩⟩
    · rintro m v ⟨⟨t, h⟩, ⟨t', h'⟩⟩; exact ⟨⟨t, (if_neg (by decide)).trans h⟩, ⟨t', (if_neg (by decide)).trans h'⟩⟩
    · intro i s O OG s₀ C CG m t hi R hCL _ hns hm hmx _
      obtain ⟨⟨th, hh⟩, ⟨tm, hm⟩⟩ := hm
      obtain ⟨fa, o, pm, cd', doc, hmg, ho, hdata, hcd⟩ := f1
      refine Call_ (ldg X R.ok hE rfl hmg (callWith_def hdata (args_cons (IEv.runV (n := low + i + 1) hE (.add (.name rfl rfl hmx) .const) rfl hns fun t' s₁ u₁ => args_cons (ldl hE rfl (u₁.ns hns) hh (args_cons (IEv.runV (n := n) hE (.sub (.name rfl rfl hm) .const) (by omega) (u₁.ns hns) fun t'' s₂ u₂ =>
        args_nil ?_)))))))
      have up := u₁.trans u₂
      refine ⟨X.get (up.ok R.ok) ho (by rw [hdata]; exact nofun), wpAny_call (gen_make (binds := [("low", .int (low + i + 1) t'), ("high", .int high th), ("many", .int n t'')]) hroom (X.get (up.ok R.ok) ho (by rw [hdata]; exact nofun)) hdata
        (X.nolimit (up.ok R.ok)) (X.code (up.ok R.ok) hcd) rfl (locs rfl) ?_ rfl rfl rfl)⟩
      intro L' ga s' x
      exact ⟨ga, _, _, _, _, _, rfl, made_of (Oa := No) up x R (fun _ h => h.elim) fun s'' _ R'' hns'' => ih (by omega) (by omega) (by omega) (by omega) (by omega) hh1 hh2 (.inl rfl) R'' hns'' rfl rfl rfl⟩
    · intro s O OG s₀ C CG m R hCL _ hns _ _
      exact segP_end (.ok (.ret .none)) ⟨.inl rfl, R.mv⟩
end
end Mine
end

section
open PySem PySem.W PySem.Calls PyProof.Rows
set_option linter.unusedVariables false
set_option Elab.async false
set_option maxRecDepth 100000
namespace Mine
open Sem (wp)

def LstI (h : Heap) (a : Addr) (ns : List Int) : Prop := ∃ vs : List Value, h.IsList a vs.toArray ∧ IntsAre vs ns
def SeqI (h : Heap) (a : Addr) (ns : List Int) : Prop := TupI h a ns ∨ LstI h a ns
theorem SeqI.at {h h' : Heap} {a ns} (x : SeqI h a ns) (hk : ∀ o, h.get? a = some o → h'.get? a = some o) : SeqI h' a ns := by
  rcases x with x | ⟨vs, ⟨o, ho, r⟩, q⟩
  · exact .inl (x.at hk)
  · exact .inr ⟨vs, ⟨o, hk o ho, r⟩, q⟩
theorem SeqI.live {h : Heap} {a ns} (x : SeqI h a ns) : a < h.objs.size := by
  rcases x with x | ⟨vs, ⟨o, ho, r⟩, q⟩
  · exact x.live
  · exact Heap.lt_size ho

section
variable {prog : Program} {w : World} {A : Around} {E : Value → Shared → Prop} {s : Shared} {env : Env} {mg mb : Str → Option Value} {B : Gnd}

theorem lenSeq {a : Addr} {ns : List Int} {Q : Value → Shared → Prop} (h : SeqI s.heap a ns) (hfit : (ns.length : Int) < 2 ^ 63) (hQ : ∀ t s', Up s s' → Q (.int ns.length t) s') :
    wpAny (model prog w) A (call (.builtin "len") [.ref a]) Q E s := by
  rcases h with ⟨vs, h, hi⟩ | ⟨vs, h, hi⟩
  · have e : vs.toArray.size = ns.length := by rw [List.size_toArray, hi.length]
    refine PyProof.Rows.len_tuple h (by rw [e]; exact hfit) ?_
    rw [e]; exact hQ _ _ (Up.tok (by omega))
  · have e : vs.toArray.size = ns.length := by rw [List.size_toArray, hi.length]
    refine PyProof.Rows.len_list h (by rw [e]; exact hfit) ?_
    rw [e]; exact hQ _ _ (Up.tok (by omega))

theorem sumSeq {a : Addr} {ns : List Int} {Q : Value → Shared → Prop} (hh : A.handled = none) (h : SeqI s.heap a ns) (hQ : ∀ t s', Up s s' → Q (.int ns.sum t) s') :
    wpAny (model prog w) A (call (.builtin "sum") [.ref a]) Q E s := by
  rcases h with ⟨vs, h, hi⟩ | ⟨vs, h, hi⟩
  · obtain ⟨xs, hx⟩ := hi.allInts.items
    have hn : numsOf vs.toArray.toList = ns := by rw [show vs.toArray.toList = vs from rfl, hi.numsOf]
    rw [hx] at h hn
    rw [nums_intItems] at hn
    have e : preSum (numAt xs) xs.size = ns.sum := by rw [preSum_eq, ← hn, List.take_of_length_le (by simp)]
    refine wpAny_sizes (PySem.W.ktm_sumG hh h fun h' tk t' hk hz ht => ?_)
    rw [e]; exact hQ _ _ (Up.heap hk hz ht)
  · obtain ⟨xs, hx⟩ := hi.allInts.items
    have hn : numsOf vs.toArray.toList = ns := by rw [show vs.toArray.toList = vs from rfl, hi.numsOf]
    rw [hx] at h hn
    rw [nums_intItems] at hn
    have e : preSum (numAt xs) xs.size = ns.sum := by rw [preSum_eq, ← hn, List.take_of_length_le (by simp)]
    refine wpAny_sizes (sum_intListG hh h fun h' tk t' hk hz ht => ?_)
    rw [e]; exact hQ _ _ (Up.heap hk hz ht)

/-- x[0] -/
theorem ev_item0 (hE : En env) {x : Str} {p1 p2 p3 : Pos} {k : Nat} {m : Str → Option Value} {a : Addr} {b : Int} {bs : List Int} {Q : Value → Shared → Prop} (hx : env.kindOf x = some .local) (hd : (x == ("__debug__" : Str)) = false)
    (hn : s.heap.Ns env.locals m) (hm : m x = some (.ref a)) (h : SeqI s.heap a (b :: bs)) (hQ : ∀ t s', Up s s' → Q (.int b t) s') :
    wpAny (model prog w) A (eval (.Subscript (.Name x p1) (.Constant (.int 0) k p2) p3) env) Q E s := by
  refine Subscript_ (ldl hE hx hn hm (evC fun t s₁ u₁ => ?_) hd)
  rcases h.at (u₁.keep a) with ⟨vs, h, hi⟩ | ⟨vs, h, hi⟩
  · cases hi with
    | cons n t' hi => exact item_tupleL h (by decide) (by decide) (j := 0) (by simp [seqIndex?]) rfl (hQ _ _ u₁)
  · cases hi with
    | cons n t' hi => exact item_listL h (by decide) (by decide) rfl (hQ _ _ u₁)

/-- x[1:] -/
theorem ev_from1 (hE : En env) {x : Str} {p1 p2 p3 p4 : Pos} {k : Nat} {m : Str → Option Value} {a : Addr} {b : Int} {bs : List Int} {Q : Value → Shared → Prop} (hx : env.kindOf x = some .local) (hd : (x == ("__debug__" : Str)) = false)
    (hn : s.heap.Ns env.locals m) (hm : m x = some (.ref a)) (h : SeqI s.heap a (b :: bs)) (hsz : bs.length + 1 ≤ sizeLine) (hQ : ∀ r s', Up s s' → s.heap.objs.size ≤ r → SeqI s'.heap r bs → Q (.ref r) s') :
    wpAny (model prog w) A (eval (.Subscript (.Name x p1) (.Slice (some (.Constant (.int 1) k p2)) none none p3) p4) env) Q E s := by
  refine Subscript_ (ldl hE hx hn hm (wpAny_Slice (evalPart_some_step (evC fun t s₁ u₁ => evalPart_none_step (evalPart_none_step ?_)))) hd)
  have u2 : Up s₁ { s₁ with heap := s₁.heap.push { cls := .type "slice", data := .fields #[.int 1 t, .none, .none] } } := Up.push _
  rcases (h.at (u₁.keep a)).at (u2.keep a) with ⟨vs, h, hi⟩ | ⟨vs, h, hi⟩
  · have hl := hi.length
    simp only [List.length_cons] at hl
    refine subscriptTail_ops (s := { s₁ with heap := s₁.heap.push { cls := .type "slice", data := .fields #[.int 1 t, .none, .none] } }) h.typeIs slot_tuple_getitem.lookup
      (getItem_tuple_from (a := 1) h (Heap.IsSliceOf.new ..) (by decide) (by rw [List.size_toArray]; omega) (hQ _ _ (u₁.trans (u2.trans (Up.push _))) ?_ ?_) (by rw [List.size_toArray]; omega)) (by with_unfolding_all rfl) (by intro _; with_unfolding_all rfl)
    · exact Nat.le_trans u₁.size u2.size
    · exact .inl ⟨vs.drop 1, IsTup.new _ _, by simpa using hi.drop 1⟩
  · have hl := hi.length
    simp only [List.length_cons] at hl
    refine subscriptTail_ops (s := { s₁ with heap := s₁.heap.push { cls := .type "slice", data := .fields #[.int 1 t, .none, .none] } }) h.typeIs list_getitem_lookup
      (wpAny_getItem_list_slice (lo := some 1) (hi := none) (st := none) h (Heap.IsSliceOf.new ..) (.int 1 t) .none .none (by simp) (hQ _ _ (u₁.trans (u2.trans (Up.push _))) ?_ ?_) (by rw [List.size_toArray]; omega)) (by with_unfolding_all rfl) (by intro _; with_unfolding_all rfl)
    · exact Nat.le_trans u₁.size u2.size
    · have := slice_ints_from hi (x := 1) (by decide) (by simp only [List.length_cons]; omega)
      exact .inr ⟨(slicePick vs.toArray (some 1) none none).toList, ⟨_, Heap.get?_push_size _ rfl, rfl, 0, by simp⟩, this⟩

/-- an int, said by what evaluating gives -/
def EvI (prog : Program) (w : World) (A : Around) (env : Env) (J : Shared → Prop) (e : Expr) (n : Int) : Prop :=
  ∀ (s : Shared) (Q : Value → Shared → Prop) (E : Value → Shared → Prop), J s → (∀ t s', Up s s' → Q (.int n t) s') → wpAny (model prog w) A (eval e env) Q E s
theorem EvI.add {J : Shared → Prop} (hJ : ∀ s s', J s → Up s s' → J s') {l r : Expr} {p : Pos} {a b : Int} (h1 : EvI prog w A env J l a) (h2 : EvI prog w A env J r b) : EvI prog w A env J (.BinOp l .Add r p) (a + b) := fun s Q E j h =>
  wpAny_BinOp (h1 s _ E j fun t s₁ u₁ => h2 s₁ _ E (hJ _ _ j u₁) fun t' s₂ u₂ => PyProof.Rows.add_int (h _ _ ((u₁.trans u₂).trans (Up.tok (Nat.le_succ _)))))
theorem EvI.sub {J : Shared → Prop} (hJ : ∀ s s', J s → Up s s' → J s') {l r : Expr} {p : Pos} {a b : Int} (h1 : EvI prog w A env J l a) (h2 : EvI prog w A env J r b) : EvI prog w A env J (.BinOp l .Sub r p) (a - b) := fun s Q E j h =>
  wpAny_BinOp (h1 s _ E j fun t s₁ u₁ => h2 s₁ _ E (hJ _ _ j u₁) fun t' s₂ u₂ => PyProof.Rows.sub_int (h _ _ ((u₁.trans u₂).trans (Up.tok (Nat.le_succ _)))))
theorem EvI.of {J : Shared → Prop} {m : Str → Option Value} (hE : En env) (hJ : ∀ s, J s → s.heap.Ns env.locals m) {e : Expr} {n : Int} (h : IEv env m e n) : EvI prog w A env J e n := fun s Q E j hQ => h.run hE (hJ s j) hQ

/-- a store into a local name: one place is written -/
theorem asg {x : Str} {p pos : Pos} {e : Expr} {Q : Flow → Shared → Prop} (hE : En env) (hx : env.kindOf x = some .local)
    (h : wpAny (model prog w) A (eval e env) (fun v s₁ => ∃ m, s₁.heap.Ns env.locals m ∧ ∀ h', h'.Ns env.locals (fun y => if y = x then some v else m y) → Heap.SameBut env.locals s₁.heap h' → Q .next { s₁ with heap := h', toks := s₁.toks + 1 }) E s)
    (hs : swapsWith e (some (.Name x p)) pos.line env = pure false := by rfl) :
    wpAny (model prog w) A (exec (.Assign [.Name x p] e pos) env) Q E s := by
  refine wpAny_Assign_Name (wpAny_mono h (fun v s₁ h₁ => ?_) fun _ _ z => z) (hs := hs)
  obtain ⟨m, hn, h⟩ := h₁
  exact wpAny_storeName_local hx hn (fun h' hn' hs' => h h' hn' hs') (by rw [hE.kind]; rfl)
end
end Mine
end

section
open PySem PySem.W PySem.Calls PyProof.Rows
set_option linter.unusedVariables false
set_option Elab.async false
set_option maxRecDepth 100000
namespace Mine
theorem meets_tuple_new0 : Meets (Builtin.«tuple.__new__» ⟨[.type "tuple"], []⟩) (fun _ R s => R (.ok (.ret (.ref s.heap.objs.size))) { s with heap := s.heap.push { cls := .type "tuple", data := .seq #[] } }) :=
  .of_wp fun prog w A R s h => by
    obtain ⟨hp, g, d, tk, os⟩ := s
    have hsub := sub_tuple_self
    have hinit := init_tuple_lookup
    have hmh := madeHere_tuple
    wp_walk
    all_goals (first | exact ⟨_, rfl, h⟩ | exact h)
theorem typeCall_tuple_0 : checkTypeCall "tuple" ⟨[], []⟩ = pure () := by kernel_rfl
theorem newCall_tuple_0 : checkBuiltinCall "tuple.__new__" ⟨[.type "tuple"], []⟩ = pure () := by kernel_rfl
theorem initArgs_tuple_0 (obj : Value) : argsOk "object.__init__" ⟨[obj], []⟩ := by unfold argsOk; kernel_rfl
theorem call_tuple0 {prog : Program} {w : World} {A : Around} {E : Value → Shared → Prop} {s : Shared} {Q : Value → Shared → Prop}
    (h : Q (.ref s.heap.objs.size) { s with heap := s.heap.push { cls := .type "tuple", data := .seq #[] } }) : wpAny (model prog w) A (call (.type "tuple") []) Q E s :=
  callType_new F.called_tuple (by decide) typeCall_tuple_0 newCall_tuple_0 (fun obj => initArgs_tuple_0 obj) F.entry_tuple_new meets_tuple_new0 ⟨⟨_, Heap.get?_push_size _ rfl, rfl⟩, h⟩
end Mine
end

section
open PySem PySem.W PySem.Calls PyProof.Rows
set_option linter.unusedVariables false
set_option Elab.async false
set_option maxRecDepth 100000
namespace Mine
open Sem (wp)

def stOf (b s : Int) (tot : Int) : Int := if 0 > b + s - tot then 0 else b + s - tot
def enOf (b s : Int) : Int := if s < b then s else b
def fixedRows : List Int → Int → List (List Int)
  | [], s => if s = 0 then [[]] else []
  | b :: bs, s => if s ≤ (b :: bs).sum then (List.range (enOf b s + 1 - stOf b s (b :: bs).sum).toNat).flatMap fun (i : Nat) => (fixedRows bs (s - (stOf b s (b :: bs).sum + i))).map ((stOf b s (b :: bs).sum + i) :: ·) else []

theorem Run.asg {B : Gnd} {O : Addr → Prop} {OG : Nat → Prop} {s₀ : Shared} {C : Addr → Prop} {CG : Nat → Prop} {s : Shared} {h' : Heap} {L : Addr} (R : Run B O OG s₀ C CG s) (hL : C L) (hs : Heap.SameBut L s.heap h') :
    Run B O OG s₀ C CG { s with heap := h', toks := s.toks + 1 } :=
  R.step ((R.mvOf (D := fun b => b = L) (fun b o hb e => hs.extBut b o hb e) (fun b q => q ▸ hL) (Nat.le_of_eq hs.1.symm) (Nat.le_succ _)).mono (fun b q => .inl (q ▸ hL)) fun _ h => h.elim)

section
variable {prog : Program} {w : World} {A : Around} {E : Value → Shared → Prop} {s : Shared} {env : Env} {mg mb : Str → Option Value} {B : Gnd}

/-- f(x), f a built-in, x a local name -/
theorem ev_b1 (X : Wd mg mb B) (ok : Ok B s.heap) (hE : En env) {f x : Str} {id : String} {p1 p2 pos : Pos} {m : Str → Option Value} {v : Value} {Q : Value → Shared → Prop} (hf : env.kindOf f = some .globalImplicit) (hg : mg f = none) (hb : bootBuiltins f = some (.builtin id)) (hfn : f ≠ "__name__") (hfd : (f == ("__debug__" : Str)) = false)
    (hx : env.kindOf x = some .local) (hd : (x == ("__debug__" : Str)) = false) (hn : s.heap.Ns env.locals m) (hm : m x = some v) (h : wpAny (model prog w) A (call (.builtin id) [v]) Q E s) :
    wpAny (model prog w) A (eval (.Call (.Name f p1) [.Name x p2] [] pos) env) Q E s :=
  Call_ (ldb X ok hE hf hg hb (callWith_builtin1 (args_cons (ldl hE hx hn hm (args_nil h) hd))) hfn hfd)

theorem seg_pure_end {M : Model} {A : Around} {Φ : End → Shared → Prop} {c : Code} {s : Shared} (h : Φ (.ret (.ok (.ret .none))) s) : SegP M A Φ c (.pure (.done (.ret .none))) [] s := segP_end (.ok (.ret .none)) h

theorem ev_tuple0 (X : Wd mg mb B) (ok : Ok B s.heap) (hE : En env) {p1 pos : Pos} {Q : Value → Shared → Prop} (hf : env.kindOf "tuple" = some .globalImplicit)
    (hQ : ∀ a s', Up s s' → s.heap.objs.size ≤ a → TupI s'.heap a [] → Q (.ref a) s') : wpAny (model prog w) A (eval (.Call (.Name "tuple" p1) [] [] pos) env) Q E s := by
  refine Call_ (ldb X ok hE hf (X.free _ (by simp)) boot_tuple (callWith_type0 (call_tuple0 (hQ _ _ (Up.push _) (Nat.le_refl _) ⟨[], IsTup.new _ _, .nil⟩))))

theorem ev_b2 (X : Wd mg mb B) (ok : Ok B s.heap) (hE : En env) {f : Str} {id : String} {p1 pos : Pos} {e1 e2 : Expr} {a b : Int} {J : Shared → Prop} {Q : Value → Shared → Prop} (hf : env.kindOf f = some .globalImplicit) (hg : mg f = none) (hb : bootBuiltins f = some (.builtin id)) (hfn : f ≠ "__name__") (hfd : (f == ("__debug__" : Str)) = false)
    (hJ : ∀ s s', J s → Up s s' → J s') (h1 : EvI prog w A env J e1 a) (h2 : EvI prog w A env J e2 b) (st1 : starEach [e1, e2] env = (false, eval e1 env) :: starEach [e2] env) (st2 : starEach [e2] env = (false, eval e2 env) :: starEach [] env) (j : J s)
    (h : ∀ t t' s', Up s s' → wpAny (model prog w) A (call (.builtin id) [.int a t, .int b t']) Q E s') : wpAny (model prog w) A (eval (.Call (.Name f p1) [e1, e2] [] pos) env) Q E s :=
  Call_ (ldb X ok hE hf hg hb (callWith_builtin1 (args_cons (h1 s _ E j fun t s₁ u₁ => args_cons (h2 s₁ _ E (hJ _ _ j u₁) fun t' s₂ u₂ => args_nil (h t t' s₂ (u₁.trans u₂))) st2) st1) st1 (by rw [st2]; rfl)) hfn hfd)

theorem max2 {a b : Int} {t u : Tok} {Q : Value → Shared → Prop} (hh : A.handled = none) (h : ∀ t' s', Up s s' → Q (.int (if b > a then b else a) t') s') : wpAny (model prog w) A (call (.builtin "max") [.int a t, .int b u]) Q E s :=
  wpAny_sizes (max_two_ints hh fun h' tk hk hz ht => by
    have e : (if b > a then Value.int b u else .int a t) = .int (if b > a then b else a) (if b > a then u else t) := by split <;> rfl
    rw [e]; exact h _ _ (Up.heap hk hz ht))
theorem min2 {a b : Int} {t u : Tok} {Q : Value → Shared → Prop} (hh : A.handled = none) (h : ∀ t' s', Up s s' → Q (.int (if b < a then b else a) t') s') : wpAny (model prog w) A (call (.builtin "min") [.int a t, .int b u]) Q E s :=
  wpAny_sizes (min_two_ints hh fun h' tk hk hz ht => by
    have e : (if b < a then Value.int b u else .int a t) = .int (if b < a then b else a) (if b < a then u else t) := by split <;> rfl
    rw [e]; exact h _ _ (Up.heap hk hz ht))

theorem sum_bound : ∀ (ns : List Int), (∀ x ∈ ns, -1000 ≤ x ∧ x ≤ 1000) → -(1000 * (ns.length : Int)) ≤ ns.sum ∧ ns.sum ≤ 1000 * ns.length
  | [], _ => by simp
  | x :: ns, h => by
    have h1 := h x (by simp)
    have h2 := sum_bound ns fun y hy => h y (by simp [hy])
    simp only [List.sum_cons, List.length_cons]
    omega

theorem seg_asg {d u : Nat} {L : Addr} {O : Addr → Prop} {OG : Nat → Prop} {s₀ : Shared} {C : Addr → Prop} {CG : Nat → Prop} {m : Str → Option Value} {Φ : End → Shared → Prop} {body1 : List Stmt} {env1 : Env} {K : Flow → Sem Fin} {H : Value → Sem Fin} {gd : Bool → Bool} {lv : List Value → List Value}
    {x : Str} {p pos : Pos} {e : Expr} (hE : En env) (hL : env.locals = L) (hx : env.kindOf x = some .local) (R : Run B O OG s₀ C CG s) (hCL : C L) (hns : s.heap.Ns L m) (Pv : Value → Shared → Prop)
    (hev : wpAny (model prog w) (cn (d + 1) (u + 3)) (eval e env) (fun v s₁ => Up s s₁ ∧ Pv v s₁) (fun _ _ => False) s)
    (cont : ∀ v s₁ s' m', Up s s₁ → Pv v s₁ → Run B O OG s₀ C CG s' → s'.heap.Ns L m' → m' x = some v → (∀ z, z ≠ x → m' z = m z) → (∀ b o, b ≠ L → s₁.heap.get? b = some o → s'.heap.get? b = some o) → s₁.heap.objs.size ≤ s'.heap.objs.size →
      SegP (model prog w) (cn d u) Φ (.func body1 env1) (K .next) [] s')
    (hs : swapsWith e (some (.Name x p)) pos.line env = pure false := by rfl) :
    SegP (model prog w) (cn d u) Φ (.func body1 env1) ((exec (.Assign [.Name x p] e pos) env).wrap K H gd lv) [] s := by
  subst hL
  refine segP_Assign (cn_over1 (asg hE hx (wpAny_mono hev (fun v s₁ h₁ => ?_) fun _ _ z => z) hs))
  obtain ⟨u₁, hv⟩ := h₁
  refine ⟨m, u₁.ns hns, fun h' hn' hs' => ⟨rfl, ?_⟩⟩
  exact cont v s₁ _ _ u₁ hv ((R.no u₁.mv).asg hCL hs') hn' (if_pos rfl) (fun z hz => if_neg hz) (fun b o hb e => hs'.extBut b o hb e) (Nat.le_of_eq hs'.1.symm)

theorem fixed_body (X : Wd mg mb B) (f3 : Fn B mg 3 "fixed_integer_vector_iter") (ns : List Int) : ∀ {d u : Nat} {L a v : Addr} {cd : Value} {O : Addr → Prop} {t2 : Tok} {vs : Int} {m : Str → Option Value} {s : Shared},
    ns.length ≤ 60 → d + 3 * ns.length + 10 < 1000 → u + 10 * ns.length + 100 < 9900 → (∀ x ∈ ns, -1000 ≤ x ∧ x ≤ 1000) → 0 ≤ vs → vs ≤ 1000 → O L → Run B O No s O No s → s.heap.Ns L m → m "max_vector" = some (.ref v) → m "vector_sum" = some (.int vs t2) →
    v ≠ L → (O v → SeqI s.heap v ns) → (O v ∨ (v ≠ B.P ∧ SeqI B.K v ns)) →
    SegP (model prog w) (cn d u) (Emit B (model prog w) (cn d u) (IsRow ns.length) (fixedRows ns vs) O No s) (.func (dBody 3) (envOf (dName 3) (dScope 3) L a cd))
      ((model prog w).den (.func (dBody 3) (envOf (dName 3) (dScope 3) L a cd))) [] s := by
  induction ns with
  | nil =>
    intro d u L a v cd O t2 vs m s hn0 hd hu hb hv1 hv2 hOL R hns hm1 hm2 hvL hsq hvk
    have hE : En (envOf (dName 3) (dScope 3) L a cd) := en_of rfl rfl
    have hsq' : SeqI s.heap v [] := by
      rcases hvk with h | ⟨h, h'⟩
      · exact hsq h
      · exact h'.at fun o e => R.ok.keep v o h e
    refine segP_func ?_
    dsimp only [dBody, PySem.Challenge.pw_jf0026_01, List.getElem?_cons_succ, List.getElem?_cons_zero]
    refine segP_execs_cons (segP_If (cn_over1 (cmpI (a := vs) (b := 0) (c := false) hE (.name rfl rfl hm2) .const hns (fun t u s Q h => PyProof.Rows.lt_int (by rw [show decide (vs < 0) = false from by simp; omega]; exact h)) fun sa ua => ?_)))
    rw [if_neg Bool.false_ne_true]
    refine segP_execs_nil (segP_execs_cons (segP_If (cn_over1 (wpAny_isTrue_Compare1 (ev_b1 X (ua.ok R.ok) hE rfl (X.free _ (by simp)) boot_len (by decide) (by decide) rfl rfl (ua.ns hns) hm1 (lenSeq (hsq'.at (ua.keep v)) (by decide) fun t sb ub => evC fun t' sc uc => PyProof.Rows.eq_int (wpAny_truthy_bool ?_)))))))
    have up := (ua.trans ub).trans uc
    show SegP _ _ _ _ (Sem.wrap _ _ _ _ (execs [Stmt.If _ _ _ _, _] _)) _ _
    refine segP_execs_cons (segP_If (cn_over1 (cmpI (a := vs) (b := 0) (c := vs == 0) hE (.name rfl rfl hm2) .const (up.ns hns) (fun t u s Q h => PyProof.Rows.eq_int h) fun sd ud => ?_)))
    have up := up.trans ud
    have R₁ := R.no up.mv
    by_cases hz : vs = 0
    · subst hz
      refine segP_execs_cons (segP_Yield rfl rfl rfl (cn_over1 (ev_tuple0 X R₁.ok hE rfl fun b s₁ u₁ hb h₁ => ?_)) rfl rfl)
      have R₂ := R₁.no u₁.mv
      refine ⟨O, No, R₂, told_row rfl h₁ (fun h => absurd (R₁.live _ h) (Nat.not_lt.mpr hb)) (Nat.le_trans up.size hb), fun s₂ hag R₂ => ?_⟩
      exact segP_execs_nil (segP_execs_cons (segP_Return_none (seg_pure_end ⟨.inl rfl, R₂.mv⟩)))
    · rw [show (vs == 0) = false from by simpa using hz, if_neg Bool.false_ne_true, fixedRows, if_neg hz]
      exact segP_execs_nil (segP_execs_cons (segP_Return_none (seg_pure_end ⟨.inl rfl, R₁.mv⟩)))
  | cons b bs ih =>
    intro d u L a v cd O t2 vs m s hn0 hd hu hb hv1 hv2 hOL R hns hm1 hm2 hvL hsq hvk
    have hE : En (envOf (dName 3) (dScope 3) L a cd) := en_of rfl rfl
    have hroom : d + 1 < recursionLimit := by show d + 1 < 1000; simp only [List.length_cons] at hd; omega
    have seq : ∀ {s : Shared}, Ok B s.heap → (O v → SeqI s.heap v (b :: bs)) → SeqI s.heap v (b :: bs) := fun ok h => by
      rcases hvk with h' | ⟨h', h''⟩
      · exact h h'
      · exact h''.at fun o e => ok.keep v o h' e
    have hm1' := hm1
    have hm2' := hm2
    refine segP_func ?_
    dsimp only [dBody, PySem.Challenge.pw_jf0026_01, List.getElem?_cons_succ, List.getElem?_cons_zero]
    refine segP_execs_cons (segP_If (cn_over1 (cmpI (a := vs) (b := 0) (c := false) hE (.name rfl rfl hm2) .const hns (fun t u s Q h => PyProof.Rows.lt_int (by rw [show decide (vs < 0) = false from by simp; omega]; exact h)) fun sa ua => ?_)))
    rw [if_neg Bool.false_ne_true]
    refine segP_execs_nil (segP_execs_cons (segP_If (cn_over1 (wpAny_isTrue_Compare1 (ev_b1 X (ua.ok R.ok) hE rfl (X.free _ (by simp)) boot_len (by decide) (by decide) rfl rfl (ua.ns hns) hm1 (lenSeq ((seq R.ok hsq).at (ua.keep v)) (by simp only [List.length_cons] at hn0 ⊢; omega) fun t sb ub => evC fun t' sc uc => PyProof.Rows.eq_int (wpAny_truthy_bool ?_)))))))
    rw [show (((b :: bs).length : Int) == 0) = false from by simp; omega, if_neg Bool.false_ne_true]
    have up := (ua.trans ub).trans uc
    have R₀ := R.no up.mv
    have hsq₀ : O v → SeqI sc.heap v (b :: bs) := fun h => (hsq h).at (up.keep v)
    have hns₀ := up.ns hns
    refine segP_execs_nil (segP_execs_cons (seg_asg hE (L := L) rfl rfl R₀ hOL hns₀ (fun v _ => ∃ t, v = .int (b :: bs).sum t) (ev_b1 X R₀.ok hE rfl (X.free _ (by simp)) boot_sum (by decide) (by decide) rfl rfl hns₀ hm1 (sumSeq rfl (seq R₀.ok hsq₀) fun t3 sd ud => ⟨ud, t3, rfl⟩)) ?_))
    rintro _ sd s₁ m₁ ud ⟨t3, rfl⟩ R₁ hns₁ hmt hm₁ hk₁ _
    have hsq₁ : O v → SeqI s₁.heap v (b :: bs) := fun h => ((hsq₀ h).at (ud.keep v)).at fun o e => hk₁ v o hvL e
    have hmv₁ := (hm₁ "max_vector" (by decide)).trans hm1
    have hms₁ := (hm₁ "vector_sum" (by decide)).trans hm2
    clear hsq hns ua ub uc up R₀ hsq₀ hns₀ hm1 hm2 hk₁ ud hm₁
    have htot := sum_bound (b :: bs) hb
    have hbb := hb b (by simp)
    refine segP_execs_cons (segP_If (cn_over1 (cmpI (a := vs) (b := (b :: bs).sum) (c := decide (vs ≤ (b :: bs).sum)) hE (.name rfl rfl hms₁) (.name rfl rfl hmt) hns₁ (fun t u s Q h => PyProof.Rows.le_int h) fun se ue => ?_)))
    have R₂ := R₁.no ue.mv
    have hns₂ := ue.ns hns₁
    have hsq₂ : O v → SeqI se.heap v (b :: bs) := fun h => (hsq₁ h).at (ue.keep v)
    by_cases hle : vs ≤ (b :: bs).sum
    · rw [decide_eq_true hle, if_pos rfl, fixedRows, if_pos hle]
      generalize htt : (b :: bs).sum = tot at *
      -- start
      refine segP_execs_cons (seg_asg hE (L := L) rfl rfl R₂ hOL hns₂ (fun v _ => ∃ t, v = .int (stOf b vs tot) t) (ev_b2 (J := fun s => s.heap.Ns L m₁ ∧ SeqI s.heap v (b :: bs)) (a := b + vs - tot) (b := 0) X R₂.ok hE rfl (X.free _ (by simp)) boot_max (by decide) (by decide)
        (fun s s' j u => ⟨u.ns j.1, j.2.at (u.keep v)⟩) (.sub (fun s s' j u => ⟨u.ns j.1, j.2.at (u.keep v)⟩) (.add (fun s s' j u => ⟨u.ns j.1, j.2.at (u.keep v)⟩) (fun s Q E j h => ev_item0 hE rfl rfl j.1 hmv₁ j.2 h) (.of (m := m₁) hE (fun s j => j.1) (.name rfl rfl hms₁))) (.of (m := m₁) hE (fun s j => j.1) (.name rfl rfl hmt)))
        (.of (m := m₁) hE (fun s j => j.1) .const) rfl rfl ⟨hns₂, seq R₂.ok hsq₂⟩ fun t t' s' us => max2 rfl fun t'' s'' us' => ⟨us.trans us', t'', rfl⟩) ?_)
      rintro _ sd s₃ m₃ ud ⟨t4, rfl⟩ R₃ hns₃ hmst hm₃ hk₃ _
      have hsq₃ : O v → SeqI s₃.heap v (b :: bs) := fun h => ((hsq₂ h).at (ud.keep v)).at fun o e => hk₃ v o hvL e
      have hmv₃ := (hm₃ "max_vector" (by decide)).trans hmv₁
      have hms₃ := (hm₃ "vector_sum" (by decide)).trans hms₁
      -- end
      refine segP_execs_cons (seg_asg hE (L := L) rfl rfl R₃ hOL hns₃ (fun v _ => ∃ t, v = .int (enOf b vs) t) (ev_b2 (J := fun s => s.heap.Ns L m₃ ∧ SeqI s.heap v (b :: bs)) (a := b) (b := vs) X R₃.ok hE rfl (X.free _ (by simp)) boot_min (by decide) (by decide)
        (fun s s' j u => ⟨u.ns j.1, j.2.at (u.keep v)⟩) (fun s Q E j h => ev_item0 hE rfl rfl j.1 hmv₃ j.2 h) (.of (m := m₃) hE (fun s j => j.1) (.name rfl rfl hms₃)) rfl rfl ⟨hns₃, seq R₃.ok hsq₃⟩ fun t t' s' us => min2 rfl fun t'' s'' us' => ⟨us.trans us', t'', rfl⟩) ?_)
      rintro _ sf s₄ m₄ uf ⟨t5, rfl⟩ R₄ hns₄ hmen hm₄ hk₄ _
      have hsq₄ : O v → SeqI s₄.heap v (b :: bs) := fun h => ((hsq₃ h).at (uf.keep v)).at fun o e => hk₄ v o hvL e
      have hmv₄ := (hm₄ "max_vector" (by decide)).trans hmv₃
      have hms₄ := (hm₄ "vector_sum" (by decide)).trans hms₃
      have hmst₄ := (hm₄ "start" (by decide)).trans hmst
      have hN : (b :: bs).length = bs.length + 1 := rfl
      simp only [List.length_cons] at hn0 hd hu htot
      have hst : -100000 ≤ stOf b vs tot ∧ stOf b vs tot ≤ 100000 ∧ 0 ≤ stOf b vs tot := by unfold stOf; split <;> omega
      have hen : -100000 ≤ enOf b vs ∧ enOf b vs ≤ vs := by unfold enOf; split <;> omega
      refine segP_execs_cons ?_
      refine rangeNest (a := stOf b vs tot) (b := enOf b vs + 1) (N := bs.length) (x := "j") (y := "vec") X hE (L := L) rfl rfl rfl (by decide) rfl rfl rfl (by omega) (by omega) (by omega) (by omega) (Nat.le_trans (by omega) sizeLine_big) (fun (i : Nat) => fixedRows bs (vs - (stOf b vs tot + i))) rfl
        (fun z => z = v ∧ O v) (fun m => m "max_vector" = some (.ref v) ∧ ∃ t, m "vector_sum" = some (.int vs t)) (fun h => O v → SeqI h v (b :: bs)) ?_ ?_ (fun h h' j hk o => (j o).at fun ob e => hk v ob ⟨rfl, o⟩ e) (fun z hz => hz.1 ▸ hvL) hroom (by intro _; rfl) ?_ ?_
        R₄ hOL (fun z hz => hz.1 ▸ hz.2) hns₄ ⟨hmv₄, ⟨_, hms₄⟩⟩ hsq₄ (.name rfl rfl hmst₄) (.add (.name rfl rfl hmen) .const)
      · rintro m v ⟨h, ⟨t', h'⟩⟩; exact ⟨(if_neg (by decide)).trans h, ⟨t', (if_neg (by decide)).trans h'⟩⟩
      · rintro m v ⟨h, ⟨t', h'⟩⟩; exact ⟨(if_neg (by decide)).trans h, ⟨t', (if_neg (by decide)).trans h'⟩⟩
      · intro i s O' OG s₀ C CG m t hi R hCL _ hns hm hmx hj
        obtain ⟨hmv, ⟨th, hms⟩⟩ := hm
        obtain ⟨fa, o, pm, cd', doc, hmg, ho, hdata, hcd⟩ := f3
        refine Call_ (ldg X R.ok hE rfl hmg (callWith_def hdata (args_cons (ev_from1 hE rfl rfl hns hmv (seq R.ok hj) (Nat.le_trans (by omega) sizeLine_big) fun r s₁ u₁ hr hsr => args_cons (IEv.runV (n := vs - (stOf b vs tot + i)) hE (.sub (.name rfl rfl hms) (.name rfl rfl hmx)) rfl (u₁.ns hns) fun t'' s₂ u₂ =>
          args_nil ?_)))))
        have up := u₁.trans u₂
        have hrl := hsr.live
        have hz2 := u₂.size
        refine ⟨X.get (up.ok R.ok) ho (by rw [hdata]; exact nofun), wpAny_call (gen_make (binds := [("max_vector", .ref r), ("vector_sum", .int (vs - (stOf b vs tot + i)) t'')]) hroom (X.get (up.ok R.ok) ho (by rw [hdata]; exact nofun)) hdata
          (X.nolimit (up.ok R.ok)) (X.code (up.ok R.ok) hcd) rfl (locs rfl) ?_ rfl rfl rfl)⟩
        intro L' ga s' x
        have hrL : r ≠ L' := fun q => absurd (Nat.lt_of_lt_of_le hrl hz2) (Nat.not_lt.mpr (q ▸ x.nL))
        refine ⟨ga, _, _, _, _, _, rfl, made_of (Oa := fun z => z = r) up x R (fun z hz => hz ▸ ⟨hr, Nat.lt_of_lt_of_le hrl hz2⟩) fun s'' hk R'' hns'' => ih (by omega) (by omega) (by omega) (fun x hx => hb x (by simp [hx])) (by omega) (by omega) (.inl rfl) R'' hns'' rfl rfl hrL (fun _ => ?_) (.inl (.inr rfl))⟩
        exact ((hsr.at (u₂.keep r)).at (x.keep r)).at fun o e => hk r o rfl e
      · intro s O' OG s₀ C CG m R hCL _ hns _ _
        exact segP_execs_nil (seg_pure_end ⟨.inl rfl, R.mv⟩)
    · rw [decide_eq_false hle, if_neg Bool.false_ne_true, fixedRows, if_neg hle]
      exact segP_execs_nil (seg_pure_end ⟨.inl rfl, R₂.mv⟩)
end
end Mine
end

section
open PySem PySem.W PySem.Calls PyProof.Rows
set_option linter.unusedVariables false
set_option Elab.async false
set_option maxRecDepth 100000
namespace Mine
open Sem (wp)

/-- (x, row) as a tuple of an int and a tuple -/
def IsPair (N : Nat) (p : Int × List Int) (h : Heap) (v : Value) : Prop := p.2.length = N ∧ ∃ a t b, v = .ref a ∧ IsTup h a #[.int p.1 t, .ref b] ∧ TupI h b p.2

theorem IsTup.atM {h h' : Heap} {a items} (x : IsTup h a items) (hk : ∀ o, h.get? a = some o → h'.get? a = some o) : IsTup h' a items := let ⟨o, ho, r⟩ := x; ⟨o, hk o ho, r⟩

section
variable {prog : Program} {w : World} {mg mb : Str → Option Value} {B : Gnd}

theorem opt_body (X : Wd mg mb B) (f2 : Fn B mg 2 "_choices") (n : Nat) {d u : Nat} {L a : Addr} {cd : Value} {O : Addr → Prop} {t t' : Tok} {rem : Int} {m : Str → Option Value} {s : Shared}
    (hn0 : n ≤ 60) (hd : d + 3 * n + 20 < 1000) (hu : u + 10 * n + 200 < 9900) (hOL : O L) (R : Run B O No s O No s) (hns : s.heap.Ns L m) (hm1 : m "remaining" = some (.int rem t)) (hm2 : m "count" = some (.int n t')) :
    SegP (model prog w) (cn d u) (Emit B (model prog w) (cn d u) (IsPair n) ((choices n).map fun r => (rem - r.sum, r)) O No s) (.func (dBody 5) (envOf (dName 5) (dScope 5) L a cd))
      ((model prog w).den (.func (dBody 5) (envOf (dName 5) (dScope 5) L a cd))) [] s := by
  have hE : En (envOf (dName 5) (dScope 5) L a cd) := en_of rfl rfl
  have hroom : d + 1 < recursionLimit := by show d + 1 < 1000; omega
  refine segP_func ?_
  dsimp only [dBody, PySem.Challenge.pw_jf0026_01, List.getElem?_cons_succ, List.getElem?_cons_zero]
  obtain ⟨fa, o, pm, cd', doc, hmg, ho, hdata, hcd⟩ := f2
  have f2 : Fn B mg 2 "_choices" := ⟨fa, o, pm, cd', doc, hmg, ho, hdata, hcd⟩
  refine segP_execs_cons (segP_For (cn_over1 (Call_ (ldg X R.ok hE rfl hmg (callWith_def hdata (args_cons (ldl hE rfl hns hm2 (args_nil ⟨X.get R.ok ho (by rw [hdata]; exact nofun),
    wpAny_call (gen_make (binds := [("many", .int n t')]) hroom (X.get R.ok ho (by rw [hdata]; exact nofun)) hdata (X.nolimit R.ok) (X.code R.ok hcd) rfl (locs rfl) ?_ rfl rfl rfl)⟩))))))) (by intro _; rfl))
  intro L' ga s' x
  have mk := made_of (prog := prog) (w := w) (d := d + 1) (u := u + 4) (Is := IsRow n) (rs := choices n) (Oa := No) (Up.refl s) x R (fun _ h => h.elim) fun s'' _ R'' hns'' => choices_body X f2 n (by omega) (by omega) (by omega) (.inl rfl) R'' hns'' rfl
  refine cn_over1 (wpAny_pyIter_gen mk.gat.isGen fun p => ?_)
  have R₁ : Run B O No s _ _ s' := R.go mk.mv.no mk.new mk.gnew
  have hPL : L ≠ B.P := fun q => R.nP (q ▸ hOL)
  rw [← List.append_nil ((choices n).map fun r => (rem - r.sum, r))]
  refine genLoop (y := "p") X hE (L := L) rfl rfl (fun r => (rem - r.sum, r)) [] (fun h => cn_over2 h) rfl ?hfg hroom No (fun m => ∃ t, m "remaining" = some (.int rem t)) (fun _ => True) (fun m v ⟨t, h⟩ => ⟨t, (if_neg (by decide)).trans h⟩) (fun _ _ _ _ => trivial)
    (fun q => absurd (q ▸ mk.gan) (Nat.not_le.mpr (Ns_live hns))) ?_ ?_ (choices n) s' O No s _ _ _ _ m R₁ mk.gat (mk.sub _ hOL) mk.ga' mk.oi (mk.noC _ (Ns_live hns)) mk.noga mk.ogi mk.g' (fun _ h => h.elim) (mk.mv.ns hns id hPL) ⟨t, hm1⟩ trivial
  case hfg => rfl
  · intro r v s O OG s₀ C CG m R hCL _ hns hm hmy _ ht
    obtain ⟨t, hm⟩ := hm
    obtain ⟨hl, b, rfl, hb⟩ := ht.now
    refine Tuple_ (args_cons (wpAny_BinOp (ldl hE rfl hns hm (ev_b1 X R.ok hE rfl (X.free _ (by simp)) boot_sum (by decide) (by decide) rfl rfl hns hmy (sumSeq rfl (.inl hb) fun t2 s₁ u₁ => PyProof.Rows.sub_int ?_)))))
    have u₂ : Up s { s₁ with toks := s₁.toks + 1 } := u₁.trans (Up.tok (Nat.le_succ _))
    refine args_cons (ldl hE rfl (u₂.ns hns) hmy (args_nil (newTupV (Nat.le_trans (by simp) sizeLine_big) fun ap s₃ u₃ hap hpt => ?_)))
    have up := u₂.trans u₃
    have hap' := Nat.le_trans u₂.size hap
    refine ⟨up.mv, fun h'' hk => ⟨hl, ap, _, b, rfl, IsTup.atM hpt fun o e => hk ap o (fun h => absurd (R.live _ h) (Nat.not_lt.mpr hap')) (Nat.le_trans R.mv.size hap') e, ?_⟩⟩
    have := ht h'' fun b o hb hn e => hk b o hb hn (up.keep b o e)
    obtain ⟨_, b', e, hb'⟩ := this
    cases e
    exact hb'
  · intro s O OG s₀ C CG m R hCL _ hns _ _
    exact seg_pure_end ⟨.inl rfl, R.mv⟩
end
end Mine
end

section
open PySem PySem.W PySem.Calls PyProof.Rows
set_option linter.unusedVariables false
set_option Elab.async false
set_option maxRecDepth 100000
namespace Mine
open Sem (wp)

inductive All2 {α β : Type} (R : α → β → Prop) : List α → List β → Prop
  | nil : All2 R [] []
  | cons {a b as bs} : R a b → All2 R as bs → All2 R (a :: as) (b :: bs)
theorem All2.mono {α β : Type} {R R' : α → β → Prop} {as : List α} {bs : List β} (h : All2 R as bs) (hR : ∀ a b, R a b → R' a b) : All2 R' as bs := by
  induction h with
  | nil => exact .nil
  | cons h _ ih => exact .cons (hR _ _ h) ih
theorem All2.length {α β : Type} {R : α → β → Prop} {as : List α} {bs : List β} (h : All2 R as bs) : as.length = bs.length := by
  induction h with
  | nil => rfl
  | cons _ _ ih => simp [ih]
theorem All2.snoc {α β : Type} {R : α → β → Prop} {as : List α} {bs : List β} {a : α} {b : β} (h : All2 R as bs) (hr : R a b) : All2 R (as ++ [a]) (bs ++ [b]) := by
  induction h with
  | nil => exact .cons hr .nil
  | cons h _ ih => exact .cons h ih
theorem All2.append {α β : Type} {R : α → β → Prop} {as as' : List α} {bs bs' : List β} (h : All2 R as bs) (h' : All2 R as' bs') : All2 R (as ++ as') (bs ++ bs') := by
  induction h with
  | nil => exact h'
  | cons h _ ih => exact .cons h ih

def Kept {ρ : Type} (B : Gnd) (Is : ρ → Heap → Value → Prop) (O : Addr → Prop) (S : Addr) (h : Heap) (r : ρ) (v : Value) : Prop :=
  ∀ h'' : Heap, (∀ b o, ¬ O b → b ≠ S → b ≠ B.P → h.get? b = some o → h''.get? b = some o) → Is r h'' v
theorem Kept.now {ρ : Type} {B : Gnd} {Is : ρ → Heap → Value → Prop} {O S} {h : Heap} {r v} (x : Kept B Is O S h r v) : Is r h v := x h fun _ _ _ _ _ e => e
theorem Kept.of {ρ : Type} {B : Gnd} {Is : ρ → Heap → Value → Prop} {O : Addr → Prop} {S : Addr} {s₀ : Shared} {h : Heap} {r v} (x : Told Is O s₀ r h v) (hS : S < s₀.heap.objs.size) (hP : B.P < s₀.heap.objs.size) : Kept B Is O S h r v :=
  fun h'' hk => x h'' fun b o hb hn e => hk b o hb (fun q => absurd (q ▸ hS) (Nat.not_lt.mpr hn)) (fun q => absurd (q ▸ hP) (Nat.not_lt.mpr hn)) e
theorem Kept.step {ρ : Type} {B : Gnd} {Is : ρ → Heap → Value → Prop} {O O' : Addr → Prop} {S : Addr} {h h' : Heap} {r v} (x : Kept B Is O S h r v) (hO : ∀ b, O' b → O b ∨ h.objs.size ≤ b)
    (hk : ∀ b o, ¬ O b → b ≠ S → b ≠ B.P → h.get? b = some o → h'.get? b = some o) : Kept B Is O' S h' r v :=
  fun h'' hk' => x h'' fun b o hb hS hP e => hk' b o (fun q => (hO b q).elim hb fun z => absurd (Heap.lt_size e) (Nat.not_lt.mpr z)) hS hP (hk b o hb hS hP e)

abbrev lstObj (acc : Array Value) (c : Nat) : Obj := { cls := .type "list", dict := none, data := .seq acc c, slots := #[] }

section
variable {prog : Program} {w : World} {mg mb : Str → Option Value} {B : Gnd} {ρ : Type} {Is : ρ → Heap → Value → Prop} {R : Result → Shared → Prop}

theorem upd_size {h : Heap} {a : Addr} {f : Obj → Obj} : (h.update a f).objs.size = h.objs.size := Heap.size_after_update ..

/-- a write to a place of one's own, no place of the ground -/
theorem Mv.one {W : Addr → Prop} {G : Nat → Prop} {s : Shared} {h' : Heap} {tk : Nat} {a : Addr} (hk : ∀ b o, b ≠ a → s.heap.get? b = some o → h'.get? b = some o) (ha : W a) (hz : s.heap.objs.size ≤ h'.objs.size)
    (hK : B.K.get? a = none) (hP : a ≠ B.P) (hc : a ≠ B.c) (ht : s.toks ≤ tk) : Mv B W G s { s with heap := h', toks := tk } :=
  Mv.but (fun b o hb e => hk b o hb e) ha hz hK hP hc ht

theorem extend_gat (X : Wd mg mb B) {d u : Nat} (hroom : d < recursionLimit) {S I : Addr} {g : Nat} (res : Value) (hSI : S ≠ I) (hSP : S ≠ B.P) (hSc : S ≠ B.c) (hSK : B.K.get? S = none) (hIP : I ≠ B.P) :
    ∀ (rs : List ρ) (s : Shared) (ds : List ρ) (acc : Array Value) (c : Nat) (O : Addr → Prop) (OG : Nat → Prop), GAt B (model prog w) (cn d (u + 2)) Is rs O OG I g s → Ok B s.heap → s.heap.get? S = some (lstObj acc c) → ¬ O S → ¬ O I →
      All2 (Kept B Is O S s.heap) ds acc.toList → acc.size + rs.length ≤ sizeLine →
      (∀ s' acc' c' O', Mv B (fun b => O b ∨ b = S) (fun i => OG i ∨ i = g) s s' → s'.heap.get? S = some (lstObj acc' c') → All2 (Kept B Is O' S s'.heap) (ds ++ rs) acc'.toList → R (.ok (.ret res)) s') →
      codeAny (model prog w) (cn d u) (.builtin "list.extend.loop" ⟨[.ref S, .ref I, res], []⟩) R s := by
  intro rs
  induction rs with
  | nil =>
    intro s ds acc c O OG G ok hS hOS hOI hacc hsz hR
    refine codeAny_builtin F.entry_extend_loop ?_
    rw [Around.under_plainId F.plain_extend_loop _]
    show wpAny _ (cn d (u + 1)) (pyNext (.ref I) >>= _) _ _ s
    refine wpAny_bind (GAt.stop (A := cn d (u + 1)) G rfl (X.nolimit ok) hroom ok fun s' mv => ?_)
    refine wpAny_pure (hR s' acc c O (mv.mono (fun b h => .inl (.inl h)) fun i h => .inl h) (mv.heap S _ hOS hSP hS) ?_)
    rw [List.append_nil]
    exact hacc.mono fun r v k => k.step (fun b h => .inl h) fun b o hb _ hP e => mv.heap b o hb hP e
  | cons r rs ih =>
    intro s ds acc c O OG G ok hS hOS hOI hacc hsz hR
    simp only [List.length_cons] at hsz
    refine codeAny_builtin F.entry_extend_loop ?_
    rw [Around.under_plainId F.plain_extend_loop _]
    show wpAny _ (cn d (u + 1)) (pyNext (.ref I) >>= _) _ _ s
    refine wpAny_bind (GAt.item (A := cn d (u + 1)) G rfl (X.nolimit ok) hroom ok hOI hIP fun v s' O' OG' ht G' mv hO' hOG' => ?_)
    have hS' := mv.heap S _ hOS hSP hS
    show wpAny _ (cn d (u + 1)) (updateSeq S (·.push v) >>= _) _ _ _
    refine wpAny_bind ?_
    have hSl : S < s.heap.objs.size := Heap.lt_size hS
    have hO'S : ¬ O' S := fun h => (hO' S h).elim hOS fun q => absurd hSl (Nat.not_lt.mpr q)
    have hIl : I < s.heap.objs.size := let ⟨_, _, _, e, _⟩ := G.isGen; Heap.lt_size e
    have hO'I : ¬ O' I := fun h => (hO' I h).elim hOI fun q => absurd hIl (Nat.not_lt.mpr q)
    have ok' := mv.ok ok
    refine wpAny_updateSeq hS' rfl (wpAny_pure ⟨plainId_quiet F.plain_extend_loop _, ?_⟩) (by omega) (by show (acc.push v).size ≤ sizeLine + 1; rw [Array.size_push]; omega)
    have hoth : ∀ b o, b ≠ S → s'.heap.get? b = some o → (s'.heap.update S (Obj.mapSeq (·.push v))).get? b = some o := fun b o hb e => (Heap.get?_update_other _ _ (Ne.symm hb)).trans e
    have mv₂ : Mv B (fun b => b = S) No s' { s' with heap := s'.heap.update S (Obj.mapSeq (·.push v)), toks := s'.toks } := Mv.one hoth rfl (Nat.le_of_eq upd_size.symm) hSK hSP hSc (Nat.le_refl _)
    have hSk : ∀ b, ¬ (b = S) → True := fun _ _ => trivial
    refine ih _ (ds ++ [r]) (acc.push v) _ O' OG' (G'.ag (mv₂.ag ok' (fun b hb q => hb.elim (fun z => hO'S (q ▸ z)) fun z => hSI (q.symm.trans z)) (fun h => h.elim G'.nP fun q => hIP q.symm) (fun _ _ h => h) fun i hi => hi.elim (G'.lG i) fun q => q ▸ G'.lt)) (mv₂.ok ok') (Heap.get?_update_self _ hS' rfl) hO'S hO'I ?_ ?_ fun s'' acc' c' O'' mv₃ hS'' hacc'' => ?_
    · rw [Array.toList_push]
      have hkk : ∀ b o, b ≠ S → s'.heap.get? b = some o → (s'.heap.update S (Obj.mapSeq (·.push v))).get? b = some o := hoth
      refine All2.snoc (hacc.mono fun r v k => ?_) ?_
      · exact (k.step hO' fun b o hb _ hP e => mv.heap b o hb hP e).step (fun b h => .inl h) fun b o _ hS _ e => hoth b o hS e
      · exact (Kept.of ht hSl ok.liveP).step (fun b h => .inl h) fun b o _ hS _ e => hoth b o hS e
    · rw [Array.size_push]; omega
    · have hz1 := mv.size
      refine hR s'' acc' c' O'' (((mv.mono (fun b h => .inl (.inl h)) fun i h => .inl h : Mv B (fun b => O b ∨ b = S) (fun i => OG i ∨ i = g) s s').trans mv₂ (fun b h => .inl (.inr h)) fun _ h => h.elim).trans mv₃ ?_ ?_) hS'' (by rw [List.append_assoc] at hacc''; exact hacc'')
      · rintro b (h | h)
        · exact (hO' b h).elim (fun z => .inl (.inl z)) .inr
        · exact .inl (.inr h)
      · rintro i (h | h)
        · exact (hOG' i h).elim (fun z => .inl (.inl z)) .inr
        · exact .inl (.inr h)
end
end Mine
end

section
open PySem PySem.W PySem.Calls PyProof.Rows
set_option linter.unusedVariables false
set_option Elab.async false
set_option maxRecDepth 100000
namespace Mine
open Sem (wp)

section
variable {prog : Program} {w : World} {A : Around} {E : Value → Shared → Prop} {s : Shared}

/-- up to the loop that asks the generator -/
theorem extend_pre {Q : PySem.Fin → Shared → Prop} {S I : Addr} {g c₀ : Nat} {res : Value} (hg : s.heap.IsGen I g) (hSI : S ≠ I) (hS : s.heap.get? S = some (lstObj #[] c₀))
    (h : ∀ h' c, (∀ b o, b ≠ S → s.heap.get? b = some o → h'.get? b = some o) → h'.objs.size = s.heap.objs.size → h'.get? S = some (lstObj #[] c) → Q (.again (.builtin "list.extend.loop" ⟨[.ref S, .ref I, res], []⟩)) { s with heap := h' }) :
    wpAny (model prog w) A.in1 (Builtin.List.listExtendWith (.ref S) (.ref I) res) Q E s := by
  unfold Builtin.List.listExtendWith
  refine wpAny_bind (wpAny_typeOf hg.typeIs ?_)
  have h1 : Builtin.List.listSameRef (.ref S) (.ref I) = false := by simp [Builtin.List.listSameRef, hSI]
  have h2 : (Value.type "generator" == Value.type "list") = false := by decide
  have h3 : (Value.type "generator" == Value.type "tuple") = false := by decide
  simp only [h1, h2, h3, Bool.or_false, Bool.false_eq_true, if_false]
  refine wpAny_bind (wpAny_pyIter_gen hg ?_)
  refine wpAny_bind (wpAny_holding ?_)
  unfold Builtin.List.listLengthHint
  refine wpAny_bind (wpAny_specialOf hg.typeIs F.gen_no_len ?_)
  show wpAny _ A.in1 (specialOf (Value.ref I) (Str.ofString "__length_hint__") >>= _) _ _ _
  refine wpAny_bind (wpAny_specialOf hg.typeIs F.gen_no_hint ?_)
  refine wpAny_pure ?_
  show wpAny _ A.in1 (rule "list.extend.makes-room" >>= fun _ => Builtin.List.listTouch (.ref S) >>= fun _ =>
    again (.builtin "list.extend.loop" ⟨[.ref S, .ref I, res], []⟩)) _ _ _
  refine wpAny_bind (wpAny_rule ?_)
  refine wpAny_bind ?_
  show wpAny _ A.in1 (updateSeq S (·.push .none) >>= fun _ => updateSeq S (·.pop)) _ _ _
  refine wpAny_bind (wpAny_updateSeq hS rfl ?_)
  have hS₂ := Heap.get?_update_self (Obj.mapSeq (·.push Value.none)) hS rfl
  refine wpAny_updateSeq (hz := by seq_fits) hS₂ rfl ?_
  have hS₃ := Heap.get?_update_self (Obj.mapSeq (·.pop)) hS₂ rfl
  exact wpAny_pure (h _ _ (fun b o hb e => (Heap.get?_update_other _ _ (Ne.symm hb)).trans ((Heap.get?_update_other _ _ (Ne.symm hb)).trans e)) (by simp) hS₃)

theorem list_pre {I : Addr} {g : Nat} {Q : Value → Shared → Prop} (hg : s.heap.IsGen I g)
    (h : ∀ h' c, (∀ b o, s.heap.get? b = some o → h'.get? b = some o) → h'.objs.size = s.heap.objs.size + 1 → h'.get? s.heap.objs.size = some (lstObj #[] c) →
      codeAny (model prog w) A.in1 (.builtin "list.extend.loop" ⟨[.ref s.heap.objs.size, .ref I, .none], []⟩) (wants (fun r s₂ => r = .none ∧ Q (.ref s.heap.objs.size) s₂) E) { s with heap := h' }) :
    wpAny (model prog w) A (call (.type "list") [.ref I]) Q E s := by
  have hIl : I < s.heap.objs.size := let ⟨_, _, _, e, _⟩ := hg; Heap.lt_size e
  refine callType_codes (Q₁ := fun obj s₁ => obj = .ref s.heap.objs.size ∧ s₁ = { s with heap := s.heap.push { cls := .type "list", data := .seq #[] } }) F.called_list (F.typeCall_list_1 _) F.entry_list_init
    (code_list_new _ ⟨rfl, rfl⟩) fun obj s₁ h₁ => ?_
  obtain ⟨rfl, rfl⟩ := h₁
  have hS : (s.heap.push { cls := .type "list", data := .seq #[] }).get? s.heap.objs.size = some (lstObj #[] 0) := Heap.get?_push_size _ rfl
  refine ⟨⟨_, hS, rfl⟩, F.args_list_init_2 _ _, ?_⟩
  show wpAny _ A.in1.in1 (do let old ← Builtin.List.listItems (.ref s.heap.objs.size); Builtin.List.listUpdate (.ref s.heap.objs.size) (fun _ => #[]); letGo old.toList.reverse; Builtin.List.listExtendWith (.ref s.heap.objs.size) (.ref I) .none) _ _ _
  refine wpAny_bind ?_
  unfold Builtin.List.listItems
  refine wpAny_bind (wpAny_seqItems hS rfl (wpAny_pure ?_))
  show wpAny _ A.in1.in1 (updateSeq s.heap.objs.size (fun _ => #[]) >>= fun _ => letGo (#[] : Array Value).toList.reverse >>= fun _ => Builtin.List.listExtendWith (.ref s.heap.objs.size) (.ref I) .none) _ _ _
  refine wpAny_bind (wpAny_updateSeq hS rfl ?_)
  have hS₂ := Heap.get?_update_self (Obj.mapSeq (fun _ => (#[] : Array Value))) hS rfl
  refine wpAny_bind (wpAny_letGo ?_)
  have hne : s.heap.objs.size ≠ I := Nat.ne_of_gt hIl
  have keep : ∀ b o, s.heap.get? b = some o → ((s.heap.push { cls := .type "list", data := .seq #[] }).update s.heap.objs.size (Obj.mapSeq (fun _ => (#[] : Array Value)))).get? b = some o :=
    fun b o e => (Heap.get?_update_other _ _ (Nat.ne_of_gt (Heap.lt_size e))).trans (Heap.get?_push_of_some _ e)
  refine extend_pre (c₀ := _) (hg.keeps keep) hne hS₂ fun h' c hk hz hS' => ?_
  exact ⟨plainId_quiet F.plain_extend_loop _, h h' c (fun b o e => hk b o (Nat.ne_of_lt (Heap.lt_size e)) (keep b o e)) (by rw [hz]; simp) hS'⟩

theorem collect_pre {I : Addr} {g : Nat} {Q : List Value → Shared → Prop} (hg : s.heap.IsGen I g)
    (h : ∀ h' c, (∀ b o, s.heap.get? b = some o → h'.get? b = some o) → h'.objs.size = s.heap.objs.size + 1 → h'.get? s.heap.objs.size = some (lstObj #[] c) →
      codeAny (model prog w) A (.builtin "list.extend.loop" ⟨[.ref s.heap.objs.size, .ref I, .ref s.heap.objs.size], []⟩) (fun r s' => ∃ acc c, r = .ok (.ret (.ref s.heap.objs.size)) ∧ s'.heap.get? s.heap.objs.size = some (lstObj acc c) ∧ Q acc.toList s') { s with heap := h' }) :
    wpAny (model prog w) A (collect (.ref I)) Q E s := by
  have hIl : I < s.heap.objs.size := let ⟨_, _, _, e, _⟩ := hg; Heap.lt_size e
  have hne : s.heap.objs.size ≠ I := Nat.ne_of_gt hIl
  unfold collect
  refine wpAny_bind (wpAny_runValue (codeAny_builtin F.entry_proto_collect ?_))
  rw [Around.under_plainId F.plain_proto_collect _]
  show wpAny _ A.in1 (newList [] >>= fun l => again (.builtin "list.__iadd__" ⟨[l, .ref I], []⟩)) _ _ s
  refine wpAny_bind (wpAny_newObj_type ?_)
  refine wpAny_pure ⟨plainId_quiet F.plain_list_iadd _, codeAny_builtin F.entry_list_iadd ?_⟩
  rw [Around.under_plainId F.plain_list_iadd _]
  have hS : (s.heap.push { cls := .type "list", data := .seq ([] : List Value).toArray }).get? s.heap.objs.size = some (lstObj #[] 0) := Heap.get?_push_size _ rfl
  show wpAny _ A.in1 (Builtin.List.listExtendWith (.ref s.heap.objs.size) (.ref I) (.ref s.heap.objs.size)) _ _ _
  refine extend_pre (s := { s with heap := s.heap.push { cls := .type "list", data := .seq ([] : List Value).toArray } }) (c₀ := 0) (hg.push _) hne hS fun h' c hk hz hS' => ?_
  refine ⟨plainId_quiet F.plain_extend_loop _, codeAny_mono (h h' c (fun b o e => hk b o (Nat.ne_of_lt (Heap.lt_size e)) (Heap.get?_push_of_some _ e)) (by rw [hz]; simp) hS') fun r s' hr => ?_⟩
  obtain ⟨acc, c', rfl, hS'', hQ⟩ := hr
  show wpAny _ A (load s.heap.objs.size >>= _) _ _ s'
  exact wpAny_bind (wpAny_load hS'' (wpAny_pure hQ))

theorem tuple_pre {I : Addr} {g : Nat} {Q : Value → Shared → Prop} (hg : s.heap.IsGen I g)
    (h : ∀ h' c, (∀ b o, s.heap.get? b = some o → h'.get? b = some o) → h'.objs.size = s.heap.objs.size + 1 → h'.get? s.heap.objs.size = some (lstObj #[] c) →
      codeAny (model prog w) A.in1.in1 (.builtin "list.extend.loop" ⟨[.ref s.heap.objs.size, .ref I, .ref s.heap.objs.size], []⟩) (fun r s' => ∃ acc c, r = .ok (.ret (.ref s.heap.objs.size)) ∧ s'.heap.get? s.heap.objs.size = some (lstObj acc c) ∧ acc.size ≤ sizeLine ∧
        Q (.ref s'.heap.objs.size) { s' with heap := s'.heap.push { cls := .type "tuple", data := .seq acc } }) { s with heap := h' }) :
    wpAny (model prog w) A (call (.type "tuple") [.ref I]) Q E s := by
  have hIl : I < s.heap.objs.size := let ⟨_, _, _, e, _⟩ := hg; Heap.lt_size e
  have hne : s.heap.objs.size ≠ I := Nat.ne_of_gt hIl
  refine callType_codes (Q₁ := fun obj s₁ => s₁.TypeIs obj "tuple" ∧ Q obj s₁) F.called_tuple (F.typeCall_tuple_1 _) F.entry_object_init ?_
    fun obj s₁ h₁ => ⟨h₁.1, F.args_object_init_2 obj _, object_init_meets F.called_tuple.init.lookup F.called_tuple.made (by decide) prog w A.in1 _ s₁ ⟨h₁.1, rfl, h₁.2⟩⟩
  refine codeAny_of_tree ?_
  show wpAny _ A.in1.in1 (do checkBuiltinCall "tuple.__new__" ⟨[.type "tuple", .ref I], []⟩; again (.builtin "tuple.__new__" ⟨[.type "tuple", .ref I], []⟩)) _ _ s
  refine wpAny_bind (wpAny_of_eq (F.newCall_tuple_1 _) (wpAny_pure ⟨plainId_quiet F.plain_tuple_new _, codeAny_builtin F.entry_tuple_new ?_⟩))
  rw [Around.under_plainId F.plain_tuple_new _]
  have hsub := sub_tuple_self
  have hinit := init_tuple_lookup
  have hmh := madeHere_tuple
  have hTI := hg.typeIs
  wp_walk using wpAny_typeOf hTI, collect_pre hg
  intro h' c hk hz hS'
  refine codeAny_mono (h h' c hk hz hS') fun r s' hr => ?_
  obtain ⟨acc, c', rfl, hS'', hsz, hQ⟩ := hr
  refine ⟨acc, c', rfl, hS'', ?_⟩
  show wpAny _ _ (Builtin.Tuple.tupleExact acc.toList.toArray >>= fun v => ret v) _ _ _
  unfold Builtin.Tuple.tupleExact
  refine wpAny_bind (wpAny_newObj_type ?_ (by show acc.toList.toArray.size ≤ sizeLine; simpa using hsz))
  refine wpAny_pure ?_
  have e : acc.toList.toArray = acc := by simp
  rw [e]
  exact ⟨⟨_, Heap.get?_push_size _ rfl, rfl⟩, hQ⟩
end
end Mine
end

section
open PySem PySem.W PySem.Calls PyProof.Rows
set_option linter.unusedVariables false
set_option Elab.async false
set_option maxRecDepth 100000
namespace Mine
open Sem (wp)

/-! ### zip of two tuples -/
section
variable {prog : Program} {w : World} {A : Around} {E : Value → Shared → Prop} {s : Shared}

theorem nextOf_item {it t : Addr} {i : Nat} {items : Array Value} {x : Value} {Q : Value → Shared → Prop} (hit : s.heap.IsTupleIter it t i) (ht : s.heap.IsTuple t items) (hx : items[i]? = some x)
    (hQ : ∀ h', h'.IsTupleIter it t (i + 1) → Heap.SameBut it s.heap h' → Q x { s with heap := h' }) : wpAny (model prog w) A (Builtin.SmallTypes.nextOf (.ref it)) Q E s := by
  obtain ⟨o, ho, hc, hd⟩ := id hit
  obtain ⟨ol, hol, _, nl, hdl⟩ := ht
  unfold Builtin.SmallTypes.nextOf
  refine wpAny_bind (wpAny_callSpecial?_slot (name := Str.ofString "__next__") hit.typeIs F.slot_tuple_iterator_next
    (wpAny_call_entry F.slot_tuple_iterator_next hit.typeIs F.entry_tuple_iterator_next ?_ (F.args_tuple_iterator_next_1 _)))
  show wpAny _ _ (field (.ref it) 0 >>= _) _ _ s
  refine wpAny_bind (wpAny_field ho hd (x := .ref t) rfl ?_)
  show wpAny _ _ (if (Value.ref t == Value.none) = true then _ else _) _ _ s
  rw [if_neg (show ¬ ((Value.ref t == Value.none) = true) from Bool.false_ne_true)]
  show wpAny _ _ (field (.ref it) 1 >>= _) _ _ s
  refine wpAny_bind (wpAny_field ho hd (x := .int i 0) rfl ?_)
  show wpAny _ _ (seqItems? (.ref t) >>= _) _ _ s
  refine wpAny_bind (wpAny_seqItems hol hdl ?_)
  simp only [Int.toNat_natCast, hx]
  refine wpAny_bind (wpAny_setField ho hd (by simp) (wpAny_pure ⟨x, rfl, wpAny_pure (hQ _ ?_ (Heap.SameBut.update ..))⟩))
  exact ⟨_, Heap.get?_update_self _ ho (Obj.isFreed_of_fields (Obj.data_mapFields hd _)), (Obj.cls_mapFields ..).trans hc, by rw [Obj.data_mapFields hd]; simp [rawInt]⟩

theorem nextOf_end {it t : Addr} {i : Nat} {items : Array Value} {Q : Value → Shared → Prop} (hh : A.handled = none) (hit : s.heap.IsTupleIter it t i) (ht : s.heap.IsTuple t items) (hx : items[i]? = none)
    (hE : ∀ h' e, Heap.ExtBut it s.heap h' → (∃ o, h'.get? e = some o ∧ o.cls = .type "StopIteration") → E (.ref e) { s with heap := h' }) : wpAny (model prog w) A (Builtin.SmallTypes.nextOf (.ref it)) Q E s := by
  obtain ⟨o, ho, hc, hd⟩ := id hit
  obtain ⟨ol, hol, _, nl, hdl⟩ := ht
  unfold Builtin.SmallTypes.nextOf
  refine wpAny_bind (wpAny_callSpecial?_slot (name := Str.ofString "__next__") hit.typeIs F.slot_tuple_iterator_next
    (wpAny_call_entry F.slot_tuple_iterator_next hit.typeIs F.entry_tuple_iterator_next ?_ (F.args_tuple_iterator_next_1 _)))
  show wpAny _ _ (field (.ref it) 0 >>= _) _ _ s
  refine wpAny_bind (wpAny_field ho hd (x := .ref t) rfl ?_)
  show wpAny _ _ (if (Value.ref t == Value.none) = true then _ else _) _ _ s
  rw [if_neg (show ¬ ((Value.ref t == Value.none) = true) from Bool.false_ne_true)]
  show wpAny _ _ (field (.ref it) 1 >>= _) _ _ s
  refine wpAny_bind (wpAny_field ho hd (x := .int i 0) rfl ?_)
  show wpAny _ _ (seqItems? (.ref t) >>= _) _ _ s
  refine wpAny_bind (wpAny_seqItems hol hdl ?_)
  simp only [Int.toNat_natCast, hx]
  refine wpAny_bind (wpAny_rule (wpAny_bind (wpAny_setField ho hd (by simp) ?_)))
  show wpAny _ _ (newExc (.type "StopIteration") [] >>= _) _ _ _
  refine wpAny_bind ?_
  simp only [newExc, newTuple]
  refine wpAny_bind (wpAny_newObj_type ?_ (by size_fits))
  refine wpAny_bind (m := firstArgMember _ _) (wpAny_of_eq (a := Value.none) (by first | rfl | (simp only [firstArgMember]; rfl)) ?_)
  refine wpAny_newObj_type ?_ (by size_fits)
  simp only [raiseNew]
  refine wpAny_bind (wpAny_handled ?_)
  first | rw [show A.in1.handled = none from hh] | rw [hh]
  refine wpAny_bind (wpAny_pure (wpAny_throw ?_))
  exact hE _ _ (((Heap.SameBut.update ..).extBut.push _).push _) ⟨_, Heap.get?_push_size _ rfl, rfl⟩

/-- the places of a zip of two tuples are all different -/
structure ZA (z TI TO i1 i2 l1 l2 : Addr) : Prop where
  nd : [z, TO, i1, i2].Nodup
  TI : TI ∉ [z, TO, i1, i2]
  l1 : l1 ∉ [z, TO, i1, i2]
  l2 : l2 ∉ [z, TO, i1, i2]

def ZSt (z TI TO i1 i2 l1 l2 : Addr) (xs ys : Array Value) (f0 : Value) (i : Nat) (h : Heap) : Prop :=
  IsZip h z TI TO f0 ∧ PySem.IsPair h TI (.ref i1) (.ref i2) ∧ (∃ a b, PySem.IsPair h TO a b) ∧ h.IsTupleIter i1 l1 i ∧ h.IsTupleIter i2 l2 i ∧ h.IsTuple l1 xs ∧ h.IsTuple l2 ys

theorem zip_item {z TI TO i1 i2 l1 l2 : Addr} {k : Nat} {xs ys : Array Value} {x y : Value} {Q : Value → Shared → Prop} (D : ZA z TI TO i1 i2 l1 l2) (st : ZSt z TI TO i1 i2 l1 l2 xs ys .none k s.heap) (hx : xs[k]? = some x) (hy : ys[k]? = some y)
    (hQ : ∀ T h', s.heap.objs.size ≤ T → ZSt z TI TO i1 i2 l1 l2 xs ys (rawInt T) (k + 1) h' → PySem.IsPair h' T x y →
      (∀ c o, c ∉ [z, TO, i1, i2] → s.heap.get? c = some o → h'.get? c = some o) → Q (.ref T) { s with heap := h' }) :
    wpAny (model prog w) A (Builtin.«zip.__next__» ⟨[.ref z], []⟩) (fun fin s' => ∃ v, fin = .done (.ret v) ∧ Q v s') E s := by
  obtain ⟨hz, hTI, ⟨a, b, hTO⟩, h1, h2, hl1, hl2⟩ := st
  have D1 := D.nd; have D2 := D.TI; have D3 := D.l1; have D4 := D.l2
  simp only [List.nodup_cons, List.mem_cons, List.not_mem_nil, or_false, not_or, not_false_eq_true, List.nodup_nil, and_true] at D1 D2 D3 D4
  obtain ⟨⟨nzTO, nzi1, nzi2⟩, ⟨nTOi1, nTOi2⟩, ni12⟩ := D1
  show wpAny _ _ (field (.ref z) 2 >>= _) _ _ _
  refine wpAny_bind (wpAny_field hz rfl (x := .bool false) rfl ?_)
  show wpAny _ _ (field (.ref z) 3 >>= _) _ _ _
  refine wpAny_bind (wpAny_field hz rfl (x := .ref TI) rfl ?_)
  refine wpAny_bind (wpAny_seqItems hTI rfl ?_)
  show wpAny _ _ (Builtin.SmallTypes.ownedTupleIsFree (.ref z) >>= _) _ _ _
  refine wpAny_bind ?_
  unfold Builtin.SmallTypes.ownedTupleIsFree
  refine wpAny_bind (wpAny_field hz rfl (x := .none) rfl (wpAny_pure ?_))
  simp only [if_true]
  refine wpAny_bind (wpAny_rule ?_)
  refine wpAny_bind (wpAny_field hz rfl (x := .ref TO) rfl ?_)
  refine wpAny_bind (wpAny_setField_rec hz (by simp) fun h₁ hz₁ hs₁ => ?_)
  replace hz₁ : IsZip h₁ z TI TO .ellipsis := hz₁
  refine wpAny_bind ?_
  simp only [List.zipIdx_cons, List.zipIdx_nil, List.forIn_cons, List.forIn_nil]
  refine wpAny_bind (wpAny_bind (wpAny_onRaise ?_))
  show wpAny _ _ (Builtin.SmallTypes.nextOf (.ref i1) >>= _) _ _ _
  refine wpAny_bind (nextOf_item (h1.extBut hs₁.extBut (Ne.symm nzi1)) (hl1.extBut hs₁.extBut D3.1) hx fun h₂ h1₂ hs₂ => wpAny_pure ?_)
  have hTO₂ : PySem.IsPair h₂ TO a b := hs₂.extBut _ _ nTOi1 (hs₁.extBut _ _ (Ne.symm nzTO) hTO)
  refine wpAny_bind (wpAny_seqItems hTO₂ rfl ?_)
  refine wpAny_bind (wpAny_updateSeq_pair hTO₂ fun h₃ hTO₃ hs₃ => ?_)
  replace hTO₃ : PySem.IsPair h₃ TO x b := hTO₃
  refine wpAny_bind (wpAny_letGo (wpAny_pure ?_))
  refine wpAny_bind (wpAny_bind (wpAny_onRaise ?_))
  show wpAny _ _ (Builtin.SmallTypes.nextOf (.ref i2) >>= _) _ _ _
  refine wpAny_bind (nextOf_item (((h2.extBut hs₁.extBut (Ne.symm nzi2)).extBut hs₂.extBut (Ne.symm ni12)).extBut hs₃.extBut (Ne.symm nTOi2))
    (((hl2.extBut hs₁.extBut D4.1).extBut hs₂.extBut D4.2.2.1).extBut hs₃.extBut D4.2.1) hy fun h₄ h2₄ hs₄ => wpAny_pure ?_)
  have hTO₄ : PySem.IsPair h₄ TO x b := hs₄.extBut _ _ nTOi2 hTO₃
  refine wpAny_bind (wpAny_seqItems hTO₄ rfl ?_)
  refine wpAny_bind (wpAny_updateSeq_pair hTO₄ fun h₅ hTO₅ hs₅ => ?_)
  replace hTO₅ : PySem.IsPair h₅ TO x y := hTO₅
  refine wpAny_bind (wpAny_letGo (wpAny_pure (wpAny_pure ?_)))
  refine wpAny_bind (wpAny_seqItems hTO₅ rfl ?_)
  refine wpAny_bind (wpAny_newTuple ?_)
  have hsz : h₅.objs.size = s.heap.objs.size := by rw [hs₅.1, hs₄.1, hs₃.1, hs₂.1, hs₁.1]
  have hz₅ : IsZip h₅ z TI TO .ellipsis := hs₅.extBut _ _ nzTO (hs₄.extBut _ _ nzi2 (hs₃.extBut _ _ nzTO (hs₂.extBut _ _ nzi1 hz₁)))
  have hk₅ : ∀ c o, c ∉ [z, TO, i1, i2] → s.heap.get? c = some o → h₅.get? c = some o := fun c o hc e => by
    simp only [List.mem_cons, List.not_mem_nil, or_false, not_or] at hc
    exact hs₅.extBut _ _ hc.2.1 (hs₄.extBut _ _ hc.2.2.2 (hs₃.extBut _ _ hc.2.1 (hs₂.extBut _ _ hc.2.2.1 (hs₁.extBut _ _ hc.1 e))))
  have h1₅ : h₅.IsTupleIter i1 l1 (k + 1) := ((h1₂.extBut hs₃.extBut (Ne.symm nTOi1)).extBut hs₄.extBut ni12).extBut hs₅.extBut (Ne.symm nTOi1)
  have h2₅ : h₅.IsTupleIter i2 l2 (k + 1) := h2₄.extBut hs₅.extBut (Ne.symm nTOi2)
  have hzlt : z < h₅.objs.size := Heap.lt_size hz₅
  show wpAny _ _ (Builtin.SmallTypes.ownedTupleHandOut (.ref z) (.ref h₅.objs.size) >>= _) _ _ _
  refine wpAny_bind ?_
  unfold Builtin.SmallTypes.ownedTupleHandOut
  have hz₆ : IsZip (h₅.push { cls := .type "tuple", data := .seq #[x, y] }) z TI TO .ellipsis := Heap.get?_push_of_some _ hz₅
  refine wpAny_bind (wpAny_setField_rec hz₆ (by simp) fun h₇ hz₇ hs₇ => ?_)
  replace hz₇ : IsZip h₇ z TI TO (rawInt h₅.objs.size) := hz₇
  refine wpAny_setField_rec hz₇ (by simp) fun h₈ hz₈ hs₈ => ?_
  replace hz₈ : IsZip h₈ z TI TO (rawInt h₅.objs.size) := hz₈
  have up : ∀ c o, c ≠ z → h₅.get? c = some o → h₈.get? c = some o := fun c o c1 e => hs₈.extBut _ _ c1 (hs₇.extBut _ _ c1 (Heap.get?_push_of_some _ e))
  have hT₈ : PySem.IsPair h₈ h₅.objs.size x y := hs₈.extBut _ _ (Nat.ne_of_gt hzlt) (hs₇.extBut _ _ (Nat.ne_of_gt hzlt) (Heap.get?_push_size _ rfl))
  refine wpAny_pure ⟨_, rfl, ?_⟩
  have k8 : ∀ c o, c ∉ [z, TO, i1, i2] → s.heap.get? c = some o → h₈.get? c = some o := fun c o hc e => up c o (fun q => hc (by simp [q])) (hk₅ c o hc e)
  refine hQ h₅.objs.size h₈ (Nat.le_of_eq hsz.symm) ⟨hz₈, k8 _ _ D.TI hTI, ⟨_, _, up _ _ (Ne.symm nzTO) hTO₅⟩, ?_, ?_, ?_, ?_⟩ hT₈ k8
  · exact let ⟨o, e, r⟩ := h1₅; ⟨o, up _ o (Ne.symm nzi1) e, r⟩
  · exact let ⟨o, e, r⟩ := h2₅; ⟨o, up _ o (Ne.symm nzi2) e, r⟩
  · exact let ⟨o, e, r⟩ := hl1; ⟨o, k8 _ o D.l1 e, r⟩
  · exact let ⟨o, e, r⟩ := hl2; ⟨o, k8 _ o D.l2 e, r⟩

theorem zip_stop {z TI TO i1 i2 l1 l2 : Addr} {k : Nat} {xs ys : Array Value} {Q : PySem.Fin → Shared → Prop} (hh : A.handled = none) (D : ZA z TI TO i1 i2 l1 l2) (st : ZSt z TI TO i1 i2 l1 l2 xs ys .none k s.heap) (hx : xs[k]? = none)
    (hE : ∀ h' e, (∀ c o, c ∉ [z, TO, i1, i2] → s.heap.get? c = some o → h'.get? c = some o) → (∃ o, h'.get? e = some o ∧ o.cls = .type "StopIteration") → E (.ref e) { s with heap := h' }) :
    wpAny (model prog w) A (Builtin.«zip.__next__» ⟨[.ref z], []⟩) Q E s := by
  obtain ⟨hz, hTI, ⟨a, b, hTO⟩, h1, h2, hl1, hl2⟩ := st
  have D1 := D.nd; have D3 := D.l1
  simp only [List.nodup_cons, List.mem_cons, List.not_mem_nil, or_false, not_or, not_false_eq_true, List.nodup_nil, and_true] at D1 D3
  obtain ⟨⟨nzTO, nzi1, nzi2⟩, ⟨nTOi1, nTOi2⟩, ni12⟩ := D1
  show wpAny _ _ (field (.ref z) 2 >>= _) _ _ _
  refine wpAny_bind (wpAny_field hz rfl (x := .bool false) rfl ?_)
  show wpAny _ _ (field (.ref z) 3 >>= _) _ _ _
  refine wpAny_bind (wpAny_field hz rfl (x := .ref TI) rfl ?_)
  refine wpAny_bind (wpAny_seqItems hTI rfl ?_)
  show wpAny _ _ (Builtin.SmallTypes.ownedTupleIsFree (.ref z) >>= _) _ _ _
  refine wpAny_bind ?_
  unfold Builtin.SmallTypes.ownedTupleIsFree
  refine wpAny_bind (wpAny_field hz rfl (x := .none) rfl (wpAny_pure ?_))
  simp only [if_true]
  refine wpAny_bind (wpAny_rule ?_)
  refine wpAny_bind (wpAny_field hz rfl (x := .ref TO) rfl ?_)
  refine wpAny_bind (wpAny_setField_rec hz (by simp) fun h₁ hz₁ hs₁ => ?_)
  replace hz₁ : IsZip h₁ z TI TO .ellipsis := hz₁
  refine wpAny_bind ?_
  simp only [List.zipIdx_cons, List.zipIdx_nil, List.forIn_cons, List.forIn_nil]
  refine wpAny_bind (wpAny_bind (wpAny_onRaise ?_))
  show wpAny _ _ (Builtin.SmallTypes.nextOf (.ref i1) >>= _) _ _ _
  refine wpAny_bind (nextOf_end hh (h1.extBut hs₁.extBut (Ne.symm nzi1)) (hl1.extBut hs₁.extBut D3.1) hx fun h₂ e hs₂ he => ?_)
  obtain ⟨oe, hoe, hce⟩ := he
  have hz₂ : IsZip h₂ z TI TO .ellipsis := hs₂ _ _ nzi1 hz₁
  have hez : e ≠ z := fun q => by subst q; rw [hz₂] at hoe; cases hoe; simp at hce
  refine wpAny_setField_rec hz₂ (by simp) fun h₃ _ hs₃ => hE h₃ e (fun c o hc q => ?_) ⟨oe, hs₃.extBut _ _ hez hoe, hce⟩
  simp only [List.mem_cons, List.not_mem_nil, or_false, not_or] at hc
  exact hs₃.extBut _ _ hc.1 (hs₂ _ _ hc.2.2.1 (hs₁.extBut _ _ hc.1 q))

theorem next_zip_item {z TI TO i1 i2 l1 l2 : Addr} {k : Nat} {xs ys : Array Value} {x y : Value} {Q : Option Value → Shared → Prop} (D : ZA z TI TO i1 i2 l1 l2) (st : ZSt z TI TO i1 i2 l1 l2 xs ys .none k s.heap) (hx : xs[k]? = some x) (hy : ys[k]? = some y)
    (hQ : ∀ T h', s.heap.objs.size ≤ T → ZSt z TI TO i1 i2 l1 l2 xs ys (rawInt T) (k + 1) h' → PySem.IsPair h' T x y →
      (∀ c o, c ∉ [z, TO, i1, i2] → s.heap.get? c = some o → h'.get? c = some o) → Q (some (.ref T)) { s with heap := h' }) :
    wpAny (model prog w) A (pyNext (.ref z)) Q E s := by
  have hT : s.TypeIs (.ref z) "zip" := ⟨_, st.1, rfl⟩
  unfold pyNext
  exact wpAny_bind (wpAny_attempt (wpAny_callSpecial?_slot (name := Str.ofString "__next__") hT F.slot_zip_next
    (wpAny_call_entry F.slot_zip_next hT F.entry_zip_next (zip_item D st hx hy fun T h' a1 a2 a3 a4 => wpAny_pure (hQ T h' a1 a2 a3 a4)) (F.args_zip_next_1 _))))

theorem next_zip_stop {z TI TO i1 i2 l1 l2 : Addr} {k : Nat} {xs ys : Array Value} {Q : Option Value → Shared → Prop} (hh : A.handled = none) (D : ZA z TI TO i1 i2 l1 l2) (st : ZSt z TI TO i1 i2 l1 l2 xs ys .none k s.heap) (hx : xs[k]? = none)
    (hQ : ∀ h', (∀ c o, c ∉ [z, TO, i1, i2] → s.heap.get? c = some o → h'.get? c = some o) → Q none { s with heap := h' }) : wpAny (model prog w) A (pyNext (.ref z)) Q E s := by
  have hT : s.TypeIs (.ref z) "zip" := ⟨_, st.1, rfl⟩
  unfold pyNext
  refine wpAny_bind (wpAny_attempt (wpAny_callSpecial?_slot (name := Str.ofString "__next__") hT F.slot_zip_next
    (wpAny_call_entry F.slot_zip_next hT F.entry_zip_next (zip_stop hh D st hx fun h' e hk he => ?_) (F.args_zip_next_1 _))))
  obtain ⟨o, ho, hc⟩ := he
  refine wpAny_bind (wpAny_isInstance (T := "StopIteration") (b := true) ⟨o, ho, hc⟩ isSubtype_stop ?_)
  exact wpAny_pure (hQ _ hk)

abbrev tH1 (h : Heap) (l1 : Addr) : Heap := h.push { cls := .type "tuple_iterator", data := .fields #[.ref l1, .int 0 0] }
abbrev tH2 (h : Heap) (l1 l2 : Addr) : Heap := (tH1 h l1).push { cls := .type "tuple_iterator", data := .fields #[.ref l2, .int 0 0] }
abbrev tH3 (h : Heap) (l1 l2 : Addr) : Heap := (tH2 h l1 l2).push { cls := .type "tuple", data := .seq #[.ref h.objs.size, .ref (tH1 h l1).objs.size] }
abbrev tH4 (h : Heap) (l1 l2 : Addr) : Heap := (tH3 h l1 l2).push { cls := .type "tuple", data := .seq #[.none, .none] }
abbrev tH5 (h : Heap) (l1 l2 : Addr) : Heap := (tH4 h l1 l2).push { cls := .type "zip", data := .fields #[.none, .bool false, .bool false, .ref (tH2 h l1 l2).objs.size, .ref (tH3 h l1 l2).objs.size] }

theorem meets_zip_newT (l1 l2 : Addr) (xs ys : Array Value) :
    Meets (Builtin.«zip.__new__» ⟨[.type "zip", .ref l1, .ref l2], []⟩) (fun _ R s => s.heap.IsTuple l1 xs ∧ s.heap.IsTuple l2 ys ∧
      R (.ok (.ret (.ref (tH4 s.heap l1 l2).objs.size))) { s with heap := tH5 s.heap l1 l2 }) :=
  .of_wp fun prog w A R s h => by
    obtain ⟨hp, g, d, tk, os⟩ := s; obtain ⟨hl1, hl2, h⟩ := h
    have hsub := sub_zip
    have hL1 : Heap.IsTuple (Shared.heap ⟨hp, g, d, tk, os⟩) l1 xs := hl1
    have hL2 : Heap.IsTuple (Shared.heap ⟨hp.push { cls := .type "tuple_iterator", data := .fields #[.ref l1, .int 0 0] }, g, d, tk, os⟩) l2 ys := Heap.IsTuple.push hl2 _
    wp_walk using wpAny_pyIter_tuple hL1, wpAny_pyIter_tuple hL2
    exact ⟨_, rfl, h⟩

theorem call_zipT {l1 l2 : Addr} {xs ys : Array Value} {Q : Value → Shared → Prop} (hl1 : s.heap.IsTuple l1 xs) (hl2 : s.heap.IsTuple l2 ys)
    (h : ∀ z TI TO i1 i2 s', Up s s' → ZA z TI TO i1 i2 l1 l2 → ZSt z TI TO i1 i2 l1 l2 xs ys .none 0 s'.heap → (∀ c ∈ [z, TI, TO, i1, i2], s.heap.objs.size ≤ c ∧ c < s'.heap.objs.size) → Q (.ref z) s') :
    wpAny (model prog w) A (call (.type "zip") [.ref l1, .ref l2]) Q E s := by
  refine callType_new F.called_zip (by decide) (F.typeCall_zip_2 _ _) (F.newCall_zip_2 _ _) (fun obj => F.args_object_init_3 obj _ _) F.entry_zip_new
    (meets_zip_newT l1 l2 xs ys) ⟨hl1, hl2, ?_⟩
  have a1 : l1 < s.heap.objs.size := by obtain ⟨_, e, _⟩ := hl1; exact Heap.lt_size e
  have a2 : l2 < s.heap.objs.size := by obtain ⟨_, e, _⟩ := hl2; exact Heap.lt_size e
  have z1 : (tH1 s.heap l1).objs.size = s.heap.objs.size + 1 := Heap.size_push ..
  have z2 : (tH2 s.heap l1 l2).objs.size = s.heap.objs.size + 2 := by rw [Heap.size_push, z1]
  have z3 : (tH3 s.heap l1 l2).objs.size = s.heap.objs.size + 3 := by rw [Heap.size_push, z2]
  have z4 : (tH4 s.heap l1 l2).objs.size = s.heap.objs.size + 4 := by rw [Heap.size_push, z3]
  have z5 : (tH5 s.heap l1 l2).objs.size = s.heap.objs.size + 5 := by rw [Heap.size_push, z4]
  have g5 : (tH5 s.heap l1 l2).get? (tH4 s.heap l1 l2).objs.size = some _ := Heap.get?_push_size _ rfl
  have g4 : (tH5 s.heap l1 l2).get? (tH3 s.heap l1 l2).objs.size = some _ := Heap.get?_push_of_some _ (Heap.get?_push_size _ rfl)
  have g3 : (tH5 s.heap l1 l2).get? (tH2 s.heap l1 l2).objs.size = some _ := Heap.get?_push_of_some _ (Heap.get?_push_of_some _ (Heap.get?_push_size _ rfl))
  have g2 : (tH5 s.heap l1 l2).get? (tH1 s.heap l1).objs.size = some _ := Heap.get?_push_of_some _ (Heap.get?_push_of_some _ (Heap.get?_push_of_some _ (Heap.get?_push_size _ rfl)))
  have g1 : (tH5 s.heap l1 l2).get? s.heap.objs.size = some _ := Heap.get?_push_of_some _ (Heap.get?_push_of_some _ (Heap.get?_push_of_some _ (Heap.get?_push_of_some _ (Heap.get?_push_size _ rfl))))
  have keep : ∀ c o, s.heap.get? c = some o → (tH5 s.heap l1 l2).get? c = some o := fun c o x =>
    Heap.get?_push_of_some _ (Heap.get?_push_of_some _ (Heap.get?_push_of_some _ (Heap.get?_push_of_some _ (Heap.get?_push_of_some _ x))))
  show _ ∧ _
  refine ⟨⟨_, g5, rfl⟩, ?_⟩
  rw [z2, z3, z4] at g5
  rw [z1, z2] at g3
  rw [z3] at g4
  rw [z1] at g2
  rw [z4]
  generalize tH5 s.heap l1 l2 = h5 at *
  generalize hn : s.heap.objs.size = n at *
  refine h (n + 4) (n + 2) (n + 3) n (n + 1) _ (Up.heap (t := s.toks) keep (by omega) (Nat.le_refl _)) ⟨by simp, by simp, ?_, ?_⟩ ⟨g5, g3, ⟨_, _, g4⟩, ⟨_, g1, rfl, rfl⟩, ⟨_, g2, rfl, rfl⟩, ?_, ?_⟩ ?_
  · simp only [List.mem_cons, List.not_mem_nil, or_false, not_or]; exact ⟨Nat.ne_of_lt (Nat.lt_of_lt_of_le a1 (Nat.le_add_right n 4)), Nat.ne_of_lt (Nat.lt_of_lt_of_le a1 (Nat.le_add_right n 3)), Nat.ne_of_lt a1, Nat.ne_of_lt (Nat.lt_of_lt_of_le a1 (Nat.le_add_right n 1))⟩
  · simp only [List.mem_cons, List.not_mem_nil, or_false, not_or]; exact ⟨Nat.ne_of_lt (Nat.lt_of_lt_of_le a2 (Nat.le_add_right n 4)), Nat.ne_of_lt (Nat.lt_of_lt_of_le a2 (Nat.le_add_right n 3)), Nat.ne_of_lt a2, Nat.ne_of_lt (Nat.lt_of_lt_of_le a2 (Nat.le_add_right n 1))⟩
  · exact let ⟨o, e, r⟩ := hl1; ⟨o, keep _ o e, r⟩
  · exact let ⟨o, e, r⟩ := hl2; ⟨o, keep _ o e, r⟩
  · intro c hc
    simp only [List.mem_cons, List.not_mem_nil, or_false] at hc
    show n ≤ c ∧ c < h5.objs.size
    rw [z5]
    rcases hc with rfl | rfl | rfl | rfl | rfl
    · exact ⟨Nat.le_add_right n 4, Nat.add_lt_add_left (by decide) n⟩
    · exact ⟨Nat.le_add_right n 2, Nat.add_lt_add_left (by decide) n⟩
    · exact ⟨Nat.le_add_right n 3, Nat.add_lt_add_left (by decide) n⟩
    · exact ⟨Nat.le_refl _, Nat.lt_add_of_pos_right (by decide)⟩
    · exact ⟨Nat.le_add_right n 1, Nat.add_lt_add_left (by decide) n⟩
end
end Mine
end

section
open PySem PySem.W PySem.Calls PyProof.Rows
set_option linter.unusedVariables false
set_option Elab.async false
set_option maxRecDepth 100000
namespace Mine
open Sem (wp)

def IsInt (n : Int) (_ : Heap) (v : Value) : Prop := ∃ t, v = .int n t

theorem IntsGet {vs : List Value} {ns : List Int} (h : IntsAre vs ns) : ∀ (k : Nat) (hk : k < ns.length), ∃ t, vs.toArray[k]? = some (.int ns[k] t) := by
  induction h with
  | nil => intro k hk; simp at hk
  | cons n t h ih =>
    intro k hk
    cases k with
    | zero => exact ⟨t, by simp⟩
    | succ k =>
      obtain ⟨t', e⟩ := ih k (by simpa using hk)
      exact ⟨t', by simpa using e⟩

theorem ZSt.at {z TI TO i1 i2 l1 l2 : Addr} {xs ys : Array Value} {f0 : Value} {i : Nat} {h h' : Heap} (x : ZSt z TI TO i1 i2 l1 l2 xs ys f0 i h) (hk : ∀ b ∈ [z, TI, TO, i1, i2], ∀ o, h.get? b = some o → h'.get? b = some o)
    (h1 : h'.IsTuple l1 xs) (h2 : h'.IsTuple l2 ys) : ZSt z TI TO i1 i2 l1 l2 xs ys f0 i h' := by
  obtain ⟨a1, a2, ⟨a, b, a3⟩, ⟨o4, a4, r4⟩, ⟨o5, a5, r5⟩, _, _⟩ := x
  exact ⟨hk z (by simp) _ a1, hk TI (by simp) _ a2, ⟨a, b, hk TO (by simp) _ a3⟩, ⟨o4, hk i1 (by simp) _ a4, r4⟩, ⟨o5, hk i2 (by simp) _ a5, r5⟩, h1, h2⟩

theorem IsTuple.atM {h h' : Heap} {a : Addr} {items} (x : h.IsTuple a items) (hk : ∀ o, h.get? a = some o → h'.get? a = some o) : h'.IsTuple a items := let ⟨o, ho, r⟩ := x; ⟨o, hk o ho, r⟩

def zipRow (xs ys : List Int) : List Int := List.zipWith (fun u v => v - u - 1) xs ys

abbrev gexp (elt iter : Expr) (pa pb pt : Pos) (kt : Nat) (scope : Scope) (pos : Pos) : Expr := .GeneratorExp elt [⟨.Tuple [.Name "u" pa, .Name "v" pb] kt pt, iter, [], 0⟩] scope pos

section
variable {prog : Program} {w : World} {B : Gnd}

theorem cn_overG {d u : Nat} {elt : Expr} {gs : List Comprehension} {sc : Scope} {ps : Pos} {it acc : Value} {env : Env} {α : Type} {t : Sem α} {Q : α → Shared → Prop} {E : Value → Shared → Prop} {s : Shared} {M : Model} (h : wpAny M (cn (d + 1) (u + 3)) t Q E s) :
    wpAny M ((cn d u).over (.compLoop (.GeneratorExp elt gs sc ps) 0 it acc env) []) t Q E s :=
  wpAny_cn rfl (Nat.le_refl _) (Nat.le_refl _) h
theorem cn_overS {d u : Nat} {elt : Expr} {gs : List Comprehension} {sc : Scope} {ps : Pos} {it acc : Value} {env : Env} {α : Type} {t : Sem α} {Q : α → Shared → Prop} {E : Value → Shared → Prop} {s : Shared} {M : Model} (h : wpAny M (cn (d + 1) (u + 3)) t Q E s) :
    wpAny M ((cn d u).over (.compStart (.GeneratorExp elt gs sc ps) 0 it acc env) []) t Q E s :=
  wpAny_cn rfl (Nat.le_refl _) (Nat.le_refl _) h

theorem zip_seg {d u : Nat} {cenv : Env} (hE : En cenv) {C0 : Addr} (hL : cenv.locals = C0) {p1 p2 p3 p4 p5 pa pb pt pos : Pos} {kt kc : Nat} {iter : Expr} {scope : Scope}
    (hxu : cenv.kindOf "u" = some .local) (hxv : cenv.kindOf "v" = some .local) {z TI TO i1 i2 l1 l2 : Addr} (D : ZA z TI TO i1 i2 l1 l2) (hC0 : C0 ∉ [z, TI, TO, i1, i2])
    {vs1 vs2 : List Value} {ns1 ns2 : List Int} (hi1 : IntsAre vs1 ns1) (hi2 : IntsAre vs2 ns2) (hlen : ns1.length = ns2.length) (h1 : B.K.IsTuple l1 vs1.toArray) (h2 : B.K.IsTuple l2 vs2.toArray) (h1P : l1 ≠ B.P) (h2P : l2 ≠ B.P) :
    ∀ (j k : Nat) s O OG s₀ C CG m, ns1.length - k = j → k ≤ ns1.length → Run B O OG s₀ C CG s → C C0 → (∀ b ∈ [z, TI, TO, i1, i2], C b) → ZSt z TI TO i1 i2 l1 l2 vs1.toArray vs2.toArray .none k s.heap → s.heap.Ns C0 m →
      SegP (model prog w) (cn d u) (Emit B (model prog w) (cn d u) IsInt ((zipRow ns1 ns2).drop k) O OG s₀)
        (.compLoop (gexp (.BinOp (.BinOp (.Name "v" p1) .Sub (.Name "u" p2) p3) .Sub (.Constant (.int 1) kc p4) p5) iter pa pb pt kt scope pos) 0 (.ref z) .none cenv)
        ((model prog w).den (.compLoop (gexp (.BinOp (.BinOp (.Name "v" p1) .Sub (.Name "u" p2) p3) .Sub (.Constant (.int 1) kc p4) p5) iter pa pb pt kt scope pos) 0 (.ref z) .none cenv)) [] s := by
  have hp : (cenv.scope.kind == .class || (cenv.scope.kind == .module && cenv.locals != cenv.globals)) = false := by rw [hE.kind]; rfl
  have hsub : ∀ b, b ∈ [z, TO, i1, i2] → b ∈ [z, TI, TO, i1, i2] := by
    intro b hb
    simp only [List.mem_cons, List.not_mem_nil, or_false] at hb ⊢
    rcases hb with h | h | h | h <;> simp [h]
  intro j
  induction j with
  | zero =>
    intro k s O OG s₀ C CG m hj hk R hCL hCz st hns
    have hkl : k = ns1.length := by omega
    subst hkl
    show SegP _ _ _ _ ((compTurn (gexp _ iter pa pb pt kt scope pos) 0 (.ref z) .none cenv).onRaise (leaving cenv)) [] s
    rw [compTurn_gen, Sem.onRaise_eq_wrap]
    refine segP_bind_wrap (wpAny_standAt ?_)
    refine segP_bind_wrap (cn_overG (wpAny_sizes (next_zip_stop rfl D st (by simp [hi1.length]) fun h' hk' hz' ht' => ?_)))
    have mv : Mv B (fun b => b ∈ [z, TO, i1, i2]) No s { s with heap := h' } := R.mvOf (fun b o hb e => hk' b o hb e) (fun b hb => hCz b (hsub b hb)) hz' ht'
    have R' := R.step (mv.mono (fun b hb => .inl (hCz b (hsub b hb))) fun _ h => h.elim)
    have e0 : (zipRow ns1 ns2).drop ns1.length = [] := by simp [zipRow, hlen]
    rw [e0]
    exact segP_end (.ok .next) ⟨.inr rfl, R'.mv⟩
  | succ j ih =>
    intro k s O OG s₀ C CG m hj hk R hCL hCz st hns
    have hlt : k < ns1.length := by omega
    obtain ⟨t1, e1⟩ := IntsGet hi1 k hlt
    obtain ⟨t2, e2⟩ := IntsGet hi2 k (hlen ▸ hlt)
    show SegP _ _ _ _ ((compTurn (gexp _ iter pa pb pt kt scope pos) 0 (.ref z) .none cenv).onRaise (leaving cenv)) [] s
    rw [compTurn_gen, Sem.onRaise_eq_wrap]
    refine segP_bind_wrap (wpAny_standAt ?_)
    refine segP_bind_wrap (cn_overG (wpAny_sizes (next_zip_item D st e1 e2 fun T h₁ hT st₁ hp₁ hk₁ hz₁ ht₁ => ?_)))
    have mv₁ : Mv B (fun b => b ∈ [z, TO, i1, i2]) No s { s with heap := h₁ } := R.mvOf (fun b o hb e => hk₁ b o hb e) (fun b hb => hCz b (hsub b hb)) hz₁ ht₁
    have R₁ := R.step (mv₁.mono (fun b hb => .inl (hCz b (hsub b hb))) fun _ h => h.elim)
    have hC0' : C0 ∉ [z, TO, i1, i2] := fun h => hC0 (hsub _ h)
    have hns₁ : h₁.Ns C0 m := hns.at' fun o e => hk₁ _ o hC0' e
    have hzl := R.live z (hCz z (by simp))
    have hTz : T ≠ z := fun q => absurd hzl (Nat.not_lt.mpr (q ▸ hT))
    refine segP_bind_wrap (cn_overG (wpAny_letOwnedTupleGo_zip st₁.1 fun h₂ hz₂ hs₂ => ?_))
    have st₂ : ZSt z TI TO i1 i2 l1 l2 vs1.toArray vs2.toArray .none (k + 1) h₂ := by
      have D1 := D.nd; have D2 := D.TI; have D3 := D.l1; have D4 := D.l2
      simp only [List.nodup_cons, List.mem_cons, List.not_mem_nil, or_false, not_or, not_false_eq_true, List.nodup_nil, and_true] at D1 D2 D3 D4
      obtain ⟨_, a2, ⟨a, b, a3⟩, ⟨o4, a4, r4⟩, ⟨o5, a5, r5⟩, a6, a7⟩ := st₁
      exact ⟨hz₂, hs₂.extBut _ _ D2.1 a2, ⟨a, b, hs₂.extBut _ _ (Ne.symm D1.1.1) a3⟩, ⟨o4, hs₂.extBut _ _ (Ne.symm D1.1.2.1) a4, r4⟩, ⟨o5, hs₂.extBut _ _ (Ne.symm D1.1.2.2) a5, r5⟩,
        IsTuple.atM a6 fun o e => hs₂.extBut _ o D3.1 e, IsTuple.atM a7 fun o e => hs₂.extBut _ o D4.1 e⟩
    have hC0z : C0 ≠ z := fun q => hC0 (by simp [q])
    have hns₂ : h₂.Ns C0 m := hns₁.at' fun o e => hs₂.extBut _ o hC0z e
    have hT₂ : h₂.IsTuple T #[.int ns1[k] t1, .int (ns2[k]'(hlen ▸ hlt)) t2] := ⟨_, hs₂.extBut _ _ hTz hp₁, rfl, _, rfl⟩
    refine segP_bind_wrap (cn_overG (wpAny_sizes (wpAny_assign_Tuple rfl hT₂ rfl rfl fun h₃ hx₃ => ?_)))
    have old₃ : ∀ b o, h₂.get? b = some o → h₃.get? b = some o := fun b o e => hx₃ b o (Nat.ne_of_lt (Heap.lt_size e)) e
    show wpAny _ _ (do holding [.int (ns2[k]'(hlen ▸ hlt)) t2] (assign (.Name "u" pa) cenv (.int ns1[k] t1)); do holding [] (assign (.Name "v" pb) cenv (.int (ns2[k]'(hlen ▸ hlt)) t2)); pure ()) _ _ _
    subst hL
    have hns₃ : h₃.Ns cenv.locals m := hns₂.at' fun o e => old₃ _ o e
    refine wpAny_bind (wpAny_holding (wpAny_assign_Name (wpAny_storeName_local hxu hns₃ (fun h₄ hn₄ hs₄ => ?_) hp)))
    refine wpAny_bind (wpAny_holding (wpAny_assign_Name (wpAny_storeName_local hxv hn₄ (fun h₅ hn₅ hs₅ => wpAny_pure ?_) hp)))
    intro hz5 _
    replace hz5 : h₂.objs.size ≤ h₅.objs.size := hz5
    replace hs₄ : Heap.SameBut cenv.locals h₃ h₄ := hs₄
    replace hs₅ : Heap.SameBut cenv.locals h₄ h₅ := hs₅
    have k25 : ∀ b o, b ≠ cenv.locals → h₂.get? b = some o → h₅.get? b = some o := fun b o hb e => hs₅.extBut b o hb (hs₄.extBut b o hb (old₃ b o e))
    have hz25 : h₁.objs.size ≤ h₅.objs.size := by rw [← hs₂.1]; exact hz5
    have mv₂ : Mv B (fun b => b = z ∨ b = cenv.locals) No { s with heap := h₁ } { s with heap := h₅, toks := s.toks + 1 + 1 } := R₁.mvOf
      (fun b o hb e => k25 b o (fun q => hb (.inr q)) (hs₂.extBut b o (fun q => hb (.inl q)) e)) (fun b hb => hb.elim (fun q => q ▸ hCz z (by simp)) fun q => q ▸ hCL) hz25 (Nat.le_add_right s.toks 2)
    have R₂ := R₁.step (mv₂.mono (fun b hb => .inl (hb.elim (fun q => q ▸ hCz z (by simp)) fun q => q ▸ hCL)) fun _ h => h.elim)
    have st₃ : ZSt z TI TO i1 i2 l1 l2 vs1.toArray vs2.toArray .none (k + 1) h₅ := st₂.at (fun b hb o e => k25 b o (fun q => hC0 (q ▸ hb)) e) (IsTuple.atM h1 fun o e => R₂.ok.keep _ o h1P e) (IsTuple.atM h2 fun o e => R₂.ok.keep _ o h2P e)
    have e0 : (zipRow ns1 ns2).drop k = (ns2[k]'(hlen ▸ hlt) - ns1[k] - 1) :: (zipRow ns1 ns2).drop (k + 1) := by
      rw [List.drop_eq_getElem_cons (by simp [zipRow, ← hlen, hlt])]
      simp [zipRow]
    rw [e0]
    refine segP_bind_wrap (wpAny_pure ?_)
    simp only [if_true]
    have hy : ∀ v, yieldOut cenv v = yieldValue v := fun v => by simp only [yieldOut, hE.co, Bool.false_eq_true, if_false]
    simp only [hy]
    rw [Sem.bind_eq_wrap', Sem.bind_eq_wrap', Sem.wrap_wrap, Sem.wrap_wrap]
    refine segP_wrap (cn_overG (IEv.run hE (m := _) (.sub (.sub (.name hxv rfl (if_pos rfl)) (.name hxu rfl ((if_neg (by decide)).trans (if_pos rfl)))) .const) hn₅ fun t s₆ u₆ => ?_))
    have R₃ := R₂.no u₆.mv
    refine segP_at (segP_yield rfl fun p => ?_)
    refine ⟨_, _, _, _, _, _, _, rfl, rfl, R₃.mv, C, CG, fun _ _ => ⟨t, rfl⟩, R₃.sub, R₃.live, R₃.nP, R₃.gsub, R₃.glive, fun s₇ hag => ?_⟩
    have R₇ := R₃.again hag
    refine segP_again rfl (ih (k + 1) s₇ C CG s₇ C CG _ (by omega) hlt R₇ hCL hCz ?_ (hag.ns (u₆.ns hn₅) hCL))
    exact st₃.at (fun b hb o e => hag.heap b o (hCz b hb) (u₆.keep b o e)) (IsTuple.atM h1 fun o e => R₇.ok.keep _ o h1P e) (IsTuple.atM h2 fun o e => R₇.ok.keep _ o h2P e)
end
end Mine
end

section
open PySem PySem.W PySem.Calls PyProof.Rows
set_option linter.unusedVariables false
set_option Elab.async false
set_option maxRecDepth 100000
namespace Mine
open Sem (wp)

theorem Ok.new {B : Gnd} {h : Heap} (x : Ok B h) {a : Addr} (ha : h.objs.size ≤ a) : B.K.get? a = none ∧ a ≠ B.P ∧ a ≠ B.c := by
  have h1 : a ≠ B.P := fun q => absurd x.liveP (Nat.not_lt.mpr (q ▸ ha))
  refine ⟨?_, h1, fun q => absurd x.livec (Nat.not_lt.mpr (q ▸ ha))⟩
  cases e : B.K.get? a with
  | none => rfl
  | some o => exact absurd (Heap.lt_size (x.keep a o h1 e)) (Nat.not_lt.mpr ha)

section
variable {prog : Program} {w : World} {mg mb : Str → Option Value} {B : Gnd} {ρ : Type} {Is : ρ → Heap → Value → Prop} {E : Value → Shared → Prop} {s : Shared} {Q : Value → Shared → Prop} {O : Addr → Prop} {OG : Nat → Prop}

theorem GAt.live {M : Model} {A : Around} {rs : List ρ} {a : Addr} {g : Nat} (x : GAt B M A Is rs O OG a g s) : a < s.heap.objs.size := let ⟨_, _, _, e, _⟩ := x.isGen; Heap.lt_size e

theorem list_gat (X : Wd mg mb B) {d u : Nat} (hroom : d < recursionLimit) {I : Addr} {g : Nat} {rs : List ρ} (G : GAt B (model prog w) (cn d (u + 3)) Is rs O OG I g s) (ok : Ok B s.heap) (hOI : ¬ O I) (hIP : I ≠ B.P) (hsz : rs.length ≤ sizeLine)
    (hQ : ∀ s' S acc c, Mv B O (fun i => OG i ∨ i = g) s s' → s.heap.objs.size ≤ S → s'.heap.get? S = some (lstObj acc c) → All2 (fun r v => Is r s'.heap v) rs acc.toList → Q (.ref S) s') :
    wpAny (model prog w) (cn d u) (call (.type "list") [.ref I]) Q E s := by
  have hIl := G.live
  obtain ⟨hSK, hSP, hSc⟩ := ok.new (Nat.le_refl s.heap.objs.size)
  have hOS : ¬ O s.heap.objs.size := fun h => absurd (G.nO _ h) (Nat.lt_irrefl _)
  refine list_pre G.isGen fun h' c hk hz hS => ?_
  have up : Up s { s with heap := h' } := Up.heap (t := s.toks) hk (by rw [hz]; exact Nat.le_succ _) (Nat.le_refl _)
  have mv₁ : Mv B No No s { s with heap := h' } := up.mv
  have G₁ : GAt B (model prog w) (cn d (u + 1 + 2)) Is rs O OG I g { s with heap := h' } := G.ag (mv₁.ag ok (fun _ _ h => h) (fun h => h.elim G.nP fun q => hIP q.symm) (fun _ _ h => h) fun i hi => hi.elim (G.lG i) fun q => q ▸ G.lt)
  refine extend_gat X (u := u + 1) hroom .none (Nat.ne_of_gt hIl) hSP hSc hSK hIP rs { s with heap := h' } [] #[] c O OG G₁ (up.ok ok) hS hOS hOI .nil (by simpa using hsz) fun s' acc' c' O' mv hS' hacc => ⟨rfl, ?_⟩
  refine hQ s' _ acc' c' ((mv₁.no).trans mv (fun b h => h.elim .inl fun q => .inr (Nat.le_of_eq q.symm)) fun i h => .inl h) (Nat.le_refl _) hS' ?_
  rw [List.nil_append] at hacc
  exact hacc.mono fun r v k => k.now

theorem tuple_gat (X : Wd mg mb B) {d u : Nat} (hroom : d < recursionLimit) {I : Addr} {g : Nat} {rs : List ρ} (G : GAt B (model prog w) (cn d (u + 4)) Is rs O OG I g s) (ok : Ok B s.heap) (hOI : ¬ O I) (hIP : I ≠ B.P) (hsz : rs.length ≤ sizeLine)
    (hQ : ∀ s' T acc, Mv B O (fun i => OG i ∨ i = g) s s' → s.heap.objs.size ≤ T → IsTup s'.heap T acc → All2 (fun r v => Is r s'.heap v) rs acc.toList → Q (.ref T) s') :
    wpAny (model prog w) (cn d u) (call (.type "tuple") [.ref I]) Q E s := by
  have hIl := G.live
  obtain ⟨hSK, hSP, hSc⟩ := ok.new (Nat.le_refl s.heap.objs.size)
  have hOS : ¬ O s.heap.objs.size := fun h => absurd (G.nO _ h) (Nat.lt_irrefl _)
  refine tuple_pre G.isGen fun h' c hk hz hS => ?_
  have up : Up s { s with heap := h' } := Up.heap (t := s.toks) hk (by rw [hz]; exact Nat.le_succ _) (Nat.le_refl _)
  have mv₁ : Mv B No No s { s with heap := h' } := up.mv
  have G₁ : GAt B (model prog w) (cn d (u + 2 + 2)) Is rs O OG I g { s with heap := h' } := G.ag (mv₁.ag ok (fun _ _ h => h) (fun h => h.elim G.nP fun q => hIP q.symm) (fun _ _ h => h) fun i hi => hi.elim (G.lG i) fun q => q ▸ G.lt)
  refine extend_gat X (u := u + 2) hroom (.ref s.heap.objs.size) (Nat.ne_of_gt hIl) hSP hSc hSK hIP rs { s with heap := h' } [] #[] c O OG G₁ (up.ok ok) hS hOS hOI .nil (by simpa using hsz) fun s' acc' c' O' mv hS' hacc => ?_
  rw [List.nil_append] at hacc
  have hl := hacc.length
  have upT : Up s' { s' with heap := s'.heap.push { cls := .type "tuple", data := .seq acc' } } := Up.push _
  refine ⟨acc', c', rfl, hS', by rw [← Array.length_toList, ← hl]; exact hsz, ?_⟩
  refine hQ _ _ acc' (((mv₁.no).trans mv (fun b h => h.elim .inl fun q => .inr (Nat.le_of_eq q.symm)) fun i h => .inl h).thenNo upT.mv) (Nat.le_trans mv₁.size mv.size) (IsTup.new s'.heap acc') ?_
  exact hacc.mono fun r v k => k _ fun b o _ _ _ e => upT.keep b o e
end

section
variable {prog : Program} {w : World} {B : Gnd}
theorem zip_start {d u : Nat} {cenv : Env} (hE : En cenv) {C0 : Addr} (hL : cenv.locals = C0) {p1 p2 p3 p4 p5 pa pb pt pos : Pos} {kt kc : Nat} {iter : Expr} {scope : Scope}
    (hxu : cenv.kindOf "u" = some .local) (hxv : cenv.kindOf "v" = some .local) {z TI TO i1 i2 l1 l2 : Addr} (D : ZA z TI TO i1 i2 l1 l2) (hC0 : C0 ∉ [z, TI, TO, i1, i2])
    {vs1 vs2 : List Value} {ns1 ns2 : List Int} (hi1 : IntsAre vs1 ns1) (hi2 : IntsAre vs2 ns2) (hlen : ns1.length = ns2.length) (h1 : B.K.IsTuple l1 vs1.toArray) (h2 : B.K.IsTuple l2 vs2.toArray) (h1P : l1 ≠ B.P) (h2P : l2 ≠ B.P)
    {s : Shared} {O : Addr → Prop} {OG : Nat → Prop} {s₀ : Shared} {C : Addr → Prop} {CG : Nat → Prop} {m : Str → Option Value} (R : Run B O OG s₀ C CG s) (hCL : C C0) (hCz : ∀ b ∈ [z, TI, TO, i1, i2], C b) (st : ZSt z TI TO i1 i2 l1 l2 vs1.toArray vs2.toArray .none 0 s.heap) (hns : s.heap.Ns C0 m) :
    SegP (model prog w) (cn d u) (Emit B (model prog w) (cn d u) IsInt (zipRow ns1 ns2) O OG s₀)
        (.compStart (gexp (.BinOp (.BinOp (.Name "v" p1) .Sub (.Name "u" p2) p3) .Sub (.Constant (.int 1) kc p4) p5) iter pa pb pt kt scope pos) 0 (.ref z) .none cenv)
        ((model prog w).den (.compStart (gexp (.BinOp (.BinOp (.Name "v" p1) .Sub (.Name "u" p2) p3) .Sub (.Constant (.int 1) kc p4) p5) iter pa pb pt kt scope pos) 0 (.ref z) .none cenv)) [] s := by
  have loop := zip_seg (prog := prog) (w := w) (d := d) (u := u) (iter := iter) (scope := scope) (pos := pos) (pa := pa) (pb := pb) (pt := pt) (kt := kt) (kc := kc) (p1 := p1) (p2 := p2) (p3 := p3) (p4 := p4) (p5 := p5) hE hL hxu hxv D hC0 hi1 hi2 hlen h1 h2 h1P h2P _ 0 s O OG s₀ C CG m rfl (Nat.zero_le _) R hCL hCz st hns
  rw [List.drop_zero] at loop
  show SegP _ _ _ _ ((compStart (gexp _ iter pa pb pt kt scope pos) 0 (.ref z) .none cenv).onRaise (leaving cenv)) [] s
  unfold compStart
  rw [Sem.onRaise_eq_wrap]
  show SegP _ _ _ _ ((ask >>= _).wrap _ _ _ _) [] s
  refine segP_bind_wrap (wpAny_askSetting ?_)
  split
  · exact segP_again rfl loop
  · refine segP_bind_wrap (wpAny_rule ?_)
    show SegP _ _ _ _ ((standAt iter.pos >>= _).wrap _ _ _ _) [] s
    exact segP_bind_wrap (wpAny_standAt (segP_bind_wrap (wpAny_pyIter_zip st.1 (segP_again rfl loop))))
end
end Mine
end

section
open PySem PySem.W PySem.Calls PyProof.Rows
set_option linter.unusedVariables false
set_option Elab.async false
set_option maxRecDepth 100000
namespace Mine
open Sem (wp)

section
variable {prog : Program} {w : World} {mg mb : Str → Option Value} {B : Gnd} {A : Around} {E : Value → Shared → Prop} {s : Shared}

theorem codeG {env : Env} {pos : Pos} {qn : Str} {scope : Scope} {Q : Value → Shared → Prop} (ok : Ok B s.heap) (hc : env.code = .ref B.c)
    (h : ∀ c' s', Mv B No No s s' → s'.gens = s.gens → Q c' s') : wpAny (model prog w) A (genexprCode env pos qn scope) Q E s := by
  obtain ⟨ps, hcd, htb⟩ := ok.tab
  cases hf : codeAmong pos ps.toList with
  | some c' => exact wpAny_genexprCode_hit hc hcd hf (h c' s (Mv.refl s) rfl)
  | none =>
    refine wpAny_sizes (wpAny_genexprCodeX hc hcd htb hf fun c' h' tk hk hc1 hc2 hcd' hrec' htb' _ hz ht => h _ _ ?_ rfl)
    refine ⟨fun b o _ hP e => hk b o hP e, hz, fun _ _ _ => rfl, Nat.le_refl _, fun x => ⟨fun b o hb e => hk b o hb (x.keep b o hb e), _, hcd', htb'⟩, rfl, id, ht⟩

/-- the heap at s as a ground of its own -/
def Gnd.at (B : Gnd) (h : Heap) : Gnd := ⟨h, B.c, B.P⟩
theorem Ok.here {h : Heap} (ok : Ok B h) : Ok (B.at h) h := ⟨fun _ _ _ e => e, ok.tab⟩
theorem Wd.here (X : Wd mg mb B) {h : Heap} (ok : Ok B h) : Wd mg mb (B.at h) where
  g := X.ns ok X.g
  b := X.ns ok X.b
  bb := X.bb
  nl := X.nolimit ok
  tabP := by
    obtain ⟨ps, hcd, htb⟩ := ok.tab
    obtain ⟨o, vs, file, tf, flags, tg, inF, text, tt, op, ho, hd, h11, h2, h7, h9, h10, hop, hpd, htr, hne⟩ := id hcd
    refine ⟨ps, htb.2, fun q t e => ?_⟩
    have e' : ps.toList[1]? = some (.str q t) := by simpa using e
    rcases hl : ps.toList with _ | ⟨a, _ | ⟨b, _ | ⟨c, r⟩⟩⟩ <;> rw [hl] at htr e' <;> simp_all [TriplesOk]
  free := X.free
  bm := let ⟨a, o, h1, h2, h3, h4, h5, h6⟩ := X.bm; ⟨a, o, h1, h2, X.get ok h3 (by rw [h6]; exact nofun), h4, h5, h6⟩
  bb' := X.bb'
/-- what moved with a later ground has moved with the first -/
theorem Mv.back {G : Nat → Prop} {s' : Shared} (m : Mv (B.at s.heap) No G s s') (ok : Ok B s.heap) : Mv B No G s s' where
  heap := fun b o hb hP e => m.heap b o hb hP e
  size := m.size
  gens := m.gens
  gsz := m.gsz
  ok := fun _ => let x := m.ok ok.here; ⟨fun b o hb e => x.keep b o hb (ok.keep b o hb e), x.tab⟩
  os := m.os
  bare := m.bare
  toks := m.toks

theorem ints_of {h : Heap} {rs : List Int} {vs : List Value} (x : All2 (fun r v => IsInt r h v) rs vs) : IntsAre vs rs := by
  induction x with
  | nil => exact .nil
  | cons h _ ih => obtain ⟨t, rfl⟩ := h; exact .cons _ t ih

/-- tuple(v - u - 1 for u, v in zip(first + t, t + last)) -/
theorem ev_weakRow (X : Wd mg mb B) {d u : Nat} (hroom : d < recursionLimit) {env : Env} (hE : En env) (hcode : env.code = .ref B.c) {m : Str → Option Value} {fa ta la : Addr} {xs ys zs : List Int} {Q : Value → Shared → Prop}
    {q1 q2 q3 q4 q5 q6 q7 q8 q9 q10 p1 p2 p3 p4 p5 pa pb pt pos : Pos} {kt kc : Nat} {scope : Scope}
    (ok : Ok B s.heap) (hns : s.heap.Ns env.locals m) (hf : m "first" = some (.ref fa)) (ht : m "t" = some (.ref ta)) (hl : m "last" = some (.ref la)) (hfa : TupI s.heap fa xs) (hta : TupI s.heap ta ys) (hla : TupI s.heap la zs) (hlen : xs.length = zs.length)
    (hsz : xs.length + ys.length ≤ sizeLine)
    (hkf : env.kindOf "first" = some .local) (hkt : env.kindOf "t" = some .local) (hkl : env.kindOf "last" = some .local) (hkz : env.kindOf "zip" = some .globalImplicit) (hkT : env.kindOf "tuple" = some .globalImplicit)
    (hco : scope.isCoroutine = false) (hclos : closureFor scope env = pure []) (hcell : ∀ y ∈ scope.names, y.2 ≠ .cell) (h0 : scope.names.lookup (".0" : Str) = some NameKind.local) (hkind : scope.kind = .function)
    (hxu : scope.names.lookup ("u" : Str) = some .local) (hxv : scope.names.lookup ("v" : Str) = some .local)
    (hs : ∀ x, genFold (.Call (.Name "zip" q2) [.BinOp (.Name "first" q3) .Add (.Name "t" q4) q5, .BinOp (.Name "t" q6) .Add (.Name "last" q7) q8] [] q9) env x = pure x)
    (hQ : ∀ T s', Mv B No No s s' → s.heap.objs.size ≤ T → TupI s'.heap T (zipRow (xs ++ ys) (ys ++ zs)) → Q (.ref T) s') :
    wpAny (model prog w) (cn d u) (eval (.Call (.Name "tuple" q1) [gexp (.BinOp (.BinOp (.Name "v" p1) .Sub (.Name "u" p2) p3) .Sub (.Constant (.int 1) kc p4) p5)
      (.Call (.Name "zip" q2) [.BinOp (.Name "first" q3) .Add (.Name "t" q4) q5, .BinOp (.Name "t" q6) .Add (.Name "last" q7) q8] [] q9) pa pb pt kt scope pos] [] q10) env) Q E s := by
  refine Call_ (ldb X ok hE hkT (X.free _ (by simp)) boot_tuple (callWith_type1 (args_cons ?_)))
  refine wpAny_GeneratorExp_make hco hclos hcell h0 hkind hroom ?_ hs
  refine Call_ ?_
  refine ldb X ok hE hkz (X.free _ (by simp)) boot_zip ?_
  refine callWith_type1 ?_ ?_ ?_
  rotate_left
  · rfl
  · rfl
  refine args_cons ?_ ?_
  rotate_left
  · rfl
  refine wpAny_BinOp ?_
  refine ldl hE hkf hns hf ?_
  refine ldl hE hkt hns ht ?_
  refine addTupI hfa hta hsz ?_
  intro l1 s₁ u₁ hl1 _
  refine args_cons ?_ ?_
  rotate_left
  · rfl
  refine wpAny_BinOp ?_
  refine ldl hE hkt (u₁.ns hns) ht ?_
  refine ldl hE hkl (u₁.ns hns) hl ?_
  refine addTupI (hta.keeps u₁.keep) (hla.keeps u₁.keep) (by omega) ?_
  intro l2 s₂ u₂ hl2 _
  refine args_nil ?_
  have up₂ := u₁.trans u₂
  have ok₂ := up₂.ok ok
  have hl1 := hl1.keeps u₂.keep
  obtain ⟨vs1, hv1, hi1⟩ := hl1
  obtain ⟨vs2, hv2, hi2⟩ := hl2
  have X' := X.here ok₂
  have ok₂' := ok₂.here
  have l1P : l1 ≠ B.P := fun q => by
    obtain ⟨ps, hp, _⟩ := X'.tabP
    obtain ⟨o, ho, hc, _⟩ := hv1
    rw [q] at ho
    have e := ho.symm.trans hp
    cases e
    cases hc
  have l2P : l2 ≠ B.P := fun q => by
    obtain ⟨ps, hp, _⟩ := X'.tabP
    obtain ⟨o, ho, hc, _⟩ := hv2
    rw [q] at ho
    have e := ho.symm.trans hp
    cases e
    cases hc
  refine call_zipT hv1 hv2 fun z TI TO i1 i2 s₃ u₃ D st hnew => ?_
  have ok₃ := u₃.ok ok₂'
  refine wpAny_pyIter_zip st.1 ⟨X'.nolimit ok₃, ?_⟩
  refine codeG ok₃ hcode fun c' s₄ mv₄ hg₄ => ?_
  have ok₄ := mv₄.ok ok₃
  rw [hE.glob]
  refine X'.bfor ok₄ ?_
  intro h' hn' hs'
  have hsz' : h'.objs.size = s₄.heap.objs.size + 1 := by rw [hs'.1, Heap.size_push]
  have keep' : ∀ b o, s₄.heap.get? b = some o → h'.get? b = some o := fun b o e => hs'.extBut b o (Nat.ne_of_lt (Heap.lt_size e)) (Heap.get?_push_of_some _ e)
  generalize hob : ({ cls := .type "generator", data := .fields #[.int s₄.gens.size 0, .str "<genexpr>" (s₄.toks + 1), .str (env.qual ++ "<genexpr>") (s₄.toks + 1 + 1)] } : Obj) = ob
  refine args_nil ?_
  have hobg : ∀ hh : Heap, (hh.push ob).IsGen hh.objs.size s₄.gens.size := fun hh => by subst hob; exact ⟨_, _, _, Heap.get?_push_size _ rfl, rfl, rfl, rfl⟩
  clear hob
  generalize hgs : (GenState.fresh _) = gs
  generalize hs5 : ({ s₄ with gens := s₄.gens.push gs, toks := s₄.toks + 1 + 1 + 1, heap := h'.push ob } : Shared) = s₅
  have h5h : s₅.heap = h'.push ob := by rw [← hs5]
  have h5g : s₅.gens = s₄.gens.push gs := by rw [← hs5]
  have keep₅ : ∀ b o, s₄.heap.get? b = some o → s₅.heap.get? b = some o := fun b o e => by rw [h5h]; exact Heap.get?_push_of_some _ (keep' b o e)
  have z5 : s₅.heap.objs.size = s₄.heap.objs.size + 2 := by rw [h5h, Heap.size_push, hsz']
  have mv₅ : Mv (B.at s₂.heap) No No s₄ s₅ := by
    refine ⟨fun b o _ _ e => keep₅ b o e, by rw [z5]; exact Nat.le_add_right _ _, fun i _ hi => ?_, ?_, fun x => x.keeps keep₅, by rw [← hs5], fun h => ?_, ?_⟩
    · rw [h5g, Array.getElem?_push_lt hi, Array.getElem?_eq_getElem hi]
    · rw [h5g]; simp
    · rw [h5g]; exact h.push (by subst hgs; rfl)
    · rw [← hs5]; exact Nat.le_add_right s₄.toks 3
  have ok₅ := mv₅.ok ok₄
  have z34 := mv₄.size
  have new : ∀ b, (b = s₄.heap.objs.size ∨ b ∈ [z, TI, TO, i1, i2]) → s₂.heap.objs.size ≤ b ∧ b < s₅.heap.objs.size := fun b hb => by
    rcases hb with rfl | hb
    · exact ⟨Nat.le_trans u₃.size z34, by rw [z5]; exact Nat.lt_add_of_pos_right (by decide)⟩
    · exact ⟨(hnew b hb).1, Nat.lt_of_lt_of_le (Nat.lt_of_lt_of_le (hnew b hb).2 z34) mv₅.size⟩
  have hC0 : s₄.heap.objs.size ∉ [z, TI, TO, i1, i2] := fun h => absurd (Nat.lt_of_lt_of_le (hnew _ h).2 z34) (Nat.lt_irrefl _)
  have hnP := fun b hb => ok₂'.new (new b hb).1
  have hCE : En (genEnv scope [] s₄.heap.objs.size c' builtinsNs env) := ⟨hkind, hE.glob, rfl, hco, by unfold interactive; simp [genEnv, hkind]⟩
  have hns₅ : s₅.heap.Ns s₄.heap.objs.size (fun y => if y = ".0" then some (.ref z) else none) := by rw [h5h]; exact hn'.push _
  have kk : ∀ b o, b ≠ B.P → s₃.heap.get? b = some o → s₅.heap.get? b = some o := fun b o hP e => keep₅ b o (mv₄.heap b o id hP e)
  have st₅ : ZSt z TI TO i1 i2 l1 l2 vs1.toArray vs2.toArray .none 0 s₅.heap := st.at (fun b hb o e => kk b o (hnP b (.inr hb)).2.1 e) (IsTuple.atM hv1 fun o e => kk _ o l1P (u₃.keep _ o e)) (IsTuple.atM hv2 fun o e => kk _ o l2P (u₃.keep _ o e))
  have G : GAt (B.at s₂.heap) (model prog w) (cn d (u + 4)) IsInt (zipRow (xs ++ ys) (ys ++ zs)) (fun b => b = s₄.heap.objs.size ∨ b ∈ [z, TI, TO, i1, i2]) No h'.objs.size s₄.gens.size s₅ := by
    refine ⟨by rw [h5h]; exact hobg _, fun b hb => (new b hb).2, fun h => (hnP _ h).2.1 rfl, id, fun _ h => h.elim, gs, by rw [h5g]; exact Array.getElem?_push_size .., fun s'' hag => ?_⟩
    subst hgs
    refine zip_start (B := B.at s₂.heap) (O := fun b => b = s₄.heap.objs.size ∨ b ∈ [z, TI, TO, i1, i2]) (OG := No) (s₀ := s'') (C := fun b => b = s₄.heap.objs.size ∨ b ∈ [z, TI, TO, i1, i2]) (CG := No) hCE rfl hxu hxv D hC0 hi1 hi2 (by simp only [List.length_append]; omega) hv1 hv2 l1P l2P
      (⟨Mv.refl _, fun _ h => .inl h, fun b hb => Nat.lt_of_lt_of_le (new b hb).2 hag.size, fun h => (hnP _ h).2.1 rfl, fun h => (hnP _ h).2.2 rfl, fun b hb => (hnP b hb).1, fun _ h => h.elim, fun _ h => h.elim, hag.ok⟩) (.inl rfl) (fun b hb => .inr hb) ?_ (hag.ns hns₅ (.inl rfl))
    exact st₅.at (fun b hb o e => hag.heap b o (.inr hb) e) (IsTuple.atM hv1 fun o e => hag.ok.keep _ o l1P e) (IsTuple.atM hv2 fun o e => hag.ok.keep _ o l2P e)
  have hOI : ¬ (h'.objs.size = s₄.heap.objs.size ∨ h'.objs.size ∈ [z, TI, TO, i1, i2]) := by
    rintro (h | h)
    · rw [hsz'] at h; exact absurd h (Nat.succ_ne_self _)
    · have := (hnew _ h).2
      rw [hsz'] at this
      exact absurd (Nat.lt_of_lt_of_le this z34) (Nat.not_lt.mpr (Nat.le_succ _))
  have hIP : h'.objs.size ≠ B.P := fun q => by
    have h1 := ok₂.liveP
    rw [← q, hsz'] at h1
    exact absurd h1 (Nat.not_lt.mpr (Nat.le_trans (Nat.le_trans u₃.size z34) (Nat.le_succ _)))
  have mv₂₅ : Mv (B.at s₂.heap) No No s₂ s₅ := (u₃.mv.thenNo mv₄).thenNo mv₅
  have hz25 := mv₂₅.size
  refine tuple_gat X' hroom G ok₅ hOI hIP (by simp [zipRow]; omega) fun s₆ T acc mv₆ hT htup hall => ?_
  have mv₂₆ : Mv (B.at s₂.heap) No No s₂ s₆ := mv₂₅.trans mv₆ (fun b hb => .inr (new b hb).1) fun i hi => hi.elim (fun h => h.elim) fun q => .inr (by rw [q, hg₄, u₃.gens]; exact Nat.le_refl _)
  refine hQ T s₆ ((up₂.mv).thenNo (mv₂₆.back ok₂)) (Nat.le_trans up₂.size (Nat.le_trans hz25 hT)) ⟨acc.toList, htup, ints_of hall⟩
end
end Mine
end

section
open PySem PySem.W PySem.Calls PyProof.Rows
set_option linter.unusedVariables false
set_option Elab.async false
set_option maxRecDepth 100000
namespace Mine
open Sem (wp)

def weakRows (n : Int) : Nat → List (List Int)
  | 0 => if n = 0 then [[]] else []
  | k + 1 => (combos (n + k) 0 k).map fun r => zipRow ([-1] ++ r) (r ++ [n + k])

section
variable {prog : Program} {w : World} {mg mb : Str → Option Value} {B : Gnd}

theorem weak_body0 (X : Wd mg mb B) {d u : Nat} {L a : Addr} {cd : Value} {O : Addr → Prop} {t t' : Tok} {n : Int} {m : Str → Option Value} {s : Shared}
    (hn0 : 0 ≤ n) (hOL : O L) (R : Run B O No s O No s) (hns : s.heap.Ns L m) (hm1 : m "n" = some (.int n t)) (hm2 : m "num_parts" = some (.int (0 : Nat) t')) :
    SegP (model prog w) (cn d u) (Emit B (model prog w) (cn d u) (IsRow 0) (weakRows n 0) O No s) (.func (dBody 4) (envOf (dName 4) (dScope 4) L a cd))
      ((model prog w).den (.func (dBody 4) (envOf (dName 4) (dScope 4) L a cd))) [] s := by
  have hE : En (envOf (dName 4) (dScope 4) L a cd) := en_of rfl rfl
  refine segP_func ?_
  dsimp only [dBody, PySem.Challenge.pw_jf0026_01, List.getElem?_cons_succ, List.getElem?_cons_zero]
  refine segP_execs_cons (segP_If (cn_over1 (cmpI (a := n) (b := 0) (c := false) hE (.name rfl rfl hm1) .const hns (fun t u s Q h => PyProof.Rows.lt_int (by rw [show decide (n < 0) = false from by simp; omega]; exact h)) fun sa ua => ?_)))
  rw [if_neg Bool.false_ne_true]
  refine segP_execs_nil (segP_execs_cons (segP_If (cn_over1 (cmpI (a := (0 : Nat)) (b := 0) (c := false) hE (.name rfl rfl hm2) .const (ua.ns hns) (fun t u s Q h => PyProof.Rows.lt_int h) fun sb ub => ?_))))
  rw [if_neg Bool.false_ne_true]
  have up := ua.trans ub
  refine segP_execs_nil (segP_execs_cons (segP_If (cn_over1 (cmpI (a := (0 : Nat)) (b := 0) (c := true) hE (.name rfl rfl hm2) .const (up.ns hns) (fun t u s Q h => PyProof.Rows.eq_int h) fun sc uc => ?_))))
  have up := up.trans uc
  show SegP _ _ _ _ (Sem.wrap _ _ _ _ (execs [Stmt.If _ _ _ _, _] _)) _ _
  refine segP_execs_cons (segP_If (cn_over1 (cmpI (a := n) (b := 0) (c := n == 0) hE (.name rfl rfl hm1) .const (up.ns hns) (fun t u s Q h => PyProof.Rows.eq_int h) fun sd ud => ?_)))
  have up := up.trans ud
  have R₁ := R.no up.mv
  by_cases hz : n = 0
  · subst hz
    refine segP_execs_cons (segP_Yield rfl rfl rfl (cn_over1 (ev_tuple0 X R₁.ok hE rfl fun b s₁ u₁ hb h₁ => ?_)) rfl rfl)
    have R₂ := R₁.no u₁.mv
    refine ⟨O, No, R₂, told_row rfl h₁ (fun h => absurd (R₁.live _ h) (Nat.not_lt.mpr hb)) (Nat.le_trans up.size hb), fun s₂ hag R₂ => ?_⟩
    exact segP_execs_nil (segP_execs_cons (segP_Return_none (seg_pure_end ⟨.inl rfl, R₂.mv⟩)))
  · rw [show (n == 0) = false from by simpa using hz, if_neg Bool.false_ne_true, weakRows, if_neg hz]
    exact segP_execs_nil (segP_execs_cons (segP_Return_none (seg_pure_end ⟨.inl rfl, R₁.mv⟩)))

theorem weak_body1 (X : Wd mg mb B) (f1 : Fn B mg 1 "_combinations") (k : Nat) {d u : Nat} {L a : Addr} {O : Addr → Prop} {t t' : Tok} {n : Int} {m : Str → Option Value} {s : Shared}
    (hk : k + 1 ≤ 60) (hd : d + 3 * k + 20 < 1000) (hu : u + 10 * k + 200 < 9900) (hn0 : 0 ≤ n) (hn1 : n ≤ 900) (hOL : O L) (R : Run B O No s O No s) (hns : s.heap.Ns L m) (hm1 : m "n" = some (.int n t)) (hm2 : m "num_parts" = some (.int (k + 1 : Nat) t')) :
    SegP (model prog w) (cn d u) (Emit B (model prog w) (cn d u) (IsRow (k + 1)) (weakRows n (k + 1)) O No s) (.func (dBody 4) (envOf (dName 4) (dScope 4) L a (.ref B.c)))
      ((model prog w).den (.func (dBody 4) (envOf (dName 4) (dScope 4) L a (.ref B.c)))) [] s := by
  have hE : En (envOf (dName 4) (dScope 4) L a (.ref B.c)) := en_of rfl rfl
  have hroom : d + 1 < recursionLimit := by show d + 1 < 1000; omega
  refine segP_func ?_
  dsimp only [dBody, PySem.Challenge.pw_jf0026_01, List.getElem?_cons_succ, List.getElem?_cons_zero]
  refine segP_execs_cons (segP_If (cn_over1 (cmpI (a := n) (b := 0) (c := false) hE (.name rfl rfl hm1) .const hns (fun t u s Q h => PyProof.Rows.lt_int (by rw [show decide (n < 0) = false from by simp; omega]; exact h)) fun sa ua => ?_)))
  rw [if_neg Bool.false_ne_true]
  refine segP_execs_nil (segP_execs_cons (segP_If (cn_over1 (cmpI (a := (k + 1 : Nat)) (b := 0) (c := false) hE (.name rfl rfl hm2) .const (ua.ns hns) (fun t u s Q h => PyProof.Rows.lt_int (by rw [show decide (((k + 1 : Nat) : Int) < 0) = false from by simp; omega]; exact h)) fun sb ub => ?_))))
  rw [if_neg Bool.false_ne_true]
  have up := ua.trans ub
  refine segP_execs_nil (segP_execs_cons (segP_If (cn_over1 (cmpI (a := (k + 1 : Nat)) (b := 0) (c := false) hE (.name rfl rfl hm2) .const (up.ns hns) (fun t u s Q h => PyProof.Rows.eq_int (by rw [show (((k + 1 : Nat) : Int) == 0) = false from by simp; omega]; exact h)) fun sc uc => ?_))))
  rw [if_neg Bool.false_ne_true]
  have up := up.trans uc
  have R₁ := R.no up.mv
  have hns₁ := up.ns hns
  -- m
  refine segP_execs_nil (segP_execs_cons (seg_asg hE (L := L) rfl rfl R₁ hOL hns₁ (fun v _ => ∃ t, v = .int (n + k) t) (IEv.runV (n := n + k) hE (m := m) (.sub (.add (.name rfl rfl hm1) (.name rfl rfl hm2)) .const) (by omega) hns₁ fun t s' u => ⟨u, t, rfl⟩) ?_))
  rintro _ sd s₂ m₂ ud ⟨t3, rfl⟩ R₂ hns₂ hmm hm₂ hk₂ hz₂
  have hmp := (hm₂ "num_parts" (by decide)).trans hm2
  clear hns hns₁ R₁ R ua ub uc up hm1 hm2 hm₂
  -- last
  refine segP_execs_cons (seg_asg hE (L := L) rfl rfl R₂ hOL hns₂ (fun v s' => ∃ la, v = .ref la ∧ TupI s'.heap la [n + k] ∧ s₂.heap.objs.size ≤ la) (Tuple_ (args_cons (ldl hE rfl hns₂ hmm (args_nil (newTupI (ns := [n + k]) (.cons _ t3 .nil) (by rw [sizeLine_eq]; simp) fun la s' u hla h => ⟨u, la, rfl, h, hla⟩))))) ?_)
  rintro _ se s₃ m₃ ue ⟨la, rfl, hla, hlan⟩ R₃ hns₃ hml hm₃ hk₃ hz₃
  have hLs := Ns_live hns₂
  have hlaL : la ≠ L := fun q => absurd (q ▸ hLs) (Nat.not_lt.mpr hlan)
  have hla := hla.at fun o e => hk₃ la o hlaL e
  have hlal := hla.live
  have hmm₃ := (hm₃ "m" (by decide)).trans hmm
  have hmp₃ := (hm₃ "num_parts" (by decide)).trans hmp
  -- first
  refine segP_execs_cons (seg_asg hE (L := L) rfl rfl R₃ hOL hns₃ (fun v s' => ∃ fa, v = .ref fa ∧ TupI s'.heap fa [-1] ∧ s₃.heap.objs.size ≤ fa) (Tuple_ (args_cons (IEv.runV (n := -1) hE (m := m₃) (.neg .const) (by omega) hns₃ fun t4 s4 u4 => args_nil (newTupI (ns := [-1]) (.cons _ t4 .nil) (by rw [sizeLine_eq]; simp) fun fa s' u hfa h => ⟨u4.trans u, fa, rfl, h, Nat.le_trans u4.size hfa⟩)))) ?_)
  rintro _ sf s₅ m₅ uf ⟨fa, rfl, hfa, hfan⟩ R₅ hns₅ hmf hm₅ hk₅ hz₅
  have hLs₃ := Ns_live hns₃
  have hfaL : fa ≠ L := fun q => absurd (q ▸ hLs₃) (Nat.not_lt.mpr hfan)
  have hfa := hfa.at fun o e => hk₅ fa o hfaL e
  have hfal := hfa.live
  have hla := (hla.keeps uf.keep).at fun o e => hk₅ la o hlaL e
  have hmm₅ := (hm₅ "m" (by decide)).trans hmm₃
  have hmp₅ := (hm₅ "num_parts" (by decide)).trans hmp₃
  have hml₅ := (hm₅ "last" (by decide)).trans hml
  have hz23 : s₂.heap.objs.size ≤ s₃.heap.objs.size := Nat.le_trans ue.size hz₃
  have hz35 : s₃.heap.objs.size ≤ s₅.heap.objs.size := Nat.le_trans uf.size hz₅
  have R₆ : Run B O No s (fun b => O b ∨ b = fa ∨ b = la) No s₅ := by
    refine ⟨R₅.mv, fun b hb => ?_, fun b hb => ?_, fun h => ?_, fun h => ?_, fun b hb => ?_, R₅.gsub, R₅.glive, R₅.ok⟩
    · rcases hb with h | rfl | rfl
      · exact R₅.sub b h
      · exact .inr (Nat.le_trans R₃.mv.size hfan)
      · exact .inr (Nat.le_trans R₂.mv.size hlan)
    · rcases hb with h | rfl | rfl
      · exact R₅.live b h
      · exact hfal
      · exact Nat.lt_of_lt_of_le hlal hz35
    · rcases h with h | h | h
      · exact R₅.nP h
      · exact (R₃.ok.new hfan).2.1 h.symm
      · exact (R₂.ok.new hlan).2.1 h.symm
    · rcases h with h | h | h
      · exact R₅.nc h
      · exact (R₃.ok.new hfan).2.2 h.symm
      · exact (R₂.ok.new hlan).2.2 h.symm
    · rcases hb with h | rfl | rfl
      · exact R₅.nK b h
      · exact (R₃.ok.new hfan).1
      · exact (R₂.ok.new hlan).1
  obtain ⟨fa1, o, pm, cd', doc, hmg, ho, hdata, hcd⟩ := f1
  have f1 : Fn B mg 1 "_combinations" := ⟨fa1, o, pm, cd', doc, hmg, ho, hdata, hcd⟩
  refine segP_execs_cons (segP_For ?_ (by intro _; rfl))
  refine cn_over1 ?_
  refine Call_ (ldg X R₆.ok hE rfl hmg (callWith_def hdata ?_))
  refine args_cons (evC fun t6 s6 u6 => ?_)
  refine args_cons (ldl hE rfl (u6.ns hns₅) hmm₅ ?_)
  refine args_cons (IEv.runV (n := (k : Nat)) hE (m := m₅) (.sub (.name rfl rfl hmp₅) .const) (by omega) (u6.ns hns₅) fun t7 s7 u7 => ?_)
  refine args_nil ⟨X.get ((u6.trans u7).ok R₆.ok) ho (by rw [hdata]; exact nofun), ?_⟩
  refine wpAny_call (gen_make (binds := [("low", .int 0 t6), ("high", .int (n + k) t3), ("many", .int (k : Nat) t7)]) hroom (X.get ((u6.trans u7).ok R₆.ok) ho (by rw [hdata]; exact nofun)) hdata (X.nolimit ((u6.trans u7).ok R₆.ok)) (X.code ((u6.trans u7).ok R₆.ok) hcd) rfl (locs rfl) ?_ rfl rfl rfl)
  intro L' ga s' x
  have up := u6.trans u7
  have mk := made_of (prog := prog) (w := w) (d := d + 1) (u := u + 4) (Is := IsRow k) (rs := combos (n + k) 0 k) (Oa := No) up x R₆ (fun _ h => h.elim) fun s'' _ R'' hns'' => combos_body X f1 k (by omega) (by omega) (by omega) (by omega) (by omega) (by omega) (by omega) (.inl rfl) R'' hns'' rfl rfl rfl
  refine cn_over1 (wpAny_pyIter_gen mk.gat.isGen fun p => ?_)
  have R₁ : Run B O No s _ _ s' := R₆.go mk.mv.no mk.new mk.gnew
  have hPL : L ≠ B.P := fun q => R₆.nP (q ▸ .inl hOL)
  have hLa := Ns_live hns₅
  rw [weakRows, ← List.append_nil ((combos (n + k) 0 k).map _)]
  refine genLoop (y := "t") X hE (L := L) rfl rfl (fun r => zipRow ([-1] ++ r) (r ++ [n + (k : Int)])) [] (fun h => cn_over2 h) rfl ?hfg hroom (fun b => b = fa ∨ b = la) (fun m => m "first" = some (.ref fa) ∧ m "last" = some (.ref la)) (fun h => TupI h fa [-1] ∧ TupI h la [n + (k : Int)]) (fun m v h => ⟨(if_neg (by decide)).trans h.1, (if_neg (by decide)).trans h.2⟩)
    (fun h h' j hk => ⟨j.1.at fun o e => hk fa o (.inl rfl) e, j.2.at fun o e => hk la o (.inr rfl) e⟩)
    (fun q => absurd (q ▸ mk.gan) (Nat.not_le.mpr hLa)) ?_ ?_ (combos (n + k) 0 k) s' O No s _ _ _ _ m₅ R₁ mk.gat (mk.sub _ (.inl hOL)) mk.ga' mk.oi (mk.noC _ hLa) mk.noga mk.ogi mk.g' ?_ (mk.mv.ns hns₅ id hPL) ⟨hmf, hml₅⟩ ⟨?_, ?_⟩
  case hfg => rfl
  · intro r v s O OG s₀ C CG m R hCL hZ hns hm hmy hj ht
    obtain ⟨hl, b, rfl, hb⟩ := ht.now
    refine ev_weakRow X hroom hE rfl R.ok hns hm.1 hmy hm.2 hj.1 hb hj.2 rfl (Nat.le_trans (by simp only [List.length_cons, List.length_nil]; omega) sizeLine_big) rfl rfl rfl rfl rfl rfl rfl ?hcell rfl rfl rfl rfl (by intro _; rfl) fun T s' mv hT htup => ⟨mv, told_row ?_ htup (fun h => absurd (R.live _ h) (Nat.not_lt.mpr hT)) (Nat.le_trans R.mv.size hT)⟩
    case hcell => decide
    simp [zipRow, hl]
  · intro s O OG s₀ C CG m R hCL _ hns _ _
    exact seg_pure_end ⟨.inl rfl, R.mv⟩
  · rintro b (rfl | rfl)
    · exact ⟨mk.sub _ (.inr (.inl rfl)), hfaL, mk.noC _ hfal⟩
    · exact ⟨mk.sub _ (.inr (.inr rfl)), hlaL, mk.noC _ (Nat.lt_of_lt_of_le hlal hz35)⟩
  · exact hfa.at fun o e => mk.mv.heap _ o id (R₃.ok.new hfan).2.1 e
  · exact hla.at fun o e => mk.mv.heap _ o id (R₂.ok.new hlan).2.1 e
end
end Mine
end

section
open PySem PySem.W PySem.Calls PyProof.Rows
set_option linter.unusedVariables false
set_option Elab.async false
set_option maxRecDepth 100000
namespace Mine
open Sem (wp)

section
variable {prog : Program} {w : World} {mg mb : Str → Option Value} {B : Gnd}

/-- a list of rows has been told -/
def ToldRows {ρ : Type} (B : Gnd) (s : Shared) (Is : ρ → Heap → Value → Prop) (rs : List ρ) (v : Value) (s' : Shared) : Prop :=
  ∃ S acc c, v = .ref S ∧ Mv B No No s s' ∧ s.heap.objs.size ≤ S ∧ s'.heap.get? S = some (lstObj acc c) ∧ All2 (fun r v => Is r s'.heap v) rs acc.toList

theorem list_new {s s₀ : Shared} (X : Wd mg mb B) {ρ : Type} {Is : ρ → Heap → Value → Prop} {d u : Nat} (hroom : d < recursionLimit) {L ga : Addr} {c : Code} {m : Str → Option Value} {s' : Shared} {rs : List ρ} {E : Value → Shared → Prop} {Q : Value → Shared → Prop}
    (ok₀ : Ok B s₀.heap) (mv₀ : Mv B No No s₀ s) (x : Newg s s' L ga c m) (ok : Ok B s.heap) (hsz : rs.length ≤ sizeLine)
    (body : ∀ s'', Run B (fun b => b = L ∨ No b) No s'' (fun b => b = L ∨ No b) No s'' → s''.heap.Ns L m →
      SegP (model prog w) (cn d (u + 3)) (Emit B (model prog w) (cn d (u + 3)) Is rs (fun b => b = L ∨ No b) No s'') c ((model prog w).den c) [] s'')
    (hQ : ∀ v s', ToldRows B s₀ Is rs v s' → Q v s') : wpAny (model prog w) (cn d u) (call (.type "list") [.ref ga]) Q E s' := by
  have G := x.gat (prog := prog) (w := w) (d := d) (u := u + 3) (Is := Is) (rs := rs) (Oa := No) ok (fun _ h => h.elim) (fun h => h) (fun h => h) (fun _ h => h.elim) fun s'' _ R hn => body s'' R hn
  have mv := mv₀.thenNo x.mv
  have ok' := mv.ok ok₀
  have hz := mv₀.size
  refine list_gat X hroom G ok' (fun h => h.elim (fun q => x.ne q.symm) fun h => h) (fun q => absurd ok.liveP (Nat.not_lt.mpr (q ▸ x.na))) hsz fun s₂ S acc cc mv₂ hS hS2 hall => hQ _ _ ⟨S, acc, cc, rfl, ?_, ?_, hS2, hall⟩
  · refine mv.trans mv₂ (fun b h => h.elim (fun q => .inr (q ▸ Nat.le_trans hz x.nL)) fun h => h.elim) fun i h => h.elim (fun h => h.elim) fun q => .inr (q ▸ ?_)
    exact mv₀.gsz
  · exact Nat.le_trans hz (Nat.le_trans x.size hS)

theorem told_fixed (X : Wd mg mb B) (f3 : Fn B mg 3 "fixed_integer_vector_iter") {ns : List Int} {d u : Nat} {L a v : Addr} {cd : Value} {tk tt : Tok} {vs : Int} {m : Str → Option Value} {s : Shared} {E : Value → Shared → Prop} {Q : Flow → Shared → Prop}
    (hn0 : ns.length ≤ 60) (hd : d + 3 * ns.length + 20 < 1000) (hu : u + 10 * ns.length + 200 < 9900) (hb : ∀ x ∈ ns, -1000 ≤ x ∧ x ≤ 1000) (hv1 : 0 ≤ vs) (hv2 : vs ≤ 1000) (hsz : (fixedRows ns vs).length ≤ sizeLine) (ok : Ok B s.heap) (hns : s.heap.Ns L m)
    (hk : m "kind" = some (.int 0 tk)) (h1 : m "one" = some (.ref v)) (h2 : m "two" = some (.int vs tt)) (vP : v ≠ B.P) (sq : SeqI B.K v ns)
    (hQ : ∀ v s', ToldRows B s (IsRow ns.length) (fixedRows ns vs) v s' → Q (.ret v) s') :
    wpAny (model prog w) (cn d u) (execs (dBody 9) (envOf (dName 9) (dScope 9) L a cd)) Q E s := by
  have hE : En (envOf (dName 9) (dScope 9) L a cd) := en_of rfl rfl
  have hroom : d < recursionLimit := by show d < 1000; omega
  dsimp only [dBody, PySem.Challenge.pw_jf0026_01, List.getElem?_cons_succ, List.getElem?_cons_zero]
  refine wpAny_execs_cons (wpAny_Try_except ?_)
  refine wpAny_execs_cons (wpAny_If (cmpI (a := 0) (b := 0) (c := true) hE (.name rfl rfl hk) .const hns (fun t u s Q h => PyProof.Rows.eq_int h) fun sa ua => ?_))
  rw [if_pos rfl]
  refine wpAny_execs_cons (wpAny_Return_some ?_)
  refine Call_ (ldb X (ua.ok ok) hE rfl (X.free _ (by simp)) boot_list (callWith_type1 (args_cons ?_)))
  obtain ⟨fa, o, pm, cd', doc, hmg, ho, hdata, hcd⟩ := f3
  have f3 : Fn B mg 3 "fixed_integer_vector_iter" := ⟨fa, o, pm, cd', doc, hmg, ho, hdata, hcd⟩
  refine Call_ (ldg X (ua.ok ok) hE rfl hmg (callWith_def hdata ?_))
  refine args_cons (ldl hE rfl (ua.ns hns) h1 (args_cons (ldl hE rfl (ua.ns hns) h2 (args_nil ⟨X.get (ua.ok ok) ho (by rw [hdata]; exact nofun), ?_⟩))))
  refine wpAny_call (gen_make (binds := [("max_vector", .ref v), ("vector_sum", .int vs tt)]) hroom (X.get (ua.ok ok) ho (by rw [hdata]; exact nofun)) hdata (X.nolimit (ua.ok ok)) (X.code (ua.ok ok) hcd) rfl (locs rfl) ?_ rfl rfl rfl)
  intro L' ga s' x
  refine args_nil ?_
  refine list_new X hroom ok ua.mv x (ua.ok ok) hsz (fun s'' R hn => ?_) fun v s' h => hQ v s' h
  have hvL' : v ≠ L' := fun q => absurd (sq.at fun o e => (ua.ok ok).keep v o vP e).live (Nat.not_lt.mpr (q ▸ x.nL))
  refine fixed_body X f3 ns (by omega) (by omega) (by omega) hb hv1 hv2 (.inl rfl) R hn rfl rfl ?_ (fun h => ?_) (.inr ⟨vP, sq⟩)
  · exact hvL'
  · exact h.elim (fun q => absurd q hvL') fun h => h.elim

theorem told_weak0 (X : Wd mg mb B) {cd4 : Value} (f4 : ∃ a o pm doc, mg "weak_composition_iter" = some (.ref a) ∧ B.K.get? a = some o ∧ o.data = .func (docDef (dName 4) (dArgs 4) (dBody 4) (dScope 4) pm cd4 doc) ∧ B.K.CodeRec cd4 (dName 4)) {d u : Nat} {L a : Addr} {cd : Value} {tk t1 t2 : Tok} {n : Int} {m : Str → Option Value} {s : Shared} {E : Value → Shared → Prop} {Q : Flow → Shared → Prop}
    (hroom : d < recursionLimit) (hn0 : 0 ≤ n) (ok : Ok B s.heap) (hns : s.heap.Ns L m)
    (hk : m "kind" = some (.int 1 tk)) (h1 : m "one" = some (.int n t1)) (h2 : m "two" = some (.int (0 : Nat) t2))
    (hQ : ∀ v s', ToldRows B s (IsRow 0) (weakRows n 0) v s' → Q (.ret v) s') :
    wpAny (model prog w) (cn d u) (execs (dBody 9) (envOf (dName 9) (dScope 9) L a cd)) Q E s := by
  have hE : En (envOf (dName 9) (dScope 9) L a cd) := en_of rfl rfl
  dsimp only [dBody, PySem.Challenge.pw_jf0026_01, List.getElem?_cons_succ, List.getElem?_cons_zero]
  refine wpAny_execs_cons (wpAny_Try_except ?_)
  refine wpAny_execs_cons (wpAny_If (cmpI (a := 1) (b := 0) (c := false) hE (.name rfl rfl hk) .const hns (fun t u s Q h => PyProof.Rows.eq_int h) fun sa ua => ?_))
  rw [if_neg Bool.false_ne_true]
  refine wpAny_execs_nil (wpAny_execs_cons (wpAny_Return_some ?_))
  refine Call_ (ldb X (ua.ok ok) hE rfl (X.free _ (by simp)) boot_list (callWith_type1 (args_cons ?_)))
  obtain ⟨fa, o, pm, doc, hmg, ho, hdata, hcd⟩ := f4
  refine Call_ (ldg X (ua.ok ok) hE rfl hmg (callWith_def hdata ?_))
  refine args_cons (ldl hE rfl (ua.ns hns) h1 (args_cons (ldl hE rfl (ua.ns hns) h2 (args_nil ⟨X.get (ua.ok ok) ho (by rw [hdata]; exact nofun), ?_⟩))))
  refine wpAny_call (gen_make (binds := [("n", .int n t1), ("num_parts", .int (0 : Nat) t2)]) hroom (X.get (ua.ok ok) ho (by rw [hdata]; exact nofun)) hdata (X.nolimit (ua.ok ok)) (X.code (ua.ok ok) hcd) rfl (locs rfl) ?_ rfl rfl rfl)
  intro L' ga s' x
  refine args_nil ?_
  refine list_new X hroom ok ua.mv x (ua.ok ok) (Nat.le_trans (by rw [weakRows]; split <;> simp) sizeLine_big) (fun s'' R hn => ?_) fun v s' h => hQ v s' h
  exact weak_body0 X hn0 (.inl rfl) R hn rfl rfl

theorem told_weak1 (X : Wd mg mb B) (f1 : Fn B mg 1 "_combinations") (f4 : ∃ a o pm doc, mg "weak_composition_iter" = some (.ref a) ∧ B.K.get? a = some o ∧ o.data = .func (docDef (dName 4) (dArgs 4) (dBody 4) (dScope 4) pm (.ref B.c) doc) ∧ B.K.CodeRec (.ref B.c) (dName 4)) {d u k : Nat} {L a : Addr} {cd : Value} {tk t1 t2 : Tok} {n : Int} {m : Str → Option Value} {s : Shared} {E : Value → Shared → Prop} {Q : Flow → Shared → Prop}
    (hk0 : k + 1 ≤ 60) (hd : d + 3 * k + 20 < 1000) (hu : u + 10 * k + 300 < 9900) (hn0 : 0 ≤ n) (hn1 : n ≤ 900) (hsz : (weakRows n (k + 1)).length ≤ sizeLine) (ok : Ok B s.heap) (hns : s.heap.Ns L m)
    (hk : m "kind" = some (.int 1 tk)) (h1 : m "one" = some (.int n t1)) (h2 : m "two" = some (.int (k + 1 : Nat) t2))
    (hQ : ∀ v s', ToldRows B s (IsRow (k + 1)) (weakRows n (k + 1)) v s' → Q (.ret v) s') :
    wpAny (model prog w) (cn d u) (execs (dBody 9) (envOf (dName 9) (dScope 9) L a cd)) Q E s := by
  have hE : En (envOf (dName 9) (dScope 9) L a cd) := en_of rfl rfl
  have hroom : d < recursionLimit := by show d < 1000; omega
  dsimp only [dBody, PySem.Challenge.pw_jf0026_01, List.getElem?_cons_succ, List.getElem?_cons_zero]
  refine wpAny_execs_cons (wpAny_Try_except ?_)
  refine wpAny_execs_cons (wpAny_If (cmpI (a := 1) (b := 0) (c := false) hE (.name rfl rfl hk) .const hns (fun t u s Q h => PyProof.Rows.eq_int h) fun sa ua => ?_))
  rw [if_neg Bool.false_ne_true]
  refine wpAny_execs_nil (wpAny_execs_cons (wpAny_Return_some ?_))
  refine Call_ (ldb X (ua.ok ok) hE rfl (X.free _ (by simp)) boot_list (callWith_type1 (args_cons ?_)))
  obtain ⟨fa, o, pm, doc, hmg, ho, hdata, hcd⟩ := f4
  refine Call_ (ldg X (ua.ok ok) hE rfl hmg (callWith_def hdata ?_))
  refine args_cons (ldl hE rfl (ua.ns hns) h1 (args_cons (ldl hE rfl (ua.ns hns) h2 (args_nil ⟨X.get (ua.ok ok) ho (by rw [hdata]; exact nofun), ?_⟩))))
  refine wpAny_call (gen_make (binds := [("n", .int n t1), ("num_parts", .int (k + 1 : Nat) t2)]) hroom (X.get (ua.ok ok) ho (by rw [hdata]; exact nofun)) hdata (X.nolimit (ua.ok ok)) (X.code (ua.ok ok) hcd) rfl (locs rfl) ?_ rfl rfl rfl)
  intro L' ga s' x
  refine args_nil ?_
  refine list_new X hroom ok ua.mv x (ua.ok ok) hsz (fun s'' R hn => ?_) fun v s' h => hQ v s' h
  exact weak_body1 X f1 k (by omega) (by omega) (by omega) hn0 hn1 (.inl rfl) R hn rfl rfl
end
end Mine
end

section
open PySem PySem.W PySem.Calls PyProof.Rows
set_option linter.unusedVariables false
set_option Elab.async false
set_option maxRecDepth 100000
namespace Mine
open Sem (wp)

theorem wpAny_sizesE {α : Type} {M : Model} {A : Around} {s : Shared} {t : Sem α} {Q : α → Shared → Prop} {E : Value → Shared → Prop}
    (h : wpAny M A t (fun a s' => s.heap.objs.size ≤ s'.heap.objs.size → s.toks ≤ s'.toks → Q a s') (fun a s' => s.heap.objs.size ≤ s'.heap.objs.size → s.toks ≤ s'.toks → E a s') s) : wpAny M A t Q E s := by
  intro Γ p hΓ
  have h1 := Sem.wp_toks M Γ s.toks t _ _ p s (Nat.le_refl _) (wp_size M Γ s.heap.objs.size t _ _ p s (Nat.le_refl _) (h Γ p hΓ))
  exact Sem.wp_mono M Γ t (fun a p' s' h' => h'.2.2 h'.2.1 h'.1) (fun a p' s' h' => h'.2.2 h'.2.1 h'.1) p s h1

/-- an exception is on its way; frames have changed in their slots alone -/
structure Fl (base : Heap) (s s' : Shared) : Prop where
  stays : base.StaysIn s'.heap
  up : s.heap.UpToSlots s'.heap
  size : s.heap.objs.size ≤ s'.heap.objs.size
  gens : ∀ i, i < s.gens.size → s'.gens[i]? = s.gens[i]?
  gsz : s.gens.size ≤ s'.gens.size
  os : s'.os = s.os
  bare : AllBare s.gens → AllBare s'.gens
  toks : s.toks ≤ s'.toks

theorem Fl.trans {base : Heap} {s s' s'' : Shared} (x : Fl base s s') (y : Fl base s' s'') : Fl base s s'' :=
  ⟨y.stays, x.up.trans y.up, Nat.le_trans x.size y.size, fun i hi => (y.gens i (Nat.lt_of_lt_of_le hi x.gsz)).trans (x.gens i hi), Nat.le_trans x.gsz y.gsz, y.os.trans x.os, fun h => y.bare (x.bare h), Nat.le_trans x.toks y.toks⟩
theorem Fl.heap {base : Heap} {s : Shared} {h' : Heap} {tk : Nat} (st : base.StaysIn h') (up : s.heap.UpToSlots h') (hz : s.heap.objs.size ≤ h'.objs.size) (ht : s.toks ≤ tk) : Fl base s { s with heap := h', toks := tk } :=
  ⟨st, up, hz, fun _ _ => rfl, Nat.le_refl _, rfl, id, ht⟩

section
variable {prog : Program} {w : World} {mg mb : Str → Option Value} {B : Gnd}

theorem Ok.stays {h h' : Heap} (x : Ok B h) (k : h.StaysIn h') : Ok B h' := x.keeps k

theorem segP_raiseVE {A : Around} (X : Wd mg mb B) (hh : A.handled = none) {outer : List Env} (hfr : A.frames = some outer) {env : Env} (hE : En env) {Lg : Addr} (hf : env.frame = some Lg) {base : Heap} (okb : Ok B base)
    {p1 p2 p3 pos : Pos} {kk : Nat} {msg : Str} {K : Flow → Sem Fin} {gd : Bool → Bool} {lv : List Value → List Value} {body1 : List Stmt} {Φ : End → Shared → Prop} {s : Shared}
    (hx : env.kindOf "ValueError" = some .globalImplicit) (kb : base.StaysIn s.heap) (ff : s.heap.FunFrames base (env :: outer))
    (hΦ : ∀ e a0 s', Heap.FlyingW base outer e (.type "ValueError") a0 s'.heap → Fl base s s' → s'.gens = s.gens → Φ (.ret (.error (.ref e))) s') :
    SegP (model prog w) A Φ (.func body1 env) ((exec (.Raise (some (.Call (.Name "ValueError" p1) [.Constant (.str msg) kk p2] [] p3)) none pos) env).wrap K (fun e => (leaving env e).wrap (fun _ => .raise e) .raise id id) gd lv) [] s := by
  have hfr' : (A.over (.func body1 env) []).frames = some (env :: outer) := by simp [Around.over, pushEnvs, Code.envs, Code.isFrame, Code.env?, envsOf, hfr]
  refine segP_wrap (wpAny_sizesE (Raise_madeB PySem.F.excCall_ValueError PySem.F.excRaise_ValueError hh (ldb X (okb.stays kb) hE hx (X.free _ (by simp)) PyProof.Rows.Boot.«ValueError» ⟨rfl, args_cons (wpAny_Constant_str (args_nil ⟨Nat.le_trans (by simp) sizeLine_big, fun h' e mk => ?_⟩))⟩)))
  intro hz ht
  replace hz : s.heap.objs.size ≤ h'.objs.size := hz
  refine segP_wrap (wpAny_sizes (wpAny_leaves_madeW (h := s.heap) hfr' hf kb ff mk.of fun h'' t x1 x2 x3 x4 => ?_))
  intro hz' ht'
  refine segP_end (.error (.ref e)) (hΦ e (.ref t) _ x1 ?_ rfl)
  exact Fl.heap x1.1 ((Heap.UpToSlots.of_keeps mk.keeps).trans x4) (Nat.le_trans hz hz') (Nat.le_succ _)

/-- list() of a generator that raises at once -/
theorem list_raise {A : Around} {E : Value → Shared → Prop} {Q : Value → Shared → Prop} {s : Shared} (hh : A.handled = none) (hroom : A.depth < recursionLimit) (hl : s.heap.NoLimit) {I : Addr} {g : Nat} {c : Code} (hg : s.heap.IsGen I g) (hgs : s.gens[g]? = some (.fresh c)) {Φ : Heap → End → Shared → Prop}
    (hgo : ∀ h', (∀ b o, s.heap.get? b = some o → h'.get? b = some o) → s.heap.objs.size ≤ h'.objs.size → SegP (model prog w) A.in1.in1.in1 (Φ h') c ((model prog w).den c) [] ({ s with heap := h' }.setGen g .running))
    (hΦ : ∀ h' e s₁, (∀ b o, s.heap.get? b = some o → h'.get? b = some o) → s.heap.objs.size ≤ h'.objs.size → Φ h' e s₁ → ∃ er, e = .ret (.error (.ref er)) ∧ s₁.TypeIs (.ref er) "ValueError" ∧ s₁.heap.IsGen I g ∧ E (.ref er) (s₁.setGen g .finished)) :
    wpAny (model prog w) A (call (.type "list") [.ref I]) Q E s := by
  refine list_pre hg fun h' c' hk hz hS => ?_
  have hz' : s.heap.objs.size ≤ h'.objs.size := by rw [hz]; exact Nat.le_succ _
  refine codeAny_builtin F.entry_extend_loop ?_
  rw [Around.under_plainId F.plain_extend_loop _]
  show wpAny _ A.in1.in1 (pyNext (.ref I) >>= _) _ _ _
  refine wpAny_bind (wpAny_pyNext_P (A := A.in1.in1) (Φ := Φ h') hh (hl.keeps hk) hroom (hg.keeps hk) hgs (hgo h' hk hz') fun e s₁ he => .inr (.inr ?_))
  obtain ⟨er, rfl, hT, hG, hE⟩ := hΦ h' e s₁ hk hz' he
  exact ⟨er, rfl, hT, hG, hE⟩

theorem told_catch {A : Around} (X : Wd mg mb B) {outer : List Env} (hfr : A.frames = some outer) {name : Str} {scope : Scope} {L a : Addr} {cd : Value} (hE : En (envOf name scope L a cd)) {base : Heap} (okb : Ok B base) {e : Addr} {a0 : Value} {np p1 pos hpos : Pos} {kk : Nat}
    {s : Shared} {Q : Flow → Shared → Prop} {E : Value → Shared → Prop} (hx : (envOf name scope L a cd).kindOf "ValueError" = some .globalImplicit) (hfl : Heap.FlyingW base (envOf name scope L a cd :: outer) e (.type "ValueError") a0 s.heap)
    (hQ : ∀ s', Fl base s s' → Q (.ret .none) s') :
    wpAny (model prog w) (A.deeper (envOf name scope L a cd)) (noteFrame (.ref e) (envOf name scope L a cd))
      (fun _ s₂ => wpAny (model prog w) (A.deeper (envOf name scope L a cd)) (setFlight (.ref e) none) (fun _ s₃ =>
        wpAny (model prog w) (A.deeper (envOf name scope L a cd)) (handleBy (.ref e) (envOf name scope L a cd) [.ExceptHandler (some (.Name "ValueError" np)) none [.Return (some (.Constant .none kk p1)) pos] hpos]) Q E s₃) E s₂) E s := by
  refine wpAny_sizes (wpAny_looks_onW (Around.frames_deeper hfr) rfl hfl fun h₄ hheld₄ hsm₄ => ?_)
  intro hz4 ht4
  refine wpAny_sizes (wpAny_landsW hheld₄ fun h₅ hheld hsm₅ => ?_)
  intro hz5 ht5
  obtain ⟨ob, hob, hobc⟩ := hheld.there
  refine wpAny_handleBy_builtin (X := "ValueError") (T := "ValueError") (b := true) PySem.F.isExc_ValueError PySem.F.notTuple_ValueError (by rw [isSubtype_type]; kernel_rfl) (ldb X (okb.stays hheld.1) hE hx (X.free _ (by simp)) PyProof.Rows.Boot.«ValueError» ⟨rfl, ⟨ob, hob, hobc⟩, ?_⟩)
  rw [if_pos rfl]
  refine wpAny_sizes (lands_againW hheld fun h₆ hfl₆ hsm₆ => ?_)
  intro hz6 ht6
  refine wpAny_execs_cons (wpAny_Return_some (wpAny_Constant_none ?_))
  exact hQ _ (Fl.heap hfl₆.1 ((hsm₄.trans hsm₅).trans hsm₆) (Nat.le_trans (Nat.le_trans hz4 hz5) hz6) (Nat.le_refl _))
end
end Mine
end

section
open PySem PySem.W PySem.Calls PyProof.Rows
set_option linter.unusedVariables false
set_option Elab.async false
set_option maxRecDepth 100000
namespace Mine
open Sem (wp)

def frs (l : List Env) : List Addr := l.filterMap (·.frame)

section
variable {prog : Program} {w : World} {mg mb : Str → Option Value} {B : Gnd}

theorem Ok.hide {h : Heap} (x : Ok B h) {as : List Addr} (hfs : ∀ b ∈ as, B.K.get? b = none ∧ b ≠ B.P ∧ b ≠ B.c) : Ok B (hideAll h as) := by
  refine ⟨fun b o hb e => hideAll_get _ (x.keep b o hb e) fun hm => (by rw [(hfs b hm).1] at e; cases e), ?_⟩
  obtain ⟨ps, ⟨o, vs, file, tf, flags, tg, inF, text, tt, op, a, r1, r2, r3, r4, r5, r6, b, r⟩, ⟨⟨o', vs', e1, r'⟩, e2⟩⟩ := x.tab
  have nc : B.c ∉ as := fun h => (hfs _ h).2.2 rfl
  have nP : B.P ∉ as := fun h => (hfs _ h).2.1 rfl
  exact ⟨ps, ⟨o, vs, file, tf, flags, tg, inF, text, tt, op, hideAll_get _ a nc, r1, r2, r3, r4, r5, r6, hideAll_get _ b nP, r⟩, ⟨⟨o', vs', hideAll_get _ e1 nc, r'⟩, hideAll_get _ e2 nP⟩⟩

theorem funFrames_keeps {h h' base : Heap} (k : ∀ b o, h.get? b = some o → h'.get? b = some o) {l : List Env} (x : h.FunFrames base l) : h'.FunFrames base l := x.of_keeps fun b o e _ => ⟨o, k b o e, rfl⟩

theorem funFrames_base' {h b₀ base : Heap} : ∀ {l : List Env}, h.FunFrames b₀ l → (∀ env ∈ l, ∀ a, env.frame = some a → base.get? a = none) → h.FunFrames base l
  | [], _, _ => trivial
  | env :: _, ⟨hk, ⟨L, o, hf, _, ho, hd⟩, hr⟩, hin => ⟨hk, ⟨L, o, hf, hin env (.head _) L hf, ho, hd⟩, funFrames_base' hr fun e he => hin e (.tail _ he)⟩

/-- the call list(g(..)) in a function whose frames are known, g raising at once -/
theorem raise_through {A : Around} {E : Value → Shared → Prop} {Q : Value → Shared → Prop} {s s' : Shared} (hh : A.handled = none) (hroom : A.depth < recursionLimit) {envs : List Env} (hfr : A.frames = some envs)
    (hfs : ∀ b ∈ frs envs, B.K.get? b = none ∧ b ≠ B.P ∧ b ≠ B.c) (ok : Ok B s.heap) (hl : s.heap.NoLimit) {b₀ : Heap} (ff : s.heap.FunFrames b₀ envs)
    {L ga : Addr} {c : Code} {m : Str → Option Value} (x : Newg s s' L ga c m) {genv : Env} (hgk : genv.scope.kind ≠ .module) (hgf : genv.frame = some L)
    (seg : ∀ (Φ : End → Shared → Prop) (base : Heap) (s₁ : Shared), Ok B base → base.StaysIn s₁.heap → s₁.heap.FunFrames base (genv :: envs) → s₁.heap.Ns L m →
      (∀ e a0 s₂, Heap.FlyingW base envs e (.type "ValueError") a0 s₂.heap → Fl base s₁ s₂ → s₂.gens = s₁.gens → Φ (.ret (.error (.ref e))) s₂) →
      SegP (model prog w) A.in1.in1.in1 Φ c ((model prog w).den c) [] s₁)
    (hE : ∀ (base : Heap) e a0 s₃, Ok B base → Heap.FlyingW base envs e (.type "ValueError") a0 s₃.heap → (∀ b o, b ∉ frs envs → s.heap.get? b = some o → base.get? b = some o) → Fl base s s₃ → E (.ref e) s₃) :
    wpAny (model prog w) A (call (.type "list") [.ref ga]) Q E s' := by
  have hfL : ∀ b ∈ frs (genv :: envs), B.K.get? b = none ∧ b ≠ B.P ∧ b ≠ B.c := fun b hb => by
    unfold frs at hb
    rw [List.filterMap_cons, hgf] at hb
    rcases List.mem_cons.mp hb with rfl | hb
    · exact ok.new x.nL
    · exact hfs b hb
  have ok' := ok.keeps x.keep
  have hLs : L < s'.heap.objs.size := Ns_live x.ns
  have hfal : ∀ b ∈ frs envs, ∃ o, s.heap.get? b = some o ∧ ∀ vs, o.data ≠ .fields vs := fun b hb => (ff.mem hb).2
  have hgaf : ga ∉ frs (genv :: envs) := fun hb => by
    unfold frs at hb
    rw [List.filterMap_cons, hgf] at hb
    rcases List.mem_cons.mp hb with q | hb
    · exact x.ne q.symm
    · obtain ⟨o, ho, _⟩ := hfal ga hb
      exact absurd (Heap.lt_size ho) (Nat.not_lt.mpr x.na)
  refine list_raise hh hroom (hl.keeps x.keep) x.isGen (by rw [x.gens]; exact Array.getElem?_push_size ..)
    (Φ := fun h' e s₁ => ∃ er a0, e = .ret (.error (.ref er)) ∧ Heap.FlyingW (hideAll s'.heap (frs (genv :: envs))) envs er (.type "ValueError") a0 s₁.heap ∧ Fl (hideAll s'.heap (frs (genv :: envs))) ({ s' with heap := h' }.setGen s.gens.size .running) s₁ ∧ s₁.gens = ({ s' with heap := h' }.setGen s.gens.size .running).gens)
    (fun h' hk hz => ?_) fun h' e s₁ hk hz h => ?_
  · have kb : (hideAll s'.heap (frs (genv :: envs))).StaysIn h' := fun b o e => hk b o (of_hideAll _ e)
    refine seg _ (hideAll s'.heap (frs (genv :: envs))) _ (ok'.hide hfL) kb ?_ (x.ns.keeps hk) fun e a0 s₂ h1 h2 h3 => ⟨e, a0, rfl, h1, h2, h3⟩
    show h'.FunFrames _ _
    refine Heap.FunFrames.cons hgk hgf (x.ns.keeps hk) (hideAll_none _ (by unfold frs; rw [List.filterMap_cons, hgf]; exact List.mem_cons_self ..)) ?_
    exact funFrames_base' (funFrames_keeps (fun b o e => hk b o (x.keep b o e)) ff) fun env he a ha => hideAll_none _ (List.mem_filterMap.mpr ⟨env, List.mem_cons_of_mem _ he, ha⟩)
  · obtain ⟨er, a0, rfl, h1, h2, h3⟩ := h
    refine ⟨er, rfl, ?_, ?_, ?_⟩
    · obtain ⟨ob, h4, h5⟩ := h1.there
      exact ⟨ob, h4, h5⟩
    · obtain ⟨o, nm, qn, ho, r⟩ := x.isGen
      exact ⟨o, nm, qn, h1.1 ga o (hideAll_get _ ho hgaf), r⟩
    · refine hE (hideAll s'.heap (frs (genv :: envs))) er a0 _ (ok'.hide hfL) h1 (fun b o hb e => hideAll_get _ (x.keep b o e) fun hm => ?_) ?_
      · unfold frs at hm
        rw [List.filterMap_cons, hgf] at hm
        rcases List.mem_cons.mp hm with q | hm
        · exact absurd (Heap.lt_size e) (Nat.not_lt.mpr (q ▸ x.nL))
        · exact hb hm
      · refine ⟨h2.stays, ((Heap.UpToSlots.of_keeps x.keep).trans (Heap.UpToSlots.of_keeps hk)).trans h2.up, Nat.le_trans (Nat.le_trans x.size hz) h2.size, fun i hi => ?_, ?_, h2.os.trans x.os, fun hb => AllBare.set ?_ rfl, Nat.le_trans x.toks h2.toks⟩
        · have hne : s.gens.size ≠ i := Nat.ne_of_gt hi
          rw [setGen_other _ hne, h3, setGen_other _ hne]
          show s'.gens[i]? = _
          rw [x.gens, Array.getElem?_push_lt hi, Array.getElem?_eq_getElem hi]
        · show _ ≤ (s₁.gens.setIfInBounds _ _).size
          rw [h3]
          simp [Shared.setGen, x.gens]
        · rw [h3]
          refine AllBare.set ?_ rfl
          rw [x.gens]
          exact hb.push rfl
end
end Mine
end

section
open PySem PySem.W PySem.Calls PyProof.Rows
set_option linter.unusedVariables false
set_option Elab.async false
set_option maxRecDepth 100000
namespace Mine
open Sem (wp)

/-- frames have changed in their slots alone, all else stands -/
structure Sl (fs : List Addr) (s s' : Shared) : Prop where
  heap : ∀ b o, b ∉ fs → s.heap.get? b = some o → s'.heap.get? b = some o
  up : s.heap.UpToSlots s'.heap
  size : s.heap.objs.size ≤ s'.heap.objs.size
  gens : ∀ i, i < s.gens.size → s'.gens[i]? = s.gens[i]?
  gsz : s.gens.size ≤ s'.gens.size
  os : s'.os = s.os
  bare : AllBare s.gens → AllBare s'.gens
  toks : s.toks ≤ s'.toks
theorem Fl.sl {base : Heap} {s s' : Shared} {fs : List Addr} (x : Fl base s s') (h : ∀ b o, b ∉ fs → s.heap.get? b = some o → base.get? b = some o) : Sl fs s s' :=
  ⟨fun b o hb e => x.stays b o (h b o hb e), x.up, x.size, x.gens, x.gsz, x.os, x.bare, x.toks⟩

theorem Fl.pre {base : Heap} {s s' s'' : Shared} (u : Up s s') (x : Fl base s' s'') : Fl base s s'' := by
  have hg := u.gens
  refine ⟨x.stays, (Heap.UpToSlots.of_keeps u.keep).trans x.up, Nat.le_trans u.size x.size, fun i hi => ?_, ?_, ?_, fun h => x.bare (hg ▸ h), Nat.le_trans u.toks x.toks⟩
  · rw [← hg] at hi ⊢; exact x.gens i hi
  · rw [← hg]; exact x.gsz
  · obtain ⟨⟨_, _, rfl⟩, _, _, _⟩ := u; exact x.os

section
variable {prog : Program} {w : World} {mg mb : Str → Option Value} {B : Gnd}

theorem told_raise_fixed (X : Wd mg mb B) (f3 : Fn B mg 3 "fixed_integer_vector_iter") {A : Around} (hh : A.handled = none) {outer : List Env} (hfr : A.frames = some outer) {L a : Addr} {cd v : Value} {tk tt : Tok} {vs : Int} {m : Str → Option Value} {s : Shared} {E : Value → Shared → Prop} {Q : Flow → Shared → Prop}
    (hroom : A.depth + 1 < recursionLimit) (hfs : ∀ b ∈ frs (envOf (dName 9) (dScope 9) L a cd :: outer), B.K.get? b = none ∧ b ≠ B.P ∧ b ≠ B.c) {b₀ : Heap} (ff : s.heap.FunFrames b₀ (envOf (dName 9) (dScope 9) L a cd :: outer))
    (hv : vs < 0) (ok : Ok B s.heap) (hns : s.heap.Ns L m) (hk : m "kind" = some (.int 0 tk)) (h1 : m "one" = some v) (h2 : m "two" = some (.int vs tt))
    (hQ : ∀ s', Sl (frs (envOf (dName 9) (dScope 9) L a cd :: outer)) s s' → Q (.ret .none) s') :
    wpAny (model prog w) (A.deeper (envOf (dName 9) (dScope 9) L a cd)) (execs (dBody 9) (envOf (dName 9) (dScope 9) L a cd)) Q E s := by
  have hE : En (envOf (dName 9) (dScope 9) L a cd) := en_of rfl rfl
  dsimp only [dBody, PySem.Challenge.pw_jf0026_01, List.getElem?_cons_succ, List.getElem?_cons_zero]
  refine wpAny_execs_cons (wpAny_Try_except ?_)
  refine wpAny_execs_cons (wpAny_If (cmpI (a := 0) (b := 0) (c := true) hE (.name rfl rfl hk) .const hns (fun t u s Q h => PyProof.Rows.eq_int h) fun sa ua => ?_))
  rw [if_pos rfl]
  refine wpAny_execs_cons (wpAny_Return_some ?_)
  refine Call_ (ldb X (ua.ok ok) hE rfl (X.free _ (by simp)) boot_list (callWith_type1 (args_cons ?_)))
  obtain ⟨fa, o, pm, cd', doc, hmg, ho, hdata, hcd⟩ := f3
  refine Call_ (ldg X (ua.ok ok) hE rfl hmg (callWith_def hdata ?_))
  refine args_cons (ldl hE rfl (ua.ns hns) h1 (args_cons (ldl hE rfl (ua.ns hns) h2 (args_nil ⟨X.get (ua.ok ok) ho (by rw [hdata]; exact nofun), ?_⟩))))
  refine wpAny_call (gen_make (binds := [("max_vector", v), ("vector_sum", .int vs tt)]) hroom (X.get (ua.ok ok) ho (by rw [hdata]; exact nofun)) hdata (X.nolimit (ua.ok ok)) (X.code (ua.ok ok) hcd) rfl (locs rfl) ?_ rfl rfl rfl)
  intro L' ga s' x
  refine args_nil ?_
  refine raise_through (A := A.deeper (envOf (dName 9) (dScope 9) L a cd)) hh hroom (Around.frames_deeper hfr) hfs (ua.ok ok) (X.nolimit (ua.ok ok)) (funFrames_keeps ua.keep ff) x (genv := envOf (dName 3) (dScope 3) L' fa cd') (by show (dScope 3).kind ≠ _; decide) rfl (fun Φ base s₁ okb kb ffb hn hΦ => ?_) fun base e a0 s₃ okb hfl hbase hF => ?_
  · have hE' : En (envOf (dName 3) (dScope 3) L' fa cd') := en_of rfl rfl
    refine segP_func ?_
    dsimp only [dBody, PySem.Challenge.pw_jf0026_01, List.getElem?_cons_succ, List.getElem?_cons_zero]
    refine segP_execs_cons (segP_If (cmpI (a := vs) (b := 0) (c := true) hE' (.name rfl rfl (m := fun y => List.lookup y [(("max_vector" : Str), v), ("vector_sum", .int vs tt)].reverse) rfl) .const hn (fun t u s Q h => PyProof.Rows.lt_int (by rw [show decide (vs < 0) = true from by simpa using hv]; exact h)) fun sb ub => ?_))
    rw [if_pos rfl]
    refine segP_execs_cons (segP_raiseVE (A := (A.deeper (envOf (dName 9) (dScope 9) L a cd)).in1.in1.in1) X hh (Around.frames_deeper hfr) hE' rfl okb rfl (fun b o e => ub.keep b o (kb b o e)) (funFrames_keeps ub.keep ffb) fun e a0 s₂ h3 h4 h5 => hΦ e a0 s₂ h3 (Fl.pre ub h4) (h5.trans ub.gens))
  · refine told_catch X hfr hE okb rfl hfl fun s₄ hF' => hQ s₄ (((Fl.pre ua hF).trans hF').sl fun b o hb e => hbase b o hb (ua.keep b o e))

theorem told_raise_weak (X : Wd mg mb B) {cd4 : Value} (f4 : ∃ a o pm doc, mg "weak_composition_iter" = some (.ref a) ∧ B.K.get? a = some o ∧ o.data = .func (docDef (dName 4) (dArgs 4) (dBody 4) (dScope 4) pm cd4 doc) ∧ B.K.CodeRec cd4 (dName 4))
    {A : Around} (hh : A.handled = none) {outer : List Env} (hfr : A.frames = some outer) {L a : Addr} {cd : Value} {tk t1 t2 : Tok} {n k : Int} {m : Str → Option Value} {s : Shared} {E : Value → Shared → Prop} {Q : Flow → Shared → Prop}
    (hroom : A.depth + 1 < recursionLimit) (hfs : ∀ b ∈ frs (envOf (dName 9) (dScope 9) L a cd :: outer), B.K.get? b = none ∧ b ≠ B.P ∧ b ≠ B.c) {b₀ : Heap} (ff : s.heap.FunFrames b₀ (envOf (dName 9) (dScope 9) L a cd :: outer))
    (hv : n < 0 ∨ k < 0) (ok : Ok B s.heap) (hns : s.heap.Ns L m) (hk : m "kind" = some (.int 1 tk)) (h1 : m "one" = some (.int n t1)) (h2 : m "two" = some (.int k t2))
    (hQ : ∀ s', Sl (frs (envOf (dName 9) (dScope 9) L a cd :: outer)) s s' → Q (.ret .none) s') :
    wpAny (model prog w) (A.deeper (envOf (dName 9) (dScope 9) L a cd)) (execs (dBody 9) (envOf (dName 9) (dScope 9) L a cd)) Q E s := by
  have hE : En (envOf (dName 9) (dScope 9) L a cd) := en_of rfl rfl
  dsimp only [dBody, PySem.Challenge.pw_jf0026_01, List.getElem?_cons_succ, List.getElem?_cons_zero]
  refine wpAny_execs_cons (wpAny_Try_except ?_)
  refine wpAny_execs_cons (wpAny_If (cmpI (a := 1) (b := 0) (c := false) hE (.name rfl rfl hk) .const hns (fun t u s Q h => PyProof.Rows.eq_int h) fun sa ua => ?_))
  rw [if_neg Bool.false_ne_true]
  refine wpAny_execs_nil (wpAny_execs_cons (wpAny_Return_some ?_))
  refine Call_ (ldb X (ua.ok ok) hE rfl (X.free _ (by simp)) boot_list (callWith_type1 (args_cons ?_)))
  obtain ⟨fa, o, pm, doc, hmg, ho, hdata, hcd⟩ := f4
  refine Call_ (ldg X (ua.ok ok) hE rfl hmg (callWith_def hdata ?_))
  refine args_cons (ldl hE rfl (ua.ns hns) h1 (args_cons (ldl hE rfl (ua.ns hns) h2 (args_nil ⟨X.get (ua.ok ok) ho (by rw [hdata]; exact nofun), ?_⟩))))
  refine wpAny_call (gen_make (binds := [("n", .int n t1), ("num_parts", .int k t2)]) hroom (X.get (ua.ok ok) ho (by rw [hdata]; exact nofun)) hdata (X.nolimit (ua.ok ok)) (X.code (ua.ok ok) hcd) rfl (locs rfl) ?_ rfl rfl rfl)
  intro L' ga s' x
  refine args_nil ?_
  refine raise_through (A := A.deeper (envOf (dName 9) (dScope 9) L a cd)) hh hroom (Around.frames_deeper hfr) hfs (ua.ok ok) (X.nolimit (ua.ok ok)) (funFrames_keeps ua.keep ff) x (genv := envOf (dName 4) (dScope 4) L' fa cd4) (by show (dScope 4).kind ≠ _; decide) rfl (fun Φ base s₁ okb kb ffb hn hΦ => ?_) fun base e a0 s₃ okb hfl hbase hF => ?_
  · have hE' : En (envOf (dName 4) (dScope 4) L' fa cd4) := en_of rfl rfl
    refine segP_func ?_
    dsimp only [dBody, PySem.Challenge.pw_jf0026_01, List.getElem?_cons_succ, List.getElem?_cons_zero]
    by_cases hn0 : n < 0
    · refine segP_execs_cons (segP_If (cmpI (a := n) (b := 0) (c := true) hE' (.name rfl rfl (m := fun y => List.lookup y [(("n" : Str), Value.int n t1), ("num_parts", Value.int k t2)].reverse) rfl) .const hn (fun t u s Q h => PyProof.Rows.lt_int (by rw [show decide (n < 0) = true from by simpa using hn0]; exact h)) fun sb ub => ?_))
      rw [if_pos rfl]
      exact segP_execs_cons (segP_raiseVE (A := (A.deeper (envOf (dName 9) (dScope 9) L a cd)).in1.in1.in1) X hh (Around.frames_deeper hfr) hE' rfl okb rfl (fun b o e => ub.keep b o (kb b o e)) (funFrames_keeps ub.keep ffb) fun e a0 s₂ h3 h4 h5 => hΦ e a0 s₂ h3 (Fl.pre ub h4) (h5.trans ub.gens))
    · have hk0 : k < 0 := hv.resolve_left hn0
      refine segP_execs_cons (segP_If (cmpI (a := n) (b := 0) (c := false) hE' (.name rfl rfl (m := fun y => List.lookup y [(("n" : Str), Value.int n t1), ("num_parts", Value.int k t2)].reverse) rfl) .const hn (fun t u s Q h => PyProof.Rows.lt_int (by rw [show decide (n < 0) = false from by simpa using hn0]; exact h)) fun sb ub => ?_))
      rw [if_neg Bool.false_ne_true]
      refine segP_execs_nil (segP_execs_cons (segP_If (cmpI (a := k) (b := 0) (c := true) hE' (.name rfl rfl (m := fun y => List.lookup y [(("n" : Str), Value.int n t1), ("num_parts", Value.int k t2)].reverse) rfl) .const (ub.ns hn) (fun t u s Q h => PyProof.Rows.lt_int (by rw [show decide (k < 0) = true from by simpa using hk0]; exact h)) fun sc uc => ?_)))
      rw [if_pos rfl]
      have ub := ub.trans uc
      exact segP_execs_cons (segP_raiseVE (A := (A.deeper (envOf (dName 9) (dScope 9) L a cd)).in1.in1.in1) X hh (Around.frames_deeper hfr) hE' rfl okb rfl (fun b o e => ub.keep b o (kb b o e)) (funFrames_keeps ub.keep ffb) fun e a0 s₂ h3 h4 h5 => hΦ e a0 s₂ h3 (Fl.pre ub h4) (h5.trans ub.gens))
  · exact told_catch X hfr hE okb rfl hfl fun s₄ hF' => hQ s₄ (((Fl.pre ua hF).trans hF').sl fun b o hb e => hbase b o hb (ua.keep b o e))
end
end Mine
end

section
open PySem PySem.W PySem.Calls PyProof.Rows
set_option linter.unusedVariables false
set_option Elab.async false
set_option maxRecDepth 100000
namespace Mine
open Sem (wp)

/-- no tuple stands there -/
def NT (h : Heap) (a : Addr) : Prop := ∀ items, ¬ IsTup h a items
theorem NT.ns {h : Heap} {L : Addr} {m : Str → Option Value} (x : h.Ns L m) : NT h L := fun items ⟨o, ho, _, n, hd⟩ => by
  obtain ⟨o', es, ep, ho', hd', _⟩ := x
  rw [ho] at ho'; cases ho'; rw [hd] at hd'; cases hd'
theorem NT.cls {h : Heap} {a : Addr} {o : Obj} (e : h.get? a = some o) (hc : o.cls ≠ .type "tuple") : NT h a := fun items ⟨o', ho, hc', _⟩ => by
  rw [e] at ho; cases ho; exact hc hc'
theorem NT.plainL {h : Heap} {a : Addr} {its} (x : PlainL h a its) : NT h a := let ⟨o, n, e, hc, _⟩ := x; NT.cls e (by rw [hc]; decide)
theorem NT.none {h : Heap} {a : Addr} (x : h.get? a = none) : NT h a := fun items ⟨o', ho, _⟩ => by rw [x] at ho; cases ho
theorem NT.new {h : Heap} {a : Addr} (x : h.objs.size ≤ a) : NT h a := fun items ⟨o', ho, _⟩ => absurd (Heap.lt_size ho) (Nat.not_lt.mpr x)
theorem Ok.nt {B : Gnd} {h : Heap} (x : Ok B h) : NT h B.P := let ⟨ps, _, hp⟩ := x.tab; NT.cls hp.2 (by simp)

/-- no sequence stands there -/
def NQ (h : Heap) (a : Addr) : Prop := ∀ o items n, h.get? a = some o → o.data ≠ .seq items n
theorem NQ.nt {h : Heap} {a : Addr} (x : NQ h a) : NT h a := fun items ⟨o, ho, _, n, hd⟩ => x o items n ho hd
theorem NQ.ns {h : Heap} {L : Addr} {m : Str → Option Value} (x : h.Ns L m) : NQ h L := fun o items n e hd => by
  obtain ⟨o', es, ep, ho', hd', _⟩ := x
  rw [e] at ho'; cases ho'; rw [hd] at hd'; cases hd'
theorem NQ.fields {h : Heap} {a : Addr} {o : Obj} {vs : Array Value} (e : h.get? a = some o) (hd : o.data = .fields vs) : NQ h a := fun o' items n e' hd' => by
  rw [e] at e'; cases e'; rw [hd] at hd'; cases hd'
theorem NQ.ne {h : Heap} {a b : Addr} {its : Array Value} (x : NQ h a) (y : PlainL h b its) : b ≠ a := fun q => let ⟨o, n, e, _, _, hd⟩ := y; x o its n (q ▸ e) hd

/-- a row: a tuple of ints -/
def IsR (h : Heap) (r : List Int) (v : Value) : Prop := ∃ a, v = .ref a ∧ TupI h a r
def Rws (h : Heap) (rs : List (List Int)) (vs : List Value) : Prop := All2 (IsR h) rs vs

theorem TupI.mv {B : Gnd} {W G} {s s' : Shared} {a : Addr} {r : List Int} (x : TupI s.heap a r) (m : Mv B W G s s') (hW : ∀ b, W b → NT s.heap b) (ok : Ok B s.heap) : TupI s'.heap a r := by
  obtain ⟨vs, hv, hi⟩ := x
  refine ⟨vs, IsTup.atM hv fun o e => m.heap a o (fun h => hW a h _ hv) (fun q => ?_) e, hi⟩
  subst q
  exact ok.nt _ hv
theorem Rws.mv {B : Gnd} {W G} {s s' : Shared} {rs vs} (x : Rws s.heap rs vs) (m : Mv B W G s s') (hW : ∀ b, W b → NT s.heap b) (ok : Ok B s.heap) : Rws s'.heap rs vs :=
  All2.mono x fun r v ⟨a, e, h⟩ => ⟨a, e, h.mv m hW ok⟩
theorem Rws.up {s s' : Shared} {rs vs} (x : Rws s.heap rs vs) (u : Up s s') : Rws s'.heap rs vs := All2.mono x fun r v ⟨a, e, h⟩ => ⟨a, e, h.keeps u.keep⟩
theorem Rws.but {h h' : Heap} {b : Addr} {rs vs} (x : Rws h rs vs) (k : ∀ c o, c ≠ b → h.get? c = some o → h'.get? c = some o) (nt : NT h b) : Rws h' rs vs :=
  All2.mono x fun r v ⟨a, e, vs, hv, hi⟩ => ⟨a, e, vs, IsTup.atM hv fun o q => k a o (fun z => nt _ (z ▸ hv)) q, hi⟩

section
variable {prog : Program} {w : World} {mg mb : Str → Option Value} {B : Gnd} {A : Around} {E : Value → Shared → Prop} {s : Shared}

theorem appendX {env : Env} (hE : En env) {lst : Str} {p7 p8 p13 p14 : Pos} {e : Expr} {m : Str → Option Value} {D : Addr} {its : Array Value} {Q : Flow → Shared → Prop} (hkl : env.kindOf lst = some .local) (hd : (lst == ("__debug__" : Str)) = false) (hns : s.heap.Ns env.locals m) (hml : m lst = some (.ref D)) (hD : PlainL s.heap D its)
    (hev : wpAny (model prog w) A (eval e env) (fun v s₁ => PlainL s₁.heap D its ∧ ∀ h', PlainL h' D (its.push v) → Heap.SameBut D s₁.heap h' → Q .next { s₁ with heap := h' }) E s) (hsz : its.size ≤ sizeLine)
    (hline : (p8.endLine == p13.line) = true)
    (htrees : backTo p13 (starEach [e] env) = [(false, eval e env)])
    (hbase : attributeBase (.Name lst p7) "append" env (eval (.Name lst p7) env) = eval (.Name lst p7) env := by rfl)
    (hfew : ((backTo p13 (starEach [e] env)).all (fun x => !x.1) && (backToKw p13 (keywordEach [] env)).all (fun x => x.1.isSome)
      && decide (([e] : List Expr).length + ([] : List Keyword).length + (if ([] : List Keyword).isEmpty then 0 else 1) < 30)) = true := by rfl)
    (hs : swapsWith (.Call (.Attribute (.Name lst p7) "append" p8) [e] [] p13) none p14.line env = pure false := by rfl) :
    wpAny (model prog w) A (exec (.Expr (.Call (.Attribute (.Name lst p7) "append" p8) [e] [] p13) p14) env) Q E s := by
  refine wpAny_Expr (wpAny_Call_append hbase hfew hline htrees (ldl hE hkl hns hml ⟨D, its, rfl, hD, ?_⟩ hd)) hE.int hs
  refine wpAny_mono hev (fun v s₁ h₁ => ?_) fun _ _ x => x
  exact list_append_plainL h₁.1 (fun h' hp hs => h₁.2 h' hp hs) hsz

theorem forW {env : Env} (hE : En env) {L I : Addr} (hL : env.locals = L) {x : Str} {px : Pos} {body : List Stmt} (hx : env.kindOf x = some .local) {fp wr : List Addr} {n : Nat} {P : Nat → Value → Prop} {St : Nat → Heap → Prop} {R : Result → Shared → Prop}
    (W : Walks prog w A I fp wr n P St) (J : Nat → Shared → Prop) (hst : ∀ i s, J i s → St i s.heap)
    (turn : ∀ i v s h₁ tk₁, i < n → P i v → J i s → St (i + 1) h₁ → (∀ b o, b ∉ wr → s.heap.get? b = some o → h₁.get? b = some o) → s.heap.objs.size ≤ h₁.objs.size → s.toks ≤ tk₁ →
      ∃ m, h₁.Ns L m ∧ ∀ h₂, h₂.Ns L (fun y => if y = x then some v else m y) → Heap.SameBut L h₁ h₂ →
        wpAny (model prog w) A (execs body env) (fun f s' => f = .next ∧ J (i + 1) s') (fun _ _ => False) { s with heap := h₂, toks := tk₁ + 1 })
    (done : ∀ s h₁ tk₁, J n s → (∀ b o, b ∉ wr → s.heap.get? b = some o → h₁.get? b = some o) → s.heap.objs.size ≤ h₁.objs.size → s.toks ≤ tk₁ → R (.ok .next) { s with heap := h₁, toks := tk₁ })
    (h : J 0 s) : codeAny (model prog w) A (.forLoop (.Name x px) (.ref I) body [] env) R s := by
  have hp : (env.scope.kind == .class || (env.scope.kind == .module && env.locals != env.globals)) = false := by rw [hE.kind]; rfl
  refine codeAny_forLoop (fun k s => ∃ i, n - i = k ∧ i ≤ n ∧ J i s) (fun k s hI => ?_) n ⟨0, rfl, Nat.zero_le _, h⟩
  obtain ⟨i, hk, hi, hJ⟩ := hI
  by_cases hin : i < n
  · refine wpAny_sizes (W.item i s _ _ hin (hst i s hJ) fun v h₁ tk₁ hP hst₁ hk₁ hz ht => ?_)
    obtain ⟨m, hns, hb⟩ := turn i v s h₁ tk₁ hin hP hJ hst₁ hk₁ hz ht
    rw [← hL] at hns
    refine wpAny_assign_Name (wpAny_storeName_local hx hns (fun h₂ hn₂ hs₂ => ?_) hp)
    rw [hL] at hn₂ hs₂
    refine wpAny_mono (hb h₂ hn₂ hs₂) (fun f s' hf => ?_) fun _ _ x => x.elim
    obtain ⟨rfl, hJ'⟩ := hf
    exact ⟨n - (i + 1), by omega, i + 1, rfl, hin, hJ'⟩
  · have e : i = n := by omega
    subst e
    exact wpAny_sizes (W.done s _ _ (hst i s hJ) fun h' tk hk hz ht => wpAny_execs_nil (done s h' tk hJ hk hz ht))
end
end Mine
end

section
open PySem PySem.W PySem.Calls PyProof.Rows
set_option linter.unusedVariables false
set_option Elab.async false
set_option maxRecDepth 100000
namespace Mine
open Sem (wp)

section
variable {prog : Program} {w : World} {mg mb : Str → Option Value} {B : Gnd} {A : Around} {E : Value → Shared → Prop} {s : Shared}

theorem evRange1 (X : Wd mg mb B) (ok : Ok B s.heap) {env : Env} (hE : En env) {e1 : Expr} {p pc : Pos} {m : Str → Option Value} {b : Int} {Q : Value → Shared → Prop} (hx : env.kindOf "range" = some .globalImplicit)
    (hn : s.heap.Ns env.locals m) (h1 : IEv env m e1 b) (h : ∀ r s' t u v, Up s s' → IsRange s'.heap r 0 b 1 t u v → Q (.ref r) s') :
    wpAny (model prog w) A (eval (.Call (.Name "range" p) [e1] [] pc) env) Q E s := by
  refine Call_ (ldb X ok hE hx (X.free _ (by simp)) boot_range (callWith_type1 (args_cons (h1.run hE hn fun t s₁ u₁ => args_nil ?_) (h1.star _)) (h1.star _) rfl))
  exact call_range_1 (h _ _ _ _ _ (u₁.trans (Up.heap (fun b o e => Heap.get?_push_of_some _ e) (by simp) (Nat.le_add_right s₁.toks 2))) (IsRange.new ..))

/-- for k in range(b+1): lst.append(e) , e a row f k -/
theorem rangeApp (X : Wd mg mb B) {env : Env} (hE : En env) {L : Addr} (hL : env.locals = L) (hh : A.handled = none) {x lst : Str} {px pr pc pf p7 p8 p13 p14 : Pos} {e1 e : Expr} {m : Str → Option Value} {D : Addr} {its : Array Value} {acc : List (List Int)} {b : Int} {Q : Flow → Shared → Prop}
    (hx : env.kindOf x = some .local) (hkl : env.kindOf lst = some .local) (hd : (lst == ("__debug__" : Str)) = false) (hxl : x ≠ lst) (hrg : env.kindOf "range" = some .globalImplicit)
    (Z : Addr → Prop) (ok : Ok B s.heap) (hns : s.heap.Ns L m) (h1 : IEv env m e1 b) (hb : -(2 ^ 62) ≤ b) (hb' : b < 2 ^ 62) (hml : m lst = some (.ref D)) (hD : PlainL s.heap D its) (hacc : Rws s.heap acc its.toList) (hLK : B.K.get? L = none) (hLP : L ≠ B.P) (hLc : L ≠ B.c) (hDK : B.K.get? D = none) (hDP : D ≠ B.P) (hDc : D ≠ B.c)
    (f : Nat → List Int) (hsz : its.size + b.toNat ≤ sizeLine)
    (hev : ∀ (i : Nat) s' m' t, Mv B (fun c => c = L ∨ c = D) No s s' → s'.heap.Ns L m' → (∀ y, y ≠ x → m' y = m y) → m' x = some (.int i t) →
      wpAny (model prog w) A (eval e env) (fun v s₁ => Up s' s₁ ∧ IsR s₁.heap (f i) v) (fun _ _ => False) s')
    (hQ : ∀ s' m' its', Mv B (fun c => c = L ∨ c = D) No s s' → s'.heap.Ns L m' → (∀ y, y ≠ x → m' y = m y) → PlainL s'.heap D its' → Rws s'.heap (acc ++ (List.range b.toNat).map f) its'.toList → Q .next s')
    (hline : (p8.endLine == p13.line) = true)
    (htrees : backTo p13 (starEach [e] env) = [(false, eval e env)])
    (hbase : attributeBase (.Name lst p7) "append" env (eval (.Name lst p7) env) = eval (.Name lst p7) env := by rfl)
    (hfew : ((backTo p13 (starEach [e] env)).all (fun x => !x.1) && (backToKw p13 (keywordEach [] env)).all (fun x => x.1.isSome)
      && decide (([e] : List Expr).length + ([] : List Keyword).length + (if ([] : List Keyword).isEmpty then 0 else 1) < 30)) = true := by rfl)
    (hs : swapsWith (.Call (.Attribute (.Name lst p7) "append" p8) [e] [] p13) none p14.line env = pure false := by rfl) :
    wpAny (model prog w) A (exec (.For (.Name x px) (.Call (.Name "range" pr) [e1] [] pc) [.Expr (.Call (.Attribute (.Name lst p7) "append" p8) [e] [] p13) p14] [] pf) env) Q E s := by
  subst hL
  have hne : env.locals ≠ D := fun q => by
    obtain ⟨o, es, ep, h2, h3, _⟩ := hns
    obtain ⟨o', n, h4, _, _, h5⟩ := hD
    rw [← q, h2] at h4; cases h4; rw [h3] at h5; cases h5
  refine wpAny_For (evRange1 X ok hE hrg hns h1 fun r s₁ t u v u₁ hr => iterRange hr (by decide) (by decide) hb hb' fun I s₂ u₂ hI hIl hIt => ?_) (by intro _; rfl)
  have up := u₁.trans u₂
  have hzI : s.heap.objs.size ≤ I := Nat.le_trans u₁.size hI
  have hb0 : (b - 0).toNat = b.toNat := by rw [Int.sub_zero]
  rw [hb0] at hIt
  have hIL : I ≠ env.locals := fun q => absurd (Ns_live hns) (Nat.not_lt.mpr (q ▸ hzI))
  have hID : I ≠ D := fun q => absurd hD.lt (Nat.not_lt.mpr (q ▸ hzI))
  obtain ⟨hIK, hIP, hIc⟩ := ok.new hzI
  -- the state in the loop
  refine forW hE rfl hx (Walks.range (A := A) hh I 0 1 b.toNat) (fun i s' => ∃ m' its', Mv B (fun c => c = env.locals ∨ c = D ∨ c = I) No s s' ∧ s'.heap.Ns env.locals m' ∧ (∀ y, y ≠ x → m' y = m y) ∧ PlainL s'.heap D its' ∧ its'.size = its.size + i ∧
      Rws s'.heap (acc ++ (List.range i).map f) its'.toList ∧ IsRangeIter s'.heap I (0 + (i : Nat) * 1) ((b.toNat : Int) - (i : Nat)) 1) (fun i s' h => h.choose_spec.choose_spec.2.2.2.2.2.2) ?_ ?_ ?_
  · intro i v s' h₁ tk₁ hi hP hJ hst₁ hk₁ hz ht
    obtain ⟨m', its', mv, hn', hm', hD', hsz', hr', hI'⟩ := hJ
    obtain ⟨t, rfl⟩ := hP
    have hk₁' : ∀ b o, b ≠ I → s'.heap.get? b = some o → h₁.get? b = some o := fun b o hb e => hk₁ b o (by simpa using hb) e
    have mv₁ : Mv B (fun c => c = I) No s' { s' with heap := h₁, toks := tk₁ } := Mv.one hk₁' rfl hz hIK hIP hIc ht
    refine ⟨m', hn'.at' fun o e => hk₁' _ o (Ne.symm hIL) e, fun h₂ hn₂ hs₂ => ?_⟩
    have mv₂ : Mv B (fun c => c = env.locals) No { s' with heap := h₁, toks := tk₁ } { s' with heap := h₂, toks := tk₁ + 1 } := Mv.one (fun b o hb e => hs₂.extBut b o hb e) rfl (Nat.le_of_eq hs₂.1.symm) hLK hLP hLc (Nat.le_succ _)
    have mvA : Mv B (fun c => c = env.locals ∨ c = D ∨ c = I) No s { s' with heap := h₂, toks := tk₁ + 1 } :=
      (mv.trans mv₁ (fun b h => .inl (.inr (.inr h))) fun _ h => h.elim).trans mv₂ (fun b h => .inl (.inl h)) fun _ h => h.elim
    have mvB : Mv B (fun c => c = env.locals ∨ c = D) No s { s' with heap := h₂, toks := tk₁ + 1 } := mvA.mono (fun b h => by
      rcases h with h | h | h
      · exact .inl (.inl h)
      · exact .inl (.inr h)
      · exact .inr (h ▸ hzI)) fun _ h => .inl h
    have k2 : ∀ b o, b ≠ I → b ≠ env.locals → s'.heap.get? b = some o → h₂.get? b = some o := fun b o hb hb' e => hs₂.extBut b o hb' (hk₁' b o hb e)
    have ntI : NT s'.heap I := NT.cls hI' (by simp)
    have ntL : NT h₁ env.locals := NT.ns (hn'.at' fun o e => hk₁' _ o (Ne.symm hIL) e)
    have hr₂ : Rws h₂ (acc ++ (List.range i).map f) its'.toList := (hr'.but hk₁' ntI).but (fun b o hb e => hs₂.extBut b o hb e) ntL
    have hD₂ : PlainL h₂ D its' := let ⟨o, n, e, r⟩ := hD'; ⟨o, n, k2 D o (Ne.symm hID) (Ne.symm hne) e, r⟩
    have hI₂ : IsRangeIter h₂ I (0 + ((i + 1 : Nat) : Int) * 1) ((b.toNat : Int) - (i + 1 : Nat)) 1 := hs₂.extBut _ _ hIL hst₁
    have hlen := hr'.length
    simp only [List.length_append, List.length_map, List.length_range, Array.length_toList] at hlen
    refine wpAny_execs_cons (appendX hE hkl hd hn₂ (m := fun y => if y = x then some (.int (0 + (i : Int) * 1) t) else m' y) ((if_neg (Ne.symm hxl)).trans ((hm' lst (Ne.symm hxl)).trans hml)) hD₂ (wpAny_mono (hev i { s' with heap := h₂, toks := tk₁ + 1 } _ t mvB hn₂ (fun y hy => (if_neg hy).trans (hm' y hy)) (by rw [if_pos rfl]; congr 2; omega)) (fun v s₃ h₃ => ?_) fun _ _ z => z) (by omega) hline htrees hbase hfew hs)
    obtain ⟨u₃, a, rfl, hta⟩ := h₃
    refine ⟨hD₂.keeps u₃.keep, fun h₄ hp₄ hs₄ => wpAny_execs_nil ⟨rfl, _, its'.push (.ref a), ?_, (u₃.ns hn₂).extBut hs₄.extBut hne, fun y hy => (if_neg hy).trans (hm' y hy), hp₄, by rw [Array.size_push, hsz']; omega, ?_, ?_⟩⟩
    · have ok₃ := (mvA.thenNo u₃.mv).ok ok
      exact (mvA.thenNo u₃.mv).trans (Mv.one (tk := s₃.toks) (fun b o hb e => hs₄.extBut b o hb e) rfl (Nat.le_of_eq hs₄.1.symm) hDK hDP hDc (Nat.le_refl _) : Mv B (fun c => c = D) No s₃ { s₃ with heap := h₄ }) (fun b h => .inl (.inr (.inl h))) fun _ h => h.elim
    · have nt3 : NT s₃.heap D := NT.plainL (hD₂.keeps u₃.keep)
      rw [Array.toList_push, List.range_succ, List.map_append, ← List.append_assoc]
      refine All2.snoc ((Rws.up (s := { s' with heap := h₂, toks := tk₁ + 1 }) hr₂ u₃).but (fun b o hb e => hs₄.extBut b o hb e) nt3) ⟨a, rfl, ?_⟩
      obtain ⟨vs, hv, hi'⟩ := hta
      exact ⟨vs, IsTup.atM hv fun o e => hs₄.extBut a o (fun q => nt3 _ (q ▸ hv)) e, hi'⟩
    · exact hs₄.extBut _ _ hID (u₃.keep _ _ hI₂)
  · intro s' h₁ tk₁ hJ hk₁ hz ht
    obtain ⟨m', its', mv, hn', hm', hD', hsz', hr', hI'⟩ := hJ
    have hk₁' : ∀ b o, b ≠ I → s'.heap.get? b = some o → h₁.get? b = some o := fun b o hb e => hk₁ b o (by simpa using hb) e
    have mv₁ : Mv B (fun c => c = I) No s' { s' with heap := h₁, toks := tk₁ } := Mv.one hk₁' rfl hz hIK hIP hIc ht
    have ntI : NT s'.heap I := NT.cls hI' (by simp)
    refine hQ _ m' its' ((mv.trans mv₁ (fun b h => .inl (.inr (.inr h))) fun _ h => h.elim).mono (fun b h => ?_) fun _ h => .inl h) (hn'.at' fun o e => hk₁' _ o (Ne.symm hIL) e) hm' ?_ (hr'.but hk₁' ntI)
    · rcases h with h | h | h
      · exact .inl (.inl h)
      · exact .inl (.inr h)
      · exact .inr (h ▸ hzI)
    · exact let ⟨o, n, e, r⟩ := hD'; ⟨o, n, hk₁' D o (Ne.symm hID) e, r⟩
  · exact ⟨m, its, up.mv, up.ns hns, fun _ _ => rfl, hD.keeps up.keep, rfl, by simpa using hacc.up up, hIt⟩
end
end Mine
end

section
open PySem PySem.W PySem.Calls PyProof.Rows
set_option linter.unusedVariables false
set_option Elab.async false
set_option maxRecDepth 100000
namespace Mine
open Sem (wp)

section
variable {prog : Program} {w : World} {mg mb : Str → Option Value} {B : Gnd} {A : Around} {E : Value → Shared → Prop} {s : Shared}

theorem forG {env : Env} (hE : En env) {L I : Addr} (hL : env.locals = L) {x : Str} {px : Pos} {body : List Stmt} (hx : env.kindOf x = some .local) {fp wr : List Addr} {n : Nat} {P : Nat → Value → Prop} {St : Nat → Heap → Prop} {R : Result → Shared → Prop}
    (W : Walks prog w A I fp wr n P St) (hwr : ∀ b, b ∈ wr → b = I) (Wb : Addr → Prop) (hfp : ∀ b ∈ fp, ¬ Wb b ∧ b ≠ B.P) (hWL : Wb L) (hIL : I ≠ L) (hLP : L ≠ B.P) (hLc : L ≠ B.c) (hLK : B.K.get? L = none) (hIP : I ≠ B.P) (hIc : I ≠ B.c) (hIK : B.K.get? I = none) (hNT : ∀ i h, St i h → NQ h I) (ok : Ok B s.heap)
    (Inv : Nat → Heap → (Str → Option Value) → Prop)
    (rob : ∀ i h h' m m', Inv i h m → (∀ b o, b ≠ I → b ≠ L → h.get? b = some o → h'.get? b = some o) → NQ h I → NQ h L → (∀ y, y ≠ x → m' y = m y) → Inv i h' m')
    (turn : ∀ i v s' m', i < n → P i v → Mv B (fun b => Wb b ∨ b = I) No s s' → Ok B s'.heap → s'.heap.Ns L m' → m' x = some v → Inv i s'.heap m' →
      wpAny (model prog w) A (execs body env) (fun f s'' => f = .next ∧ ∃ m'', Mv B Wb No s' s'' ∧ s''.heap.Ns L m'' ∧ Inv (i + 1) s''.heap m'') (fun _ _ => False) s')
    (done : ∀ s' m', Mv B (fun b => Wb b ∨ b = I) No s s' → Ok B s'.heap → s'.heap.Ns L m' → Inv n s'.heap m' → R (.ok .next) s')
    {m : Str → Option Value} (hns : s.heap.Ns L m) (h0 : Inv 0 s.heap m) (hst : St 0 s.heap) : codeAny (model prog w) A (.forLoop (.Name x px) (.ref I) body [] env) R s := by
  refine forW hE hL hx W (fun i s' => St i s'.heap ∧ ∃ m', Mv B (fun b => Wb b ∨ b = I) No s s' ∧ s'.heap.Ns L m' ∧ Inv i s'.heap m') (fun i s' h => h.1) ?_ ?_ ⟨hst, m, Mv.refl s, hns, h0⟩
  · intro i v s' h₁ tk₁ hi hP hJ hst₁ hk₁ hz ht
    obtain ⟨hst', m', mv, hn', hI'⟩ := hJ
    have hk₁' : ∀ b o, b ≠ I → s'.heap.get? b = some o → h₁.get? b = some o := fun b o hb e => hk₁ b o (fun q => hb (hwr b q)) e
    have mv₁ : Mv B (fun c => c = I) No s' { s' with heap := h₁, toks := tk₁ } := Mv.one hk₁' rfl hz hIK hIP hIc ht
    have hn₁ := hn'.at' fun o e => hk₁' _ o (Ne.symm hIL) e
    refine ⟨m', hn₁, fun h₂ hn₂ hs₂ => ?_⟩
    have mv₂ : Mv B (fun c => c = L) No { s' with heap := h₁, toks := tk₁ } { s' with heap := h₂, toks := tk₁ + 1 } := Mv.one (fun b o hb e => hs₂.extBut b o hb e) rfl (Nat.le_of_eq hs₂.1.symm) hLK hLP hLc (Nat.le_succ _)
    have mvA : Mv B (fun b => Wb b ∨ b = I) No s { s' with heap := h₂, toks := tk₁ + 1 } :=
      (mv.trans mv₁ (fun b h => .inl (.inr h)) fun _ h => h.elim).trans mv₂ (fun b h => .inl (.inl (h ▸ hWL))) fun _ h => h.elim
    have hI₂ : Inv i h₂ (fun y => if y = x then some v else m' y) := rob i s'.heap h₂ m' _ hI' (fun b o hb hb' e => hs₂.extBut b o hb' (hk₁' b o hb e)) (hNT i _ hst') (NQ.ns hn') fun y hy => if_neg hy
    have hst₂ : St (i + 1) h₂ := W.frame _ _ _ hst₁ fun b hb o e => hs₂.extBut b o (fun q => (hfp b hb).1 (q ▸ hWL)) e
    refine wpAny_mono (turn i v { s' with heap := h₂, toks := tk₁ + 1 } _ hi hP mvA (mvA.ok ok) hn₂ (if_pos rfl) hI₂) (fun f s'' hf => ?_) fun _ _ z => z
    obtain ⟨rfl, m'', mv₃, hn₃, hI₃⟩ := hf
    exact ⟨rfl, W.frame _ _ _ hst₂ fun b hb o e => mv₃.heap b o (hfp b hb).1 (hfp b hb).2 e, m'', mvA.trans mv₃ (fun b h => .inl (.inl h)) (fun _ h => h.elim), hn₃, hI₃⟩
  · intro s' h₁ tk₁ hJ hk₁ hz ht
    obtain ⟨hst', m', mv, hn', hI'⟩ := hJ
    have hk₁' : ∀ b o, b ≠ I → s'.heap.get? b = some o → h₁.get? b = some o := fun b o hb e => hk₁ b o (fun q => hb (hwr b q)) e
    have mv₁ : Mv B (fun c => c = I) No s' { s' with heap := h₁, toks := tk₁ } := Mv.one hk₁' rfl hz hIK hIP hIc ht
    have mvA := mv.trans mv₁ (fun b h => .inl (.inr h)) fun _ h => h.elim
    exact done _ m' mvA (mvA.ok ok) (hn'.at' fun o e => hk₁' _ o (Ne.symm hIL) e) (rob n s'.heap h₁ m' m' hI' (fun b o hb _ e => hk₁' b o hb e) (hNT n _ hst') (NQ.ns hn') fun _ _ => rfl)

theorem NQ.listIter {h : Heap} {I l : Addr} {i : Nat} (x : h.IsListIter I l i) : NQ h I := let ⟨o, e, hc, hd⟩ := x; NQ.fields e hd

/-- for x in LIST -/
theorem forList {env : Env} (hE : En env) {L : Addr} (hL : env.locals = L) (hh : A.handled = none) {x : Str} {px pf : Pos} {iter : Expr} {body : List Stmt} (hx : env.kindOf x = some .local) {Ra : Addr} {items : Array Value} {Q : Flow → Shared → Prop} {W₀ : Addr → Prop} {s₀ : Shared}
    (hs : ∀ z, foldedSetIterable iter env z = pure z) (Wb : Addr → Prop) (hWL : Wb L) (hLP : L ≠ B.P) (hLc : L ≠ B.c) (hLK : B.K.get? L = none) (Inv : Nat → Heap → (Str → Option Value) → Prop) {m : Str → Option Value}
    (hit : wpAny (model prog w) A (eval iter env) (fun v s => v = .ref Ra ∧ s.heap.IsList Ra items ∧ ¬ Wb Ra ∧ Ra ≠ B.P ∧ (∀ b, Wb b → b < s.heap.objs.size) ∧ Mv B W₀ No s₀ s ∧ Ok B s.heap ∧ s.heap.Ns L m ∧
      (∀ I (h' : Heap), s.heap.objs.size ≤ I → (∀ b o, s.heap.get? b = some o → h'.get? b = some o) → Inv 0 h' m ∧
        (∀ i h h' m m', Inv i h m → (∀ b o, b ≠ I → b ≠ L → h.get? b = some o → h'.get? b = some o) → NQ h I → NQ h L → (∀ y, y ≠ x → m' y = m y) → Inv i h' m') ∧
        (∀ i v s' m', i < items.size → items[i]? = some v → Mv B (fun b => Wb b ∨ s.heap.objs.size ≤ b) No s s' → Ok B s'.heap → s'.heap.Ns L m' → m' x = some v → Inv i s'.heap m' →
          wpAny (model prog w) A (execs body env) (fun f s'' => f = .next ∧ ∃ m'', Mv B Wb No s' s'' ∧ s''.heap.Ns L m'' ∧ Inv (i + 1) s''.heap m'') (fun _ _ => False) s') ∧
        (∀ s' m', Mv B (fun b => Wb b) No s s' → Ok B s'.heap → s'.heap.Ns L m' → Inv items.size s'.heap m' → Q .next s'))) E s₀) :
    wpAny (model prog w) A (exec (.For (.Name x px) iter body [] pf) env) Q E s₀ := by
  refine wpAny_For (wpAny_mono hit (fun v s h => ?_) fun _ _ z => z) hs
  obtain ⟨rfl, hls, hWR, hRP, hWlt, mv, ok, hns, rest⟩ := h
  refine wpAny_pyIter_list hls ?_
  have hRl : Ra < s.heap.objs.size := let ⟨o, e, _⟩ := hls; Heap.lt_size e
  have up : Up s { s with heap := s.heap.push { cls := .type "list_iterator", data := .fields #[.ref Ra, .int 0 0] } } := Up.push _
  obtain ⟨h0, rob, turn, done⟩ := rest s.heap.objs.size _ (Nat.le_refl _) up.keep
  obtain ⟨hIK, hIP, hIc⟩ := ok.new (Nat.le_refl s.heap.objs.size)
  refine forG hE hL hx (Walks.list (A := A) hh s.heap.objs.size Ra (Nat.ne_of_lt hRl) items) (fun b hb => by simpa using hb) Wb (fun b hb => ?_) hWL (fun q => absurd (hWlt L hWL) (by rw [← q]; exact Nat.lt_irrefl _)) hLP hLc hLK hIP hIc hIK (fun i h st => NQ.listIter st.1) (up.ok ok) Inv rob ?_ ?_ (up.ns hns) h0
    ⟨⟨_, Heap.get?_push_size _ rfl, rfl, rfl⟩, let ⟨o, e, r⟩ := hls; ⟨o, up.keep _ _ e, r⟩⟩
  · simp only [List.mem_cons, List.not_mem_nil, or_false] at hb
    rcases hb with rfl | rfl
    · exact ⟨fun q => absurd (hWlt _ q) (Nat.lt_irrefl _), hIP⟩
    · exact ⟨hWR, hRP⟩
  · intro i v s' m' hi hP mv' ok' hn' hx' hI'
    exact turn i v s' m' hi hP ((up.mv : Mv B _ No s _).trans mv' (fun b h => .inl (h.elim .inl fun q => .inr (Nat.le_of_eq q.symm))) fun _ h => h.elim) ok' hn' hx' hI'
  · intro s' m' mv' ok' hn' hI'
    exact done s' m' ((up.mv : Mv B _ No s _).trans mv' (fun b h => h.elim .inl fun q => .inr (Nat.le_of_eq q.symm)) fun _ h => h.elim) ok' hn' hI'

/-- the loop over a list that stands at Ra -/
theorem loopList {env : Env} (hE : En env) {L : Addr} (hL : env.locals = L) (hh : A.handled = none) {x : Str} {px : Pos} {body : List Stmt} (hx : env.kindOf x = some .local) {Ra : Addr} {items : Array Value} {R : Result → Shared → Prop}
    (Wb : Addr → Prop) (hWL : Wb L) (hLP : L ≠ B.P) (hLc : L ≠ B.c) (hLK : B.K.get? L = none) (Inv : Nat → Heap → (Str → Option Value) → Prop) {m : Str → Option Value}
    (hls : s.heap.IsList Ra items) (hWR : ¬ Wb Ra) (hRP : Ra ≠ B.P) (hWlt : ∀ b, Wb b → b < s.heap.objs.size) (ok : Ok B s.heap) (hns : s.heap.Ns L m)
    (h0 : ∀ h' : Heap, (∀ b o, s.heap.get? b = some o → h'.get? b = some o) → Inv 0 h' m)
    (rob : ∀ i I h h' m m', s.heap.objs.size ≤ I → Inv i h m → (∀ b o, b ≠ I → b ≠ L → h.get? b = some o → h'.get? b = some o) → NQ h I → NQ h L → (∀ y, y ≠ x → m' y = m y) → Inv i h' m')
    (turn : ∀ i v s' m', i < items.size → items[i]? = some v → Mv B (fun b => Wb b ∨ s.heap.objs.size ≤ b) No s s' → Ok B s'.heap → s'.heap.Ns L m' → m' x = some v → Inv i s'.heap m' →
          wpAny (model prog w) A (execs body env) (fun f s'' => f = .next ∧ ∃ m'', Mv B Wb No s' s'' ∧ s''.heap.Ns L m'' ∧ Inv (i + 1) s''.heap m'') (fun _ _ => False) s')
    (done : ∀ s' m', Mv B (fun b => Wb b) No s s' → Ok B s'.heap → s'.heap.Ns L m' → Inv items.size s'.heap m' → R (.ok .next) s') :
    wpAny (model prog w) A (pyIter (.ref Ra)) (fun it s₂ => codeAny (model prog w) A (.forLoop (.Name x px) it body [] env) R s₂) E s := by
  refine wpAny_pyIter_list hls ?_
  have hRl : Ra < s.heap.objs.size := let ⟨o, e, _⟩ := hls; Heap.lt_size e
  have up : Up s { s with heap := s.heap.push { cls := .type "list_iterator", data := .fields #[.ref Ra, .int 0 0] } } := Up.push _
  obtain ⟨hIK, hIP, hIc⟩ := ok.new (Nat.le_refl s.heap.objs.size)
  refine forG hE hL hx (Walks.list (A := A) hh s.heap.objs.size Ra (Nat.ne_of_lt hRl) items) (fun b hb => by simpa using hb) Wb (fun b hb => ?_) hWL (fun q => absurd (hWlt L hWL) (by rw [← q]; exact Nat.lt_irrefl _)) hLP hLc hLK hIP hIc hIK (fun i h st => NQ.listIter st.1) (up.ok ok) Inv (fun i h h' m m' => rob i _ h h' m m' (Nat.le_refl _)) ?_ ?_ (up.ns hns) (h0 _ up.keep)
    ⟨⟨_, Heap.get?_push_size _ rfl, rfl, rfl⟩, let ⟨o, e, r⟩ := hls; ⟨o, up.keep _ _ e, r⟩⟩
  · simp only [List.mem_cons, List.not_mem_nil, or_false] at hb
    rcases hb with rfl | rfl
    · exact ⟨fun q => absurd (hWlt _ q) (Nat.lt_irrefl _), hIP⟩
    · exact ⟨hWR, hRP⟩
  · intro i v s' m' hi hP mv' ok' hn' hx' hI'
    exact turn i v s' m' hi hP ((up.mv : Mv B _ No s _).trans mv' (fun b h => .inl (h.elim .inl fun q => .inr (Nat.le_of_eq q.symm))) fun _ h => h.elim) ok' hn' hx' hI'
  · intro s' m' mv' ok' hn' hI'
    exact done s' m' ((up.mv : Mv B _ No s _).trans mv' (fun b h => h.elim .inl fun q => .inr (Nat.le_of_eq q.symm)) fun _ h => h.elim) ok' hn' hI'
end
end Mine
end

section
open PySem PySem.W PySem.Calls PyProof.Rows
set_option linter.unusedVariables false
set_option Elab.async false
set_option maxRecDepth 100000
namespace Mine
open Sem (wp)

def stepR (b : Int) (row : List Int) : List (List Int) := (List.range (b + 1).toNat).map fun (k : Nat) => row ++ [(k : Int)]
def stepV (rows : List (List Int)) (b : Int) : List (List Int) := rows.flatMap (stepR b)

theorem All2.get {α β : Type} {R : α → β → Prop} {as : List α} {bs : List β} (h : All2 R as bs) : ∀ (i : Nat) (v : β), bs[i]? = some v → ∃ a, as[i]? = some a ∧ R a v := by
  induction h with
  | nil => intro i v e; simp at e
  | cons h _ ih =>
    intro i v e
    cases i with
    | zero => exact ⟨_, rfl, by simp at e; exact e ▸ h⟩
    | succ i => exact ih i v (by simpa using e)

theorem stepR_length (b : Int) (r : List Int) : (stepR b r).length = (b + 1).toNat := by simp [stepR]
theorem stepV_length (b : Int) : ∀ rs, (stepV rs b).length = rs.length * (b + 1).toNat
  | [] => by simp [stepV]
  | r :: rs => by
    have := stepV_length b rs
    unfold stepV at this ⊢
    rw [List.flatMap_cons, List.length_append, this, stepR_length, List.length_cons, Nat.add_mul]
    omega
theorem stepV_snoc (b : Int) (rs : List (List Int)) (r : List Int) : stepV (rs ++ [r]) b = stepV rs b ++ stepR b r := by simp [stepV, List.flatMap_append]

section
variable {prog : Program} {w : World} {mg mb : Str → Option Value} {B : Gnd} {A : Around} {E : Value → Shared → Prop} {s : Shared}

theorem vec_mid (X : Wd mg mb B) {env : Env} (hE : En env) {L : Addr} (hL : env.locals = L) (hh : A.handled = none) {m : Str → Option Value} {D Ra : Addr} {items : Array Value} {rs : List (List Int)} {b : Int} {tb : Tok} {Q : Flow → Shared → Prop}
    {q1 q2 q3 p1 p2 p3 p4 p5 p6 p7 p8 p9 p10 p11 p12 p13 p14 p15 : Pos} {k4 k11 : Nat}
    (hkr : env.kindOf "row" = some .local) (hkk : env.kindOf "k" = some .local) (hkl : env.kindOf "longer" = some .local) (hkb : env.kindOf "bound" = some .local) (hkR : env.kindOf "rows" = some .local) (hrg : env.kindOf "range" = some .globalImplicit)
    (ok : Ok B s.heap) (hns : s.heap.Ns L m) (hb : -1000 ≤ b) (hb' : b ≤ 1000) (hmb : m "bound" = some (.int b tb)) (hml : m "longer" = some (.ref D)) (hmR : m "rows" = some (.ref Ra)) (hD : PlainL s.heap D #[]) (hR : PlainL s.heap Ra items) (hrs : Rws s.heap rs items.toList) (hRD : Ra ≠ D)
    (hLK : B.K.get? L = none) (hLP : L ≠ B.P) (hLc : L ≠ B.c) (hDK : B.K.get? D = none) (hDP : D ≠ B.P) (hDc : D ≠ B.c) (hRP : Ra ≠ B.P)
    (hsz : rs.length * (b + 1).toNat ≤ 900000) (hrl : ∀ r ∈ rs, r.length ≤ 1000)
    (hQ : ∀ s' m' its', Mv B (fun c => c = L ∨ c = D) No s s' → s'.heap.Ns L m' → (∀ y : Str, y ≠ "row" → y ≠ "k" → m' y = m y) → PlainL s'.heap D its' → Rws s'.heap (stepV rs b) its'.toList → Q .next s')
    (hline : (p8.endLine == p13.line) = true) (hs3 : ∀ z, foldedSetIterable (.Name "rows" q2) env z = pure z) :
    wpAny (model prog w) A (exec (.For (.Name "row" q1) (.Name "rows" q2) [.For (.Name "k" p1) (.Call (.Name "range" p2) [.BinOp (.Name "bound" p3) .Add (.Constant (.int 1) k4 p4) p5] [] p6)
      [.Expr (.Call (.Attribute (.Name "longer" p7) "append" p8) [.BinOp (.Name "row" p9) .Add (.Tuple [.Name "k" p10] k11 p11) p12] [] p13) p14] [] p15] [] q3) env) Q E s := by
  have hLD : L ≠ D := fun q => by
    obtain ⟨o, es, ep, h2, h3, _⟩ := hns
    obtain ⟨o', n, h4, _, _, h5⟩ := hD
    rw [← q, h2] at h4; cases h4; rw [h3] at h5; cases h5
  have hRL : Ra ≠ L := fun q => by
    obtain ⟨o, es, ep, h2, h3, _⟩ := hns
    obtain ⟨o', n, h4, _, _, h5⟩ := hR
    rw [q, h2] at h4; cases h4; rw [h3] at h5; cases h5
  have hlen : rs.length = items.size := by rw [hrs.length, Array.length_toList]
  refine forList (B := B) hE hL hh hkr hs3 (fun c => c = L ∨ c = D) (.inl rfl) hLP hLc hLK
    (fun i h m' => (∀ y : Str, y ≠ "row" → y ≠ "k" → m' y = m y) ∧ (∃ its', PlainL h D its' ∧ Rws h (stepV (rs.take i) b) its'.toList) ∧ Rws h rs items.toList)
    (m := m) (W₀ := No) (ldl hE hkR (hL ▸ hns) hmR ⟨rfl, hR.isList, ?_, hRP, ?_, Mv.refl s, ok, hns, fun I h' hI hk => ⟨⟨fun _ _ _ => rfl, ⟨#[], hD.keeps hk, .nil⟩, All2.mono hrs fun r v ⟨a, e, t⟩ => ⟨a, e, t.keeps hk⟩⟩, ?_, ?_, ?_⟩⟩)
  · rintro (h | h)
    · exact hRL h
    · exact hRD h
  · rintro c (rfl | rfl)
    · exact Ns_live hns
    · exact hD.lt
  · rintro i h h' m₁ m₂ ⟨hm, ⟨its', hD', hr'⟩, hrs'⟩ hk' hNI hNL hm₂
    have hID : D ≠ I := fun q => absurd hD.lt (Nat.not_lt.mpr (q ▸ hI))
    have two : ∀ {rr : List (List Int)} {vv : List Value}, Rws h rr vv → Rws h' rr vv := fun x => All2.mono x fun r v ⟨a, e, vs, hv, hi⟩ => ⟨a, e, vs, IsTup.atM hv fun o q => hk' a o (fun z => hNI.nt _ (z ▸ hv)) (fun z => hNL.nt _ (z ▸ hv)) q, hi⟩
    exact ⟨fun y h1 h2 => (hm₂ y h1).trans (hm y h1 h2), ⟨its', (let ⟨o, n, e, r⟩ := hD'; ⟨o, n, hk' D o hID (Ne.symm hLD) e, r⟩), two hr'⟩, two hrs'⟩
  · intro i v s' m' hi hv mv ok' hn' hx ⟨hm, ⟨its', hD', hr'⟩, hrs'⟩
    obtain ⟨r, hri, a, rfl, hta⟩ := hrs'.get i v (by simpa using hv)
    have hlen' := hr'.length
    rw [stepV_length, List.length_take, Nat.min_eq_left (by omega), Array.length_toList] at hlen'
    have hbd : i * (b + 1).toNat + (b + 1).toNat ≤ rs.length * (b + 1).toNat := by rw [← Nat.succ_mul]; exact Nat.mul_le_mul_right _ (by omega)
    have hNL := NT.ns hn'
    have hND := NT.plainL hD'
    refine wpAny_execs_cons (rangeApp (x := "k") (lst := "longer") (b := b + 1) X hE hL hh hkk hkl rfl (by decide) hrg No ok' hn' (.add (.name hkb rfl ((hm "bound" (by decide) (by decide)).trans hmb)) .const) (by omega) (by omega) ((hm "longer" (by decide) (by decide)).trans hml) hD' hr' hLK hLP hLc hDK hDP hDc
      (fun k => r ++ [(k : Int)]) (Nat.le_trans (by omega) sizeLine_big) (fun k s'' m'' t mv₂ hn₂ hm₂ hx₂ => ?_) (fun s'' m'' its'' mv₂ hn₂ hm₂ hD₂ hr₂ => wpAny_execs_nil ⟨rfl, m'', mv₂, hn₂, fun y h1 h2 => (hm₂ y h2).trans (hm y h1 h2), ⟨its'', hD₂, ?_⟩, ?_⟩) hline rfl)
    · have hta₂ := hta.mv mv₂ (by rintro c (rfl | rfl); exact hNL; exact hND) ok'
      refine wpAny_BinOp (ldl hE hkr (hL ▸ hn₂) ((hm₂ "row" (by decide)).trans hx) (Tuple_ (args_cons (ldl hE hkk (hL ▸ hn₂) hx₂ (args_nil (newTupI (ns := [(k : Int)]) (.cons _ t .nil) (Nat.le_trans (by simp) sizeLine_big) fun a' s₁ u₁ _ h₁ => ?_))))))
      refine addTupI (hta₂.keeps u₁.keep) h₁ (Nat.le_trans (by have := hrl r (List.mem_of_getElem? hri); simp only [List.length_cons, List.length_nil]; omega) sizeLine_big) fun r' s₂ u₂ h₂ _ => ?_
      exact ⟨u₁.trans u₂, r', rfl, h₂⟩
    · rw [List.take_add_one, hri]
      show Rws _ (stepV (rs.take i ++ [r]) b) _
      rw [stepV_snoc]
      exact hr₂
    · exact hrs'.mv mv₂ (by rintro c (rfl | rfl); exact hNL; exact hND) ok'
  · intro s' m' mv ok' hn' ⟨hm, ⟨its', hD', hr'⟩, hrs'⟩
    rw [← hlen, List.take_length] at hr'
    exact hQ s' m' its' mv hn' hm hD' hr'
end
end Mine
end

section
open PySem PySem.W PySem.Calls PyProof.Rows
set_option linter.unusedVariables false
set_option Elab.async false
set_option maxRecDepth 100000
namespace Mine
open Sem (wp)

def vecs (bs : List Int) : List (List Int) := bs.foldl stepV [[]]
theorem vecs_snoc (bs : List Int) (b : Int) : vecs (bs ++ [b]) = stepV (vecs bs) b := by simp [vecs]
theorem vecs_length (k : Nat) (bs : List Int) : bs.length = k → (∀ b ∈ bs, b ≤ 3) → (vecs bs).length ≤ 4 ^ k := by
  induction k generalizing bs with
  | zero => intro h _; rw [List.length_eq_zero_iff] at h; subst h; simp [vecs]
  | succ k ih =>
    intro h hb
    obtain ⟨cs, c, rfl⟩ : ∃ cs c, bs = cs ++ [c] := ⟨bs.dropLast, bs.getLast (by intro q; simp [q] at h), (List.dropLast_concat_getLast _).symm⟩
    rw [vecs_snoc, stepV_length, Nat.pow_succ]
    have h1 := ih cs (by simpa using h) fun b hb' => hb b (by simp [hb'])
    have h2 := hb c (by simp)
    exact Nat.mul_le_mul h1 (by omega)
theorem vecs_row (k : Nat) (bs : List Int) : bs.length = k → ∀ r ∈ vecs bs, r.length = k := by
  induction k generalizing bs with
  | zero => intro h r hr; rw [List.length_eq_zero_iff] at h; subst h; simp [vecs] at hr; simp [hr]
  | succ k ih =>
    intro h r hr
    obtain ⟨cs, c, rfl⟩ : ∃ cs c, bs = cs ++ [c] := ⟨bs.dropLast, bs.getLast (by intro q; simp [q] at h), (List.dropLast_concat_getLast _).symm⟩
    rw [vecs_snoc, stepV, List.mem_flatMap] at hr
    obtain ⟨q, hq, hr⟩ := hr
    simp only [stepR, List.mem_map] at hr
    obtain ⟨j, _, rfl⟩ := hr
    have := ih cs (by simpa using h) q hq
    simp [this]

section
variable {prog : Program} {w : World} {mg mb : Str → Option Value} {B : Gnd} {A : Around} {E : Value → Shared → Prop} {s : Shared}

theorem IsList.atM {h h' : Heap} {a items} (x : h.IsList a items) (hk : ∀ o, h.get? a = some o → h'.get? a = some o) : h'.IsList a items := let ⟨o, ho, r⟩ := x; ⟨o, hk o ho, r⟩

theorem PlainL.neP (ok : Ok B s.heap) {a : Addr} {its : Array Value} (x : PlainL s.heap a its) : a ≠ B.P := fun q => by
  obtain ⟨ps, _, hp⟩ := ok.tab
  obtain ⟨o, n, e, hc, _⟩ := x
  rw [q, hp.2] at e
  cases e
  cases hc

theorem vec_body (X : Wd mg mb B) {L a v : Addr} {cd : Value} (hh : A.handled = none) {m : Str → Option Value} {vs : List Value} {ns : List Int} {Q : Flow → Shared → Prop}
    (ok : Ok B s.heap) (hns : s.heap.Ns L m) (hmb : m "bounds" = some (.ref v)) (hv : B.K.IsList v vs.toArray) (hi : IntsAre vs ns) (hvP : v ≠ B.P) (hLK : B.K.get? L = none) (hLP : L ≠ B.P) (hLc : L ≠ B.c) (hn0 : ns.length ≤ 6) (hb : ∀ b ∈ ns, -1 ≤ b ∧ b ≤ 3)
    (hQ : ∀ s' R its, Mv B (fun c => c = L) No s s' → s.heap.objs.size ≤ R → PlainL s'.heap R its → Rws s'.heap (vecs ns) its.toList → Q (.ret (.ref R)) s') :
    wpAny (model prog w) A (execs (dBody 7) (envOf (dName 7) (dScope 7) L a cd)) Q E s := by
  have hE : En (envOf (dName 7) (dScope 7) L a cd) := en_of rfl rfl
  have hp : ((envOf (dName 7) (dScope 7) L a cd).scope.kind == .class || ((envOf (dName 7) (dScope 7) L a cd).scope.kind == .module && (envOf (dName 7) (dScope 7) L a cd).locals != (envOf (dName 7) (dScope 7) L a cd).globals)) = false := rfl
  dsimp only [dBody, PySem.Challenge.pw_jf0026_01, List.getElem?_cons_succ, List.getElem?_cons_zero]
  refine wpAny_execs_cons (asg hE rfl (wpAny_List (args_cons (Tuple_ (args_nil (newTupI (ns := []) .nil (Nat.zero_le _) fun ta s₁ u₁ hta hti => args_nil ⟨Nat.le_trans (by simp) sizeLine_big, m, (u₁.ns hns).push _, fun h₂ hn₂ hs₂ => ?_⟩))))))
  have u₂ : Up s₁ { s₁ with heap := s₁.heap.push { cls := .type "list", data := .seq [Value.ref ta].toArray } } := Up.push _
  have hRl : s.heap.objs.size ≤ s₁.heap.objs.size := u₁.size
  generalize hR0 : s₁.heap.objs.size = R0 at *
  have hR0L : R0 ≠ L := fun q => absurd (Ns_live hns) (Nat.not_lt.mpr (q ▸ hRl))
  have hRlive : s₁.heap.get? ta = s₁.heap.get? ta := rfl
  have hg0 : (s₁.heap.push { cls := .type "list", data := .seq [Value.ref ta].toArray }).get? R0 = some { cls := .type "list", data := .seq [Value.ref ta].toArray } := by rw [← hR0]; exact Heap.get?_push_size _ rfl
  have hP0 : PlainL h₂ R0 #[.ref ta] := ⟨_, _, hs₂.extBut _ _ hR0L hg0, rfl, rfl, rfl⟩
  have hta' : TupI h₂ ta [] := by
    have h1 := hti.keeps u₂.keep
    obtain ⟨vs', hv', hi'⟩ := h1
    exact ⟨vs', IsTup.atM hv' fun o e => hs₂.extBut _ _ (fun q => (NT.ns ((u₁.ns hns).push _)) _ (q ▸ hv')) e, hi'⟩
  have mv₂ : Mv B (fun c => c = L) No s { s₁ with heap := h₂, toks := s₁.toks + 1 } :=
    ((u₁.trans u₂).mv : Mv B _ No s _).trans (Mv.one (fun b o hb e => hs₂.extBut b o hb e) rfl (Nat.le_of_eq hs₂.1.symm) hLK hLP hLc (Nat.le_succ _) : Mv B (fun c => c = L) No { s₁ with heap := s₁.heap.push { cls := .type "list", data := .seq [Value.ref ta].toArray } } { s₁ with heap := h₂, toks := s₁.toks + 1 }) (fun b h => .inl h) fun _ h => .inl h
  have ok₂ := mv₂.ok ok
  have hvl : B.K.IsList v vs.toArray := hv
  have hvL : v ≠ L := fun q => by obtain ⟨o, e, _⟩ := hv; rw [q, hLK] at e; cases e
  have hlen : ns.length = vs.length := hi.length.symm
  generalize hs' : ({ s₁ with heap := h₂, toks := s₁.toks + 1 } : Shared) = s₂ at *
  have e2 : s₂.heap = h₂ := by rw [← hs']
  rw [← e2] at hn₂ hP0 hta'
  refine wpAny_execs_cons (forList (B := B) hE rfl hh (x := "bound") rfl (by intro _; rfl) (fun c => c = L) rfl hLP hLc hLK
    (fun i h m' => ∃ Ra its, m' "rows" = some (.ref Ra) ∧ PlainL h Ra its ∧ Rws h (vecs (ns.take i)) its.toList ∧ s.heap.objs.size ≤ Ra)
    (m := fun y => if y = "rows" then some (.ref R0) else m y) (W₀ := No) (ldl hE rfl hn₂ ((if_neg (by decide)).trans hmb) ⟨rfl, IsList.atM hv fun o e => ok₂.keep v o hvP e, hvL, hvP, ?_, Mv.refl s₂, ok₂, hn₂, fun I h' hI hk => ⟨⟨R0, _, if_pos rfl, hP0.keeps hk, .cons ⟨ta, rfl, hta'.keeps hk⟩ .nil, hRl⟩, ?_, ?_, ?_⟩⟩))
  · rintro c rfl
    exact Ns_live hn₂
  · rintro i h h'' m₁ m₂ ⟨Ra, its, hm, hP, hr, hz⟩ hk' hNI hNL hm₂
    refine ⟨Ra, its, (hm₂ "rows" (by decide)).trans hm, (let ⟨o, n, e, r⟩ := id hP; ⟨o, n, hk' Ra o (hNI.ne hP) (hNL.ne hP) e, r⟩), All2.mono hr fun r v ⟨a, e, vs, hv, hi⟩ => ⟨a, e, vs, IsTup.atM hv fun o q => hk' a o (fun z => hNI.nt _ (z ▸ hv)) (fun z => hNL.nt _ (z ▸ hv)) q, hi⟩, hz⟩
  · intro i x s' m' hi' hx mv ok' hn' hxm ⟨Ra, its, hm, hP, hr, hz⟩
    have hin : i < ns.length := by rw [hlen]; simpa using hi'
    obtain ⟨tb, ex⟩ := IntsGet hi i hin
    rw [hx] at ex
    cases ex
    have hbi := hb ns[i] (List.getElem_mem hin)
    have htk : (ns.take i).length = i := by rw [List.length_take]; omega
    have hRaL := NQ.ne (NQ.ns hn') hP
    have hz2 : s.heap.objs.size ≤ s'.heap.objs.size := Nat.le_trans mv₂.size mv.size
    refine wpAny_execs_cons (asg hE rfl (wpAny_List (args_nil ⟨Nat.zero_le _, m', hn'.push _, fun h₃ hn₃ hs₃ => ?_⟩)))
    have u₃ : Up s' { s' with heap := s'.heap.push { cls := .type "list", data := .seq ([] : List Value).toArray } } := Up.push _
    have hDs : s'.heap.objs.size ≠ L := fun q => absurd (Ns_live hn') (Nat.not_lt.mpr (Nat.le_of_eq q))
    obtain ⟨hDK, hDP, hDc⟩ := ok'.new (Nat.le_refl s'.heap.objs.size)
    have hPD : PlainL h₃ s'.heap.objs.size #[] := ⟨_, _, hs₃.extBut _ _ hDs (Heap.get?_push_size _ rfl), rfl, rfl, rfl⟩
    have ntL : NT (s'.heap.push { cls := .type "list", data := .seq ([] : List Value).toArray }) L := NT.ns (hn'.push _)
    have hP₃ : PlainL h₃ Ra its := let ⟨o, n, e, r⟩ := hP; ⟨o, n, hs₃.extBut _ _ hRaL (u₃.keep _ _ e), r⟩
    have hr₃ : Rws h₃ (vecs (ns.take i)) its.toList := (Rws.up hr u₃).but (fun b o hb e => hs₃.extBut b o hb e) ntL
    have mv₃ : Mv B (fun c => c = L) No s' { s' with heap := h₃, toks := s'.toks + 1 } :=
      (u₃.mv : Mv B _ No s' _).trans (Mv.one (fun b o hb e => hs₃.extBut b o hb e) rfl (Nat.le_of_eq hs₃.1.symm) hLK hLP hLc (Nat.le_succ _) : Mv B (fun c => c = L) No { s' with heap := s'.heap.push { cls := .type "list", data := .seq ([] : List Value).toArray } } { s' with heap := h₃, toks := s'.toks + 1 }) (fun b h => .inl h) fun _ h => .inl h
    have hvl := vecs_length i (ns.take i) htk fun b h => (hb b (List.mem_of_mem_take h)).2
    have h4 : 4 ^ i ≤ 4 ^ 6 := Nat.pow_le_pow_right (by decide) (by omega)
    have hbn : (ns[i] + 1).toNat ≤ 4 := by omega
    have hmul : (vecs (ns.take i)).length * (ns[i] + 1).toNat ≤ 4 ^ 6 * 4 := Nat.mul_le_mul (Nat.le_trans hvl h4) hbn
    refine wpAny_execs_cons (vec_mid X hE rfl hh (b := ns[i]) (m := fun y => if y = "longer" then some (.ref s'.heap.objs.size) else m' y) (D := s'.heap.objs.size) (Ra := Ra) rfl rfl rfl rfl rfl rfl (mv₃.ok ok') hn₃ (by omega) (by omega) ((if_neg (by decide)).trans hxm) (if_pos rfl) ((if_neg (by decide)).trans hm) hPD hP₃ hr₃ (Nat.ne_of_lt hP.lt) hLK hLP hLc hDK hDP hDc
      (PlainL.neP ok' hP) (Nat.le_trans hmul (by decide)) (fun r h => by rw [vecs_row i _ htk r h]; omega) (fun s₄ m₄ its₄ mv₄ hn₄ hm₄ hP₄ hr₄ => ?_) rfl (by intro _; rfl))
    refine wpAny_execs_cons (asg hE rfl (ldl hE rfl hn₄ ((hm₄ "longer" (by decide) (by decide)).trans (if_pos rfl)) ⟨m₄, hn₄, fun h₅ hn₅ hs₅ => wpAny_execs_nil ⟨rfl, _, ?_, hn₅, s'.heap.objs.size, its₄, if_pos rfl, ?_, ?_, hz2⟩⟩))
    · have m1 : Mv B (fun c => c = L) No s' s₄ := mv₃.trans mv₄ (fun c h => h.elim .inl fun q => .inr (Nat.le_of_eq q.symm)) fun _ h => h.elim
      exact m1.trans (Mv.one (fun b o hb e => hs₅.extBut b o hb e) rfl (Nat.le_of_eq hs₅.1.symm) hLK hLP hLc (Nat.le_succ _) : Mv B (fun c => c = L) No s₄ { s₄ with heap := h₅, toks := s₄.toks + 1 }) (fun _ h => .inl h) fun _ h => h.elim
    · exact let ⟨o, n, e, r⟩ := hP₄; ⟨o, n, hs₅.extBut _ _ hDs e, r⟩
    · rw [List.take_add_one, List.getElem?_eq_getElem hin]
      show Rws _ (vecs (ns.take i ++ [ns[i]])) _
      rw [vecs_snoc]
      exact hr₄.but (fun b o hb e => hs₅.extBut b o hb e) (NT.ns hn₄)
  · intro s' m' mv ok' hn' ⟨Ra, its, hm, hP, hr, hz⟩
    rw [show vs.toArray.size = ns.length from by simp [hlen], List.take_length] at hr
    exact wpAny_execs_cons (wpAny_Return_some (ldl hE rfl hn' hm (hQ _ Ra its (mv₂.trans mv (fun b h => .inl h) fun _ h => .inl h) hz hP hr)))
end
end Mine
end

section
open PySem PySem.W PySem.Calls PyProof.Rows
set_option linter.unusedVariables false
set_option Elab.async false
set_option maxRecDepth 100000
namespace Mine
open Sem (wp)

def partsL : Nat → Int → List (List Int)
  | 0, n => if n = 0 then [[]] else []
  | m + 1, n => (List.range (n + 1).toNat).flatMap fun (k : Nat) => (partsL m (n - k)).map ((k : Int) :: ·)

theorem flat_le {α β : Type} (f : α → List β) (c : Nat) : ∀ (l : List α), (∀ a ∈ l, (f a).length ≤ c) → (l.flatMap f).length ≤ l.length * c
  | [], _ => by simp
  | a :: l, h => by
    have h1 := h a (by simp)
    have h2 := flat_le f c l fun b hb => h b (by simp [hb])
    rw [List.flatMap_cons, List.length_append, List.length_cons, Nat.add_mul]
    omega

theorem partsL_length : ∀ (m : Nat) (n : Int), n ≤ 10 → (partsL m n).length ≤ 11 ^ m
  | 0, n, _ => by rw [partsL]; split <;> simp
  | m + 1, n, h => by
    rw [partsL]
    refine Nat.le_trans (flat_le _ (11 ^ m) _ fun k _ => ?_) ?_
    · rw [List.length_map]; exact partsL_length m _ (by omega)
    · rw [List.length_range, Nat.pow_succ, Nat.mul_comm]
      exact Nat.mul_le_mul_left _ (by omega)
theorem partsL_row : ∀ (m : Nat) (n : Int), ∀ r ∈ partsL m n, r.length = m
  | 0, n, r, h => by rw [partsL] at h; split at h <;> simp at h; simp [h]
  | m + 1, n, r, h => by
    rw [partsL, List.mem_flatMap] at h
    obtain ⟨k, _, h⟩ := h
    rw [List.mem_map] at h
    obtain ⟨q, hq, rfl⟩ := h
    simp [partsL_row m _ q hq]

section
variable {prog : Program} {w : World} {mg mb : Str → Option Value} {B : Gnd} {A : Around} {E : Value → Shared → Prop} {s : Shared}

/-- for rest in CALL: rows.append((k,) + rest) -/
theorem parts_inner (X : Wd mg mb B) {env : Env} (hE : En env) {L : Addr} (hL : env.locals = L) (hh : A.handled = none) {m : Str → Option Value} {D : Addr} {its : Array Value} {acc rs : List (List Int)} {k : Int} {tk : Tok} {iter : Expr} {Q : Flow → Shared → Prop}
    {q1 q3 q4 p7 p8 p9 p10 p12 p13 p14 : Pos} {k11 : Nat}
    (hkr : env.kindOf "rest" = some .local) (hkk : env.kindOf "k" = some .local) (hkl : env.kindOf "rows" = some .local)
    (ok : Ok B s.heap) (hns : s.heap.Ns L m) (hmk : m "k" = some (.int k tk)) (hml : m "rows" = some (.ref D)) (hD : PlainL s.heap D its) (hacc : Rws s.heap acc its.toList)
    (hLK : B.K.get? L = none) (hLP : L ≠ B.P) (hLc : L ≠ B.c) (hDK : B.K.get? D = none) (hDP : D ≠ B.P) (hDc : D ≠ B.c)
    (hsz : acc.length + rs.length ≤ 900000) (hrl : ∀ r ∈ rs, r.length ≤ 1000)
    (hcall : ∀ (Q : Value → Shared → Prop), (∀ s' R itsR, Mv B No No s s' → s.heap.objs.size ≤ R → PlainL s'.heap R itsR → Rws s'.heap rs itsR.toList → Q (.ref R) s') → wpAny (model prog w) A (eval iter env) Q E s)
    (hQ : ∀ s' m' its', Mv B (fun c => c = L ∨ c = D) No s s' → s'.heap.Ns L m' → (∀ y : Str, y ≠ "rest" → m' y = m y) → PlainL s'.heap D its' → Rws s'.heap (acc ++ rs.map (k :: ·)) its'.toList → Q .next s')
    (hline : (p8.endLine == p13.line) = true) (hs3 : ∀ z, foldedSetIterable iter env z = pure z) :
    wpAny (model prog w) A (exec (.For (.Name "rest" q1) iter [.Expr (.Call (.Attribute (.Name "rows" p7) "append" p8) [.BinOp (.Tuple [.Name "k" p9] k11 p10) .Add (.Name "rest" p12) p14] [] p13) q3] [] q4) env) Q E s := by
  have hNL := NQ.ns hns
  have hDL : D ≠ L := NQ.ne hNL hD
  have hlen : acc.length = its.size := by rw [hacc.length, Array.length_toList]
  refine wpAny_For (hcall _ fun s₁ R itsR mv₁ hR hPR hrR => ?_) hs3
  have ok₁ := mv₁.ok ok
  have hns₁ := mv₁.ns hns id hLP
  have pk : ∀ {s s' : Shared} {its : Array Value} {a : Addr}, PlainL s.heap a its → Mv B No No s s' → a ≠ B.P → PlainL s'.heap a its := fun x mv hP => let ⟨o, n, e, r⟩ := x; ⟨o, n, mv.heap _ o id hP e, r⟩
  have hD₁ := pk hD mv₁ hDP
  have hacc₁ := hacc.mv mv₁ (fun _ h => h.elim) ok
  have hRlen : rs.length = itsR.size := by rw [hrR.length, Array.length_toList]
  have hRD : R ≠ D := fun q => absurd hD.lt (Nat.not_lt.mpr (q ▸ hR))
  have hRL : R ≠ L := fun q => absurd (Ns_live hns) (Nat.not_lt.mpr (q ▸ hR))
  have two : ∀ {h h' : Heap} {I : Addr} {rr : List (List Int)} {vv : List Value}, (∀ b o, b ≠ I → b ≠ L → h.get? b = some o → h'.get? b = some o) → NQ h I → NQ h L → Rws h rr vv → Rws h' rr vv := fun hk hNI hNL x => All2.mono x fun r v ⟨a, e, vs, hv, hi⟩ => ⟨a, e, vs, IsTup.atM hv fun o q => hk a o (fun z => hNI.nt _ (z ▸ hv)) (fun z => hNL.nt _ (z ▸ hv)) q, hi⟩
  refine loopList (B := B) hE hL hh hkr (fun c => c = L ∨ c = D) (.inl rfl) hLP hLc hLK
    (fun i h m' => (∀ y : Str, y ≠ "rest" → m' y = m y) ∧ (∃ its', PlainL h D its' ∧ Rws h (acc ++ (rs.take i).map (k :: ·)) its'.toList) ∧ Rws h rs itsR.toList)
    hPR.isList (by rintro (h | h); exact hRL h; exact hRD h) (PlainL.neP ok₁ hPR) (by rintro c (rfl | rfl); exact Ns_live hns₁; exact hD₁.lt) ok₁ hns₁
    (fun h' hk => ⟨fun _ _ => rfl, ⟨its, hD₁.keeps hk, by rw [List.take_zero, List.map_nil, List.append_nil]; exact All2.mono hacc₁ fun r v ⟨a, e, t⟩ => ⟨a, e, t.keeps hk⟩⟩, All2.mono hrR fun r v ⟨a, e, t⟩ => ⟨a, e, t.keeps hk⟩⟩) ?_ ?_ ?_
  · rintro i I h h' m₁ m₂ hI ⟨hm, ⟨its', hD', hr'⟩, hrs'⟩ hk' hNI hNL hm₂
    exact ⟨fun y h1 => (hm₂ y h1).trans (hm y h1), ⟨its', (let ⟨o, n, e, r⟩ := id hD'; ⟨o, n, hk' D o (hNI.ne hD') (hNL.ne hD') e, r⟩), two hk' hNI hNL hr'⟩, two hk' hNI hNL hrs'⟩
  · rintro i v s' m' hi hv mv ok' hn' hx ⟨hm, ⟨its', hD', hr'⟩, hrs'⟩
    obtain ⟨r, hri, a, rfl, hta⟩ := hrs'.get i v (by simpa using hv)
    have hlen' := hr'.length
    simp only [List.length_append, List.length_map, List.length_take, Array.length_toList] at hlen'
    have hND := NT.plainL hD'
    refine wpAny_execs_cons (appendX hE hkl rfl (hL ▸ hn') ((hm "rows" (by decide)).trans hml) hD' ?_ (Nat.le_trans (by omega) sizeLine_big) hline rfl)
    refine wpAny_BinOp (Tuple_ (args_cons (ldl hE hkk (hL ▸ hn') ((hm "k" (by decide)).trans hmk) (args_nil (newTupI (ns := [k]) (.cons _ tk .nil) (Nat.le_trans (by simp) sizeLine_big) fun a' s₂ u₂ _ h₂ => ?_)))))
    refine ldl hE hkr (hL ▸ u₂.ns hn') hx (addTupI h₂ (hta.keeps u₂.keep) (Nat.le_trans (by have := hrl r (List.mem_of_getElem? hri); simp only [List.length_cons, List.length_nil]; omega) sizeLine_big) fun r' s₃ u₃ h₃ _ => ?_)
    have u₂₃ := u₂.trans u₃
    have hD₃ := hD'.keeps u₂₃.keep
    refine ⟨hD₃, fun h₄ hP₄ hs₄ => wpAny_execs_nil ⟨rfl, m', ?_, ?_, hm, ⟨its'.push (.ref r'), hP₄, ?_⟩, ?_⟩⟩
    · exact (u₂₃.mv : Mv B _ No s' s₃).trans (Mv.one (tk := s₃.toks) (fun b o hb e => hs₄.extBut b o hb e) rfl (Nat.le_of_eq hs₄.1.symm) hDK hDP hDc (Nat.le_refl _) : Mv B (fun c => c = D) No s₃ { s₃ with heap := h₄ }) (fun b h => .inl (.inr h)) fun _ h => h.elim
    · exact (u₂₃.ns hn').extBut hs₄.extBut (Ne.symm hDL)
    · rw [Array.toList_push, List.take_add_one, hri]
      show Rws _ (acc ++ List.map (k :: ·) (rs.take i ++ [r])) _
      rw [List.map_append, ← List.append_assoc]
      refine All2.snoc ((Rws.up hr' u₂₃).but (fun b o hb e => hs₄.extBut b o hb e) (NT.plainL hD₃)) ⟨r', rfl, ?_⟩
      obtain ⟨vs', hv', hi'⟩ := h₃
      exact ⟨vs', IsTup.atM hv' fun o e => hs₄.extBut r' o (fun q => NT.plainL hD₃ _ (q ▸ hv')) e, hi'⟩
    · exact (Rws.up hrs' u₂₃).but (fun b o hb e => hs₄.extBut b o hb e) (NT.plainL hD₃)
  · rintro s' m' mv ok' hn' ⟨hm, ⟨its', hD', hr'⟩, hrs'⟩
    rw [← hRlen, List.take_length] at hr'
    exact hQ s' m' its' (mv₁.no.trans mv (fun b h => .inl h) fun _ h => h.elim) hn' hm hD' hr'

theorem parts_body (X : Wd mg mb B) {L a : Addr} {cd : Value} (hh : A.handled = none) {m : Str → Option Value} {n : Int} {k : Nat} {t1 t2 : Tok} {Q : Flow → Shared → Prop} {fa : Addr} {o : Obj} {pm cd' doc : Value}
    (hmg : mg "_law_parts" = some (.ref fa)) (ho : B.K.get? fa = some o) (hdata : o.data = .func (docDef (dName 8) (dArgs 8) (dBody 8) (dScope 8) pm cd' doc))
    (ok : Ok B s.heap) (hns : s.heap.Ns L m) (hm1 : m "number" = some (.int n t1)) (hm2 : m "many" = some (.int (k + 1 : Nat) t2)) (hLK : B.K.get? L = none) (hLP : L ≠ B.P) (hLc : L ≠ B.c) (hn0 : 0 ≤ n) (hn1 : n ≤ 10) (hk : k ≤ 4)
    (hcall : ∀ (i : Nat) (s : Shared) (t t' : Tok) (Q : Value → Shared → Prop) (E : Value → Shared → Prop), i < (n + 1).toNat → Ok B s.heap → (∀ s' R itsR, Mv B No No s s' → s.heap.objs.size ≤ R → PlainL s'.heap R itsR → Rws s'.heap (partsL k (n - i)) itsR.toList → Q (.ref R) s') →
      wpAny (model prog w) A (call (.ref fa) [.int (n - i) t, .int k t']) Q E s)
    (hQ : ∀ s' R its, Mv B (fun c => c = L) No s s' → s.heap.objs.size ≤ R → PlainL s'.heap R its → Rws s'.heap (partsL (k + 1) n) its.toList → Q (.ret (.ref R)) s') :
    wpAny (model prog w) A (execs (dBody 8) (envOf (dName 8) (dScope 8) L a cd)) Q E s := by
  have hE : En (envOf (dName 8) (dScope 8) L a cd) := en_of rfl rfl
  dsimp only [dBody, PySem.Challenge.pw_jf0026_01, List.getElem?_cons_succ, List.getElem?_cons_zero]
  refine wpAny_execs_cons (wpAny_If (cmpI (a := (k + 1 : Nat)) (b := 0) (c := false) hE (.name rfl rfl hm2) .const hns (fun t u s Q h => PyProof.Rows.eq_int (by rw [show (((k + 1 : Nat) : Int) == 0) = false from by simp; omega]; exact h)) fun sa ua => ?_))
  rw [if_neg Bool.false_ne_true]
  refine wpAny_execs_nil (wpAny_execs_cons (asg hE rfl (wpAny_List (args_nil ⟨Nat.zero_le _, m, (ua.ns hns).push _, fun h₂ hn₂ hs₂ => ?_⟩))))
  have u₂ : Up sa { sa with heap := sa.heap.push { cls := .type "list", data := .seq ([] : List Value).toArray } } := Up.push _
  have hz := ua.size
  generalize hD0 : sa.heap.objs.size = D at *
  have hDL : D ≠ L := fun q => absurd (Ns_live hns) (Nat.not_lt.mpr (q ▸ hz))
  obtain ⟨hDK, hDP, hDc⟩ := ok.new hz
  have hg0 : (sa.heap.push { cls := .type "list", data := .seq ([] : List Value).toArray }).get? D = some { cls := .type "list", data := .seq ([] : List Value).toArray } := by rw [← hD0]; exact Heap.get?_push_size _ rfl
  have hP0 : PlainL h₂ D #[] := ⟨_, _, hs₂.extBut _ _ hDL hg0, rfl, rfl, rfl⟩
  have mv₂ : Mv B (fun c => c = L) No s { sa with heap := h₂, toks := sa.toks + 1 } :=
    ((ua.trans u₂).mv : Mv B _ No s _).trans (Mv.one (fun b o hb e => hs₂.extBut b o hb e) rfl (Nat.le_of_eq hs₂.1.symm) hLK hLP hLc (Nat.le_succ _) : Mv B (fun c => c = L) No { sa with heap := sa.heap.push { cls := .type "list", data := .seq ([] : List Value).toArray } } { sa with heap := h₂, toks := sa.toks + 1 }) (fun b h => .inl h) fun _ h => .inl h
  have ok₂ := mv₂.ok ok
  generalize hs' : ({ sa with heap := h₂, toks := sa.toks + 1 } : Shared) = s₂ at *
  have e2 : s₂.heap = h₂ := by rw [← hs']
  rw [← e2] at hn₂ hP0
  clear hs' hs₂ e2 hg0 u₂ hD0
  refine wpAny_execs_cons (wpAny_For (evRange1 X ok₂ hE rfl hn₂ (b := n + 1) (.add (.name rfl rfl ((if_neg (by decide)).trans hm1)) .const) fun r s₃ t u v u₃ hr => iterRange hr (by decide) (by decide) (by omega) (by omega) fun I s₄ u₄ hI hIl hIt => ?_) (by intro _; rfl))
  have up := u₃.trans u₄
  have ok₄ := up.ok ok₂
  have hzI : s₂.heap.objs.size ≤ I := Nat.le_trans u₃.size hI
  obtain ⟨hIK, hIP, hIc⟩ := ok₂.new hzI
  have hDl := hP0.lt
  have hLl := Ns_live hn₂
  have hIL : I ≠ L := fun q => absurd hLl (Nat.not_lt.mpr (q ▸ hzI))
  have hID : I ≠ D := fun q => absurd hDl (Nat.not_lt.mpr (q ▸ hzI))
  have e0 : (n + 1 - 0).toNat = (n + 1).toNat := by rw [Int.sub_zero]
  rw [e0] at hIt
  refine forG hE rfl (x := "k") rfl (Walks.range (A := A) hh I 0 1 (n + 1).toNat) (fun b hb => by simpa using hb) (fun c => c = L ∨ c = D) (fun b hb => ?_) (.inl rfl) hIL hLP hLc hLK hIP hIc hIK (fun i h st => NQ.fields st rfl) ok₄
    (fun i h m' => (∃ t, m' "number" = some (.int n t)) ∧ (∃ t, m' "many" = some (.int (k + 1 : Nat) t)) ∧ m' "rows" = some (.ref D) ∧ ∃ its, PlainL h D its ∧ Rws h ((List.range i).flatMap fun (j : Nat) => (partsL k (n - j)).map ((j : Int) :: ·)) its.toList) ?_ ?_ ?_ (up.ns hn₂)
    ⟨⟨t1, (if_neg (by decide)).trans hm1⟩, ⟨t2, (if_neg (by decide)).trans hm2⟩, if_pos rfl, #[], hP0.keeps up.keep, .nil⟩ hIt
  · simp only [List.mem_singleton] at hb
    subst hb
    exact ⟨fun h => h.elim hIL hID, hIP⟩
  · rintro i h h' m₁ m₂ ⟨⟨t, h1⟩, ⟨t', h2⟩, h3, its, hP, hr⟩ hk' hNI hNL hm₂
    exact ⟨⟨t, (hm₂ _ (by decide)).trans h1⟩, ⟨t', (hm₂ _ (by decide)).trans h2⟩, (hm₂ _ (by decide)).trans h3, its, (let ⟨o, n, e, r⟩ := id hP; ⟨o, n, hk' D o (hNI.ne hP) (hNL.ne hP) e, r⟩),
      All2.mono hr fun r v ⟨a, e, vs, hv, hi⟩ => ⟨a, e, vs, IsTup.atM hv fun o q => hk' a o (fun z => hNI.nt _ (z ▸ hv)) (fun z => hNL.nt _ (z ▸ hv)) q, hi⟩⟩
  · rintro i v s' m' hi ⟨tk, rfl⟩ mv ok' hn' hx ⟨⟨t, h1⟩, ⟨t', h2⟩, h3, its, hP, hr⟩
    have hx : m' "k" = some (.int (i : Int) tk) := by rw [hx]; congr 2; omega
    have hlen := flat_le (fun (j : Nat) => (partsL k (n - j)).map ((j : Int) :: ·)) (11 ^ 4) (List.range i) fun j _ => by
      rw [List.length_map]
      exact Nat.le_trans (partsL_length k (n - j) (by omega)) (Nat.pow_le_pow_right (by decide) hk)
    have hpl := Nat.le_trans (partsL_length k (n - i) (by omega)) (Nat.pow_le_pow_right (n := 11) (by decide) hk)
    have hi11 : i ≤ 11 := by omega
    rw [List.length_range] at hlen
    have hlen2 := Nat.le_trans hlen (Nat.mul_le_mul_right _ hi11)
    refine wpAny_execs_cons (parts_inner (rs := partsL k (n - i)) (k := i) X hE rfl hh rfl rfl rfl ok' hn' hx h3 hP hr hLK hLP hLc hDK hDP hDc (by omega) (fun r h => by rw [partsL_row k _ r h]; omega) (fun Q hq => ?_) (fun s'' m'' its'' mv'' hn'' hm'' hP'' hr'' => wpAny_execs_nil ⟨rfl, m'', mv'', hn'', ⟨t, (hm'' _ (by decide)).trans h1⟩, ⟨t', (hm'' _ (by decide)).trans h2⟩, (hm'' _ (by decide)).trans h3, its'', hP'', ?_⟩) rfl (by intro _; rfl))
    · refine Call_ (ldg X ok' hE rfl hmg (callWith_def hdata ?_))
      refine args_cons (IEv.runV (n := n - i) hE (m := m') (.sub (.name rfl rfl h1) (.name rfl rfl hx)) rfl hn' fun t6 s6 u6 => ?_)
      refine args_cons (IEv.runV (n := (k : Nat)) hE (m := m') (.sub (.name rfl rfl h2) .const) (by omega) (u6.ns hn') fun t7 s7 u7 => ?_)
      have u67 := u6.trans u7
      have ok7 := u67.ok ok'
      exact args_nil ⟨X.get ok7 ho (by rw [hdata]; exact nofun), hcall i s7 t6 t7 _ _ hi ok7 fun s8 R itsR mv8 hR hPR hrR => hq s8 R itsR (u67.mv.thenNo mv8) (Nat.le_trans u67.size hR) hPR hrR⟩
    · rw [List.range_succ, List.flatMap_append]
      simpa using hr''
  · rintro s' m' mv ok' hn' ⟨⟨t, h1⟩, ⟨t', h2⟩, h3, its, hP, hr⟩
    refine wpAny_execs_cons (wpAny_Return_some (ldl hE rfl hn' h3 (hQ _ D its ?_ hz hP hr)))
    exact (mv₂.thenNo up.mv).trans mv (fun b h => by
      rcases h with (h | h) | h
      · exact .inl h
      · exact .inr (h ▸ hz)
      · exact .inr (h ▸ Nat.le_trans mv₂.size hzI)) fun _ h => h.elim
end
end Mine
end

section
open PySem PySem.W PySem.Calls PyProof.Rows
set_option linter.unusedVariables false
set_option Elab.async false
set_option maxRecDepth 100000
namespace Mine
open Sem (wp)

section
variable {prog : Program} {w : World} {mg mb : Str → Option Value} {B : Gnd} {A : Around} {E : Value → Shared → Prop} {s : Shared}

/-- a call of a plain function of the text -/
theorem call_fun (X : Wd mg mb B) {name : Str} {params : Arguments} {body : List Stmt} {scope : Scope} {fa : Addr} {o : Obj} {pm cd doc : Value} {args : List Value} {binds : List (Str × Value)} {Q : Value → Shared → Prop} (hroom : A.depth < recursionLimit)
    (ho : B.K.get? fa = some o) (hdata : o.data = .func (docDef name params body scope pm cd doc)) (hcd : B.K.CodeRec cd name) (ok : Ok B s.heap)
    (hbind : bindArgs (docDef name params body scope pm cd doc) ⟨args, []⟩ = pure binds) (hloc : ∀ x ∈ binds, scope.names.lookup x.1 = some .local)
    (h : ∀ L s₁, Up s s₁ → s.heap.objs.size ≤ L → Ok (B.at s.heap) s₁.heap → s₁.heap.Ns L (fun x => binds.reverse.lookup x) →
      wpAny (model prog w) (A.deeper (envOf name scope L fa cd)) (execs body (envOf name scope L fa cd)) (fun f s' => ∃ v, f = .ret v ∧ Q v s') (fun _ _ => False) s₁)
    (hcell : ∀ x ∈ scope.names, x.2 ≠ .cell := by decide) (hco : scope.isCoroutine = false := by rfl) (hgen : scope.isGenerator = false := by rfl) (hk : scope.kind = .function := by rfl) :
    wpAny (model prog w) A (call (.ref fa) args) Q E s := by
  refine wpAny_call (codeAny_call_def (fd := docDef name params body scope pm cd doc) (body := body) (binds := binds) hroom (X.get ok ho (by rw [hdata]; exact nofun)) hdata (X.nolimit ok) (X.code ok hcd) rfl (.of_eq hbind) hcell hloc (fun h₀ hns hk₀ => ?_) hco hgen hk)
  have hz : s.heap.objs.size ≤ h₀.objs.size := by
    have hl := Ns_live hns
    exact Nat.le_of_lt hl
  have up : Up s { s with heap := h₀, toks := s.toks + binds.length } := Up.heap hk₀ hz (Nat.le_add_right s.toks binds.length)
  refine wpAny_mono (h s.heap.objs.size { s with heap := h₀, toks := s.toks + binds.length } up (Nat.le_refl _) (up.ok ok.here) hns) (fun f s' hf => ?_) fun _ _ x => x.elim
  obtain ⟨v, rfl, hq⟩ := hf
  exact hq

theorem parts_body0 (X : Wd mg mb B) {L a : Addr} {cd : Value} {m : Str → Option Value} {n : Int} {t1 t2 : Tok} {Q : Flow → Shared → Prop}
    (ok : Ok B s.heap) (hns : s.heap.Ns L m) (hm1 : m "number" = some (.int n t1)) (hm2 : m "many" = some (.int (0 : Nat) t2))
    (hQ : ∀ s' R its, Mv B No No s s' → s.heap.objs.size ≤ R → PlainL s'.heap R its → Rws s'.heap (partsL 0 n) its.toList → Q (.ret (.ref R)) s') :
    wpAny (model prog w) A (execs (dBody 8) (envOf (dName 8) (dScope 8) L a cd)) Q E s := by
  have hE : En (envOf (dName 8) (dScope 8) L a cd) := en_of rfl rfl
  dsimp only [dBody, PySem.Challenge.pw_jf0026_01, List.getElem?_cons_succ, List.getElem?_cons_zero]
  refine wpAny_execs_cons (wpAny_If (cmpI (a := (0 : Nat)) (b := 0) (c := true) hE (.name rfl rfl hm2) .const hns (fun t u s Q h => PyProof.Rows.eq_int h) fun sa ua => ?_))
  rw [if_pos rfl]
  refine wpAny_execs_cons (wpAny_Return_some (wpAny_IfExp (cmpI (a := n) (b := 0) (c := n == 0) hE (.name rfl rfl hm1) .const (ua.ns hns) (fun t u s Q h => PyProof.Rows.eq_int h) fun sb ub => ?_)))
  have up := ua.trans ub
  by_cases hz : n = 0
  · subst hz
    refine wpAny_List (args_cons (Tuple_ (args_nil (newTupI (ns := []) .nil (Nat.zero_le _) fun ta s₁ u₁ hta hti => args_nil ⟨Nat.le_trans (by simp) sizeLine_big, ?_⟩))))
    have u₂ : Up s₁ { s₁ with heap := s₁.heap.push { cls := .type "list", data := .seq [Value.ref ta].toArray } } := Up.push _
    exact hQ _ _ #[.ref ta] ((up.trans u₁).trans u₂).mv (up.trans u₁).size ⟨_, _, Heap.get?_push_size _ rfl, rfl, rfl, rfl⟩ (.cons ⟨ta, rfl, hti.keeps u₂.keep⟩ .nil)
  · rw [show (n == 0) = false from by simpa using hz, if_neg Bool.false_ne_true]
    refine wpAny_List (args_nil ⟨Nat.zero_le _, ?_⟩)
    have u₂ : Up sb { sb with heap := sb.heap.push { cls := .type "list", data := .seq ([] : List Value).toArray } } := Up.push _
    rw [partsL, if_neg hz] at hQ
    exact hQ _ _ #[] (up.trans u₂).mv up.size ⟨_, _, Heap.get?_push_size _ rfl, rfl, rfl, rfl⟩ .nil

theorem parts_call (k : Nat) : ∀ {B : Gnd} (X : Wd mg mb B) {fa : Addr} {o : Obj} {pm cd doc : Value} (hmg : mg "_law_parts" = some (.ref fa)) (ho : B.K.get? fa = some o) (hdata : o.data = .func (docDef (dName 8) (dArgs 8) (dBody 8) (dScope 8) pm cd doc)) (hcd : B.K.CodeRec cd (dName 8))
    {d u : Nat} {s : Shared} {n : Int} {t t' : Tok} {Q : Value → Shared → Prop} {E : Value → Shared → Prop}, 0 ≤ n → n ≤ 10 → k ≤ 5 → d + 3 * k + 10 < 1000 → Ok B s.heap →
    (∀ s' R its, Mv B No No s s' → s.heap.objs.size ≤ R → PlainL s'.heap R its → Rws s'.heap (partsL k n) its.toList → Q (.ref R) s') →
    wpAny (model prog w) (cn d u) (call (.ref fa) [.int n t, .int k t']) Q E s := by
  induction k with
  | zero =>
    intro B X fa o pm cd doc hmg ho hdata hcd d u s n t t' Q E hn0 hn1 hk hd ok hQ
    have hroom : d < recursionLimit := by show d < 1000; omega
    refine call_fun (binds := [("number", .int n t), ("many", .int (0 : Nat) t')]) X hroom ho hdata hcd ok rfl (locs rfl) fun L s₁ up hL ok₁ hns => ?_
    exact parts_body0 (X.here ok) ok₁ hns rfl rfl fun s' R its mv hR hP hr => ⟨_, rfl, hQ s' R its (((up.mv : Mv (B.at s.heap) No No s s₁).thenNo mv).back ok) (Nat.le_trans up.size hR) hP hr⟩
  | succ k ih =>
    intro B X fa o pm cd doc hmg ho hdata hcd d u s n t t' Q E hn0 hn1 hk hd ok hQ
    have hroom : d < recursionLimit := by show d < 1000; omega
    refine call_fun (binds := [("number", .int n t), ("many", .int (k + 1 : Nat) t')]) X hroom ho hdata hcd ok rfl (locs rfl) fun L s₁ up hL ok₁ hns => ?_
    obtain ⟨hLK, hLP, hLc⟩ := (ok.here).new hL
    have ho₁ : (B.at s.heap).K.get? fa = some o := X.get ok ho (by rw [hdata]; exact nofun)
    refine parts_body (X.here ok) (A := (cn d u).deeper (envOf (dName 8) (dScope 8) L fa cd)) rfl hmg ho₁ hdata ok₁ hns rfl rfl hLK hLP hLc hn0 hn1 (by omega) (fun i s₂ t₂ t₂' Q₂ E₂ hi ok₂ hq => ?_) fun s' R its mv hR hP hr => ⟨_, rfl, hQ s' R its (((up.mv : Mv (B.at s.heap) No No s s₁).trans mv (fun b h => .inr (h ▸ hL)) fun _ h => h.elim).back ok) (Nat.le_trans up.size hR) hP hr⟩
    refine wpAny_cn (d := d + 1) (u := u + 3) rfl (Nat.le_refl _) (Nat.le_refl _) (ih (X.here ok) hmg ho₁ hdata (X.code ok hcd) (by omega) (by omega) (by omega) (by omega) ok₂ fun s' R its mv hR hP hr => hq s' R its mv hR hP hr)
end
end Mine
end

section
open PySem PySem.W PySem.Calls PyProof.Rows
set_option linter.unusedVariables false
set_option Elab.async false
set_option maxRecDepth 100000
namespace Mine
open Sem (wp)

def rowD (r : List Int) : PyData := .tuple (r.map .int)
def lstD (rs : List (List Int)) : PyData := .list (rs.map rowD)

theorem ints_reads {h : Heap} {vs : List Value} {ns : List Int} (x : IntsAre vs ns) : ReadsAll h vs (ns.map .int) [] := by
  induction x with
  | nil => exact .nil
  | cons n t _ ih => exact .cons (as := []) (bs := []) (.int n t) ih
theorem row_reads {h : Heap} {r : List Int} {a : Addr} (x : TupI h a r) : Reads h (.ref a) (rowD r) [] := by
  obtain ⟨vs, ⟨o, ho, hc, n, hd⟩, hi⟩ := x
  exact reads_tuple_at ho hc hd (ints_reads hi)
theorem rows_reads {h : Heap} {rs : List (List Int)} {vs : List Value} (x : Rws h rs vs) : ReadsAll h vs (rs.map rowD) [] := by
  induction x with
  | nil => exact .nil
  | cons h1 _ ih => obtain ⟨a, rfl, ht⟩ := h1; exact .cons (as := []) (bs := []) (row_reads ht) ih
theorem lst_reads {h : Heap} {rs : List (List Int)} {a : Addr} {its : Array Value} (p : PlainL h a its) (x : Rws h rs its.toList) : Reads h (.ref a) (lstD rs) [a] := by
  obtain ⟨o, n, ho, hc, _, hd⟩ := p
  exact reads_list_at ho hc hd (rows_reads x)

theorem lay_ints (r : List Int) : PyData.canLayAll0 (r.map .int) = true := by
  induction r with
  | nil => rfl
  | cons a r ih => simp only [List.map_cons, PyData.canLayAll0, PyData.canLay0, ih, Bool.and_self]
theorem depth_ints (r : List Int) : PyData.depthAll (r.map .int) ≤ 1 := by
  induction r with
  | nil => simp [PyData.depthAll]
  | cons a r ih => simp only [List.map_cons, PyData.depthAll, PyData.depth]; omega
theorem lay_rows (rs : List (List Int)) : PyData.canLayAll0 (rs.map rowD) = true := by
  induction rs with
  | nil => rfl
  | cons a r ih => simp only [List.map_cons, PyData.canLayAll0, rowD, PyData.canLay0, lay_ints, ih, Bool.and_self]
theorem depth_rows (rs : List (List Int)) : PyData.depthAll (rs.map rowD) ≤ 3 := by
  induction rs with
  | nil => simp [PyData.depthAll]
  | cons a r ih => have := depth_ints a; simp only [List.map_cons, PyData.depthAll, rowD, PyData.depth]; omega
theorem shaped_lst (rs : List (List Int)) : SeqAt.shaped (lstD rs) = true := by
  have := depth_rows rs
  simp only [SeqAt.shaped, lstD, PyData.canLay0, lay_rows, Bool.true_and, PyData.depth, decide_eq_true_eq]
  omega

/-- None, or a list of rows -/
def IsDue (h : Heap) (v : Value) : Option (List (List Int)) → Prop
  | none => v = .none
  | some rs => ∃ a its, v = .ref a ∧ PlainL h a its ∧ Rws h rs its.toList
def dueD : Option (List (List Int)) → PyData
  | none => .none
  | some rs => lstD rs
theorem IsDue.reads {h : Heap} {v : Value} {d : Option (List (List Int))} (x : IsDue h v d) : ∃ as, Reads h v (dueD d) as := by
  cases d with
  | none => cases x; exact ⟨_, .none⟩
  | some rs => obtain ⟨a, its, rfl, hp, hr⟩ := x; exact ⟨_, lst_reads hp hr⟩
theorem shaped_due (d : Option (List (List Int))) : SeqAt.shaped (dueD d) = true := by
  cases d with
  | none => rfl
  | some rs => exact shaped_lst rs
theorem PlainL.mv {B : Gnd} {W G} {s s' : Shared} {a : Addr} {its : Array Value} (x : PlainL s.heap a its) (m : Mv B W G s s') (hW : ∀ b, W b → NQ s.heap b) (ok : Ok B s.heap) : PlainL s'.heap a its := by
  have hP := PlainL.neP ok x
  obtain ⟨o, n, e, hc, hd, hq⟩ := x
  exact ⟨o, n, m.heap a o (fun h => hW a h o its n e hq) hP e, hc, hd, hq⟩
theorem IsDue.mv {B : Gnd} {W G} {s s' : Shared} {v : Value} {d : Option (List (List Int))} (x : IsDue s.heap v d) (m : Mv B W G s s') (hW : ∀ b, W b → NQ s.heap b) (ok : Ok B s.heap) : IsDue s'.heap v d := by
  cases d with
  | none => exact x
  | some rs => obtain ⟨a, its, rfl, hp, hr⟩ := x; exact ⟨a, its, rfl, PlainL.mv hp m hW ok, hr.mv m (fun b h => (hW b h).nt) ok⟩

section
variable {prog : Program} {w : World} {mg mb : Str → Option Value} {B : Gnd} {A : Around} {E : Value → Shared → Prop} {s : Shared}

theorem ne_due {v u : Value} {d : Option (List (List Int))} {Q : Value → Shared → Prop} (hv : IsDue s.heap v d) (hu : IsDue s.heap u d) (hr : A.units + 64 < cLine) (h : Q (.bool false) s) : wpAny (model prog w) A (compareOp .NotEq v u) Q E s := by
  obtain ⟨as, hv⟩ := hv.reads
  obtain ⟨bs, hu⟩ := hu.reads
  refine ne_dataH hv hu (shaped_due d) (shaped_due d) hr ?_
  rw [SeqAt.eqv_refl _ (SeqAt.canLay_of_shaped (shaped_due d))]
  exact h

theorem told_due {ns : List Int} {N : Nat} {rs : List (List Int)} {v : Value} {s' : Shared} (x : ToldRows B s (IsRow N) rs v s') : Mv B No No s s' ∧ IsDue s'.heap v (some rs) := by
  obtain ⟨S, acc, c, rfl, mv, _, hS, hall⟩ := x
  exact ⟨mv, S, acc, rfl, ⟨_, _, hS, rfl, rfl, rfl⟩, hall.mono fun r v h => by obtain ⟨_, a, e, t⟩ := h; exact ⟨a, e, t⟩⟩

/-- a def of the text at its place -/
structure FnAt (B : Gnd) (mg : Str → Option Value) (i : Nat) (x : Str) (fa : Addr) (o : Obj) (pm cd doc : Value) : Prop where
  mg : mg x = some (.ref fa)
  ho : B.K.get? fa = some o
  data : o.data = .func (docDef (dName i) (dArgs i) (dBody i) (dScope i) pm cd doc)
  code : B.K.CodeRec cd (dName i)
theorem FnAt.fn {i x fa o pm cd doc} (h : FnAt B mg i x fa o pm cd doc) : Fn B mg i x := ⟨fa, o, pm, cd, doc, h.mg, h.ho, h.data, h.code⟩
theorem FnAt.here {i x fa o pm cd doc} (X : Wd mg mb B) (h : FnAt B mg i x fa o pm cd doc) {hp : Heap} (ok : Ok B hp) : FnAt (B.at hp) mg i x fa o pm cd doc :=
  ⟨h.mg, X.get ok h.ho (by rw [h.data]; exact nofun), h.data, X.code ok h.code⟩
theorem Fn.here {i x} (X : Wd mg mb B) (h : Fn B mg i x) {hp : Heap} (ok : Ok B hp) : Fn (B.at hp) mg i x := by
  obtain ⟨fa, o, pm, cd, doc, a, b, c, d⟩ := h
  exact (FnAt.here X ⟨a, b, c, d⟩ ok).fn

theorem Sl.mv {fs : List Addr} {s s₁ s' : Shared} {L Lw : Addr} (x : Sl fs s₁ s') (up : Up s s₁) (hfs : ∀ b, b ∈ fs → b = L ∨ b = Lw) (hL : s.heap.objs.size ≤ L) (hLK : B.K.get? Lw = none) (hLP : Lw ≠ B.P) (hLc : Lw ≠ B.c) : Mv B (fun b => b = Lw) No s s' := by
  have hg := up.gens
  have k : ∀ b o, b ≠ Lw → s.heap.get? b = some o → s'.heap.get? b = some o := fun b o hb e => x.heap b o (fun h => (hfs b h).elim (fun q => absurd (Heap.lt_size e) (Nat.not_lt.mpr (q ▸ hL))) hb) (up.keep b o e)
  refine ⟨fun b o hb _ e => k b o hb e, Nat.le_trans up.size x.size, fun i _ hi => ?_, ?_, fun ok => ⟨fun b o hb e => k b o (fun q => by rw [q, hLK] at e; cases e) (ok.keep b o hb e), ?_⟩, ?_, fun h => x.bare (hg ▸ h), Nat.le_trans up.toks x.toks⟩
  · rw [← hg] at hi ⊢; exact x.gens i hi
  · rw [← hg]; exact x.gsz
  · obtain ⟨ps, ⟨o, vs, file, tf, flags, tg, inF, text, tt, op, a, r1, r2, r3, r4, r5, r6, b, r⟩, ⟨⟨o', vs', e1, r'⟩, e2⟩⟩ := ok.tab
    exact ⟨ps, ⟨o, vs, file, tf, flags, tg, inF, text, tt, op, k _ _ hLc.symm a, r1, r2, r3, r4, r5, r6, k _ _ hLP.symm b, r⟩, ⟨⟨o', vs', k _ _ hLc.symm e1, r'⟩, k _ _ hLP.symm e2⟩⟩
  · obtain ⟨⟨_, _, rfl⟩, _, _, _⟩ := up; exact x.os

/-- what a call of _law_told leaves, called from the frame Lw -/
theorem told_fixed_call (X : Wd mg mb B) {f9 : Addr} {o9 : Obj} {pm9 cd9 doc9 : Value} (F9 : FnAt B mg 9 "_law_told" f9 o9 pm9 cd9 doc9) (F3 : Fn B mg 3 "fixed_integer_vector_iter") (hh : A.handled = none) {lenv : Env} {Lw : Addr} (hfr : A.frames = some [lenv]) (hlf : lenv.frame = some Lw) (hlk : lenv.scope.kind ≠ .module)
    (hd : A.depth ≤ 400) (hu : A.units ≤ 1000) {mw : Str → Option Value} (ok : Ok B s.heap) (hLw : s.heap.Ns Lw mw) (hLK : B.K.get? Lw = none) (hLP : Lw ≠ B.P) (hLc : Lw ≠ B.c)
    {v : Addr} {ns : List Int} {vs : Int} {tk tt : Tok} {Q : Value → Shared → Prop} (hn0 : ns.length ≤ 10) (hb : ∀ x ∈ ns, -1000 ≤ x ∧ x ≤ 1000) (hv2 : vs ≤ 1000) (hsz : 0 ≤ vs → (fixedRows ns vs).length ≤ sizeLine) (sq : SeqI s.heap v ns) (vP : v ≠ B.P)
    (hQ : ∀ v s', Mv B (fun b => b = Lw) No s s' → (∀ m, s.heap.Ns Lw m → s'.heap.Ns Lw m) → IsDue s'.heap v (if vs < 0 then none else some (fixedRows ns vs)) → Q v s') :
    wpAny (model prog w) A (call (.ref f9) [.int 0 tk, .ref v, .int vs tt]) Q E s := by
  have hroom : A.depth < recursionLimit := by show A.depth < 1000; omega
  refine call_fun (binds := [("kind", .int 0 tk), ("one", .ref v), ("two", .int vs tt)]) X hroom F9.ho F9.data F9.code ok rfl (locs rfl) fun L s₁ up hL ok₁ hns => ?_
  have X₁ := X.here ok
  have hroom' : A.depth + 1 < recursionLimit := by show A.depth + 1 < 1000; omega
  by_cases hneg : vs < 0
  · have hfs : ∀ b ∈ frs [envOf (dName 9) (dScope 9) L f9 cd9, lenv], b = L ∨ b = Lw := fun b hb => by
      simp only [frs, List.filterMap_cons, hlf, List.filterMap_nil] at hb
      rcases List.mem_cons.mp hb with h | hb
      · exact .inl h
      · exact .inr (by simpa using hb)
    have okB := up.ok ok
    have ff : s₁.heap.FunFrames (hideAll s₁.heap [L, Lw]) [envOf (dName 9) (dScope 9) L f9 cd9, lenv] :=
      Heap.FunFrames.cons (by show (dScope 9).kind ≠ _; decide) rfl hns (hideAll_none _ (by simp)) (Heap.FunFrames.cons hlk hlf (up.ns hLw) (hideAll_none _ (by simp)) trivial)
    have hwf : ∀ m, s.heap.Ns Lw m → s₁.heap.Ns Lw m := fun m hm => up.ns hm
    refine told_raise_fixed X F3 hh hfr hroom' (fun b hb => (hfs b hb).elim (fun q => q ▸ ok.new hL) fun q => q ▸ ⟨hLK, hLP, hLc⟩) ff hneg okB hns rfl rfl rfl fun s' hs => ⟨_, rfl, hQ _ s' (hs.mv up hfs hL hLK hLP hLc) (fun m hm => hs.up.ns (hwf m hm)) ?_⟩
    rw [if_pos hneg]; rfl
  · have hA : wpAny (model prog w) (cn (A.depth + 1) (A.units + 3)) (execs (dBody 9) (envOf (dName 9) (dScope 9) L f9 cd9)) (fun f s' => ∃ v, f = .ret v ∧ Q v s') (fun _ _ => False) s₁ := by
      refine told_fixed X₁ (Fn.here X F3 ok) (by omega) (by omega) (by omega) hb (by omega) hv2 (hsz (by omega)) ok₁ hns rfl rfl rfl vP sq fun v s' ht => ?_
      obtain ⟨mv, hdue⟩ := told_due (ns := ns) ht
      have mv' := ((up.mv : Mv (B.at s.heap) No No s s₁).thenNo mv).back ok
      refine ⟨v, rfl, hQ v s' mv'.no (fun m hm => mv'.ns hm id hLP) ?_⟩
      rw [if_neg hneg]; exact hdue
    exact wpAny_cn hh (Nat.le_refl _) (Nat.le_refl _) hA

theorem told_weak_call (X : Wd mg mb B) {f9 : Addr} {o9 : Obj} {pm9 cd9 doc9 : Value} (F9 : FnAt B mg 9 "_law_told" f9 o9 pm9 cd9 doc9) (F1 : Fn B mg 1 "_combinations") {f4 : Addr} {o4 : Obj} {pm4 doc4 : Value} (F4 : FnAt B mg 4 "weak_composition_iter" f4 o4 pm4 (.ref B.c) doc4) (hh : A.handled = none) {lenv : Env} {Lw : Addr} (hfr : A.frames = some [lenv]) (hlf : lenv.frame = some Lw) (hlk : lenv.scope.kind ≠ .module)
    (hd : A.depth ≤ 400) (hu : A.units ≤ 1000) {mw : Str → Option Value} (ok : Ok B s.heap) (hLw : s.heap.Ns Lw mw) (hLK : B.K.get? Lw = none) (hLP : Lw ≠ B.P) (hLc : Lw ≠ B.c)
    {n k : Int} {tk t1 t2 : Tok} {Q : Value → Shared → Prop} (hn1 : n ≤ 900) (hk1 : k ≤ 50) (hsz : 0 ≤ n → (weakRows n k.toNat).length ≤ sizeLine)
    (hQ : ∀ v s', Mv B (fun b => b = Lw) No s s' → (∀ m, s.heap.Ns Lw m → s'.heap.Ns Lw m) → IsDue s'.heap v (if n < 0 ∨ k < 0 then none else some (weakRows n k.toNat)) → Q v s') :
    wpAny (model prog w) A (call (.ref f9) [.int 1 tk, .int n t1, .int k t2]) Q E s := by
  have hroom : A.depth < recursionLimit := by show A.depth < 1000; omega
  refine call_fun (binds := [("kind", .int 1 tk), ("one", .int n t1), ("two", .int k t2)]) X hroom F9.ho F9.data F9.code ok rfl (locs rfl) fun L s₁ up hL ok₁ hns => ?_
  have X₁ := X.here ok
  have hroom' : A.depth + 1 < recursionLimit := by show A.depth + 1 < 1000; omega
  have hroom2 : A.depth + 1 < recursionLimit := hroom'
  by_cases hneg : n < 0 ∨ k < 0
  · have hfs : ∀ b ∈ frs [envOf (dName 9) (dScope 9) L f9 cd9, lenv], b = L ∨ b = Lw := fun b hb => by
      simp only [frs, List.filterMap_cons, hlf, List.filterMap_nil] at hb
      rcases List.mem_cons.mp hb with h | hb
      · exact .inl h
      · exact .inr (by simpa using hb)
    have okB := up.ok ok
    have ff : s₁.heap.FunFrames (hideAll s₁.heap [L, Lw]) [envOf (dName 9) (dScope 9) L f9 cd9, lenv] :=
      Heap.FunFrames.cons (by show (dScope 9).kind ≠ _; decide) rfl hns (hideAll_none _ (by simp)) (Heap.FunFrames.cons hlk hlf (up.ns hLw) (hideAll_none _ (by simp)) trivial)
    have hwf : ∀ m, s.heap.Ns Lw m → s₁.heap.Ns Lw m := fun m hm => up.ns hm
    refine told_raise_weak X ⟨f4, o4, pm4, doc4, F4.mg, F4.ho, F4.data, F4.code⟩ hh hfr hroom' (fun b hb => (hfs b hb).elim (fun q => q ▸ ok.new hL) fun q => q ▸ ⟨hLK, hLP, hLc⟩) ff hneg okB hns rfl rfl rfl fun s' hs => ⟨_, rfl, hQ _ s' (hs.mv up hfs hL hLK hLP hLc) (fun m hm => hs.up.ns (hwf m hm)) ?_⟩
    rw [if_pos hneg]; rfl
  · have F4' := F4.here X ok
    have fin : ∀ v s' (N : Nat), ToldRows (B.at s.heap) s₁ (IsRow N) (weakRows n k.toNat) v s' → ∃ v', Flow.ret v = .ret v' ∧ Q v' s' := fun v s' N ht => by
      obtain ⟨mv, hdue⟩ := told_due (ns := []) ht
      have mv' := ((up.mv : Mv (B.at s.heap) No No s s₁).thenNo mv).back ok
      refine ⟨v, rfl, hQ v s' mv'.no (fun m hm => mv'.ns hm id hLP) ?_⟩
      rw [if_neg hneg]; exact hdue
    have hA : wpAny (model prog w) (cn (A.depth + 1) (A.units + 3)) (execs (dBody 9) (envOf (dName 9) (dScope 9) L f9 cd9)) (fun f s' => ∃ v, f = .ret v ∧ Q v s') (fun _ _ => False) s₁ := by
      rcases hkk : k.toNat with _ | j
      · have e : k = ((0 : Nat) : Int) := by omega
        subst e
        exact told_weak0 X₁ ⟨f4, o4, pm4, doc4, F4'.mg, F4'.ho, F4'.data, F4'.code⟩ hroom' (by omega) ok₁ hns rfl rfl rfl fun v s' ht => fin v s' 0 (by simpa using ht)
      · have e : k = ((j + 1 : Nat) : Int) := by omega
        subst e
        have hsz' := hsz (by omega)
        rw [hkk] at hsz' fin
        exact told_weak1 X₁ (Fn.here X F1 ok) ⟨f4, o4, pm4, doc4, F4'.mg, F4'.ho, F4'.data, F4'.code⟩ (by omega) (by omega) (by omega) (by omega) hn1 hsz' ok₁ hns rfl rfl rfl fun v s' ht => fin v s' (j + 1) ht
    exact wpAny_cn hh (Nat.le_refl _) (Nat.le_refl _) hA
end
end Mine
end

section
open PySem PySem.W PySem.Calls PyProof.Rows
set_option linter.unusedVariables false
set_option Elab.async false
set_option maxRecDepth 100000
namespace Mine
open Sem (wp)

def W3 (L : Addr) : Addr → Prop := fun b => b = L ∨ b = L + 1 ∨ b = L + 2

/-- law's frame: locals m, the cells of first and total -/
structure LS (B : Gnd) (L : Addr) (c1 c2 : Option Value) (m : Str → Option Value) (s : Shared) : Prop where
  ok : Ok B s.heap
  ns : s.heap.Ns L m
  c1 : s.heap.IsCell (L + 1) c1
  c2 : s.heap.IsCell (L + 2) c2
  kL : B.K.get? L = none ∧ L ≠ B.P ∧ L ≠ B.c
  k1 : B.K.get? (L + 1) = none ∧ L + 1 ≠ B.P ∧ L + 1 ≠ B.c
  k2 : B.K.get? (L + 2) = none ∧ L + 2 ≠ B.P ∧ L + 2 ≠ B.c

theorem NQ.cell {h : Heap} {a : Addr} {v : Option Value} (x : h.IsCell a v) : NQ h a := fun o items n e hd => by
  obtain ⟨o', e', hd'⟩ := x
  rw [e] at e'; cases e'; rw [hd] at hd'; cases hd'

section
variable {B : Gnd} {L : Addr} {c1 c2 : Option Value} {m : Str → Option Value} {s s' : Shared}
theorem LS.nq (S : LS B L c1 c2 m s) : ∀ b, W3 L b → NQ s.heap b := fun b h => by
  rcases h with rfl | rfl | rfl
  · exact NQ.ns S.ns
  · exact NQ.cell S.c1
  · exact NQ.cell S.c2
theorem LS.nqL (S : LS B L c1 c2 m s) : ∀ b, b = L → NQ s.heap b := fun b h => S.nq b (.inl h)
theorem LS.up (S : LS B L c1 c2 m s) (u : Up s s') : LS B L c1 c2 m s' := ⟨u.ok S.ok, u.ns S.ns, S.c1.keeps u.keep, S.c2.keeps u.keep, S.kL, S.k1, S.k2⟩
theorem cell_at {h h' : Heap} {c : Addr} {v : Option Value} (x : h.IsCell c v) (hk : ∀ o, h.get? c = some o → h'.get? c = some o) : h'.IsCell c v := let ⟨o, ho, r⟩ := x; ⟨o, hk o ho, r⟩
theorem LS.no {G} (S : LS B L c1 c2 m s) (mv : Mv B No G s s') : LS B L c1 c2 m s' :=
  ⟨mv.ok S.ok, mv.ns S.ns id S.kL.2.1, cell_at S.c1 fun o e => mv.heap _ o id S.k1.2.1 e, cell_at S.c2 fun o e => mv.heap _ o id S.k2.2.1 e, S.kL, S.k1, S.k2⟩
theorem L1 : L + 1 ≠ L := Nat.succ_ne_self L
theorem L2 : L + 2 ≠ L := Nat.ne_of_gt (Nat.lt_add_of_pos_right (by decide))
theorem L12 : L + 2 ≠ L + 1 := Nat.succ_ne_self (L + 1)
theorem LS.fr {G} (S : LS B L c1 c2 m s) (mv : Mv B (fun b => b = L) G s s') {m' : Str → Option Value} (hn : s'.heap.Ns L m') : LS B L c1 c2 m' s' :=
  ⟨mv.ok S.ok, hn, cell_at S.c1 fun o e => mv.heap _ o L1 S.k1.2.1 e, cell_at S.c2 fun o e => mv.heap _ o L2 S.k2.2.1 e, S.kL, S.k1, S.k2⟩

theorem mvL {G} (x : Mv B (fun b => b = L) G s s') : Mv B (W3 L) G s s' := x.mono (fun b h => .inl (.inl h)) fun i h => .inl h
end

section
variable {prog : Program} {w : World} {mg mb : Str → Option Value} {B : Gnd} {A : Around} {E : Value → Shared → Prop} {s : Shared} {L : Addr} {c1 c2 : Option Value} {m : Str → Option Value} {env : Env}

/-- a store to a local name -/
theorem LS.store {x : Str} {v : Value} {Q : Unit → Shared → Prop} (S : LS B L c1 c2 m s) (hE : En env) (hL : env.locals = L) (hx : env.kindOf x = some .local)
    (h : ∀ s', Mv B (fun b => b = L) No s s' → LS B L c1 c2 (fun y => if y = x then some v else m y) s' → Q () s') : wpAny (model prog w) A (storeName env x v) Q E s := by
  subst hL
  refine wpAny_storeName_local hx S.ns (fun h' hn' hs' => h _ ?_ ?_) (by rw [hE.kind]; rfl)
  · exact Mv.one (fun b o hb e => hs'.extBut b o hb e) rfl (Nat.le_of_eq hs'.1.symm) S.kL.1 S.kL.2.1 S.kL.2.2 (Nat.le_succ _)
  · exact LS.fr S (Mv.one (fun b o hb e => hs'.extBut b o hb e) rfl (Nat.le_of_eq hs'.1.symm) S.kL.1 S.kL.2.1 S.kL.2.2 (Nat.le_succ _) : Mv B (fun b => b = env.locals) No s { s with heap := h', toks := s.toks + 1 }) hn'

theorem LS.asg {x : Str} {p pos : Pos} {e : Expr} {Q : Flow → Shared → Prop} (S : LS B L c1 c2 m s) (hE : En env) (hL : env.locals = L) (hx : env.kindOf x = some .local)
    (hev : wpAny (model prog w) A (eval e env) (fun v s₁ => LS B L c1 c2 m s₁ ∧ ∀ s', Mv B (fun b => b = L) No s₁ s' → LS B L c1 c2 (fun y => if y = x then some v else m y) s' → Q .next s') E s)
    (hs : swapsWith e (some (.Name x p)) pos.line env = pure false := by rfl) :
    wpAny (model prog w) A (exec (.Assign [.Name x p] e pos) env) Q E s := by
  refine wpAny_Assign_Name (wpAny_mono hev (fun v s₁ h₁ => ?_) fun _ _ z => z) (hs := hs)
  exact h₁.1.store hE hL hx fun s' mv S' => h₁.2 s' mv S'

theorem LS.store1 {v : Value} {Q : Unit → Shared → Prop} (S : LS B L c1 c2 m s) (hE : En env) (hx : env.kindOf "first" = some .cell) (hc : env.cells.lookup ("first" : Str) = some (L + 1))
    (h : ∀ s', Mv B (fun b => b = L + 1) No s s' → LS B L (some v) c2 m s' → Q () s') : wpAny (model prog w) A (storeName env "first" v) Q E s := by
  refine wpAny_storeName_cell hE.kind hx hc S.c1 fun h' hv hs => ?_
  have mv : Mv B (fun b => b = L + 1) No s { s with heap := h' } := Mv.one (tk := s.toks) (fun b o hb e => hs.extBut b o hb e) rfl (Nat.le_of_eq hs.1.symm) S.k1.1 S.k1.2.1 S.k1.2.2 (Nat.le_refl _)
  exact h _ mv ⟨mv.ok S.ok, S.ns.sameBut hs L1.symm, hv, cell_at S.c2 fun o e => hs.extBut _ o L12 e, S.kL, S.k1, S.k2⟩

theorem LS.store2 {v : Value} {Q : Unit → Shared → Prop} (S : LS B L c1 c2 m s) (hE : En env) (hx : env.kindOf "total" = some .cell) (hc : env.cells.lookup ("total" : Str) = some (L + 2))
    (h : ∀ s', Mv B (fun b => b = L + 2) No s s' → LS B L c1 (some v) m s' → Q () s') : wpAny (model prog w) A (storeName env "total" v) Q E s := by
  refine wpAny_storeName_cell hE.kind hx hc S.c2 fun h' hv hs => ?_
  have mv : Mv B (fun b => b = L + 2) No s { s with heap := h' } := Mv.one (tk := s.toks) (fun b o hb e => hs.extBut b o hb e) rfl (Nat.le_of_eq hs.1.symm) S.k2.1 S.k2.2.1 S.k2.2.2 (Nat.le_refl _)
  exact h _ mv ⟨mv.ok S.ok, S.ns.sameBut hs L2.symm, cell_at S.c1 fun o e => hs.extBut _ o L12.symm e, hv, S.kL, S.k1, S.k2⟩

theorem ldc {x : Str} {p : Pos} {c : Addr} {v : Value} {Q : Value → Shared → Prop} (hE : En env) (hx : env.kindOf x = some .cell) (hc : env.cells.lookup x = some c) (hv : s.heap.IsCell c (some v)) (h : Q v s)
    (hd : (x == ("__debug__" : Str)) = false := by decide) : wpAny (model prog w) A (eval (.Name x p) env) Q E s := wpAny_Name (wpAny_loadName_cell hE.kind hx hc hv h) hd
end

/-- law's environment -/
abbrev lawE (L a : Addr) (cd : Value) : Env := envOfC (dName 10) (dScope 10) L a cd
theorem lawEn {L a : Addr} {cd : Value} : En (lawE L a cd) := ⟨rfl, rfl, rfl, rfl, rfl⟩
theorem law_first {L a : Addr} {cd : Value} : (lawE L a cd).cells.lookup ("first" : Str) = some (L + 1) := rfl
theorem law_total {L a : Addr} {cd : Value} : (lawE L a cd).cells.lookup ("total" : Str) = some (L + 2) := rfl
theorem law_kf {L a : Addr} {cd : Value} : (lawE L a cd).kindOf "first" = some .cell := rfl
theorem law_kt {L a : Addr} {cd : Value} : (lawE L a cd).kindOf "total" = some .cell := rfl
end Mine
end

section
open PySem PySem.W PySem.Calls PyProof.Rows
set_option linter.unusedVariables false
set_option Elab.async false
set_option maxRecDepth 100000
namespace Mine
open Sem (wp)

def bnds (ns : List Int) : List Int := ((ns.drop 1).take 4).map fun n => n.fmod 5 - 1

section
variable {prog : Program} {w : World} {mg mb : Str → Option Value} {B : Gnd} {A : Around} {E : Value → Shared → Prop} {s : Shared} {L : Addr} {c1 c2 : Option Value} {m : Str → Option Value}

theorem Up.keeps {s s' : Shared} (u : Up s s') : Keeps s s' := by
  obtain ⟨⟨h, t, rfl⟩, k, _, _⟩ := u
  exact ⟨h, t, rfl, k⟩

theorem plainL_of {h : Heap} {a : Addr} {its : Array Value} (x : h.PlainList a its) : PlainL h a its := by
  obtain ⟨n, e⟩ := x
  exact ⟨_, n, e, rfl, rfl, rfl⟩

/-- x[1:5] of a list of ints -/
theorem ev_slice15 {env : Env} (hE : En env) {x : Str} {p1 p2 p3 p4 p5 : Pos} {k k' : Nat} {sc : Addr} {vs : List Value} {ns : List Int} {Q : Value → Shared → Prop} (hx : env.kindOf x = some .local) (hd : (x == ("__debug__" : Str)) = false)
    (hn : s.heap.Ns env.locals m) (hm : m x = some (.ref sc)) (h : s.heap.IsList sc vs.toArray) (hi : IntsAre vs ns) (hsz : vs.length ≤ sizeLine) (hQ : ∀ r s' its, Up s s' → s.heap.objs.size ≤ r → s'.heap.IsList r its → IntsAre its.toList ((ns.drop 1).take 4) → Q (.ref r) s') :
    wpAny (model prog w) A (eval (.Subscript (.Name x p1) (.Slice (some (.Constant (.int 1) k p2)) (some (.Constant (.int 5) k' p5)) none p3) p4) env) Q E s := by
  refine Subscript_ (ldl hE hx hn hm (wpAny_Slice (evalPart_some_step (evC fun t s₁ u₁ => evalPart_some_step (evC fun t' s₂ u₂ => evalPart_none_step ?_)))) hd)
  have u12 := u₁.trans u₂
  have u3 : Up s₂ { s₂ with heap := s₂.heap.push { cls := .type "slice", data := .fields #[.int 1 t, .int 5 t', .none] } } := Up.push _
  have h3 := IsList.atM h fun o e => (u12.trans u3).keep sc o e
  refine subscriptTail_ops (s := { s₂ with heap := s₂.heap.push { cls := .type "slice", data := .fields #[.int 1 t, .int 5 t', .none] } }) h3.typeIs list_getitem_lookup
      (wpAny_getItem_list_slice (lo := some 1) (hi := some 5) (st := none) h3 (Heap.IsSliceOf.new ..) (.int 1 t) (.int 5 t') .none (by simp) (hQ _ _ (slicePick vs.toArray (some 1) (some 5) none) ((u12.trans u3).trans (Up.push _)) ?_ ?_ ?_) (by rw [List.size_toArray]; exact hsz)) (by with_unfolding_all rfl) (by intro _; with_unfolding_all rfl)
  · exact Nat.le_trans u12.size u3.size
  · exact ⟨_, Heap.get?_push_size _ rfl, rfl, 0, rfl⟩
  · have := slice_ints_plain hi 1 5
    have e : (ns.drop (clipAt ns.length 1)).take (clipAt ns.length 5 - clipAt ns.length 1) = (ns.drop 1).take 4 := by
      have q1 : clipAt ns.length 1 = min 1 ns.length := by unfold clipAt; omega
      have q5 : clipAt ns.length 5 = min 5 ns.length := by unfold clipAt; omega
      rw [q1, q5]
      rcases ns with _ | ⟨a, r⟩
      · rfl
      · have q : min 1 (a :: r).length = 1 := by simp only [List.length_cons]; omega
        rw [q, List.take_eq_take_iff]
        simp only [List.length_cons, List.length_drop]
        omega
    rw [← e]; exact this

end
end Mine
end

section
open PySem PySem.W PySem.Calls PyProof.Rows
set_option linter.unusedVariables false
set_option Elab.async false
set_option maxRecDepth 100000
namespace Mine
open Sem (wp)

/-- holds whatever new comes, and whatever is written where no tuple stands -/
structure Firm {ρ : Type} (Is : ρ → Heap → Value → Prop) : Prop where
  keep : ∀ r h h' v, Is r h v → (∀ b o, h.get? b = some o → h'.get? b = some o) → Is r h' v
  off : ∀ r h h' v (X : Addr → Prop), Is r h v → (∀ b o, ¬ X b → h.get? b = some o → h'.get? b = some o) → (∀ b, X b → NT h b) → Is r h' v
theorem Firm.but {ρ : Type} {Is : ρ → Heap → Value → Prop} (F : Firm Is) (r h h' v) (a : Addr) (x : Is r h v) (hk : ∀ b o, b ≠ a → h.get? b = some o → h'.get? b = some o) (nt : NT h a) : Is r h' v :=
  F.off r h h' v (fun b => b = a) x hk fun b e => e ▸ nt
theorem Firm.mv {ρ : Type} {Is : ρ → Heap → Value → Prop} (F : Firm Is) {B : Gnd} {W G} {s s' : Shared} {r v} (x : Is r s.heap v) (m : Mv B W G s s') (hW : ∀ b, W b → NT s.heap b) (ok : Ok B s.heap) : Is r s'.heap v :=
  F.off r s.heap s'.heap v (fun b => W b ∨ b = B.P) x (fun b o hb e => m.heap b o (fun h => hb (.inl h)) (fun h => hb (.inr h)) e) fun b h => h.elim (hW b) fun q => q ▸ ok.nt
theorem firm_int : Firm IsInt := ⟨fun _ _ _ _ h _ => h, fun _ _ _ _ _ h _ _ => h⟩
theorem firm_row : Firm (fun r h v => IsR h r v) :=
  ⟨fun r h h' v ⟨a, e, t⟩ hk => ⟨a, e, t.keeps hk⟩, fun r h h' v X ⟨a, e, vs, hv, hi⟩ hk nt => ⟨a, e, vs, IsTup.atM hv fun o q => hk a o (fun z => nt a z _ hv) q, hi⟩⟩

section
variable {prog : Program} {w : World} {mg mb : Str → Option Value} {B : Gnd} {A : Around} {E : Value → Shared → Prop} {s : Shared} {R : Result → Shared → Prop}

theorem compLoopG {σ ρ : Type} {In : σ → Heap → Value → Prop} {Is : ρ → Heap → Value → Prop} (fIn : Firm In) (fIs : Firm Is) {elt iter : Expr} {x : Str} {px : Pos} {ifs : List Expr} {scope : Scope} {pos : Pos} {I D Ra C : Addr} {cenv : Env} {m : Str → Option Value}
    (hh : A.handled = none) (hE : En cenv) (hC : cenv.locals = C) (hx : cenv.kindOf x = some .local) {items : Array Value} {ds : List σ} (p : σ → Bool) (f : σ → ρ) (ok : Ok B s.heap) (s₀ : Shared) (mv₀ : Mv B No No s₀ s) (hIn : s₀.heap.objs.size ≤ I) (hDn : s₀.heap.objs.size ≤ D) (hCn : s₀.heap.objs.size ≤ C)
    (hID : I ≠ D) (hIC : I ≠ C) (hDC : D ≠ C) (hRI : Ra ≠ I) (hRC : Ra ≠ C) (hRD : Ra ≠ D) (hRP : Ra ≠ B.P) (ok₀ : Ok B s₀.heap)
    (hls : s.heap.IsList Ra items) (hit : s.heap.IsListIter I Ra 0) (hacc : PlainL s.heap D #[]) (hn : s.heap.Ns C m) (hds : All2 (fun d v => In d s.heap v) ds items.toList) (hsz : items.size ≤ sizeLine)
    (tests : ∀ d v s₂ m₂, In d s₂.heap v → s₂.heap.Ns C m₂ → m₂ x = some v → Mv B No No s₀ s₂ → Ok B s₂.heap → wpAny (model prog w) A (forIn ifs true fun c r => if r = true then do let ok ← isTrue c cenv (eval c cenv); pure (ForInStep.yield ok) else pure (ForInStep.yield r)) (fun ok s₃ => ok = p d ∧ Up s₂ s₃) (fun _ _ => False) s₂)
    (helt : ∀ d v s₂ m₂, p d = true → In d s₂.heap v → s₂.heap.Ns C m₂ → m₂ x = some v → Mv B No No s₀ s₂ → Ok B s₂.heap → wpAny (model prog w) A (eval elt cenv) (fun y s₃ => Is (f d) s₃.heap y ∧ Up s₂ s₃) (fun _ _ => False) s₂)
    (hR : ∀ s' m' ys, Mv B No No s₀ s' → s'.heap.Ns C m' → PlainL s'.heap D ys → All2 (fun r v => Is r s'.heap v) ((ds.filter p).map f) ys.toList → R (.ok .next) s') :
    codeAny (model prog w) A (.compLoop (.ListComp elt [⟨.Name x px, iter, ifs, 0⟩] scope pos) 0 (.ref I) (.ref D) cenv) R s := by
  subst hC
  have hp : (cenv.scope.kind == .class || (cenv.scope.kind == .module && cenv.locals != cenv.globals)) = false := by rw [hE.kind]; rfl
  have W := Walks.list (prog := prog) (w := w) (A := A) hh I Ra hRI items
  have hlen : ds.length = items.size := by rw [hds.length, Array.length_toList]
  have nI := ok₀.new hIn
  have nD := ok₀.new hDn
  have nC := ok₀.new hCn
  refine codeAny_compLoop_tests (fun k s' => ∃ i m' ys, k = items.size + 1 - i ∧ i ≤ items.size ∧ (s'.heap.IsListIter I Ra i ∧ s'.heap.IsList Ra items) ∧ PlainL s'.heap D ys ∧ s'.heap.Ns cenv.locals m' ∧ All2 (fun r v => Is r s'.heap v) (((ds.take i).filter p).map f) ys.toList ∧ All2 (fun d v => In d s'.heap v) ds items.toList ∧ Mv B No No s₀ s' ∧ Ok B s'.heap)
    (fun k s' hI => ?_) (items.size + 1) ⟨0, m, #[], rfl, Nat.zero_le _, ⟨hit, hls⟩, hacc, hn, by rw [List.take_zero]; exact .nil, hds, mv₀, ok⟩
  obtain ⟨i, m', ys, rfl, hi, hst, hD, hns, hys, hds', mv, ok'⟩ := hI
  have ntI : NT s'.heap I := (NQ.listIter hst.1).nt
  by_cases hlt : i < items.size
  · refine wpAny_sizes (W.item i s' _ _ hlt hst fun v h₁ tk₁ hP hst₁ hk₁ hz₁ ht₁ => ?_)
    have hk₁' : ∀ b o, b ≠ I → s'.heap.get? b = some o → h₁.get? b = some o := fun b o hb e => hk₁ b o (by simpa using hb) e
    have mv₁ : Mv B (fun c => c = I) No s' { s' with heap := h₁, toks := tk₁ } := Mv.one hk₁' rfl hz₁ nI.1 nI.2.1 nI.2.2 ht₁
    have hn₁ := hns.at' fun o e => hk₁' _ o hIC.symm e
    refine wpAny_assign_Name (wpAny_storeName_local hx hn₁ (fun h₂ hn₂ hs₂ => ?_) hp)
    have mv₂ : Mv B (fun c => c = cenv.locals) No { s' with heap := h₁, toks := tk₁ } { s' with heap := h₂, toks := tk₁ + 1 } := Mv.one (fun b o hb e => hs₂.extBut b o hb e) rfl (Nat.le_of_eq hs₂.1.symm) nC.1 nC.2.1 nC.2.2 (Nat.le_succ _)
    have ntC : NT h₁ cenv.locals := NT.ns hn₁
    have k12 : ∀ {τ : Type} {J : τ → Heap → Value → Prop} (_ : Firm J) {rr : List τ} {vv : List Value}, All2 (fun r v => J r s'.heap v) rr vv → All2 (fun r v => J r h₂ v) rr vv := @fun τ J fJ rr vv x => All2.mono x fun r v h => fJ.but _ _ _ _ _ (fJ.but _ _ _ _ _ h hk₁' ntI) (fun b o hb e => hs₂.extBut b o hb e) ntC
    have hys₂ := k12 fIs hys
    have hds₂ := k12 fIn hds'
    have hD₂ : PlainL h₂ D ys := let ⟨o, n, e, r⟩ := hD; ⟨o, n, hs₂.extBut _ _ hDC (hk₁' _ _ hID.symm e), r⟩
    have hst₂ : h₂.IsListIter I Ra (i + 1) ∧ h₂.IsList Ra items := ⟨let ⟨o, e, r⟩ := hst₁.1; ⟨o, hs₂.extBut _ _ hIC e, r⟩, IsList.atM hst₁.2 fun o e => hs₂.extBut _ _ hRC e⟩
    have mvA : Mv B No No s₀ { s' with heap := h₂, toks := tk₁ + 1 } := (mv.trans mv₁ (fun b h => .inr (h ▸ hIn)) fun _ h => h.elim).trans mv₂ (fun b h => .inr (h ▸ hCn)) fun _ h => h.elim
    have okA := mvA.ok ok₀
    obtain ⟨d, hd, hdv⟩ := hds₂.get i v (by simpa using hP)
    have htk : ds.take (i + 1) = ds.take i ++ [d] := by rw [List.take_add_one, hd]; rfl
    refine wpAny_mono (tests d v { s' with heap := h₂, toks := tk₁ + 1 } _ hdv hn₂ (if_pos rfl) mvA okA) (fun b s₃ h₃ => ?_) fun _ _ z => z.elim
    obtain ⟨rfl, u₃⟩ := h₃
    have hys₃ : All2 (fun r v => Is r s₃.heap v) (((ds.take i).filter p).map f) ys.toList := hys₂.mono fun r v h => fIs.keep _ _ _ _ h u₃.keep
    have hds₃ : All2 (fun d v => In d s₃.heap v) ds items.toList := hds₂.mono fun r v h => fIn.keep _ _ _ _ h u₃.keep
    have mvB := mvA.thenNo (u₃.mv : Mv B No No _ s₃)
    have hst₃ : s₃.heap.IsListIter I Ra (i + 1) ∧ s₃.heap.IsList Ra items := ⟨let ⟨o, e, r⟩ := hst₂.1; ⟨o, u₃.keep _ _ e, r⟩, IsList.atM hst₂.2 fun o e => u₃.keep _ _ e⟩
    cases hpd : p d with
    | false =>
      rw [if_neg Bool.false_ne_true]
      refine ⟨items.size + 1 - (i + 1), by omega, i + 1, _, ys, rfl, hlt, hst₃, hD₂.keeps u₃.keep, u₃.ns hn₂, ?_, hds₃, mvB, mvB.ok ok₀⟩
      rw [htk, List.filter_append]
      simpa [hpd] using hys₃
    | true =>
      rw [if_pos rfl]
      refine wpAny_mono (helt d v s₃ _ hpd (fIn.keep _ _ _ _ hdv u₃.keep) (u₃.ns hn₂) (if_pos rfl) mvB (mvB.ok ok₀)) (fun y s₄ h₄ => ?_) fun _ _ z => z.elim
      obtain ⟨hy, u₄⟩ := h₄
      have hD₄ := (hD₂.keeps u₃.keep).keeps u₄.keep
      have hl := hys.length
      have hl2 : (((ds.take i).filter p).map f).length ≤ i := by
        rw [List.length_map]
        exact Nat.le_trans (List.length_filter_le _ _) (by rw [List.length_take]; omega)
      have hysz : ys.size ≤ sizeLine := by rw [← Array.length_toList, ← hl]; omega
      refine list_append_plainL hD₄ (fun h₅ hP₅ hs₅ => ?_) hysz
      have ntD : NT s₄.heap D := NT.plainL hD₄
      have mvD : Mv B (fun c => c = D) No s₄ { s₄ with heap := h₅ } := Mv.one (tk := s₄.toks) (fun b o hb e => hs₅.extBut b o hb e) rfl (Nat.le_of_eq hs₅.1.symm) nD.1 nD.2.1 nD.2.2 (Nat.le_refl _)
      have mvE : Mv B No No s₀ { s₄ with heap := h₅ } := (mvB.thenNo (u₄.mv : Mv B No No s₃ s₄)).trans mvD (fun b h => .inr (h ▸ hDn)) fun _ h => h.elim
      refine ⟨items.size + 1 - (i + 1), by omega, i + 1, _, ys.push y, rfl, hlt, ⟨?_, ?_⟩, hP₅, ((u₄.ns (u₃.ns hn₂))).extBut hs₅.extBut hDC.symm, ?_, ?_, mvE, mvE.ok ok₀⟩
      · exact let ⟨o, e, r⟩ := hst₃.1; ⟨o, hs₅.extBut _ _ hID (u₄.keep _ _ e), r⟩
      · exact IsList.atM hst₃.2 fun o e => hs₅.extBut _ _ hRD (u₄.keep _ _ e)
      · rw [htk, List.filter_append, List.map_append, Array.toList_push]
        have e1 : List.map f (List.filter p [d]) = [f d] := by simp [hpd]
        rw [e1]
        exact All2.snoc (hys₃.mono fun r v h => fIs.but _ _ _ _ _ (fIs.keep _ _ _ _ h u₄.keep) (fun b o hb e => hs₅.extBut b o hb e) ntD) (fIs.but _ _ _ _ _ hy (fun b o hb e => hs₅.extBut b o hb e) ntD)
      · exact hds₃.mono fun r v h => fIn.but _ _ _ _ _ (fIn.keep _ _ _ _ h u₄.keep) (fun b o hb e => hs₅.extBut b o hb e) ntD
  · have hin : i = items.size := by omega
    subst hin
    refine wpAny_sizes (W.done s' _ _ hst fun h₁ tk₁ hk₁ hz₁ ht₁ => ?_)
    have hk₁' : ∀ b o, b ≠ I → s'.heap.get? b = some o → h₁.get? b = some o := fun b o hb e => hk₁ b o (by simpa using hb) e
    have mv₁ : Mv B (fun c => c = I) No s' { s' with heap := h₁, toks := tk₁ } := Mv.one hk₁' rfl hz₁ nI.1 nI.2.1 nI.2.2 ht₁
    refine hR _ m' ys (mv.trans mv₁ (fun b h => .inr (h ▸ hIn)) fun _ h => h.elim) (hns.at' fun o e => hk₁' _ o hIC.symm e) (let ⟨o, n, e, r⟩ := hD; ⟨o, n, hk₁' _ _ hID.symm e, r⟩) ?_
    rw [← hlen, List.take_length] at hys
    exact hys.mono fun r v h => fIs.but _ _ _ _ _ h hk₁' ntI
end
end Mine
end

section
open PySem PySem.W PySem.Calls PyProof.Rows
set_option linter.unusedVariables false
set_option Elab.async false
set_option maxRecDepth 100000
namespace Mine
open Sem (wp)

section
variable {prog : Program} {w : World} {mg mb : Str → Option Value} {B : Gnd} {A : Around} {E : Value → Shared → Prop} {s : Shared} {L : Addr} {c1 c2 : Option Value} {m : Str → Option Value}

theorem IsListIter.new {h : Heap} {Ra : Addr} : (h.push { cls := .type "list_iterator", data := .fields #[.ref Ra, .int 0 0] }).IsListIter h.objs.size Ra 0 := ⟨_, Heap.get?_push_size _ rfl, rfl, rfl⟩

/-- y = [elt for x in LIST if ..] -/
theorem LS.comp {σ ρ : Type} {In : σ → Heap → Value → Prop} {Is : ρ → Heap → Value → Prop} (fIn : Firm In) (fIs : Firm Is) {env : Env} (hE : En env) (hL : env.locals = L) (hh : A.handled = none) {elt iter : Expr} {x y : Str} {px py : Pos} {ifs : List Expr} {scope : Scope} {cl : List (Str × Addr)} {pos spos : Pos} {Q : Flow → Shared → Prop}
    {ds : List σ} (p : σ → Bool) (f : σ → ρ)
    (hsw : swapsWith (.ListComp elt [⟨.Name x px, iter, ifs, 0⟩] scope pos) (some (.Name y py)) spos.line env = pure true)
    (hclos : closureFor scope env = pure cl) (hcell : ∀ z ∈ scope.names, z.2 ≠ .cell) (hkind : scope.kind = .function) (hco : scope.isCoroutine = false)
    (hnames : ∀ z ∈ scope.names, z.2 = .local → scope.names.lookup z.1 = some .local) (hx : scope.names.lookup x = some .local)
    (hy : env.kindOf y = some .local) (hint : ∀ C, interactive (compEnvC scope cl C env) = false)
    (hit : wpAny (model prog w) A (eval iter env) (fun v s₁ => ∃ Ra items, v = .ref Ra ∧ LS B L c1 c2 m s₁ ∧ s₁.heap.IsList Ra items ∧ Ra ≠ B.P ∧ All2 (fun d v => In d s₁.heap v) ds items.toList ∧ items.size ≤ sizeLine ∧
      (∀ C d v s₂ m₂, In d s₂.heap v → s₂.heap.Ns C m₂ → m₂ x = some v → LS B L c1 c2 m s₂ → wpAny (model prog w) A (forIn ifs true fun c r => if r = true then do let ok ← isTrue c (compEnvC scope cl C env) (eval c (compEnvC scope cl C env)); pure (ForInStep.yield ok) else pure (ForInStep.yield r)) (fun ok s₃ => ok = p d ∧ Up s₂ s₃) (fun _ _ => False) s₂) ∧
      (∀ C d v s₂ m₂, p d = true → In d s₂.heap v → s₂.heap.Ns C m₂ → m₂ x = some v → LS B L c1 c2 m s₂ → wpAny (model prog w) A (eval elt (compEnvC scope cl C env)) (fun y s₃ => Is (f d) s₃.heap y ∧ Up s₂ s₃) (fun _ _ => False) s₂) ∧
      (∀ s' D ys, Mv B (fun b => b = L) No s₁ s' → s₁.heap.objs.size ≤ D → LS B L c1 c2 (fun z => if z = y then some (.ref D) else m z) s' → PlainL s'.heap D ys → All2 (fun r v => Is r s'.heap v) ((ds.filter p).map f) ys.toList → Q .next s')) E s)
    (hs : ∀ x, foldedSetIterable iter env x = pure x := by intro _; rfl) :
    wpAny (model prog w) A (exec (.Assign [.Name y py] (.ListComp elt [⟨.Name x px, iter, ifs, 0⟩] scope pos) spos) env) Q E s := by
  rw [exec_Assign_Name_used _ _ _ _ hsw]
  refine wpAny_bind (wpAny_standAt (wpAny_bind ?_))
  show wpAny _ A (do let _ ← comprehension (.ListComp elt [⟨.Name x px, iter, ifs, 0⟩] scope pos) scope env _ (newList []) false (eval iter env) (some (assign (.Name y py) env))) _ _ s
  refine wpAny_bind (wpAny_mono (wpAny_comprehension_free (use := some (assign (.Name y py) env)) (Q := fun _ s' => Q .next s') rfl hs hclos hkind hnames (wpAny_mono hit (fun v s₁ h₁ => ?_) fun _ _ z => z)) (fun _ s' hq => wpAny_pure (wpAny_pure hq)) fun _ _ z => z)
  obtain ⟨Ra, items, rfl, S₁, hls, hRP, hds, hsz, tests, helt, hQ⟩ := h₁
  refine wpAny_pyIter_list hls ?_
  have uI : Up s₁ { s₁ with heap := s₁.heap.push { cls := .type "list_iterator", data := .fields #[.ref Ra, .int 0 0] } } := Up.push _
  have hII : ({ s₁ with heap := s₁.heap.push { cls := .type "list_iterator", data := .fields #[.ref Ra, .int 0 0] } } : Shared).heap.IsListIter s₁.heap.objs.size Ra 0 := IsListIter.new
  have zI : ({ s₁ with heap := s₁.heap.push { cls := .type "list_iterator", data := .fields #[.ref Ra, .int 0 0] } } : Shared).heap.objs.size = s₁.heap.objs.size + 1 := Heap.size_push ..
  generalize ({ s₁ with heap := s₁.heap.push { cls := .type "list_iterator", data := .fields #[.ref Ra, .int 0 0] } } : Shared) = s₂ at uI hII zI ⊢
  refine wpAny_newObj_type (wpAny_newFunctionEnv hcell (by intro y hy; simp at hy) (fun h₁ hns₁ hsb₁ => ?_) hkind)
  dsimp only at hns₁ hsb₁ ⊢
  generalize hH2 : s₂.heap.push { cls := .type "list", dict := none, data := .seq ([] : List Value).toArray } = H2 at hns₁ hsb₁ ⊢
  have hC : H2.objs.size = s₂.heap.objs.size + 1 := by rw [← hH2, Heap.size_push]
  have hRl : Ra < s₁.heap.objs.size := let ⟨o, e, _⟩ := hls; Heap.lt_size e
  have hk2 : ∀ b o, s₂.heap.get? b = some o → H2.get? b = some o := fun b o e => hH2 ▸ Heap.get?_push_of_some _ e
  have hk3 : ∀ b o, s₂.heap.get? b = some o → h₁.get? b = some o := fun b o e => hsb₁.extBut b o (by rw [hC]; exact Nat.ne_of_lt (Nat.lt_succ_of_lt (Heap.lt_size e))) (Heap.get?_push_of_some _ (hk2 b o e))
  have hDC : s₂.heap.objs.size ≠ H2.objs.size := by rw [hC]; exact Nat.ne_of_lt (Nat.lt_succ_self _)
  have hz3 : s₂.heap.objs.size ≤ h₁.objs.size := by rw [hsb₁.1, Heap.size_push, hC]; omega
  have u3 : Up s₂ { s₂ with heap := h₁, toks := s₂.toks + ([] : List (Str × Value)).length } := Up.heap hk3 hz3 (Nat.le_add_right s₂.toks 0)
  have hacc : PlainL h₁ s₂.heap.objs.size #[] := ⟨_, _, hsb₁.extBut _ _ hDC (Heap.get?_push_of_some _ (hH2 ▸ Heap.get?_push_size _ rfl)), rfl, rfl, rfl⟩
  have up : Up s₁ { s₂ with heap := h₁, toks := s₂.toks + ([] : List (Str × Value)).length } := uI.trans u3
  have hDs : s₁.heap.objs.size ≤ s₂.heap.objs.size := by rw [zI]; exact Nat.le_succ _
  have hCs : s₁.heap.objs.size ≤ H2.objs.size := Nat.le_trans hDs (by rw [hC]; exact Nat.le_succ _)
  generalize hs3 : ({ s₂ with heap := h₁, toks := s₂.toks + ([] : List (Str × Value)).length } : Shared) = s₃ at u3 up ⊢
  have e3 : s₃.heap = h₁ := by rw [← hs3]
  rw [← e3] at hacc hns₁
  have hCE : En (compEnvC scope cl H2.objs.size env) := ⟨hkind, hE.glob, hE.blt, hco, hint _⟩
  have nIC : s₁.heap.objs.size ≠ H2.objs.size := by rw [hC, zI]; exact Nat.ne_of_lt (Nat.lt_succ_of_lt (Nat.lt_succ_self _))
  have nID : s₁.heap.objs.size ≠ s₂.heap.objs.size := by rw [zI]; exact Nat.ne_of_lt (Nat.lt_succ_self _)
  have mv₀ : Mv B No No s₁ s₃ := up.mv
  have sl : ∀ {s'}, Mv B No No s₁ s' → LS B L c1 c2 m s' := fun mv => S₁.no mv
  have loop : codeAny (model prog w) A (.compLoop (.ListComp elt [⟨.Name x px, iter, ifs, 0⟩] scope pos) 0 (.ref s₁.heap.objs.size) (.ref s₂.heap.objs.size) (compEnvC scope cl H2.objs.size env))
      (compPost (model prog w) A E (some (assign (.Name y py) env)) (fun _ s' => Q .next s') (.ref s₂.heap.objs.size) H2.objs.size) s₃ := by
    refine compLoopG (B := B) fIn fIs hh hCE (C := H2.objs.size) rfl (lookup_relabel_local hx) p f (up.ok S₁.ok) s₁ mv₀ (Nat.le_refl _) hDs hCs nID nIC hDC (Nat.ne_of_lt hRl) (Nat.ne_of_lt (Nat.lt_of_lt_of_le hRl hCs)) (Nat.ne_of_lt (Nat.lt_of_lt_of_le hRl hDs)) hRP S₁.ok
      (IsList.atM hls fun o e => up.keep _ o e) (let ⟨o, e, r⟩ := hII; ⟨o, u3.keep _ _ e, r⟩) hacc hns₁ (hds.mono fun d v h => fIn.keep _ _ _ _ h up.keep) hsz
      (fun d v s' m' h1 h2 h3 h4 h5 => tests _ d v s' m' h1 h2 h3 (sl h4)) (fun d v s' m' h0 h1 h2 h3 h4 h5 => helt _ d v s' m' h0 h1 h2 h3 (sl h4)) fun s₄ m₄ ys mv₄ hn₄ hD₄ hys => ?_
    have S₄ := sl mv₄
    have nLC : L ≠ H2.objs.size := fun q => absurd (Ns_live S₁.ns) (Nat.not_lt.mpr (q ▸ hCs))
    have nDL : s₂.heap.objs.size ≠ L := fun q => absurd (Ns_live S₁.ns) (Nat.not_lt.mpr (q ▸ hDs))
    show wpAny _ A (assign (.Name y py) env (.ref s₂.heap.objs.size)) _ _ s₄
    refine wpAny_assign_Name (S₄.store hE hL hy fun s₅ mv₅ S₅ => ?_)
    have hn₅ : s₅.heap.Ns H2.objs.size m₄ := hn₄.at' fun o e => mv₅.heap _ o nLC.symm (S₁.ok.new hCs).2.1 e
    refine ⟨m₄, hn₅, fun h₆ hs₆ => ?_⟩
    have nC := S₁.ok.new hCs
    have mv₆ : Mv B (fun b => b = H2.objs.size) No s₅ { s₅ with heap := h₆ } := Mv.one (tk := s₅.toks) (fun b o hb e => hs₆.extBut b o hb e) rfl (Nat.le_of_eq hs₆.1.symm) nC.1 nC.2.1 nC.2.2 (Nat.le_refl _)
    have mvF : Mv B (fun b => b = L) No s₁ { s₅ with heap := h₆ } := (mv₄.no.trans mv₅ (fun b h => .inl h) fun _ h => h.elim).trans mv₆ (fun b h => .inr (h ▸ hCs)) fun _ h => h.elim
    have ntL : NT s₄.heap L := NT.ns S₄.ns
    have ntC : NT s₅.heap H2.objs.size := NT.ns hn₅
    have hP : s₂.heap.objs.size ≠ B.P := (S₁.ok.new hDs).2.1
    refine hQ _ _ ys mvF hDs (LS.fr S₁ mvF (S₅.ns.at' fun o e => hs₆.extBut _ o nLC e)) ?_ ?_
    · exact let ⟨o, n, e, r⟩ := hD₄; ⟨o, n, hs₆.extBut _ _ hDC (mv₅.heap _ o nDL hP e), r⟩
    · exact hys.mono fun r v h => fIs.but _ _ _ _ _ (fIs.mv h mv₅ (fun b q => q ▸ ntL) S₄.ok) (fun b o hb e => hs₆.extBut b o hb e) ntC
  exact codeAny_compStart_list loop (wpAny_pyIter_listiter (let ⟨o, e, r⟩ := hII; ⟨o, u3.keep _ _ e, r⟩) loop)
end
end Mine
end

section
open PySem PySem.W PySem.Calls PyProof.Rows
set_option linter.unusedVariables false
set_option Elab.async false
set_option maxRecDepth 100000
namespace Mine
open Sem (wp)

def dRest (k : Nat) : List Stmt := (dBody 10).drop k

def fstOf (ns : List Int) : Int := ns.headD 0

section
variable {prog : Program} {w : World} {mg mb : Str → Option Value} {B : Gnd} {A : Around} {E : Value → Shared → Prop} {s : Shared} {L a : Addr} {cd : Value} {c1 c2 : Option Value} {m : Str → Option Value} {Q : Flow → Shared → Prop}

theorem compEn {scope : Scope} {cl : List (Str × Addr)} {C L a : Addr} {cd : Value} (hk : scope.kind = .function) (hco : scope.isCoroutine = false) : En (compEnvC scope cl C (lawE L a cd)) :=
  ⟨hk, rfl, rfl, hco, by unfold interactive; simp [compEnvC, relabel, hk]⟩
theorem ints_all {h : Heap} {rs : List Int} {vs : List Value} (x : IntsAre vs rs) : All2 (fun r v => IsInt r h v) rs vs := by
  induction x with
  | nil => exact .nil
  | cons n t _ ih => exact .cons ⟨t, rfl⟩ ih
theorem IsList.neP (ok : Ok B s.heap) {a : Addr} {its : Array Value} (x : s.heap.IsList a its) : a ≠ B.P := fun q => by
  obtain ⟨ps, _, hp⟩ := ok.tab
  obtain ⟨o, e, hc, _⟩ := x
  rw [q, hp.2] at e
  cases e
  cases hc

theorem law_0 (X : Wd mg mb B) (S : LS B L c1 c2 m s) {sc : Addr} {vs : List Value} {ns : List Int} (hm : m "script" = some (.ref sc)) (hsc : s.heap.IsList sc vs.toArray) (hi : IntsAre vs ns) (hlen : ns.length ≤ 63)
    (next : ∀ s' t, Mv B (W3 L) No s s' → LS B L (some (.int (fstOf ns) t)) c2 m s' → wpAny (model prog w) A (execs (dRest 1) (lawE L a cd)) Q E s') :
    wpAny (model prog w) A (execs (dRest 0) (lawE L a cd)) Q E s := by
  have hE := lawEn (L := L) (a := a) (cd := cd)
  dsimp only [dRest, dBody, PySem.Challenge.pw_jf0026_01, List.getElem?_cons_succ, List.getElem?_cons_zero, List.drop_zero]
  have fin : ∀ t s₁, Up s s₁ → wpAny (model prog w) A (storeName (lawE L a cd) "first" (.int (fstOf ns) t)) (fun _ s' => wpAny (model prog w) A (execs (dRest 1) (lawE L a cd)) Q E s') E s₁ := fun t s₁ u =>
    (S.up u).store1 hE law_kf law_first fun s' mv S' => next s' t ((u.mv : Mv B _ No s s₁).trans mv (fun b h => .inl (.inr (.inl h))) fun _ h => h.elim) S'
  refine wpAny_execs_cons (wpAny_Assign_Name (wpAny_IfExp (wpAny_isTrue_value (ldl hE rfl S.ns hm (wpAny_truthy_list hsc (by simp [hi.length]; omega) ?_)))))
  have u0 : Up s { s with toks := s.toks + 1 + 1 } := Up.tok (Nat.le_add_right s.toks 2)
  cases hi with
  | nil =>
    show wpAny _ _ (eval (.Constant (.int 0) _ _) _) _ _ _
    exact evC fun t s₁ u => fin t s₁ (u0.trans u)
  | cons n t hi =>
    show wpAny _ _ (eval (.Subscript _ _ _) _) _ _ _
    exact ev_item0 hE rfl rfl (u0.ns S.ns) hm (.inr ⟨_, IsList.atM hsc fun o e => u0.keep _ o e, .cons n t hi⟩) fun t' s₁ u => fin t' s₁ (u0.trans u)

theorem law_1 (X : Wd mg mb B) (hh : A.handled = none) (S : LS B L c1 c2 m s) {sc : Addr} {vs : List Value} {ns : List Int} (hm : m "script" = some (.ref sc)) (hsc : s.heap.IsList sc vs.toArray) (hi : IntsAre vs ns) (hlen : ns.length ≤ 63)
    (next : ∀ s' D ys, Mv B (W3 L) No s s' → LS B L c1 c2 (fun z => if z = "bounds" then some (.ref D) else m z) s' → PlainL s'.heap D ys → IntsAre ys.toList (bnds ns) → wpAny (model prog w) A (execs (dRest 2) (lawE L a cd)) Q E s') :
    wpAny (model prog w) A (execs (dRest 1) (lawE L a cd)) Q E s := by
  have hE := lawEn (L := L) (a := a) (cd := cd)
  dsimp only [dRest, dBody, PySem.Challenge.pw_jf0026_01, List.getElem?_cons_succ, List.getElem?_cons_zero, List.drop_succ_cons, List.drop_zero]
  refine wpAny_execs_cons (LS.comp (B := B) (L := L) (c1 := c1) (c2 := c2) (m := m) (cl := []) (ds := (ns.drop 1).take 4) firm_int firm_int hE rfl hh (fun _ => true) (fun n => n.fmod 5 - 1) rfl rfl (by decide) rfl rfl (by decide) rfl rfl (fun _ => rfl) ?_ (by intro _; rfl))
  refine ev_slice15 hE rfl rfl S.ns hm hsc hi (Nat.le_trans (by rw [hi.length]; omega) sizeLine_big) fun r s₁ its u hr hl hits => ?_
  have S₁ := S.up u
  refine ⟨r, its, rfl, S₁, hl, IsList.neP S₁.ok hl, ints_all hits, ?_, fun C d v s₂ m₂ hd hn hx S₂ => wpAny_tests_nil ⟨rfl, Up.refl _⟩, fun C d v s₂ m₂ _ hd hn hx S₂ => ?_, fun s' D ys mv _ S' hD hys => next s' D ys ((u.mv : Mv B _ No s s₁).trans mv (fun b h => .inl (.inl h)) fun _ h => h.elim) S' hD ?_⟩
  · have := hits.length
    rw [Array.length_toList, List.length_take] at this
    exact Nat.le_trans (by omega) sizeLine_big
  · obtain ⟨t, rfl⟩ := hd
    refine wpAny_BinOp (wpAny_BinOp (ldl (compEn rfl rfl) rfl hn hx (evC fun t₁ s₃ u₃ => PyProof.Rows.mod_int (by decide) (evC fun t₂ s₄ u₄ => PyProof.Rows.sub_int ?_))))
    exact ⟨⟨_, rfl⟩, ((u₃.trans (Up.tok (Nat.le_succ _))).trans u₄).trans (Up.tok (Nat.le_succ _))⟩
  · have := ints_of hys
    rw [List.filter_eq_self.mpr (fun _ _ => rfl)] at this
    exact this
end
end Mine
end

section
open PySem PySem.W PySem.Calls PyProof.Rows
set_option linter.unusedVariables false
set_option Elab.async false
set_option maxRecDepth 100000
namespace Mine
open Sem (wp)

section
variable {prog : Program} {w : World} {mg mb : Str → Option Value} {B : Gnd} {A : Around} {E : Value → Shared → Prop} {s : Shared} {L a : Addr} {cd : Value} {c1 c2 : Option Value} {m : Str → Option Value} {Q : Flow → Shared → Prop}

theorem Mv.w3 {s s' s'' : Shared} (x : Mv B (W3 L) No s s') (y : Mv B (fun b => b = L) No s' s'') : Mv B (W3 L) No s s'' := x.trans y (fun b h => .inl (.inl h)) fun _ h => h.elim

/-- tuple(x), x a list of ints -/
theorem ev_tupleL (X : Wd mg mb B) (ok : Ok B s.heap) {env : Env} (hE : En env) {x : Str} {p1 p2 pos : Pos} {D : Addr} {ys : Array Value} {bs : List Int} {Q : Value → Shared → Prop} (hf : env.kindOf "tuple" = some .globalImplicit) (hx : env.kindOf x = some .local) (hd : (x == ("__debug__" : Str)) = false)
    (hn : s.heap.Ns env.locals m) (hm : m x = some (.ref D)) (hl : s.heap.IsList D ys) (hi : IntsAre ys.toList bs) (hsz : ys.size ≤ sizeLine) (hQ : ∀ T s', Up s s' → TupI s'.heap T bs → Q (.ref T) s') :
    wpAny (model prog w) A (eval (.Call (.Name "tuple" p1) [.Name x p2] [] pos) env) Q E s := by
  refine Call_ (ldb X ok hE hf (X.free _ (by simp)) boot_tuple (callWith_type1 (args_cons (ldl hE hx hn hm (args_nil ?_) hd))))
  refine wpAny_sizes (call_tuple_list (hsz := hsz) hl fun h' hk => ?_)
  intro hz ht
  refine hQ _ _ (Up.heap (t := s.toks) (fun b o e => Heap.get?_push_of_some _ (hk b o e)) hz (Nat.le_refl _)) ⟨ys.toList, IsTup.new h' ys, hi⟩

theorem law_2 (X : Wd mg mb B) (S : LS B L c1 c2 m s) {D : Addr} {ys : Array Value} {bs : List Int} (hm : m "bounds" = some (.ref D)) (hD : PlainL s.heap D ys) (hi : IntsAre ys.toList bs) (hlen : bs.length ≤ 10)
    (next : ∀ s' K, Mv B (W3 L) No s s' → LS B L c1 c2 (fun z => if z = "kept" then some (.ref K) else m z) s' → TupI s'.heap K bs → wpAny (model prog w) A (execs (dRest 3) (lawE L a cd)) Q E s') :
    wpAny (model prog w) A (execs (dRest 2) (lawE L a cd)) Q E s := by
  have hE := lawEn (L := L) (a := a) (cd := cd)
  dsimp only [dRest, dBody, PySem.Challenge.pw_jf0026_01, List.getElem?_cons_succ, List.getElem?_cons_zero, List.drop_succ_cons, List.drop_zero]
  refine wpAny_execs_cons (S.asg hE rfl rfl (ev_tupleL X S.ok hE rfl rfl rfl S.ns hm hD.isList hi (Nat.le_trans (by have := hi.length; rw [Array.length_toList] at this; omega) sizeLine_big) fun T s₁ u htup => ⟨S.up u, fun s' mv S' => ?_⟩))
  refine next s' T ((u.mv : Mv B _ No s s₁).w3 mv) S' (htup.mv mv (fun b h => (NQ.nt ((S.up u).nqL b h))) (S.up u).ok)

theorem law_3 (X : Wd mg mb B) {f : Int} {t1 : Tok} (S : LS B L (some (.int f t1)) c2 m s)
    (next : ∀ s' t, Mv B (W3 L) No s s' → LS B L (some (.int f t1)) (some (.int (f.fmod 16 - 3) t)) m s' → wpAny (model prog w) A (execs (dRest 4) (lawE L a cd)) Q E s') :
    wpAny (model prog w) A (execs (dRest 3) (lawE L a cd)) Q E s := by
  have hE := lawEn (L := L) (a := a) (cd := cd)
  dsimp only [dRest, dBody, PySem.Challenge.pw_jf0026_01, List.getElem?_cons_succ, List.getElem?_cons_zero, List.drop_succ_cons, List.drop_zero]
  refine wpAny_execs_cons (wpAny_Assign_Name (wpAny_BinOp (wpAny_BinOp (ldc hE law_kf law_first S.c1 (evC fun t₁ s₃ u₃ => PyProof.Rows.mod_int (by decide) (evC fun t₂ s₄ u₄ => PyProof.Rows.sub_int ?_))))))
  have u := ((u₃.trans (Up.tok (Nat.le_succ _))).trans u₄).trans (Up.tok (Nat.le_succ _))
  exact (S.up u).store2 hE law_kt law_total fun s' mv S' => next s' _ ((u.mv : Mv B _ No s _).trans mv (fun b h => .inl (.inr (.inr h))) fun _ h => h.elim) S'

theorem law_4 (S : LS B L c1 c2 m s)
    (next : ∀ s', Mv B (W3 L) No s s' → LS B L c1 c2 (fun z => if z = "due" then some .none else m z) s' → wpAny (model prog w) A (execs (dRest 5) (lawE L a cd)) Q E s') :
    wpAny (model prog w) A (execs (dRest 4) (lawE L a cd)) Q E s := by
  have hE := lawEn (L := L) (a := a) (cd := cd)
  dsimp only [dRest, dBody, PySem.Challenge.pw_jf0026_01, List.getElem?_cons_succ, List.getElem?_cons_zero, List.drop_succ_cons, List.drop_zero]
  exact wpAny_execs_cons (S.asg hE rfl rfl (wpAny_Constant_none ⟨S, fun s' mv S' => next s' (mvL mv) S'⟩))

theorem vec_call (X : Wd mg mb B) {f7 : Addr} {o7 : Obj} {pm7 cd7 doc7 : Value} (F7 : FnAt B mg 7 "_law_vectors" f7 o7 pm7 cd7 doc7) (hh : A.handled = none) (hd : A.depth ≤ 400) (ok : Ok B s.heap) {v : Addr} {vs : List Value} {ns : List Int} {Q : Value → Shared → Prop}
    (hv : s.heap.IsList v vs.toArray) (hi : IntsAre vs ns) (hn0 : ns.length ≤ 6) (hb : ∀ b ∈ ns, -1 ≤ b ∧ b ≤ 3)
    (hQ : ∀ s' R its, Mv B No No s s' → s.heap.objs.size ≤ R → PlainL s'.heap R its → Rws s'.heap (vecs ns) its.toList → Q (.ref R) s') :
    wpAny (model prog w) A (call (.ref f7) [.ref v]) Q E s := by
  have hroom : A.depth < recursionLimit := by show A.depth < 1000; omega
  refine call_fun (binds := [("bounds", .ref v)]) X hroom F7.ho F7.data F7.code ok rfl (locs rfl) fun L s₁ up hL ok₁ hns => ?_
  obtain ⟨hLK, hLP, hLc⟩ := (ok.here).new hL
  refine vec_body (X.here ok) (A := A.deeper (envOf (dName 7) (dScope 7) L f7 cd7)) hh ok₁ hns rfl hv hi (IsList.neP ok hv) hLK hLP hLc hn0 hb fun s' R its mv hR hP hr => ⟨_, rfl, hQ s' R its (((up.mv : Mv (B.at s.heap) No No s s₁).trans mv (fun b h => .inr (h ▸ hL)) fun _ h => h.elim).back ok) (Nat.le_trans up.size hR) hP hr⟩

theorem law_5 (X : Wd mg mb B) {f7 : Addr} {o7 : Obj} {pm7 cd7 doc7 : Value} (F7 : FnAt B mg 7 "_law_vectors" f7 o7 pm7 cd7 doc7) (hh : A.handled = none) (hd : A.depth ≤ 400) {tot : Int} {t2 : Tok} (S : LS B L c1 (some (.int tot t2)) m s)
    {D : Addr} {ys : Array Value} {bs : List Int} (hm : m "bounds" = some (.ref D)) (hD : PlainL s.heap D ys) (hi : IntsAre ys.toList bs) (hlen : bs.length ≤ 6) (hb : ∀ b ∈ bs, -1 ≤ b ∧ b ≤ 3) (hdu : m "due" = some .none)
    (next : ∀ s' m' v, Mv B (W3 L) No s s' → LS B L c1 (some (.int tot t2)) m' s' → (∀ y : Str, y ≠ "due" → m' y = m y) → m' "due" = some v → IsDue s'.heap v (if tot < 0 then none else some ((vecs bs).filter fun r => r.sum == tot)) → wpAny (model prog w) A (execs (dRest 6) (lawE L a cd)) Q E s') :
    wpAny (model prog w) A (execs (dRest 5) (lawE L a cd)) Q E s := by
  have hE := lawEn (L := L) (a := a) (cd := cd)
  dsimp only [dRest, dBody, PySem.Challenge.pw_jf0026_01, List.getElem?_cons_succ, List.getElem?_cons_zero, List.drop_succ_cons, List.drop_zero]
  refine wpAny_execs_cons (wpAny_If (wpAny_isTrue_Compare1 (ldc hE law_kt law_total S.c2 (evC fun t₁ s₁ u₁ => PyProof.Rows.ge_int (wpAny_truthy_bool ?_)))))
  have S₁ := S.up u₁
  by_cases hneg : tot < 0
  · rw [show decide (0 ≤ tot) = false from by simpa using hneg, if_neg Bool.false_ne_true]
    rw [if_pos hneg] at next
    exact wpAny_execs_nil (next s₁ m .none u₁.mv S₁ (fun _ _ => rfl) hdu rfl)
  · rw [show decide (0 ≤ tot) = true from by simp; omega, if_pos rfl]
    rw [if_neg hneg] at next
    have hysz : ys.size = bs.length := by have := hi.length; rwa [Array.length_toList] at this
    refine wpAny_execs_cons (LS.comp (B := B) (L := L) (c1 := c1) (c2 := some (.int tot t2)) (m := m) (cl := [("total", L + 2)]) (ds := vecs bs) firm_row firm_row hE rfl hh (fun r => r.sum == tot) id rfl rfl (by decide) rfl rfl (by decide) rfl rfl (fun _ => rfl) ?_ (by intro _; rfl))
    refine Call_ (ldg X S₁.ok hE rfl F7.mg (callWith_def F7.data ?_))
    refine args_cons (ldl hE rfl S₁.ns hm (args_nil ⟨X.get S₁.ok F7.ho (by rw [F7.data]; exact nofun), ?_⟩))
    refine vec_call X F7 hh hd S₁.ok (vs := ys.toList) (by simpa using (hD.keeps u₁.keep).isList) hi hlen hb fun s₂ R its mv₂ hR hP hr => ?_
    have S₂ := S₁.no mv₂
    refine ⟨R, its, rfl, S₂, hP.isList, PlainL.neP S₂.ok hP, hr, ?_, fun C d v s₃ m₃ hd hn hx S₃ => ?_, fun C d v s₃ m₃ _ hd hn hx S₃ => ldl (compEn rfl rfl) rfl hn hx ⟨hd, Up.refl _⟩, fun s' D' ys' mv _ S' hD' hys => wpAny_execs_nil (next s' _ (.ref D') (((u₁.mv : Mv B _ No s s₁).thenNo mv₂).w3 mv) S' (fun y hy => if_neg hy) (if_pos rfl) ⟨D', ys', rfl, hD', by rw [List.map_id] at hys; exact hys⟩)⟩
    · have h1 : (vecs bs).length = its.size := by have := hr.length; simpa using this
      have h2 := vecs_length bs.length bs rfl fun b h => (hb b h).2
      have h4 : 4 ^ bs.length ≤ 4 ^ 6 := Nat.pow_le_pow_right (by decide) hlen
      exact Nat.le_trans (by omega) sizeLine_big
    · obtain ⟨aa, rfl, ht⟩ := hd
      refine wpAny_tests_one (wpAny_isTrue_Compare1 (ev_b1 X S₃.ok (compEn rfl rfl) rfl (X.free _ (by simp)) boot_sum (by decide) (by decide) rfl rfl hn hx (sumSeq hh (.inl ht) fun t₄ s₄ u₄ => ?_)))
      refine ldc (compEn rfl rfl) rfl rfl (S₃.up u₄).c2 (PyProof.Rows.eq_int (wpAny_truthy_bool ⟨rfl, u₄⟩))
end
end Mine
end

section
open PySem PySem.W PySem.Calls PyProof.Rows
set_option linter.unusedVariables false
set_option Elab.async false
set_option maxRecDepth 100000
namespace Mine
open Sem (wp)

theorem shaped_row (r : List Int) : SeqAt.shaped (rowD r) = true := by
  have := depth_ints r
  simp only [SeqAt.shaped, rowD, PyData.canLay0, lay_ints, Bool.true_and, PyData.depth, decide_eq_true_eq]
  omega

/-- the defs that law calls -/
structure Defs (B : Gnd) (mg : Str → Option Value) where
  f4 : Addr
  o4 : Obj
  pm4 : Value
  doc4 : Value
  f7 : Addr
  o7 : Obj
  pm7 : Value
  cd7 : Value
  doc7 : Value
  f8 : Addr
  o8 : Obj
  pm8 : Value
  cd8 : Value
  doc8 : Value
  f9 : Addr
  o9 : Obj
  pm9 : Value
  cd9 : Value
  doc9 : Value
  F1 : Fn B mg 1 "_combinations"
  F2 : Fn B mg 2 "_choices"
  F3 : Fn B mg 3 "fixed_integer_vector_iter"
  F4 : FnAt B mg 4 "weak_composition_iter" f4 o4 pm4 (.ref B.c) doc4
  F5 : Fn B mg 5 "optional_iter"
  F7 : FnAt B mg 7 "_law_vectors" f7 o7 pm7 cd7 doc7
  F8 : FnAt B mg 8 "_law_parts" f8 o8 pm8 cd8 doc8
  F9 : FnAt B mg 9 "_law_told" f9 o9 pm9 cd9 doc9

section
variable {prog : Program} {w : World} {mg mb : Str → Option Value} {B : Gnd} {A : Around} {E : Value → Shared → Prop} {s : Shared} {L a : Addr} {cd : Value} {c1 c2 : Option Value} {m : Str → Option Value} {Q : Flow → Shared → Prop}

/-- _law_told(0, x, total) != due -/
theorem told0_ne (X : Wd mg mb B) (F : Defs B mg) (hh : A.handled = none) (hd : A.depth ≤ 400) (hu : A.units ≤ 1000) (hfr : A.frames = some [lawE L a cd]) {tot : Int} {t2 : Tok} (S : LS B L c1 (some (.int tot t2)) m s)
    {D : Addr} {bs : List Int} {x : Str} {p1 p2 p3 p4 p5 p6 p7 : Pos} {k : Nat} (hx : (lawE L a cd).kindOf x = some .local) (hdx : (x == ("__debug__" : Str)) = false) (hm : m x = some (.ref D)) (sq : SeqI s.heap D bs) (hDP : D ≠ B.P) (hlen : bs.length ≤ 6) (hb : ∀ b ∈ bs, -1 ≤ b ∧ b ≤ 3) (ht : tot ≤ 1000)
    {v : Value} {d : Option (List (List Int))} (hv : m "due" = some v) (hdue : IsDue s.heap v d) (hplain : d = if tot < 0 then none else some (fixedRows bs tot)) (hsz : 0 ≤ tot → (fixedRows bs tot).length ≤ sizeLine) {Q : Bool → Shared → Prop}
    (hQ : ∀ s', Mv B (fun b => b = L) No s s' → LS B L c1 (some (.int tot t2)) m s' → Q false s') :
    wpAny (model prog w) A (isTrue (.Compare (.Call (.Name "_law_told" p1) [.Constant (.int 0) k p2, .Name x p3, .Name "total" p4] [] p5) [.NotEq] [.Name "due" p6] p7) (lawE L a cd)
      (eval (.Compare (.Call (.Name "_law_told" p1) [.Constant (.int 0) k p2, .Name x p3, .Name "total" p4] [] p5) [.NotEq] [.Name "due" p6] p7) (lawE L a cd))) Q E s := by
  have hE := lawEn (L := L) (a := a) (cd := cd)
  refine wpAny_isTrue_Compare1 (Call_ (ldg X S.ok hE rfl F.F9.mg (callWith_def F.F9.data ?_)))
  refine args_cons (evC fun t s₁ u₁ => args_cons (ldl hE hx (u₁.ns S.ns) hm (args_cons (ldc hE law_kt law_total (S.up u₁).c2 (args_nil ⟨X.get (S.up u₁).ok F.F9.ho (by rw [F.F9.data]; exact nofun), ?_⟩)) ) hdx))
  have S₁ := S.up u₁
  refine told_fixed_call X F.F9 F.F3 hh hfr rfl (by show (dScope 10).kind ≠ _; decide) hd hu S₁.ok S₁.ns S.kL.1 S.kL.2.1 S.kL.2.2 (by omega) (fun b h => by have := hb b h; omega) ht hsz (sq.at fun o e => u₁.keep _ o e) hDP fun v' s₂ mv hns hdue' => ?_
  have S₂ := S₁.fr mv (hns m S₁.ns)
  have hdue₂ : IsDue s₂.heap v d := IsDue.mv (hdue.mv (u₁.mv : Mv B No No s s₁) (fun _ h => h.elim) S.ok) mv S₁.nqL S₁.ok
  rw [← hplain] at hdue'
  refine ldl hE rfl S₂.ns hv (ne_due hdue' hdue₂ (by show A.units + 64 < 9900; omega) (wpAny_truthy_bool (hQ s₂ ((u₁.mv : Mv B _ No s s₁).trans mv (fun b h => .inl h) fun _ h => h.elim) S₂)))

theorem law_6 (X : Wd mg mb B) (F : Defs B mg) (hh : A.handled = none) (hd : A.depth ≤ 400) (hu : A.units ≤ 1000) (hfr : A.frames = some [lawE L a cd]) {tot : Int} {t2 : Tok} (S : LS B L c1 (some (.int tot t2)) m s)
    {D K : Addr} {ys : Array Value} {bs : List Int} (hm : m "bounds" = some (.ref D)) (hD : PlainL s.heap D ys) (hi : IntsAre ys.toList bs) (hmk : m "kept" = some (.ref K)) (hK : TupI s.heap K bs) (hlen : bs.length ≤ 6) (hb : ∀ b ∈ bs, -1 ≤ b ∧ b ≤ 3) (ht : tot ≤ 1000)
    {v : Value} {d : Option (List (List Int))} (hv : m "due" = some v) (hdue : IsDue s.heap v d) (hplain : d = if tot < 0 then none else some (fixedRows bs tot)) (hsz : 0 ≤ tot → (fixedRows bs tot).length ≤ sizeLine)
    (next : ∀ s', Mv B (W3 L) No s s' → LS B L c1 (some (.int tot t2)) m s' → wpAny (model prog w) A (execs (dRest 7) (lawE L a cd)) Q E s') :
    wpAny (model prog w) A (execs (dRest 6) (lawE L a cd)) Q E s := by
  have hE := lawEn (L := L) (a := a) (cd := cd)
  dsimp only [dRest, dBody, PySem.Challenge.pw_jf0026_01, List.getElem?_cons_succ, List.getElem?_cons_zero, List.drop_succ_cons, List.drop_zero]
  have hKP : K ≠ B.P := fun q => by
    obtain ⟨us, hv, _⟩ := hK
    exact S.ok.nt _ (q ▸ hv)
  have hDP := PlainL.neP S.ok hD
  have hysz : ys.size = bs.length := by have := hi.length; rwa [Array.length_toList] at this
  refine wpAny_execs_cons (wpAny_If (isTrue_or (told0_ne X F hh hd hu hfr S rfl rfl hmk (.inl hK) hKP hlen hb ht hv hdue hplain hsz fun s₁ mv₁ S₁ => ?_)))
  have hD₁ := PlainL.mv hD mv₁ S.nqL S.ok
  have hK₁ := hK.mv mv₁ (fun b h => (S.nqL b h).nt) S.ok
  have hdue₁ := hdue.mv mv₁ S.nqL S.ok
  rw [if_neg Bool.false_ne_true]
  refine isTrue_or (told0_ne X F hh hd hu hfr S₁ rfl rfl hm (.inr ⟨ys.toList, by simpa using hD₁.isList, hi⟩) hDP hlen hb ht hv hdue₁ hplain hsz fun s₂ mv₂ S₂ => ?_)
  have hD₂ := PlainL.mv hD₁ mv₂ S₁.nqL S₁.ok
  have hK₂ := hK₁.mv mv₂ (fun b h => (S₁.nqL b h).nt) S₁.ok
  rw [if_neg Bool.false_ne_true]
  refine isTrue_or (wpAny_isTrue_Compare1 (ev_tupleL X S₂.ok hE rfl rfl rfl S₂.ns hm hD₂.isList hi (Nat.le_trans (by omega) sizeLine_big) fun T s₃ u₃ hT => ldl hE rfl (u₃.ns S₂.ns) hmk (ne_dataH (row_reads hT) (row_reads (hK₂.keeps u₃.keep)) (shaped_row bs) (shaped_row bs) (by show A.units + 64 < 9900; omega) ?_)))
  rw [SeqAt.eqv_refl _ (SeqAt.canLay_of_shaped (shaped_row bs))]
  refine wpAny_truthy_bool ?_
  rw [Bool.not_true, if_neg Bool.false_ne_true]
  refine isTrue_or_nil ?_
  rw [if_neg Bool.false_ne_true]
  exact wpAny_execs_nil (next s₃ ((mvL (mv₁.then mv₂)).thenNo u₃.mv) (S₂.up u₃))
end
end Mine
end

section
open PySem PySem.W PySem.Calls PyProof.Rows
set_option linter.unusedVariables false
set_option Elab.async false
set_option maxRecDepth 100000
namespace Mine
open Sem (wp)

section
variable {prog : Program} {w : World} {mg mb : Str → Option Value} {B : Gnd} {A : Around} {E : Value → Shared → Prop} {s : Shared} {L a : Addr} {cd : Value} {c1 c2 : Option Value} {m : Str → Option Value} {Q : Flow → Shared → Prop}

theorem law_7 (X : Wd mg mb B) {f : Int} {t1 : Tok} (S : LS B L (some (.int f t1)) c2 m s)
    (next : ∀ s' t, Mv B (W3 L) No s s' → LS B L (some (.int f t1)) c2 (fun z => if z = "number" then some (.int ((f.fdiv 16).fmod 10 - 3) t) else m z) s' → wpAny (model prog w) A (execs (dRest 8) (lawE L a cd)) Q E s') :
    wpAny (model prog w) A (execs (dRest 7) (lawE L a cd)) Q E s := by
  have hE := lawEn (L := L) (a := a) (cd := cd)
  dsimp only [dRest, dBody, PySem.Challenge.pw_jf0026_01, List.getElem?_cons_succ, List.getElem?_cons_zero, List.drop_succ_cons, List.drop_zero]
  refine wpAny_execs_cons (S.asg hE rfl rfl (wpAny_BinOp (wpAny_BinOp (wpAny_BinOp (ldc hE law_kf law_first S.c1 (evC fun t₁ s₁ u₁ => PyProof.Rows.floordiv_int (by decide) (evC fun t₂ s₂ u₂ => PyProof.Rows.mod_int (by decide) (evC fun t₃ s₃ u₃ => PyProof.Rows.sub_int ?_))))))))
  have u := ((((u₁.trans (Up.tok (Nat.le_succ _))).trans u₂).trans (Up.tok (Nat.le_succ _))).trans u₃).trans (Up.tok (Nat.le_succ _))
  exact ⟨S.up u, fun s' mv S' => next s' _ ((u.mv : Mv B _ No s _).w3 mv) S'⟩

theorem law_8 (X : Wd mg mb B) {f : Int} {t1 : Tok} (S : LS B L (some (.int f t1)) c2 m s)
    (next : ∀ s' t, Mv B (W3 L) No s s' → LS B L (some (.int f t1)) c2 (fun z => if z = "many" then some (.int ((f.fdiv 160).fmod 8 - 3) t) else m z) s' → wpAny (model prog w) A (execs (dRest 9) (lawE L a cd)) Q E s') :
    wpAny (model prog w) A (execs (dRest 8) (lawE L a cd)) Q E s := by
  have hE := lawEn (L := L) (a := a) (cd := cd)
  dsimp only [dRest, dBody, PySem.Challenge.pw_jf0026_01, List.getElem?_cons_succ, List.getElem?_cons_zero, List.drop_succ_cons, List.drop_zero]
  refine wpAny_execs_cons (S.asg hE rfl rfl (wpAny_BinOp (wpAny_BinOp (wpAny_BinOp (ldc hE law_kf law_first S.c1 (evC fun t₁ s₁ u₁ => PyProof.Rows.floordiv_int (by decide) (evC fun t₂ s₂ u₂ => PyProof.Rows.mod_int (by decide) (evC fun t₃ s₃ u₃ => PyProof.Rows.sub_int ?_))))))))
  have u := ((((u₁.trans (Up.tok (Nat.le_succ _))).trans u₂).trans (Up.tok (Nat.le_succ _))).trans u₃).trans (Up.tok (Nat.le_succ _))
  exact ⟨S.up u, fun s' mv S' => next s' _ ((u.mv : Mv B _ No s _).w3 mv) S'⟩

/-- x[5] -/
theorem ev_item5 {env : Env} (hE : En env) {x : Str} {p1 p2 p3 : Pos} {k : Nat} {D : Addr} {vs : List Value} {ns : List Int} {Q : Value → Shared → Prop} (hx : env.kindOf x = some .local) (hd : (x == ("__debug__" : Str)) = false)
    (hn : s.heap.Ns env.locals m) (hm : m x = some (.ref D)) (h : s.heap.IsList D vs.toArray) (hi : IntsAre vs ns) (h5 : 5 < ns.length) (hQ : ∀ t s', Up s s' → Q (.int ns[5] t) s') :
    wpAny (model prog w) A (eval (.Subscript (.Name x p1) (.Constant (.int 5) k p2) p3) env) Q E s := by
  obtain ⟨t', e⟩ := IntsGet hi 5 h5
  refine Subscript_ (ldl hE hx hn hm (evC fun t s₁ u₁ => ?_) hd)
  exact item_listL (IsList.atM h fun o e => u₁.keep _ o e) (by decide) (by decide) (by simpa using e) (hQ _ _ u₁)

theorem law_9 (X : Wd mg mb B) (S : LS B L c1 c2 m s) {sc : Addr} {vs : List Value} {ns : List Int} (hm : m "script" = some (.ref sc)) (hsc : s.heap.IsList sc vs.toArray) (hi : IntsAre vs ns) (hlen : ns.length ≤ 63) {n k : Int} {t t' : Tok}
    (hn : m "number" = some (.int n t)) (hk : m "many" = some (.int k t')) (hnr : -3 ≤ n ∧ n ≤ 6) (hkr : -3 ≤ k ∧ k ≤ 4)
    (next : ∀ s' m' n k t t', Mv B (W3 L) No s s' → LS B L c1 c2 m' s' → (∀ y : Str, y ≠ "number" → y ≠ "many" → m' y = m y) → m' "number" = some (.int n t) → m' "many" = some (.int k t') → (-3 ≤ n ∧ n ≤ 6) → (-3 ≤ k ∧ k ≤ 4) →
      wpAny (model prog w) A (execs (dRest 10) (lawE L a cd)) Q E s') :
    wpAny (model prog w) A (execs (dRest 9) (lawE L a cd)) Q E s := by
  have hE := lawEn (L := L) (a := a) (cd := cd)
  dsimp only [dRest, dBody, PySem.Challenge.pw_jf0026_01, List.getElem?_cons_succ, List.getElem?_cons_zero, List.drop_succ_cons, List.drop_zero]
  refine wpAny_execs_cons (wpAny_If (wpAny_isTrue_Compare1 (ev_b1 X S.ok hE rfl (X.free _ (by simp)) boot_len (by decide) (by decide) rfl rfl S.ns hm (lenSeq (.inr ⟨vs, hsc, hi⟩) (by omega) fun t₁ s₁ u₁ => evC fun t₂ s₂ u₂ => PyProof.Rows.gt_int (wpAny_truthy_bool ?_)))))
  have u := u₁.trans u₂
  have S₂ := S.up u
  by_cases h5 : 5 < ns.length
  · rw [show decide ((5 : Int) < (ns.length : Int)) = true from by simp; omega, if_pos rfl]
    have hsc₂ := IsList.atM hsc fun o e => u.keep _ o e
    refine wpAny_execs_cons (S₂.asg hE rfl rfl (wpAny_BinOp (wpAny_BinOp (ev_item5 hE rfl rfl S₂.ns hm hsc₂ hi h5 fun t₃ s₃ u₃ => evC fun t₄ s₄ u₄ => PyProof.Rows.mod_int (by decide) (evC fun t₅ s₅ u₅ => PyProof.Rows.sub_int ?_)))))
    have v := ((u₃.trans u₄).trans (Up.tok (Nat.le_succ _))).trans (u₅.trans (Up.tok (Nat.le_succ _)))
    refine ⟨S₂.up v, fun s₆ mv₆ S₆ => ?_⟩
    have hsc₆ : s₆.heap.IsList sc vs.toArray := by
      have h1 := IsList.atM hsc₂ fun o e => v.keep _ o e
      exact IsList.atM h1 fun o e => mv₆.heap _ o (fun q => by
        have hq := S₂.nqL sc q
        obtain ⟨o', e', _, n', d'⟩ := hsc₂
        exact hq o' _ n' e' d') (IsList.neP S.ok hsc) e
    refine wpAny_execs_cons (S₆.asg hE rfl rfl (wpAny_BinOp (wpAny_BinOp (wpAny_BinOp (ev_item5 hE rfl rfl S₆.ns ((if_neg (by decide)).trans hm) hsc₆ hi h5 fun t₇ s₇ u₇ => evC fun t₈ s₈ u₈ => PyProof.Rows.floordiv_int (by decide) (evC fun t₉ s₉ u₉ => PyProof.Rows.mod_int (by decide) (evC fun t₁₀ s₁₀ u₁₀ => PyProof.Rows.sub_int ?_)))))))
    have v2 := ((((u₇.trans u₈).trans (Up.tok (Nat.le_succ _))).trans u₉).trans (Up.tok (Nat.le_succ _))).trans (u₁₀.trans (Up.tok (Nat.le_succ _)))
    refine ⟨S₆.up v2, fun s₁₁ mv₁₁ S₁₁ => wpAny_execs_nil (next s₁₁ _ _ _ _ _ ?_ S₁₁ (fun y h1 h2 => (if_neg h2).trans (if_neg h1)) ((if_neg (by decide)).trans (if_pos rfl)) (if_pos rfl) ?_ ?_)⟩
    · exact (((((u.trans v).mv : Mv B _ No s _).w3 mv₆)).thenNo v2.mv).w3 mv₁₁
    · have h1 := Int.fmod_nonneg_of_pos (ns[5]) (show (0 : Int) < 10 by decide)
      have h2 := Int.fmod_lt_of_pos (ns[5]) (show (0 : Int) < 10 by decide)
      omega
    · have h1 := Int.fmod_nonneg_of_pos (ns[5].fdiv 10) (show (0 : Int) < 8 by decide)
      have h2 := Int.fmod_lt_of_pos (ns[5].fdiv 10) (show (0 : Int) < 8 by decide)
      omega
  · rw [show decide ((5 : Int) < (ns.length : Int)) = false from by simp; omega, if_neg Bool.false_ne_true]
    exact wpAny_execs_nil (next s₂ m n k t t' u.mv S₂ (fun _ _ _ => rfl) hn hk hnr hkr)

theorem law_10 (S : LS B L c1 c2 m s)
    (next : ∀ s', Mv B (W3 L) No s s' → LS B L c1 c2 (fun z => if z = "due" then some .none else m z) s' → wpAny (model prog w) A (execs (dRest 11) (lawE L a cd)) Q E s') :
    wpAny (model prog w) A (execs (dRest 10) (lawE L a cd)) Q E s := by
  have hE := lawEn (L := L) (a := a) (cd := cd)
  dsimp only [dRest, dBody, PySem.Challenge.pw_jf0026_01, List.getElem?_cons_succ, List.getElem?_cons_zero, List.drop_succ_cons, List.drop_zero]
  exact wpAny_execs_cons (S.asg hE rfl rfl (wpAny_Constant_none ⟨S, fun s' mv S' => next s' (mvL mv) S'⟩))

theorem law_11 (X : Wd mg mb B) (F : Defs B mg) (hh : A.handled = none) (hd : A.depth ≤ 400) (S : LS B L c1 c2 m s) {n k : Int} {t t' : Tok}
    (hn : m "number" = some (.int n t)) (hk : m "many" = some (.int k t')) (hnr : -3 ≤ n ∧ n ≤ 6) (hkr : -3 ≤ k ∧ k ≤ 4) (hdu : m "due" = some .none)
    (next : ∀ s' m' v, Mv B (W3 L) No s s' → LS B L c1 c2 m' s' → (∀ y : Str, y ≠ "due" → m' y = m y) → m' "due" = some v → IsDue s'.heap v (if n < 0 ∨ k < 0 then none else some (partsL k.toNat n)) →
      wpAny (model prog w) A (execs (dRest 12) (lawE L a cd)) Q E s') :
    wpAny (model prog w) A (execs (dRest 11) (lawE L a cd)) Q E s := by
  have hE := lawEn (L := L) (a := a) (cd := cd)
  dsimp only [dRest, dBody, PySem.Challenge.pw_jf0026_01, List.getElem?_cons_succ, List.getElem?_cons_zero, List.drop_succ_cons, List.drop_zero]
  have no : ∀ s', (n < 0 ∨ k < 0) → Up s s' → wpAny (model prog w) A (execs [] (lawE L a cd)) (fun f s' => match f with | .next => wpAny (model prog w) A (execs (dRest 12) (lawE L a cd)) Q E s' | f => Q f s') E s' := fun s' hneg u => by
    rw [if_pos hneg] at next
    exact wpAny_execs_nil (next s' m .none u.mv (S.up u) (fun _ _ => rfl) hdu rfl)
  refine wpAny_execs_cons (wpAny_If (isTrue_and (cmpI (a := n) (b := 0) (c := decide (0 ≤ n)) hE (.name rfl rfl hn) .const S.ns (fun t u s Q h => PyProof.Rows.ge_int h) fun s₁ u₁ => ?_)))
  by_cases h1 : n < 0
  · rw [show decide (0 ≤ n) = false from by simp; omega, if_neg Bool.false_ne_true, if_neg Bool.false_ne_true]
    exact no s₁ (.inl h1) u₁
  rw [show decide (0 ≤ n) = true from by simp; omega, if_pos rfl]
  refine isTrue_and (cmpI (a := k) (b := 0) (c := decide (0 ≤ k)) hE (.name rfl rfl hk) .const (u₁.ns S.ns) (fun t u s Q h => PyProof.Rows.ge_int h) fun s₂ u₂ => ?_)
  have u := u₁.trans u₂
  have S₂ := S.up u
  by_cases h2 : k < 0
  · rw [show decide (0 ≤ k) = false from by simp; omega, if_neg Bool.false_ne_true, if_neg Bool.false_ne_true]
    exact no s₂ (.inr h2) u
  rw [show decide (0 ≤ k) = true from by simp; omega, if_pos rfl]
  refine isTrue_and_nil ?_
  rw [if_pos rfl]
  rw [if_neg (by omega)] at next
  have ek : k = ((k.toNat : Nat) : Int) := by omega
  refine wpAny_execs_cons (S₂.asg hE rfl rfl (Call_ (ldg X S₂.ok hE rfl F.F8.mg (callWith_def F.F8.data (args_cons (ldl hE rfl S₂.ns hn (args_cons (ldl hE rfl S₂.ns hk (args_nil ⟨X.get S₂.ok F.F8.ho (by rw [F.F8.data]; exact nofun), ?_⟩)))))))))
  rw [ek]
  refine wpAny_cn (d := A.depth) (u := A.units) hh (Nat.le_refl _) (Nat.le_refl _) (parts_call k.toNat X F.F8.mg F.F8.ho F.F8.data F.F8.code (by omega) (by omega) (by omega) (by omega) S₂.ok fun s₃ R its mv₃ hR hP hr => ⟨S₂.no mv₃, fun s₄ mv₄ S₄ => ?_⟩)
  have S₃ := S₂.no mv₃
  refine wpAny_execs_nil (next s₄ _ (.ref R) (((u.mv : Mv B _ No s s₂).thenNo mv₃).w3 mv₄) S₄ (fun y hy => if_neg hy) (if_pos rfl) ⟨R, its, rfl, PlainL.mv hP mv₄ S₃.nqL S₃.ok, hr.mv mv₄ (fun b h => (S₃.nqL b h).nt) S₃.ok⟩)
end
end Mine
end

section
open PySem PySem.W PySem.Calls PyProof.Rows
set_option linter.unusedVariables false
set_option Elab.async false
set_option maxRecDepth 100000
namespace Mine
open Sem (wp)

def IsPr (p : Int × List Int) (h : Heap) (v : Value) : Prop := ∃ a t b, v = .ref a ∧ IsTup h a #[.int p.1 t, .ref b] ∧ TupI h b p.2
theorem firm_pr : Firm IsPr :=
  ⟨fun p h h' v ⟨a, t, b, e, h1, h2⟩ hk => ⟨a, t, b, e, IsTup.atM h1 fun o q => hk a o q, h2.keeps hk⟩,
   fun p h h' v X ⟨a, t, b, e, h1, vs, h2, hi⟩ hk nt => ⟨a, t, b, e, IsTup.atM h1 fun o q => hk a o (fun z => nt a z _ h1) q, vs, IsTup.atM h2 fun o q => hk b o (fun z => nt b z _ h2) q, hi⟩⟩

section
variable {prog : Program} {w : World} {mg mb : Str → Option Value} {B : Gnd} {A : Around} {E : Value → Shared → Prop} {s : Shared} {L a : Addr} {cd : Value} {c1 c2 : Option Value} {m : Str → Option Value} {Q : Flow → Shared → Prop}

theorem law_12 (X : Wd mg mb B) (F : Defs B mg) (hh : A.handled = none) (hd : A.depth ≤ 400) (hu : A.units ≤ 1000) (hfr : A.frames = some [lawE L a cd]) (S : LS B L c1 c2 m s) {n k : Int} {t t' : Tok}
    (hn : m "number" = some (.int n t)) (hk : m "many" = some (.int k t')) (hnr : -3 ≤ n ∧ n ≤ 6) (hkr : -3 ≤ k ∧ k ≤ 4)
    {v : Value} {d : Option (List (List Int))} (hv : m "due" = some v) (hdue : IsDue s.heap v d) (hplain : d = if n < 0 ∨ k < 0 then none else some (weakRows n k.toNat)) (hsz : 0 ≤ n → (weakRows n k.toNat).length ≤ sizeLine)
    (next : ∀ s', Mv B (W3 L) No s s' → LS B L c1 c2 m s' → wpAny (model prog w) A (execs (dRest 13) (lawE L a cd)) Q E s') :
    wpAny (model prog w) A (execs (dRest 12) (lawE L a cd)) Q E s := by
  have hE := lawEn (L := L) (a := a) (cd := cd)
  dsimp only [dRest, dBody, PySem.Challenge.pw_jf0026_01, List.getElem?_cons_succ, List.getElem?_cons_zero, List.drop_succ_cons, List.drop_zero]
  refine wpAny_execs_cons (wpAny_If (wpAny_isTrue_Compare1 (Call_ (ldg X S.ok hE rfl F.F9.mg (callWith_def F.F9.data ?_)))))
  refine args_cons (evC fun t₁ s₁ u₁ => args_cons (ldl hE rfl (u₁.ns S.ns) hn (args_cons (ldl hE rfl (u₁.ns S.ns) hk (args_nil ⟨X.get (S.up u₁).ok F.F9.ho (by rw [F.F9.data]; exact nofun), ?_⟩)))))
  have S₁ := S.up u₁
  refine told_weak_call X F.F9 F.F1 F.F4 hh hfr rfl (by show (dScope 10).kind ≠ _; decide) hd hu S₁.ok S₁.ns S.kL.1 S.kL.2.1 S.kL.2.2 (by omega) (by omega) hsz fun v' s₂ mv hns hdue' => ?_
  have S₂ := S₁.fr mv (hns m S₁.ns)
  have hdue₂ : IsDue s₂.heap v d := IsDue.mv (hdue.mv (u₁.mv : Mv B No No s s₁) (fun _ h => h.elim) S.ok) mv S₁.nqL S₁.ok
  rw [← hplain] at hdue'
  refine ldl hE rfl S₂.ns hv (ne_due hdue' hdue₂ (by show A.units + 64 < 9900; omega) (wpAny_truthy_bool ?_))
  rw [if_neg Bool.false_ne_true]
  exact wpAny_execs_nil (next s₂ ((u₁.mv : Mv B _ No s s₁).w3 mv) S₂)

theorem law_13 (X : Wd mg mb B) {f : Int} {t1 : Tok} (S : LS B L (some (.int f t1)) c2 m s)
    (next : ∀ s' t, Mv B (W3 L) No s s' → LS B L (some (.int f t1)) c2 (fun z => if z = "places" then some (.int ((f.fdiv 7).fmod 6) t) else m z) s' → wpAny (model prog w) A (execs (dRest 14) (lawE L a cd)) Q E s') :
    wpAny (model prog w) A (execs (dRest 13) (lawE L a cd)) Q E s := by
  have hE := lawEn (L := L) (a := a) (cd := cd)
  dsimp only [dRest, dBody, PySem.Challenge.pw_jf0026_01, List.getElem?_cons_succ, List.getElem?_cons_zero, List.drop_succ_cons, List.drop_zero]
  refine wpAny_execs_cons (S.asg hE rfl rfl (wpAny_BinOp (wpAny_BinOp (ldc hE law_kf law_first S.c1 (evC fun t₁ s₁ u₁ => PyProof.Rows.floordiv_int (by decide) (evC fun t₂ s₂ u₂ => PyProof.Rows.mod_int (by decide) ?_))))))
  have u := ((u₁.trans (Up.tok (Nat.le_succ _))).trans u₂).trans (Up.tok (Nat.le_succ _))
  exact ⟨S.up u, fun s' mv S' => next s' _ ((u.mv : Mv B _ No s _).w3 mv) S'⟩
end
end Mine
end

section
open PySem PySem.W PySem.Calls PyProof.Rows
set_option linter.unusedVariables false
set_option Elab.async false
set_option maxRecDepth 100000
namespace Mine
open Sem (wp)

section
variable {prog : Program} {w : World} {mg mb : Str → Option Value} {B : Gnd} {A : Around} {E : Value → Shared → Prop} {s : Shared} {L a : Addr} {cd : Value} {c1 c2 : Option Value} {m : Str → Option Value} {Q : Flow → Shared → Prop}

theorem mulL {l : Addr} {items : Array Value} {k : Nat} {x : Int} {u : Tok} {Q : Value → Shared → Prop} (hl : s.heap.get? l = some { cls := .type "list", dict := none, data := .seq items k, slots := #[] })
    (hlo : -(2 ^ 63 : Int) ≤ x) (hhi : x < 2 ^ 63) (hsz : items.size * x.toNat ≤ 2 ^ 24)
    (h : Q (.ref s.heap.objs.size) { s with heap := s.heap.push { cls := .type "list", data := .seq (List.foldl (fun x1 x2 => x1 ++ x2) #[] (List.replicate (if items.isEmpty = true then 0 else x.toNat) items)) } }) :
    wpAny (model prog w) A (binaryOp .Mult (.ref l) (.int x u)) Q E s :=
  wpAny_binaryOp_repeat_ref (T := "list") (U := "int") (by decide) ⟨_, hl, rfl⟩ (fun s' => typeIs_int s' x u) noFill_list_mul F.fills_int_mul F.slot_int_rmul repeat_list F.slot_int_index.lookup
    (call_meets F.slot_int_rmul (typeIs_int s x u) F.entry_int_rmul (F.args_int_rmul_2 _ _) (int___rmul___int_list x u l items k)
      ⟨hl, rfl, ⟨_, hl, rfl⟩, call_meets F.slot_list_mul ⟨_, hl, rfl⟩ F.entry_list_mul (F.args_list_mul_2 _ _)
        (AutoListH.list___mul___list_int_3 l items k x u (by simp [Builtin.List.listFitsIndex]; omega) (by omega) (by simp [Builtin.List.listTooLong, sizeLine]; omega))
        ⟨hl, h⟩⟩)

theorem ints_rep (t : Tok) : ∀ k : Nat, IntsAre (List.replicate k (Value.int 1 t)) (List.replicate k (1 : Int))
  | 0 => .nil
  | k + 1 => .cons 1 t (ints_rep t k)

theorem law_14 (X : Wd mg mb B) (F : Defs B mg) (hh : A.handled = none) (hd : A.depth ≤ 400) {f : Int} {t1 t : Tok} (S : LS B L (some (.int f t1)) c2 m s) {p : Nat} (hp : m "places" = some (.int p t)) (hp5 : p ≤ 5)
    (next : ∀ s' D ys, Mv B (W3 L) No s s' → LS B L (some (.int f t1)) c2 (fun z => if z = "due" then some (.ref D) else m z) s' → PlainL s'.heap D ys → All2 (fun r v => IsPr r s'.heap v) ((vecs (List.replicate p 1)).map fun r => (f - r.sum, r)) ys.toList → wpAny (model prog w) A (execs (dRest 15) (lawE L a cd)) Q E s') :
    wpAny (model prog w) A (execs (dRest 14) (lawE L a cd)) Q E s := by
  have hE := lawEn (L := L) (a := a) (cd := cd)
  dsimp only [dRest, dBody, PySem.Challenge.pw_jf0026_01, List.getElem?_cons_succ, List.getElem?_cons_zero, List.drop_succ_cons, List.drop_zero]
  refine wpAny_execs_cons (LS.comp (B := B) (L := L) (c1 := some (.int f t1)) (c2 := c2) (m := m) (cl := [("first", L + 1)]) (ds := vecs (List.replicate p 1)) firm_row firm_pr hE rfl hh (fun _ => true) (fun r => (f - r.sum, r)) rfl rfl (by decide) rfl rfl (by decide) rfl rfl (fun _ => rfl) ?_ (by intro _; rfl))
  refine Call_ (ldg X S.ok hE rfl F.F7.mg (callWith_def F.F7.data ?_))
  refine args_cons (wpAny_BinOp (wpAny_List (args_cons (evC fun t₁ s₁ u₁ => args_nil ⟨Nat.le_trans (by simp) sizeLine_big, ?_⟩))))
  have u₂ : Up s₁ { s₁ with heap := s₁.heap.push { cls := .type "list", data := .seq [Value.int 1 t₁].toArray } } := Up.push _
  have u := u₁.trans u₂
  refine ldl hE rfl (u.ns S.ns) hp (mulL (items := #[.int 1 t₁]) (k := 0) (Heap.get?_push_size _ rfl) (by omega) (by omega) (by simp; omega) ?_)
  have e : (List.foldl (fun x1 x2 => x1 ++ x2) #[] (List.replicate (if (#[Value.int 1 t₁] : Array Value).isEmpty = true then 0 else ((p : Nat) : Int).toNat) #[Value.int 1 t₁])) = (List.replicate p (Value.int 1 t₁)).toArray := by
    rw [listMul_foldl]
    simp
  rw [e]
  refine args_nil ?_
  have u₃ : ∀ (s₂ : Shared), Up s₂ { s₂ with heap := s₂.heap.push { cls := .type "list", data := .seq (List.replicate p (Value.int 1 t₁)).toArray } } := fun s₂ => Up.push _
  have hl3 : ∀ h : Heap, (h.push { cls := .type "list", data := .seq (List.replicate p (Value.int 1 t₁)).toArray }).IsList h.objs.size (List.replicate p (Value.int 1 t₁)).toArray := fun h => ⟨_, Heap.get?_push_size _ rfl, rfl, 0, rfl⟩
  have up := u.trans (u₃ _)
  have S₃ := S.up up
  refine ⟨X.get S₃.ok F.F7.ho (by rw [F.F7.data]; exact nofun), ?_⟩
  refine vec_call X F.F7 hh hd S₃.ok (hl3 _) (ints_rep t₁ p) (by simp; omega) (fun b h => by rw [List.eq_of_mem_replicate h]; omega) fun s₄ R its mv₄ hR hP hr => ?_
  have S₄ := S₃.no mv₄
  refine ⟨R, its, rfl, S₄, hP.isList, PlainL.neP S₄.ok hP, hr, ?_, fun C d v s₅ m₅ hd' hn hx S₅ => wpAny_tests_nil ⟨rfl, Up.refl _⟩, fun C d v s₅ m₅ _ hd' hn hx S₅ => ?_, fun s' D' ys' mv _ S' hD' hys => (next s' D' ys' (((up.mv : Mv B _ No s _).thenNo mv₄).w3 mv) S' hD' ?_)⟩
  · have h1 : (vecs (List.replicate p 1)).length = its.size := by have := hr.length; simpa using this
    have h2 := vecs_length p (List.replicate p 1) (by simp) fun b h => by rw [List.eq_of_mem_replicate h]; omega
    have h4 : 4 ^ p ≤ 4 ^ 6 := Nat.pow_le_pow_right (by decide) (by omega)
    exact Nat.le_trans (by omega) sizeLine_big
  · obtain ⟨aa, rfl, ht⟩ := hd'
    refine Tuple_ (args_cons (wpAny_BinOp (ldc (compEn rfl rfl) rfl rfl S₅.c1 (ev_b1 X S₅.ok (compEn rfl rfl) rfl (X.free _ (by simp)) boot_sum (by decide) (by decide) rfl rfl hn hx (sumSeq hh (.inl ht) fun t₄ s₆ u₆ => PyProof.Rows.sub_int ?_)))))
    have u₇ := u₆.trans (Up.tok (Nat.le_succ s₆.toks))
    refine args_cons (ldl (compEn rfl rfl) rfl (u₇.ns hn) hx (args_nil (newTupV (Nat.le_trans (by simp) sizeLine_big) fun ap s₈ u₈ hap hpt => ?_)))
    have u₉ := u₇.trans u₈
    exact ⟨⟨ap, _, aa, rfl, hpt, ht.keeps u₉.keep⟩, u₉⟩
  · rw [List.filter_eq_self.mpr (fun _ _ => rfl)] at hys
    exact hys
end
end Mine
end

section
open PySem PySem.W PySem.Calls PyProof.Rows
set_option linter.unusedVariables false
set_option Elab.async false
set_option maxRecDepth 100000
namespace Mine
open Sem (wp)

section
variable {prog : Program} {w : World} {mg mb : Str → Option Value} {B : Gnd} {A : Around} {E : Value → Shared → Prop} {s : Shared} {L a : Addr} {cd : Value} {c1 c2 : Option Value} {m : Str → Option Value} {Q : Flow → Shared → Prop}

theorem law_15 (X : Wd mg mb B) (F : Defs B mg) (hh : A.handled = none) (hd : A.depth ≤ 400) (hu : A.units ≤ 1000) {f : Int} {t1 t : Tok} (S : LS B L (some (.int f t1)) c2 m s) {p : Nat} (hp : m "places" = some (.int p t)) (hp5 : p ≤ 5) (hcl : (choices p).length ≤ 1000)
    (next : ∀ s' D ys, Mv B (W3 L) No s s' → LS B L (some (.int f t1)) c2 (fun z => if z = "told" then some (.ref D) else m z) s' → PlainL s'.heap D ys → All2 (fun r v => IsPr r s'.heap v) ((choices p).map fun r => (f - r.sum, r)) ys.toList → wpAny (model prog w) A (execs (dRest 16) (lawE L a cd)) Q E s') :
    wpAny (model prog w) A (execs (dRest 15) (lawE L a cd)) Q E s := by
  have hE := lawEn (L := L) (a := a) (cd := cd)
  have hroom : A.depth < recursionLimit := by show A.depth < 1000; omega
  dsimp only [dRest, dBody, PySem.Challenge.pw_jf0026_01, List.getElem?_cons_succ, List.getElem?_cons_zero, List.drop_succ_cons, List.drop_zero]
  refine wpAny_execs_cons (S.asg hE rfl rfl ?_)
  refine Call_ (ldb X S.ok hE rfl (X.free _ (by simp)) boot_list (callWith_type1 (args_cons ?_)))
  obtain ⟨fa, o, pm, cd', doc, hmg, ho, hdata, hcd⟩ := F.F5
  refine Call_ (ldg X S.ok hE rfl hmg (callWith_def hdata ?_))
  refine args_cons (ldc hE law_kf law_first S.c1 (args_cons (ldl hE rfl S.ns hp (args_nil ⟨X.get S.ok ho (by rw [hdata]; exact nofun), ?_⟩))))
  refine wpAny_call (gen_make (binds := [("remaining", .int f t1), ("count", .int p t)]) hroom (X.get S.ok ho (by rw [hdata]; exact nofun)) hdata (X.nolimit S.ok) (X.code S.ok hcd) rfl (locs rfl) ?_ rfl rfl rfl)
  intro L' ga s' x
  refine args_nil (wpAny_cn (d := A.depth) (u := A.units) hh (Nat.le_refl _) (Nat.le_refl _) (list_new (Is := Mine.IsPair p) (rs := (choices p).map fun r => (f - r.sum, r)) X hroom S.ok (Mv.refl s) x S.ok (by rw [List.length_map]; exact Nat.le_trans (by omega) sizeLine_big) (fun s'' R hn => ?_) fun v s₂ hv => ?_))
  · exact opt_body X F.F2 p (by omega) (by omega) (by omega) (.inl rfl) R hn rfl rfl
  · obtain ⟨D, acc, c, rfl, mv, hz, hS, hall⟩ := hv
    have S₂ := S.no mv
    refine ⟨S₂, fun s₃ mv₃ S₃ => next s₃ D acc ((mv.no : Mv B (W3 L) No s s₂).w3 mv₃) S₃ (PlainL.mv ⟨_, _, hS, rfl, rfl, rfl⟩ mv₃ S₂.nqL S₂.ok) (hall.mono fun r v h => ?_)⟩
    obtain ⟨_, a', t', b', e, h1, h2⟩ := h
    exact firm_pr.mv (⟨a', t', b', e, h1, h2⟩ : IsPr r s₂.heap v) mv₃ (fun b h => (S₂.nqL b h).nt) S₂.ok

/-- [k for k in row if isinstance(k, bool)] of a row of ints -/
theorem ev_comp0 (X : Wd mg mb B) (hh : A.handled = none) (ok : Ok B s.heap) {scope : Scope} {p1 p2 p3 p4 p5 p6 p7 pos : Pos} {b : Addr} {r : List Int} {Q : Value → Shared → Prop} (hn : s.heap.Ns L m) (hm : m "row" = some (.ref b)) (hb : TupI s.heap b r) (hsz : r.length ≤ sizeLine)
    (hsc : scope = { kind := .function, names := [(".0", .local), ("k", .local), ("isinstance", .globalImplicit), ("bool", .globalImplicit)], isGenerator := false, isCoroutine := false })
    (hQ : ∀ D s', Up s s' → PlainL s'.heap D #[] → Q (.ref D) s') :
    wpAny (model prog w) A (eval (.ListComp (.Name "k" p1) [⟨.Name "k" p2, .Name "row" p3, [.Call (.Name "isinstance" p4) [.Name "k" p5, .Name "bool" p6] [] p7], 0⟩] scope pos) (lawE L a cd)) Q E s := by
  subst hsc
  have hE := lawEn (L := L) (a := a) (cd := cd)
  obtain ⟨us, htup, hi⟩ := hb
  refine wpAny_sizes (wpAny_ListComp_free (cl := []) (fun _ => false) (fun _ _ => True) rfl (by decide) rfl (by decide) rfl (ldl hE rfl hn hm (iterTup htup fun I s₂ u₂ hI hit => ?_)) (by intro _; rfl))
  have hbl : b < s.heap.objs.size := let ⟨_, e, _⟩ := htup; Heap.lt_size e
  have hbI : b ≠ I := fun q => absurd hbl (Nat.not_lt.mpr (q ▸ hI))
  have hIl : I < s₂.heap.objs.size := let ⟨_, e, _⟩ := hit; Heap.lt_size e
  have n1 := ok.new hI
  have ok₂ := u₂.ok ok
  refine ⟨I, [I, b], [I], us.toArray.size, _, _, rfl, Walks.tuple hh I b hbI us.toArray, ?_, ⟨hit, htup.keeps u₂.keep⟩, ?_, ⟨?_, ?_⟩, ?_⟩
  · rw [List.size_toArray, hi.length]; exact hsz
  · intro c hc
    simp only [List.mem_cons, List.not_mem_nil, or_false] at hc
    rcases hc with rfl | rfl
    · exact hIl
    · exact Nat.lt_of_lt_of_le hbl u₂.size
  · intro C i v s₃ m₃ E' hC hP hns hx hk ht
    have hlt : i < r.length := by
      have : i < us.toArray.size := (Array.getElem?_eq_some_iff.mp hP).1
      rw [List.size_toArray, hi.length] at this
      exact this
    obtain ⟨t', e'⟩ := IntsGet hi i hlt
    have e'' := hP.symm.trans e'
    cases e''
    have ok₃ : Ok B s₃.heap := ok₂.but (a := I) (fun b o hb e => hk b o (by simpa using hb) e) n1.1 n1.2.1 n1.2.2
    refine wpAny_tests_one (wpAny_isTrue_value ?_)
    refine Call_ ?_
    refine ldb X ok₃ (compEn rfl rfl) rfl (X.free _ (by simp)) boot_isinstance ?_
    refine callWith_builtin1 ?_ ?_ ?_
    rotate_left
    · rfl
    · rfl
    refine args_cons ?_ ?_
    rotate_left
    · rfl
    refine ldl (compEn rfl rfl) rfl hns hx ?_
    refine args_cons ?_ ?_
    rotate_left
    · rfl
    refine ldb X ok₃ (compEn rfl rfl) rfl (X.free _ (by simp)) boot_bool ?_
    refine args_nil ?_
    refine IsiPair.int_bool (wpAny_truthy_bool ⟨rfl, ?_⟩)
    exact (Up.tok (Nat.le_succ s₃.toks)).keeps
  · intro C i v s₃ m₃ E' hC hP hp
    cases hp
  · intro D h' tk ys vs' hD hl hpl hlen hP hF hk
    intro hz ht
    have hys : ys = #[] := by
      have : (vs'.filter fun _ => false) = [] := by simp
      rw [this] at hF
      have h1 := hF.length
      simp only [List.length_nil, Array.length_toList] at h1
      exact Array.eq_empty_of_size_eq_zero h1.symm
    subst hys
    have hkk : ∀ c o, s.heap.get? c = some o → h'.get? c = some o := fun c o e => hk c o (fun q => by
      simp only [List.mem_singleton] at q
      exact absurd (Heap.lt_size e) (Nat.not_lt.mpr (q ▸ hI))) (u₂.keep c o e)
    obtain ⟨⟨h2, t2, rfl⟩, _, _, ht2⟩ := u₂
    exact hQ D _ (Up.heap hkk hz ht) (plainL_of hpl)
end
end Mine
end

section
open PySem PySem.W PySem.Calls PyProof.Rows
set_option linter.unusedVariables false
set_option Elab.async false
set_option maxRecDepth 100000
namespace Mine
open Sem (wp)

section
variable {prog : Program} {w : World} {mg mb : Str → Option Value} {B : Gnd} {A : Around} {E : Value → Shared → Prop} {s : Shared} {L a : Addr} {cd : Value} {c1 c2 : Option Value} {m : Str → Option Value} {Q : Flow → Shared → Prop}

/-- one turn's body: the test falls -/
theorem law_turn (X : Wd mg mb B) (hh : A.handled = none) (hu : A.units ≤ 1000) (S : LS B L c1 c2 m s) {p1 p2 p3 p4 p5 p6 p7 p8 p9 p10 p11 p12 p13 : Pos} {kk : Nat} {scope : Scope} {b : Addr} {r : List Int} {Q : Flow → Shared → Prop} (hm : m "row" = some (.ref b)) (hb : TupI s.heap b r) (hsz : r.length ≤ sizeLine)
    (hsc : scope = { kind := .function, names := [(".0", .local), ("k", .local), ("isinstance", .globalImplicit), ("bool", .globalImplicit)], isGenerator := false, isCoroutine := false })
    (hQ : ∀ s', Up s s' → Q .next s') :
    wpAny (model prog w) A (execs [.If (.Compare (.ListComp (.Name "k" p1) [⟨.Name "k" p2, .Name "row" p3, [.Call (.Name "isinstance" p4) [.Name "k" p5, .Name "bool" p6] [] p7], 0⟩] scope p8) [.NotEq] [.List [] p9] p10) [.Return (some (.Constant (.bool false) kk p11)) p12] [] p13] (lawE L a cd)) Q E s := by
  refine wpAny_execs_cons (wpAny_If (wpAny_isTrue_Compare1 (ev_comp0 X hh S.ok S.ns hm hb hsz hsc fun D s₁ u₁ hD => wpAny_List (args_nil ⟨Nat.zero_le _, ?_⟩))))
  have u₂ : Up s₁ { s₁ with heap := s₁.heap.push { cls := .type "list", data := .seq ([] : List Value).toArray } } := Up.push _
  have hD2 := hD.keeps u₂.keep
  refine ne_dataH (lst_reads hD2 (rs := []) .nil) (lst_reads (rs := []) (⟨_, _, Heap.get?_push_size _ rfl, rfl, rfl, rfl⟩ : PlainL _ s₁.heap.objs.size #[]) .nil) (shaped_lst []) (shaped_lst []) (by show A.units + 64 < 9900; omega) ?_
  rw [SeqAt.eqv_refl _ (SeqAt.canLay_of_shaped (shaped_lst []))]
  refine wpAny_truthy_bool ?_
  rw [Bool.not_true, if_neg Bool.false_ne_true]
  exact wpAny_execs_nil (wpAny_execs_nil (hQ _ (u₁.trans u₂)))

theorem law_16 (X : Wd mg mb B) (hh : A.handled = none) (hu : A.units ≤ 1000) (S : LS B L c1 c2 m s) {T : Addr} {ys : Array Value} {rs : List (Int × List Int)} (hT : m "told" = some (.ref T)) (hP : PlainL s.heap T ys) (hys : All2 (fun r v => IsPr r s.heap v) rs ys.toList) (hrl : ∀ r ∈ rs, r.2.length ≤ 1000)
    (next : ∀ s' m', Mv B (W3 L) No s s' → LS B L c1 c2 m' s' → (∀ y : Str, y ≠ "rest" → y ≠ "row" → m' y = m y) → wpAny (model prog w) A (execs (dRest 17) (lawE L a cd)) Q E s') :
    wpAny (model prog w) A (execs (dRest 16) (lawE L a cd)) Q E s := by
  have hE := lawEn (L := L) (a := a) (cd := cd)
  have hp : ((lawE L a cd).scope.kind == .class || ((lawE L a cd).scope.kind == .module && (lawE L a cd).locals != (lawE L a cd).globals)) = false := rfl
  dsimp only [dRest, dBody, PySem.Challenge.pw_jf0026_01, List.getElem?_cons_succ, List.getElem?_cons_zero, List.drop_succ_cons, List.drop_zero]
  refine wpAny_execs_cons (wpAny_For (ldl hE rfl S.ns hT (wpAny_pyIter_list hP.isList ?_)) (by intro _; rfl))
  have uI : Up s { s with heap := s.heap.push { cls := .type "list_iterator", data := .fields #[.ref T, .int 0 0] } } := Up.push _
  have hTl := hP.lt
  have nI := S.ok.new (Nat.le_refl s.heap.objs.size)
  have hTI : T ≠ s.heap.objs.size := Nat.ne_of_lt hTl
  have hIL : s.heap.objs.size ≠ L := fun q => absurd (Ns_live S.ns) (Nat.not_lt.mpr (Nat.le_of_eq q))
  have W := Walks.list (prog := prog) (w := w) (A := A) hh s.heap.objs.size T hTI ys
  have hlen : rs.length = ys.size := by rw [hys.length, Array.length_toList]
  have hTL := NQ.ne (S.nqL L rfl) hP
  refine codeAny_forLoop_any (fun k s' => ∃ i m', k = ys.size - i ∧ i ≤ ys.size ∧ (s'.heap.IsListIter s.heap.objs.size T i ∧ s'.heap.IsList T ys) ∧ Mv B (fun b => b = L) No s s' ∧ LS B L c1 c2 m' s' ∧ (∀ y : Str, y ≠ "rest" → y ≠ "row" → m' y = m y) ∧ All2 (fun r v => IsPr r s'.heap v) rs ys.toList)
    (fun k s' hI => ?_) ys.size ⟨0, m, rfl, Nat.zero_le _, ⟨IsListIter.new, IsList.atM hP.isList fun o e => uI.keep _ o e⟩, uI.mv, S.up uI, fun _ _ _ => rfl, hys.mono fun r v h => firm_pr.keep _ _ _ _ h uI.keep⟩
  obtain ⟨i, m', rfl, hi, hst, mv, S', hm', hys'⟩ := hI
  by_cases hlt : i < ys.size
  · refine wpAny_sizes (W.item i s' _ _ hlt hst fun v h₁ tk₁ hPv hst₁ hk₁ hz₁ ht₁ => ?_)
    have hk₁' : ∀ b o, b ≠ s.heap.objs.size → s'.heap.get? b = some o → h₁.get? b = some o := fun b o hb e => hk₁ b o (by simpa using hb) e
    have mv₁ : Mv B (fun c => c = s.heap.objs.size) No s' { s' with heap := h₁, toks := tk₁ } := Mv.one hk₁' rfl hz₁ nI.1 nI.2.1 nI.2.2 ht₁
    have hys₁ : All2 (fun r v => IsPr r h₁ v) rs ys.toList := hys'.mono fun r v h => firm_pr.but _ _ _ _ _ h hk₁' (NQ.listIter hst.1).nt
    obtain ⟨r, hri, a', t', b', rfl, htup, hrow⟩ := hys₁.get i v (by simpa using hPv)
    refine wpAny_letOwnedTupleGo_listiter (s := { s' with heap := h₁, toks := tk₁ }) hst₁.1 ?_
    refine wpAny_sizes (wpAny_assign_Tuple hh (t := a') htup rfl rfl fun h₃ hx₃ => ?_)
    have old₃ : ∀ b o, h₁.get? b = some o → h₃.get? b = some o := fun b o e => hx₃ b o (Nat.ne_of_lt (Heap.lt_size e)) e
    show wpAny _ _ (do holding [.ref b'] (assign (.Name "rest" _) (lawE L a cd) (.int r.1 t')); do holding [] (assign (.Name "row" _) (lawE L a cd) (.ref b')); pure ()) _ _ _
    have hns₃ : h₃.Ns L m' := (S'.ns.at' fun o e => hk₁' _ o hIL.symm e).at' fun o e => old₃ _ o e
    have hkr : (lawE L a cd).kindOf "rest" = some .local := rfl
    have hkw : (lawE L a cd).kindOf "row" = some .local := rfl
    have hns₃ : ({ s' with heap := h₃, toks := tk₁ } : Shared).heap.Ns (lawE L a cd).locals m' := hns₃
    refine wpAny_bind (wpAny_holding (wpAny_assign_Name (wpAny_storeName_local hkr hns₃ (fun h₄ hn₄ hs₄ => ?_) hp)))
    refine wpAny_bind (wpAny_holding (wpAny_assign_Name (wpAny_storeName_local hkw hn₄ (fun h₅ hn₅ hs₅ => wpAny_pure ?_) hp)))
    intro hz5 ht5
    replace hz5 : h₁.objs.size ≤ h₅.objs.size := hz5
    replace hs₄ : Heap.SameBut L h₃ h₄ := hs₄
    replace hs₅ : Heap.SameBut L h₄ h₅ := hs₅
    have k15 : ∀ b o, b ≠ L → h₁.get? b = some o → h₅.get? b = some o := fun b o hb e => hs₅.extBut b o hb (hs₄.extBut b o hb (old₃ b o e))
    have mv₂ : Mv B (fun c => c = L) No { s' with heap := h₁, toks := tk₁ } { s' with heap := h₅, toks := tk₁ + 1 + 1 } := Mv.one k15 rfl hz5 S.kL.1 S.kL.2.1 S.kL.2.2 (Nat.le_add_right tk₁ 2)
    have mvA : Mv B (fun b => b = L) No s { s' with heap := h₅, toks := tk₁ + 1 + 1 } := (mv.trans mv₁ (fun b h => .inr (Nat.le_of_eq h.symm)) fun _ h => h.elim).trans mv₂ (fun b h => .inl h) fun _ h => h.elim
    have S₅ := S.fr mvA hn₅
    have ntL : NT h₁ L := NT.ns (S'.ns.at' fun o e => hk₁' _ o hIL.symm e)
    have hys₅ : All2 (fun r v => IsPr r h₅ v) rs ys.toList := hys₁.mono fun r v h => firm_pr.but _ _ _ _ _ h k15 ntL
    have hrow₅ : TupI h₅ b' r.2 := by
      obtain ⟨us, hu', hi'⟩ := hrow
      exact ⟨us, IsTup.atM hu' fun o e => k15 b' o (fun q => ntL _ (q ▸ hu')) e, hi'⟩
    have hst₅ : h₅.IsListIter s.heap.objs.size T (i + 1) ∧ h₅.IsList T ys := ⟨let ⟨o, e, r⟩ := hst₁.1; ⟨o, k15 _ _ hIL e, r⟩, IsList.atM hst₁.2 fun o e => k15 _ _ hTL e⟩
    refine law_turn X hh hu S₅ (if_pos rfl) hrow₅ (Nat.le_trans (by have := hrl r (List.mem_of_getElem? hri); omega) sizeLine_big) rfl fun s₆ u₆ => ?_
    refine ⟨ys.size - (i + 1), by omega, i + 1, _, rfl, hlt, ⟨let ⟨o, e, r⟩ := hst₅.1; ⟨o, u₆.keep _ _ e, r⟩, IsList.atM hst₅.2 fun o e => u₆.keep _ _ e⟩, mvA.thenNo u₆.mv, S₅.up u₆, fun y h1 h2 => (if_neg h2).trans ((if_neg h1).trans (hm' y h1 h2)), hys₅.mono fun r v h => firm_pr.keep _ _ _ _ h u₆.keep⟩
  · have hin : i = ys.size := by omega
    subst hin
    refine wpAny_sizes (W.done s' _ _ hst fun h₁ tk₁ hk₁ hz₁ ht₁ => wpAny_execs_nil ?_)
    have hk₁' : ∀ b o, b ≠ s.heap.objs.size → s'.heap.get? b = some o → h₁.get? b = some o := fun b o hb e => hk₁ b o (by simpa using hb) e
    have mv₁ : Mv B (fun c => c = s.heap.objs.size) No s' { s' with heap := h₁, toks := tk₁ } := Mv.one hk₁' rfl hz₁ nI.1 nI.2.1 nI.2.2 ht₁
    have mvE : Mv B (fun b => b = L) No s { s' with heap := h₁, toks := tk₁ } := mv.trans mv₁ (fun b h => .inr (Nat.le_of_eq h.symm)) fun _ h => h.elim
    exact next _ m' (mvL mvE) (S.fr mvE (S'.ns.at' fun o e => hk₁' _ o hIL.symm e)) hm'

def prD (p : Int × List Int) : PyData := .tuple [.int p.1, rowD p.2]
theorem prs_reads {h : Heap} {rs : List (Int × List Int)} {vs : List Value} (x : All2 (fun r v => IsPr r h v) rs vs) : ReadsAll h vs (rs.map prD) [] := by
  induction x with
  | nil => exact .nil
  | cons h1 _ ih =>
    obtain ⟨a, t, b, rfl, ⟨o, ho, hc, n, hd⟩, ht⟩ := h1
    exact .cons (as := []) (bs := []) (reads_tuple_at ho hc hd (.cons (as := []) (bs := []) (.int _ t) (.cons (as := []) (bs := []) (row_reads ht) .nil))) ih
theorem lay_prs (rs : List (Int × List Int)) : PyData.canLayAll0 (rs.map prD) = true := by
  induction rs with
  | nil => rfl
  | cons a r ih => simp only [List.map_cons, PyData.canLayAll0, prD, rowD, PyData.canLay0, lay_ints, ih, Bool.and_self]
theorem depth_prs (rs : List (Int × List Int)) : PyData.depthAll (rs.map prD) ≤ 4 := by
  induction rs with
  | nil => simp [PyData.depthAll]
  | cons a r ih => have := depth_ints a.2; simp only [List.map_cons, PyData.depthAll, prD, rowD, PyData.depth]; omega
theorem shaped_prs (rs : List (Int × List Int)) : SeqAt.shaped (.list (rs.map prD)) = true := by
  have := depth_prs rs
  have h1 : PyData.canLay0 (.list (rs.map prD)) = true := by rw [PyData.canLay0]; exact lay_prs rs
  have h2 : PyData.depth (.list (rs.map prD)) ≤ 64 := by rw [PyData.depth]; omega
  show (PyData.canLay0 (.list (rs.map prD)) && decide (PyData.depth (.list (rs.map prD)) ≤ 64)) = true
  rw [h1, decide_eq_true h2]
  rfl

theorem law_17 (hu : A.units ≤ 1000) (S : LS B L c1 c2 m s) {T D : Addr} {ys zs : Array Value} {rs : List (Int × List Int)} (hT : m "told" = some (.ref T)) (hP : PlainL s.heap T ys) (hys : All2 (fun r v => IsPr r s.heap v) rs ys.toList)
    (hDu : m "due" = some (.ref D)) (hPD : PlainL s.heap D zs) (hzs : All2 (fun r v => IsPr r s.heap v) rs zs.toList) (hQ : Q (.ret (.bool true)) s) :
    wpAny (model prog w) A (execs (dRest 17) (lawE L a cd)) Q E s := by
  have hE := lawEn (L := L) (a := a) (cd := cd)
  dsimp only [dRest, dBody, PySem.Challenge.pw_jf0026_01, List.getElem?_cons_succ, List.getElem?_cons_zero, List.drop_succ_cons, List.drop_zero]
  obtain ⟨o, n, ho, hc, _, hd⟩ := hP
  obtain ⟨o', n', ho', hc', _, hd'⟩ := hPD
  refine wpAny_execs_cons (wpAny_Return_some (wpAny_Compare1 (ldl hE rfl S.ns hT (ldl hE rfl S.ns hDu (eq_dataH (reads_list_at ho hc hd (prs_reads hys)) (reads_list_at ho' hc' hd' (prs_reads hzs)) (shaped_prs rs) (shaped_prs rs) (by show A.units + 64 < 9900; omega) ?_)))))
  rw [SeqAt.eqv_refl _ (SeqAt.canLay_of_shaped (shaped_prs rs))]
  exact hQ
end
end Mine
end

section
set_option linter.unusedVariables false
set_option Elab.async false
set_option maxRecDepth 100000
namespace Mine

theorem plain_weak0 : ∀ n : Fin 7, ∀ k : Fin 5, weakRows ((n : Nat) : Int) k = partsL k ((n : Nat) : Int) := by decide +kernel
theorem plain_weak {n : Int} {k : Nat} (h0 : 0 ≤ n) (h1 : n ≤ 6) (hk : k ≤ 4) : weakRows n k = partsL k n := by
  have h := plain_weak0 ⟨n.toNat, by omega⟩ ⟨k, by omega⟩
  have e : ((n.toNat : Nat) : Int) = n := by omega
  simp only [e] at h
  exact h
theorem plain_opt0 : ∀ p : Fin 6, choices p = vecs (List.replicate p 1) ∧ (choices p).length ≤ 32 := by decide +kernel

theorem foldl_step (bs : List Int) : ∀ rows : List (List Int), bs.foldl stepV rows = rows.flatMap fun r => (vecs bs).map (r ++ ·) := by
  induction bs with
  | nil => intro rows; simp [vecs]
  | cons b bs ih =>
    intro rows
    have h1 : vecs (b :: bs) = (stepV [[]] b).flatMap fun r => (vecs bs).map (r ++ ·) := by rw [vecs, List.foldl_cons, ih]
    rw [List.foldl_cons, ih, h1]
    simp only [stepV, stepR, List.flatMap_cons, List.flatMap_nil, List.append_nil, List.flatMap_assoc, List.map_flatMap, List.flatMap_map, List.map_map]
    simp [Function.comp_def, List.append_assoc]

theorem vecs_cons (b : Int) (bs : List Int) : vecs (b :: bs) = (List.range (b + 1).toNat).flatMap fun (j : Nat) => (vecs bs).map ((j : Int) :: ·) := by
  rw [vecs, List.foldl_cons, foldl_step]
  simp [stepV, stepR, List.flatMap_map]

theorem vecs_sum (bs : List Int) : (∀ b ∈ bs, -1 ≤ b) → ∀ r ∈ vecs bs, 0 ≤ r.sum ∧ r.sum ≤ bs.sum := by
  induction bs with
  | nil => intro _ r h; simp [vecs] at h; simp [h]
  | cons b bs ih =>
    intro hb r h
    rw [vecs_cons, List.mem_flatMap] at h
    obtain ⟨j, hj, h⟩ := h
    rw [List.mem_map] at h
    obtain ⟨q, hq, rfl⟩ := h
    have := ih (fun c hc => hb c (by simp [hc])) q hq
    simp only [List.mem_range] at hj
    simp only [List.sum_cons]
    omega

def selSum (bs : List Int) (t : Int) : List (List Int) := (vecs bs).filter fun r => r.sum == t

theorem sel_none {bs : List Int} {t : Int} (hb : ∀ b ∈ bs, -1 ≤ b) (h : t < 0 ∨ bs.sum < t) : selSum bs t = [] := by
  rw [selSum, List.filter_eq_nil_iff]
  intro r hr
  have := vecs_sum bs hb r hr
  simp only [beq_iff_eq]
  omega

theorem sel_cons (b : Int) (bs : List Int) (t : Int) : selSum (b :: bs) t = (List.range (b + 1).toNat).flatMap fun (j : Nat) => (selSum bs (t - j)).map ((j : Int) :: ·) := by
  rw [selSum, vecs_cons, List.filter_flatMap]
  congr 1
  funext j
  rw [selSum, List.filter_map]
  congr 1
  apply List.filter_congr
  intro r _
  simp only [Function.comp, List.sum_cons]
  rw [Bool.eq_iff_iff]
  simp only [beq_iff_eq]
  omega

theorem range_part {α : Type} (g : Nat → List α) (a c N : Nat) (h : a + c ≤ N) (lo : ∀ j, j < a → g j = []) (hi : ∀ j, a + c ≤ j → j < N → g j = []) :
    (List.range N).flatMap g = (List.range c).flatMap fun i => g (a + i) := by
  obtain ⟨d, rfl⟩ : ∃ d, N = a + c + d := ⟨N - (a + c), by omega⟩
  rw [List.range_add, List.range_add, List.flatMap_append, List.flatMap_append, List.flatMap_map, List.flatMap_map]
  have h1 : (List.range a).flatMap g = [] := by
    rw [List.flatMap_eq_nil_iff]
    intro j hj
    exact lo j (by simpa using hj)
  have h2 : (List.range d).flatMap (fun i => g (a + c + i)) = [] := by
    rw [List.flatMap_eq_nil_iff]
    intro j hj
    exact hi _ (by omega) (by have : j < d := by simpa using hj
                              omega)
  rw [h1, h2]
  simp

theorem flat_congr {α β : Type} {f g : α → List β} : ∀ {l : List α}, (∀ a ∈ l, f a = g a) → l.flatMap f = l.flatMap g
  | [], _ => rfl
  | a :: l, h => by rw [List.flatMap_cons, List.flatMap_cons, h a (by simp), flat_congr fun b hb => h b (by simp [hb])]

theorem plain_fixed (bs : List Int) : ∀ t : Int, (∀ b ∈ bs, -1 ≤ b) → 0 ≤ t → fixedRows bs t = selSum bs t := by
  induction bs with
  | nil =>
    intro t _ h0
    rw [fixedRows, selSum]
    by_cases h : t = 0
    · subst h; simp [vecs]
    · have : ¬ (0 == t) = true := by simpa using fun q => h q.symm
      simp [vecs, h, this]
  | cons b bs ih =>
    intro t hb h0
    have hb1 := hb b (by simp)
    have hb2 : ∀ c ∈ bs, -1 ≤ c := fun c hc => hb c (by simp [hc])
    have hsum : (b :: bs).sum = b + bs.sum := by simp
    rw [fixedRows]
    by_cases hle : t ≤ (b :: bs).sum
    · rw [if_pos hle, sel_cons]
      rw [hsum] at hle ⊢
      have hst : stOf b t (b + bs.sum) = if 0 > t - bs.sum then 0 else t - bs.sum := by unfold stOf; split <;> split <;> omega
      have hst0 : 0 ≤ stOf b t (b + bs.sum) := by rw [hst]; split <;> omega
      have hen : enOf b t ≤ b ∧ enOf b t ≤ t ∧ (enOf b t = b ∨ enOf b t = t) := by unfold enOf; split <;> omega
      generalize hS : stOf b t (b + bs.sum) = st at *
      generalize hE : enOf b t = en at *
      have hsb : b = -1 ∨ st ≤ b := by rw [hst]; split <;> omega
      rcases hsb with rfl | hsb
      · have e1 : (en + 1 - st).toNat = 0 := by omega
        rw [e1]; rfl
      · rw [range_part _ st.toNat (en + 1 - st).toNat (b + 1).toNat (by omega) (fun j hj => ?_) (fun j hj hj2 => ?_)]
        · have ec : ∀ i ∈ List.range (en + 1 - st).toNat, (List.map (fun x => (st + (i : Int)) :: x) (fixedRows bs (t - (st + (i : Int))))) = List.map (fun x => (((st.toNat + i : Nat) : Int)) :: x) (selSum bs (t - ((st.toNat + i : Nat) : Int))) := by
            intro i hi
            simp only [List.mem_range] at hi
            have e2 : ((st.toNat + i : Nat) : Int) = st + i := by omega
            rw [e2, ih _ hb2 (by omega)]
          exact flat_congr ec
        · rw [sel_none hb2 (.inr ?_)]
          · rfl
          · split at hst <;> omega
        · rw [sel_none hb2 ?_]
          · rfl
          · rcases hen.2.2 with h | h
            · omega
            · left; omega
    · rw [if_neg hle, sel_none hb (.inr (by omega))]
end Mine
end

section
open PySem PySem.W PySem.Calls PyProof.Rows
set_option linter.unusedVariables false
set_option Elab.async false
set_option maxRecDepth 100000
namespace Mine
open Sem (wp)

section
variable {prog : Program} {w : World} {mg mb : Str → Option Value} {B : Gnd} {A : Around} {E : Value → Shared → Prop} {s : Shared} {L a : Addr} {cd : Value} {m : Str → Option Value} {Q : Flow → Shared → Prop}

theorem bnds_ok (ns : List Int) : (bnds ns).length ≤ 4 ∧ ∀ b ∈ bnds ns, -1 ≤ b ∧ b ≤ 3 := by
  refine ⟨by simp only [bnds, List.length_map, List.length_take]; omega, fun b hb => ?_⟩
  simp only [bnds, List.mem_map] at hb
  obtain ⟨n, _, rfl⟩ := hb
  have h1 := Int.fmod_nonneg_of_pos n (show (0 : Int) < 5 by decide)
  have h2 := Int.fmod_lt_of_pos n (show (0 : Int) < 5 by decide)
  omega

theorem law_all (X : Wd mg mb B) (F : Defs B mg) (hh : A.handled = none) (hd : A.depth ≤ 400) (hu : A.units ≤ 1000) (hfr : A.frames = some [lawE L a cd]) {c1 c2 : Option Value} (S : LS B L c1 c2 m s) {sc : Addr} {vs : List Value} {ns : List Int} (hm : m "script" = some (.ref sc)) (hK : B.K.IsList sc vs.toArray) (hKP : sc ≠ B.P) (hi : IntsAre vs ns) (hlen : ns.length ≤ 63)
    (hQ : ∀ s', Mv B (W3 L) No s s' → Q (.ret (.bool true)) s') :
    wpAny (model prog w) A (execs (dRest 0) (lawE L a cd)) Q E s := by
  have hsc : ∀ {s' : Shared}, Ok B s'.heap → s'.heap.IsList sc vs.toArray := fun ok => IsList.atM hK fun o e => ok.keep sc o hKP e
  obtain ⟨hbl, hb⟩ := bnds_ok ns
  refine law_0 X S hm (hsc S.ok) hi hlen fun s1 t1 v1 S1 => ?_
  refine law_1 X hh S1 hm (hsc S1.ok) hi hlen fun s2 D ys v2 S2 hD hys => ?_
  refine law_2 X S2 (if_pos rfl) hD hys (by omega) fun s3 K v3 S3 hKt => ?_
  have hD := PlainL.mv hD v3 S2.nq S2.ok
  refine law_3 X S3 fun s4 t2 v4 S4 => ?_
  have hD := PlainL.mv hD v4 S3.nq S3.ok
  have hKt := hKt.mv v4 (fun b h => (S3.nq b h).nt) S3.ok
  refine law_4 S4 fun s5 v5 S5 => ?_
  have hD := PlainL.mv hD v5 S4.nq S4.ok
  have hKt := hKt.mv v5 (fun b h => (S4.nq b h).nt) S4.ok
  have q1 := Int.fmod_nonneg_of_pos (fstOf ns) (show (0 : Int) < 16 by decide)
  have q2 := Int.fmod_lt_of_pos (fstOf ns) (show (0 : Int) < 16 by decide)
  generalize htot : (fstOf ns).fmod 16 - 3 = tot at *
  refine law_5 X F.F7 hh hd S5 ((if_neg (by decide)).trans ((if_neg (by decide)).trans (if_pos rfl))) hD hys (by omega) hb (if_pos rfl) fun s6 m6 v6' v6 S6 hm6 hdu6 hdue => ?_
  have hD := PlainL.mv hD v6 S5.nq S5.ok
  have hKt := hKt.mv v6 (fun b h => (S5.nq b h).nt) S5.ok
  have hb1 : ∀ b ∈ bnds ns, -1 ≤ b := fun b h => (hb b h).1
  have hpl : 0 ≤ tot → fixedRows (bnds ns) tot = (vecs (bnds ns)).filter fun r => r.sum == tot := fun h => plain_fixed _ tot hb1 h
  have hdd : (if tot < 0 then none else some ((vecs (bnds ns)).filter fun r => r.sum == tot)) = if tot < 0 then none else some (fixedRows (bnds ns) tot) := by
    by_cases h : tot < 0
    · rw [if_pos h, if_pos h]
    · rw [if_neg h, if_neg h, hpl (by omega)]
  refine law_6 X F hh hd hu hfr S6 ((hm6 "bounds" (by decide)).trans ((if_neg (by decide)).trans ((if_neg (by decide)).trans (if_pos rfl)))) hD hys ((hm6 "kept" (by decide)).trans ((if_neg (by decide)).trans (if_pos rfl))) hKt (by omega) hb (by omega) hdu6 hdue hdd (fun h => ?_) fun s7 v7 S7 => ?_
  · rw [hpl h]
    have h1 := vecs_length _ (bnds ns) rfl fun b h => (hb b h).2
    have h2 : 4 ^ (bnds ns).length ≤ 4 ^ 4 := Nat.pow_le_pow_right (by decide) hbl
    have h3 := List.length_filter_le (fun r : List Int => r.sum == tot) (vecs (bnds ns))
    exact Nat.le_trans (by omega) sizeLine_big
  refine law_7 X S7 fun s8 t8 v8 S8 => ?_
  refine law_8 X S8 fun s9 t9 v9 S9 => ?_
  have n1 := Int.fmod_nonneg_of_pos ((fstOf ns).fdiv 16) (show (0 : Int) < 10 by decide)
  have n2 := Int.fmod_lt_of_pos ((fstOf ns).fdiv 16) (show (0 : Int) < 10 by decide)
  have k1 := Int.fmod_nonneg_of_pos ((fstOf ns).fdiv 160) (show (0 : Int) < 8 by decide)
  have k2 := Int.fmod_lt_of_pos ((fstOf ns).fdiv 160) (show (0 : Int) < 8 by decide)
  have hms : (fun z => if z = ("many" : Str) then some (Value.int (((fstOf ns).fdiv 160).fmod 8 - 3) t9) else if z = ("number" : Str) then some (Value.int (((fstOf ns).fdiv 16).fmod 10 - 3) t8) else m6 z) ("script" : Str) = some (.ref sc) :=
    (if_neg (by decide)).trans ((if_neg (by decide)).trans ((hm6 "script" (by decide)).trans ((if_neg (by decide)).trans ((if_neg (by decide)).trans ((if_neg (by decide)).trans hm)))))
  refine law_9 X S9 hms (hsc S9.ok) hi hlen ((if_neg (by decide)).trans (if_pos rfl)) (if_pos rfl) (by omega) (by omega) fun s10 m10 n k t10 t10' v10 S10 hm10 hn10 hk10 hnr hkr => ?_
  refine law_10 S10 fun s11 v11 S11 => ?_
  refine law_11 X F hh hd S11 ((if_neg (by decide)).trans hn10) ((if_neg (by decide)).trans hk10) hnr hkr (if_pos rfl) fun s12 m12 w12 v12 S12 hm12 hdu12 hdue12 => ?_
  have hpw : 0 ≤ n → 0 ≤ k → weakRows n k.toNat = partsL k.toNat n := fun h h' => plain_weak h (by omega) (by omega)
  have hdw : (if n < 0 ∨ k < 0 then none else some (partsL k.toNat n)) = if n < 0 ∨ k < 0 then none else some (weakRows n k.toNat) := by
    by_cases h : n < 0 ∨ k < 0
    · rw [if_pos h, if_pos h]
    · rw [if_neg h, if_neg h, hpw (by omega) (by omega)]
  refine law_12 X F hh hd hu hfr S12 ((hm12 "number" (by decide)).trans ((if_neg (by decide)).trans hn10)) ((hm12 "many" (by decide)).trans ((if_neg (by decide)).trans hk10)) hnr hkr hdu12 hdue12 hdw (fun h => ?_) fun s13 v13 S13 => ?_
  · rw [plain_weak h (by omega) (by omega)]
    have h1 := partsL_length k.toNat n (by omega)
    have h2 : 11 ^ k.toNat ≤ 11 ^ 4 := Nat.pow_le_pow_right (by decide) (by omega)
    exact Nat.le_trans (Nat.le_trans h1 h2) (Nat.le_trans (by decide) sizeLine_big)
  refine law_13 X S13 fun s14 t14 v14 S14 => ?_
  have p1 := Int.fmod_nonneg_of_pos ((fstOf ns).fdiv 7) (show (0 : Int) < 6 by decide)
  have p2 := Int.fmod_lt_of_pos ((fstOf ns).fdiv 7) (show (0 : Int) < 6 by decide)
  obtain ⟨p, hp⟩ : ∃ p : Nat, ((fstOf ns).fdiv 7).fmod 6 = (p : Int) := ⟨(((fstOf ns).fdiv 7).fmod 6).toNat, by omega⟩
  rw [hp] at S14 p1 p2
  have hp5 : p ≤ 5 := by omega
  obtain ⟨hch, hcl⟩ := plain_opt0 ⟨p, by omega⟩
  simp only at hch hcl
  refine law_14 X F hh hd S14 (if_pos rfl) hp5 fun s15 DD zs v15 S15 hPD hzs => ?_
  refine law_15 X F hh hd hu S15 ((if_neg (by decide)).trans (if_pos rfl)) hp5 (by omega) fun s16 T ws v16 S16 hPT hws => ?_
  have hPD := PlainL.mv hPD v16 S15.nq S15.ok
  have hzs := hzs.mono fun r v h => firm_pr.mv h v16 (fun b h => (S15.nq b h).nt) S15.ok
  rw [← hch] at hzs
  refine law_16 X hh hu S16 (if_pos rfl) hPT hws (fun r h => ?_) fun s17 m17 v17 S17 hm17 => ?_
  · rw [List.mem_map] at h
    obtain ⟨q, hq, rfl⟩ := h
    rw [hch] at hq
    have := vecs_row p _ (by simp) q hq
    show q.length ≤ 1000
    omega
  have hPD := PlainL.mv hPD v17 S16.nq S16.ok
  have hPT := PlainL.mv hPT v17 S16.nq S16.ok
  have hzs := hzs.mono fun r v h => firm_pr.mv h v17 (fun b h => (S16.nq b h).nt) S16.ok
  have hws := hws.mono fun r v h => firm_pr.mv h v17 (fun b h => (S16.nq b h).nt) S16.ok
  refine law_17 hu S17 ((hm17 "told" (by decide) (by decide)).trans (if_pos rfl)) hPT hws ((hm17 "due" (by decide) (by decide)).trans ((if_neg (by decide)).trans (if_pos rfl))) hPD hzs (hQ _ ?_)
  exact (((((((((((((((v1.then v2).then v3).then v4).then v5).then v6).then v7).then v8).then v9).then v10).then v11).then v12).then v13).then v14).then v15).then v16).then v17
end
end Mine
end

section
open PySem PySem.W PySem.Calls PyProof.Rows
set_option linter.unusedVariables false
set_option Elab.async false
set_option maxRecDepth 100000
namespace Mine
open Sem (wp)

theorem rec1 : ∃ p, (⟨dName 1, dArgs 1, dBody 1, dScope 1, p⟩ : DefRec) ∈ recsOf Mine.hd.view_39 := ⟨_, List.mem_of_getElem? (i := 0) rfl⟩
theorem rec2 : ∃ p, (⟨dName 2, dArgs 2, dBody 2, dScope 2, p⟩ : DefRec) ∈ recsOf Mine.hd.view_39 := ⟨_, List.mem_of_getElem? (i := 1) rfl⟩
theorem rec3 : ∃ p, (⟨dName 3, dArgs 3, dBody 3, dScope 3, p⟩ : DefRec) ∈ recsOf Mine.hd.view_39 := ⟨_, List.mem_of_getElem? (i := 2) rfl⟩
theorem rec4 : ∃ p, (⟨dName 4, dArgs 4, dBody 4, dScope 4, p⟩ : DefRec) ∈ recsOf Mine.hd.view_39 := ⟨_, List.mem_of_getElem? (i := 3) rfl⟩
theorem rec5 : ∃ p, (⟨dName 5, dArgs 5, dBody 5, dScope 5, p⟩ : DefRec) ∈ recsOf Mine.hd.view_39 := ⟨_, List.mem_of_getElem? (i := 4) rfl⟩
theorem rec7 : ∃ p, (⟨dName 7, dArgs 7, dBody 7, dScope 7, p⟩ : DefRec) ∈ recsOf Mine.hd.view_39 := ⟨_, List.mem_of_getElem? (i := 5) rfl⟩
theorem rec8 : ∃ p, (⟨dName 8, dArgs 8, dBody 8, dScope 8, p⟩ : DefRec) ∈ recsOf Mine.hd.view_39 := ⟨_, List.mem_of_getElem? (i := 6) rfl⟩
theorem rec9 : ∃ p, (⟨dName 9, dArgs 9, dBody 9, dScope 9, p⟩ : DefRec) ∈ recsOf Mine.hd.view_39 := ⟨_, List.mem_of_getElem? (i := 7) rfl⟩

theorem free_names : ∀ x ∈ (["range", "len", "sum", "max", "min", "tuple", "list", "zip", "isinstance", "bool", "ValueError"] : List Str),
    x ∉ startupNames ∧ x ∉ looseW Mine.hd.view_39 [] ∧ x ∉ (recsOf Mine.hd.view_39).map (·.name) ∧ x ∉ (litsOf Mine.hd.view_39).map (·.1) ∧ x ∉ (clssOf Mine.hd.view_39 (looseW Mine.hd.view_39 [])).map (·.name) := by
  decide +kernel

section
variable {prog : Program} {w : World} {mg mb : Str → Option Value} {mean : ExcName → Option Value} {s₁ : Shared}

theorem law_enter (T : Top Mine.hd.view_39 (looseW Mine.hd.view_39 []) mean mg mb s₁.heap) {fa : Addr} {o : Obj} {pm cd doc : Value} (ho : s₁.heap.get? fa = some o)
    (hda : o.data = .func (docDef (dName 10) (dArgs 10) (dBody 10) (dScope 10) pm cd doc)) (hcd : s₁.heap.CodeRec cd (dName 10)) {sc : Addr} {vs : List Value} {ns : List Int}
    (hsc : s₁.heap.IsList sc vs.toArray) (hi : IntsAre vs ns) (hlen : ns.length ≤ 63) (hg : s₁.gens = #[]) {R : Result → Shared → Prop}
    (hR : ∀ s', OldK s₁.heap s'.heap → s'.os = s₁.os → AllBare s'.gens → R (.ok (.ret (.bool true))) s') :
    codeAny (model prog w) callerA (.call (.ref fa) ⟨[.ref sc], []⟩) R s₁ := by
  obtain ⟨p1, r1⟩ := rec1
  obtain ⟨p2, r2⟩ := rec2
  obtain ⟨p3, r3⟩ := rec3
  obtain ⟨p4, r4⟩ := rec4
  obtain ⟨p5, r5⟩ := rec5
  obtain ⟨p7, r7⟩ := rec7
  obtain ⟨p8, r8⟩ := rec8
  obtain ⟨p9, r9⟩ := rec9
  obtain ⟨a4, o4, fd4, c, P, g4, e4, d4, k4, hcode, htab⟩ := T.tab _ r4
  obtain ⟨b4, u4, pm4, cd4, doc4, n4, x4, y4, z4⟩ := T.fn _ r4
  have q4 : a4 = b4 := by rw [g4] at n4; cases n4; rfl
  subst q4
  rw [e4] at x4
  cases x4
  rw [d4] at y4
  cases y4
  have k4' : cd4 = .ref c := k4
  subst k4'
  let B : Gnd := ⟨s₁.heap, c, P⟩
  have okB : Ok B s₁.heap := ⟨fun _ _ _ e => e, #[], hcode, htab⟩
  have X : Wd mg mb B := by
    refine ⟨T.g, T.b, T.builtins, T.nolimit, ⟨#[], htab.2, by intro q t; simp⟩, fun x hx => ?_, T.bmain, by decide⟩
    obtain ⟨h1, h2, h3, h4, h5⟩ := free_names x hx
    exact T.free x h1 h2 h3 h4 h5
  obtain ⟨b7, u7, pm7, cd7, doc7, n7, x7, y7, z7⟩ := T.fn _ r7
  obtain ⟨b8, u8, pm8, cd8, doc8, n8, x8, y8, z8⟩ := T.fn _ r8
  obtain ⟨b9, u9, pm9, cd9, doc9, n9, x9, y9, z9⟩ := T.fn _ r9
  let F : Defs B mg := { f4 := a4, o4 := o4, pm4 := pm4, doc4 := doc4, f7 := b7, o7 := u7, pm7 := pm7, cd7 := cd7, doc7 := doc7, f8 := b8, o8 := u8, pm8 := pm8, cd8 := cd8, doc8 := doc8, f9 := b9, o9 := u9, pm9 := pm9, cd9 := cd9, doc9 := doc9, F1 := T.fn _ r1, F2 := T.fn _ r2, F3 := T.fn _ r3, F5 := T.fn _ r5, F4 := ⟨g4, e4, d4, z4⟩, F7 := ⟨n7, x7, y7, z7⟩, F8 := ⟨n8, x8, y8, z8⟩, F9 := ⟨n9, x9, y9, z9⟩ }
  refine codeAny_call_cells (fd := docDef (dName 10) (dArgs 10) (dBody 10) (dScope 10) pm cd doc) (body := dBody 10) (binds := [("script", .ref sc)]) (by decide) ho hda T.nolimit hcd rfl rfl rfl ?_ (fun s₂ hIn => ?_)
  · intro x hx
    simp only [List.mem_singleton] at hx
    subst hx
    exact .inl rfl
  obtain ⟨hsame, hns, hkeep, hfresh⟩ := hIn.toInCall
  have okL := okB.new (Nat.le_refl s₁.heap.objs.size)
  have ok1 := okB.new (Nat.le_succ s₁.heap.objs.size)
  have ok2 := okB.new (Nat.le_add_right s₁.heap.objs.size 2)
  have c1 := hIn.cell ("first" : Str) (s₁.heap.objs.size + 1) rfl
  have c2 := hIn.cell ("total" : Str) (s₁.heap.objs.size + 2) rfl
  have S : LS B s₁.heap.objs.size none none _ s₂ := ⟨okB.keeps hkeep, hns, c1, c2, okL, ok1, ok2⟩
  refine law_all (A := callerA.deeper (lawE s₁.heap.objs.size fa cd)) X F rfl (by show callerA.depth + 1 ≤ 400; decide) (by show callerA.units + 3 ≤ 1000; decide) (Around.frames_deeper rfl) S rfl hsc (IsList.neP okB hsc) hi hlen fun s' mv => hR s' ?_ ?_ ?_
  · obtain ⟨ps, _, ht⟩ := (mv.ok S.ok).tab
    have kk : ∀ b o, b ≠ P → s₁.heap.get? b = some o → s'.heap.get? b = some o := fun b o hb e => mv.heap b o (fun h => by
      have hl := Heap.lt_size e
      rcases h with h | h | h
      · exact absurd hl (Nat.not_lt.mpr (Nat.le_of_eq h.symm))
      · exact absurd hl (Nat.not_lt.mpr (by rw [h]; exact Nat.le_succ _))
      · exact absurd hl (Nat.not_lt.mpr (by rw [h]; exact Nat.le_add_right _ 2))) hb (hkeep b o e)
    have hP0 := htab.2
    refine ⟨fun b o e => ?_, fun b o e => ?_⟩
    · by_cases hb : b = P
      · subst hb
        have e₀ := Option.some.inj (e.symm.trans hP0)
        subst e₀
        exact .inr (.inl ⟨htab.isCodeTable, rfl, #[], ps, rfl, by simpa using ht.2⟩)
      · exact .inl (kk b o hb e)
    · by_cases hb : b = P
      · exact ⟨_, by rw [hb]; exact ht.2⟩
      · exact ⟨o, kk b o hb e⟩
  · obtain ⟨h', tk, rfl, _⟩ := hIn.done
    exact mv.os
  · refine mv.bare ?_
    obtain ⟨h', tk, rfl, _⟩ := hIn.done
    exact .of_eq hg
end
end Mine
end

open PySem PySem.W PySem.Calls PyProof.Rows
set_option linter.unusedVariables false
set_option Elab.async false
set_option maxRecDepth 100000
set_option maxHeartbeats 4000000
namespace Mine
theorem fin_good {cl : PySem.Str → Option Addr} {mean : ExcName → Option Value} {ns : List Int} {s₁ s' : Shared} (h1 : OldK s₁.heap s'.heap) (h2 : s'.os = s₁.os) (h3 : AllBare s'.gens) :
    GoodWG PySem.Challenge.rw_jf0026_01.row.claim cl mean [ofPy (PyData.list (List.map PyData.int ns))] s₁ (.ok (.ret (.bool true))) s' := by
  refine ⟨.inl ⟨_, .bool true, [], rfl, ?_, .bool true, ?_, ?_⟩, h1, h2, h3⟩
  · intro cls; rfl
  · kernel_rfl
  · intro _; exact ⟨.nil, fun a h => by cases h⟩
end Mine
theorem PySem.Challenge.cw_jf0026_01_holds : PySem.Challenge.rw_jf0026_01.Holds :=
  Mine.hd (by
  k_fill
  intro w s₀ s₁ mg mb G Y fa o pm cd doc dV kV ho hda hcd hD hmg hg args vals as hpre hlay hrd hwl hlo
  refine Ground.open G ?_
  intro T B D TE TW
  try (refine guard_noD D (by decide +kernel) ?_; clear D)
  wrow_args hpre hlay hrd hwl hlo
  all_goals (refine enter_call ?_)
  rename_i hL ra w1 r0 hI hr hc1 hc2
  have e1 : dV = .none := hD.pos.elim (·.2) fun h => absurd rfl h.1
  have e2 : kV = .none := hD.kw.elim (·.2) fun h => absurd rfl h.1
  subst e1
  subst e2
  exact Mine.law_enter T ho hda hcd hL hI (by omega) hg fun s' h1 h2 h3 => Mine.fin_good h1 h2 h3)
