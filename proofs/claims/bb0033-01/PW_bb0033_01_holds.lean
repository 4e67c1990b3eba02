import PyProof.Rows.All
import Wide.All
import OpenK.AllK
import Wide.FinOn
import Lean
import PySem.Challenge.RW_bb0033_01
set_option Elab.async false
set_option linter.unusedVariables false
set_option linter.ambiguousOpen false
set_option maxRecDepth 100000
set_option maxHeartbeats 0
namespace Mine
open PySem PySem.W PyProof.Rows PySem.Calls
/-! ## An abstract state: what is known of a frame -/

abbrev OP := Obj → Prop

structure St where
  l : List (Str × Value)
  ν : List (Addr × OP)
  g : Array GenState

structure Cx where
  h : Heap
  L : Addr
  os : OsState

structure Rep (c : Cx) (σ : St) (s : Shared) : Prop where
  ns : ∃ m, s.heap.Ns c.L m ∧ ∀ p ∈ σ.l, m p.1 = some p.2
  lnd : (σ.l.map (·.1)).Nodup
  keep : ∀ b o, c.h.get? b = some o → s.heap.get? b = some o
  fr : c.h.get? c.L = none
  ok : ∀ p ∈ σ.ν, ∃ o, s.heap.get? p.1 = some o ∧ p.2 o
  own : ∀ p ∈ σ.ν, p.1 ≠ c.L ∧ c.h.get? p.1 = none
  nd : (σ.ν.map (·.1)).Nodup
  os : s.os = c.os
  gens : s.gens = σ.g

def Le (c : Cx) (σ σ' : St) : Prop := ∀ s, Rep c σ s → Rep c σ' s

namespace Rep
variable {c : Cx} {σ : St} {s s' : Shared} {l l' : List (Str × Value)} {ν : List (Addr × OP)} {g : Array GenState}

theorem keeps (r : Rep c σ s) (hk : ∀ b o, s.heap.get? b = some o → s'.heap.get? b = some o) (ho : s'.os = s.os) (hg : s'.gens = s.gens) : Rep c σ s' where
  ns := let ⟨m, hn, hm⟩ := r.ns; ⟨m, hn.at' fun o e => hk _ o e, hm⟩
  lnd := r.lnd
  keep := fun b o e => hk b o (r.keep b o e)
  fr := r.fr
  ok := fun p hp => let ⟨o, e, q⟩ := r.ok p hp; ⟨o, hk _ _ e, q⟩
  own := r.own
  nd := r.nd
  os := ho.trans r.os
  gens := hg.trans r.gens

theorem toks (r : Rep c σ s) (t : Nat) : Rep c σ { s with toks := t } := r.keeps (fun _ _ e => e) rfl rfl

theorem none_of_fresh (r : Rep c σ s) {a : Addr} (ha : s.heap.get? a = none) : c.h.get? a = none := by
  cases e : c.h.get? a with
  | none => rfl
  | some o => have := r.keep a o e; rw [ha] at this; cases this

theorem ne_L (r : Rep c σ s) {a : Addr} (ha : s.heap.get? a = none) : a ≠ c.L := by
  obtain ⟨m, ⟨o, es, ep, e, _⟩, _⟩ := r.ns
  rintro rfl
  rw [ha] at e; cases e

/-- new objects: any number of them -/
theorem allocs (r : Rep c ⟨l, ν, g⟩ s) (ρ : List (Addr × OP)) (hk : ∀ b o, s.heap.get? b = some o → s'.heap.get? b = some o)
    (hρ : ∀ p ∈ ρ, (∃ o, s'.heap.get? p.1 = some o ∧ p.2 o) ∧ s.heap.get? p.1 = none) (hnd : (ρ.map (·.1)).Nodup) (ho : s'.os = s.os) (hg : s'.gens = s.gens) : Rep c ⟨l, ρ ++ ν, g⟩ s' := by
  have r' := r.keeps hk ho hg
  refine ⟨r'.ns, r'.lnd, r'.keep, r'.fr, fun p hp => ?_, fun p hp => ?_, ?_, r'.os, r'.gens⟩
  · rcases List.mem_append.mp hp with h | h
    · exact (hρ p h).1
    · exact r'.ok p h
  · rcases List.mem_append.mp hp with h | h
    · exact ⟨r.ne_L (hρ p h).2, r.none_of_fresh (hρ p h).2⟩
    · exact r'.own p h
  · show ((ρ ++ ν).map (·.1)).Nodup
    rw [List.map_append, List.nodup_append]
    refine ⟨hnd, r.nd, fun a ha b hb e => ?_⟩
    subst e
    obtain ⟨p, hp, rfl⟩ := List.mem_map.mp ha
    obtain ⟨q, hq, e⟩ := List.mem_map.mp hb
    obtain ⟨o, eo, _⟩ := r.ok q hq
    rw [e, (hρ p hp).2] at eo; cases eo

theorem alloc (r : Rep c ⟨l, ν, g⟩ s) {a : Addr} {P : OP} {o : Obj} (hk : ∀ b o, s.heap.get? b = some o → s'.heap.get? b = some o)
    (e : s'.heap.get? a = some o) (hP : P o) (hf : s.heap.get? a = none) (ho : s'.os = s.os) (hg : s'.gens = s.gens) : Rep c ⟨l, (a, P) :: ν, g⟩ s' :=
  r.allocs [(a, P)] hk (fun p hp => by rw [List.mem_singleton.mp hp]; exact ⟨⟨o, e, hP⟩, hf⟩) (by simp) ho hg

theorem push (r : Rep c ⟨l, ν, g⟩ s) {P : OP} (o : Obj) (hP : P o) (hfree : o.isFreed = false := by rfl) : Rep c ⟨l, (s.heap.objs.size, P) :: ν, g⟩ { s with heap := s.heap.push o } :=
  r.alloc (fun _ _ e => Heap.get?_push_of_some _ e) (Heap.get?_push_size _ hfree) hP (by
    cases e : s.heap.get? s.heap.objs.size with
    | none => rfl
    | some o' => exact absurd (Heap.lt_size e) (Nat.lt_irrefl _)) rfl rfl

theorem pushKeep (r : Rep c σ s) (o : Obj) : Rep c σ { s with heap := s.heap.push o } :=
  r.keeps (fun _ _ e => Heap.get?_push_of_some _ e) rfl rfl

/-- fewer words -/
theorem sub (r : Rep c ⟨l, ν, g⟩ s) {ν' : List (Addr × OP)} (hs : ∀ p ∈ l', p ∈ l) (hl : (l'.map (·.1)).Nodup) (hν : ∀ p ∈ ν', p ∈ ν) (hn : (ν'.map (·.1)).Nodup) : Rep c ⟨l', ν', g⟩ s where
  ns := let ⟨m, hn, hm⟩ := r.ns; ⟨m, hn, fun p hp => hm p (hs p hp)⟩
  lnd := hl
  keep := r.keep
  fr := r.fr
  ok := fun p hp => r.ok p (hν p hp)
  own := fun p hp => r.own p (hν p hp)
  nd := hn
  os := r.os
  gens := r.gens
end Rep

inductive Upd {α β : Type} (a : α) (P P' : β) : List (α × β) → List (α × β) → Prop
  | head {r} : Upd a P P' ((a, P) :: r) ((a, P') :: r)
  | tail {p r r'} : Upd a P P' r r' → Upd a P P' (p :: r) (p :: r')

namespace Upd
variable {α β : Type} {a : α} {P P' : β}
theorem split : ∀ {l l' : List (α × β)}, Upd a P P' l l' → ∃ pre post, l = pre ++ (a, P) :: post ∧ l' = pre ++ (a, P') :: post
  | _, _, .head => ⟨[], _, rfl, rfl⟩
  | _, _, .tail (p := p) r => let ⟨pre, post, a, b⟩ := r.split; ⟨p :: pre, post, by rw [a]; rfl, by rw [b]; rfl⟩
theorem fst {l l' : List (α × β)} (u : Upd a P P' l l') : l'.map (·.1) = l.map (·.1) := by
  obtain ⟨pre, post, rfl, rfl⟩ := u.split; simp
theorem mem {l l' : List (α × β)} (u : Upd a P P' l l') : (a, P) ∈ l := by
  obtain ⟨pre, post, rfl, rfl⟩ := u.split; simp
theorem mem' {l l' : List (α × β)} (u : Upd a P P' l l') : (a, P') ∈ l' := by
  obtain ⟨pre, post, rfl, rfl⟩ := u.split; simp
theorem other {l l' : List (α × β)} (u : Upd a P P' l l') (hn : (l.map (·.1)).Nodup) : ∀ p ∈ l', p = (a, P') ∨ (p ∈ l ∧ p.1 ≠ a) := by
  obtain ⟨pre, post, rfl, rfl⟩ := u.split
  intro p hp
  simp only [List.map_append, List.map_cons, List.nodup_append, List.nodup_cons, List.mem_map, List.mem_cons] at hn
  rcases List.mem_append.mp hp with h | h
  · refine .inr ⟨List.mem_append_left _ h, fun e => ?_⟩
    exact hn.2.2 p.1 ⟨p, h, rfl⟩ a (.inl rfl) e
  · rcases List.mem_cons.mp h with h | h
    · exact .inl h
    · refine .inr ⟨List.mem_append_right _ (.tail _ h), fun e => ?_⟩
      exact hn.2.1.1 ⟨p, h, e⟩
end Upd

namespace Rep
variable {c : Cx} {σ : St} {s s' : Shared} {l l' : List (Str × Value)} {ν ν' : List (Addr × OP)} {g : Array GenState}
theorem upd (r : Rep c ⟨l, ν, g⟩ s) {a : Addr} {P P' : OP} {o : Obj} (u : Upd a P P' ν ν') (hk : ∀ b o, b ≠ a → s.heap.get? b = some o → s'.heap.get? b = some o)
    (e : s'.heap.get? a = some o) (hP : P' o) (ho : s'.os = s.os) (hg : s'.gens = s.gens) : Rep c ⟨l, ν', g⟩ s' := by
  have own := r.own _ u.mem
  refine ⟨let ⟨m, hn, hm⟩ := r.ns; ⟨m, hn.at' fun o e => hk _ o (Ne.symm own.1) e, hm⟩, r.lnd, fun b o e => hk b o (fun q => by rw [q, own.2] at e; cases e) (r.keep b o e), r.fr, fun p hp => ?_, fun p hp => ?_,
    by show (ν'.map (·.1)).Nodup; rw [u.fst]; exact r.nd, ho.trans r.os, hg.trans r.gens⟩
  · rcases u.other r.nd p hp with rfl | ⟨h1, h2⟩
    · exact ⟨o, e, hP⟩
    · obtain ⟨o', e', q⟩ := r.ok p h1
      exact ⟨o', hk _ _ h2 e', q⟩
  · rcases u.other r.nd p hp with rfl | ⟨h1, h2⟩
    · exact own
    · exact r.own p h1

theorem setL (r : Rep c ⟨l, ν, g⟩ s) {m : Str → Option Value} (hs : Heap.SameBut c.L s.heap s'.heap) (hn : s'.heap.Ns c.L m) (hm : ∀ p ∈ l', m p.1 = some p.2) (hl : (l'.map (·.1)).Nodup)
    (ho : s'.os = s.os) (hg : s'.gens = s.gens) : Rep c ⟨l', ν, g⟩ s' where
  ns := ⟨m, hn, hm⟩
  lnd := hl
  keep := fun b o e => hs.extBut b o (fun q => by rw [q, r.fr] at e; cases e) (r.keep b o e)
  fr := r.fr
  ok := fun p hp => let ⟨o, e, q⟩ := r.ok p hp; ⟨o, hs.extBut _ _ (r.own p hp).1 e, q⟩
  own := r.own
  nd := r.nd
  os := ho.trans r.os
  gens := hg.trans r.gens
end Rep

/-! ## The kit's logic over the contexts in which no code holds a bytearray's memory -/

def lendIds : List String := ["bytearray.__contains__", "bytearray.__mod__", "bytearray.__rmod__", "_struct.pack_into.held", "bytearray.find.held"] ++ Builtin.Bytes.decodersThatHold
def lends : Code → Bool
  | .builtin id _ => lendIds.contains id
  | _ => false
def NoLend (Γ : Ctx) : Prop := lends Γ.code = false ∧ ∀ x ∈ Γ.below, lends x.1 = false

theorem NoLend.goto {Γ : Ctx} (h : NoLend Γ) {c : Code} (hc : lends c = false) : NoLend (Γ.goto c) := ⟨hc, h.2⟩
theorem NoLend.enter {Γ : Ctx} (h : NoLend Γ) {c : Code} (hc : lends c = false) (hd : Option Value) (p : Pos) : NoLend (Γ.enter c hd p) :=
  ⟨hc, fun x hx => by rcases List.mem_cons.mp hx with rfl | hx; exact h.1; exact h.2 x hx⟩

def wpN {α : Type} (M : Model) (A : Around) (t : Sem α) (Q : α → Shared → Prop) (E : Value → Shared → Prop) (s : Shared) : Prop :=
  ∀ Γ p, Γ.In A → NoLend Γ → Sem.wp M Γ t (fun a _ s' => Q a s') (fun e _ s' => E e s') p s
def codeN (M : Model) (A : Around) (c : Code) (R : Result → Shared → Prop) (s : Shared) : Prop :=
  ∀ Γ p, Γ.code = c → Γ.Below A → NoLend Γ → wpCode M Γ R p s

section
variable {α β : Type} {M : Model} {A : Around} {E : Value → Shared → Prop} {s : Shared}
theorem wpN_any {t : Sem α} {Q : α → Shared → Prop} (h : wpAny M A t Q E s) : wpN M A t Q E s := fun Γ p hΓ _ => h Γ p hΓ
theorem codeN_any {c : Code} {R : Result → Shared → Prop} (h : codeAny M A c R s) : codeN M A c R s := fun Γ p hc hΓ _ => h Γ p hc hΓ
theorem wpN_pure {a : α} {Q : α → Shared → Prop} (h : Q a s) : wpN M A (pure a) Q E s := fun _ _ _ _ => h
theorem wpN_mono {t : Sem α} {Q Q' : α → Shared → Prop} {E' : Value → Shared → Prop} (h : wpN M A t Q E s) (hQ : ∀ a s, Q a s → Q' a s) (hE : ∀ e s, E e s → E' e s) : wpN M A t Q' E' s :=
  fun Γ p hΓ hn => Sem.wp_mono M Γ t (fun a _ s => hQ a s) (fun e _ s => hE e s) p s (h Γ p hΓ hn)
theorem wpN_bind {m : Sem α} {f : α → Sem β} {Q : β → Shared → Prop} (h : wpN M A m (fun a s' => wpN M A (f a) Q E s') E s) : wpN M A (m >>= f) Q E s := fun Γ p hΓ hn => by
  rw [Sem.wp_bind']
  exact Sem.wp_mono M Γ m (fun a p' s' h' => h' Γ p' hΓ hn) (fun _ _ _ h' => h') p s (h Γ p hΓ hn)
theorem wpN_tryCatch {m : Sem α} {k : Value → Sem α} {Q : α → Shared → Prop} (h : wpN M A m Q (fun e s' => wpN M A (k e) Q E s') s) : wpN M A (tryCatch m k) Q E s := fun Γ p hΓ hn => by
  rw [Sem.wp_tryCatch']
  exact Sem.wp_mono M Γ m (fun _ _ _ h' => h') (fun e p' s' h' => h' Γ p' hΓ hn) p s (h Γ p hΓ hn)
theorem wpN_onRaise {m : Sem α} {k : Value → Sem Unit} {Q : α → Shared → Prop} (h : wpN M A m Q (fun e s' => wpN M A (k e) (fun _ s'' => E e s'') E s') s) : wpN M A (m.onRaise k) Q E s := fun Γ p hΓ hn => by
  rw [Sem.wp_onRaise]
  exact Sem.wp_mono M Γ m (fun _ _ _ h' => h') (fun e p' s' h' => h' Γ p' hΓ hn) p s (h Γ p hΓ hn)
theorem wpN_attempt {m : Sem α} {Q : Except Value α → Shared → Prop} (h : wpN M A m (fun a => Q (.ok a)) (fun e => Q (.error e)) s) : wpN M A m.attempt Q E s := fun Γ p hΓ hn => by
  rw [Sem.wp_attempt]; exact h Γ p hΓ hn
theorem wpN_holding {vs : List Value} {m : Sem α} {Q : α → Shared → Prop} (h : wpN M A m Q E s) : wpN M A (holding vs m) Q E s := fun Γ p hΓ hn => by
  rw [Sem.wp_holding]; exact h Γ p hΓ hn
theorem wpN_keep {vs : List Value} {m : Sem α} {Q : α → Shared → Prop} (h : wpN M A m Q E s) : wpN M A (m.keep vs) Q E s := fun Γ p hΓ hn => by
  rw [Sem.wp_keep]; exact h Γ p hΓ hn
theorem wpN_operate {vs : List Value} {m : Sem Value} {Q : Value → Shared → Prop} (h : wpN M A m Q E s) : wpN M A (operate vs m) Q E s := fun Γ p hΓ hn => by
  rw [Sem.wp_operate]; exact h Γ p hΓ hn
theorem wpN_ite {c : Prop} [Decidable c] {a b : Sem α} {Q : α → Shared → Prop} (h : if c then wpN M A a Q E s else wpN M A b Q E s) : wpN M A (if c then a else b) Q E s := by
  split <;> simp_all
theorem codeN_mono {c : Code} {R R' : Result → Shared → Prop} (h : codeN M A c R s) (hR : ∀ r s, R r s → R' r s) : codeN M A c R' s := fun Γ p hc hΓ hn => wpCode_mono hR (h Γ p hc hΓ hn)
theorem wpN_run {c : Code} {h : Option Value} {Q : Flow → Shared → Prop} (hc : codeN M (A.mark h) c (fun r s' => match r with | .ok f => Q f s' | .error e => E e s') s) (hl : lends c = false)
    (hnb : h ≠ some byPass := by intro x; cases x) : wpN M A (run c h) Q E s := fun Γ p hΓ hn => by
  rw [Sem.wp_run]; exact hc _ p rfl (hΓ.enter c h p hnb) (hn.enter hl h p)
theorem wpN_runValue {c : Code} {Q : Value → Shared → Prop} (hc : codeN M A c (fun r s' => match r with | .ok (.ret v) => Q v s' | .ok _ => False | .error e => E e s') s) (hl : lends c = false) :
    wpN M A (runValue c) Q E s := fun Γ p hΓ hn => by
  rw [Sem.wp_runValue]; exact hc _ p rfl (hΓ.enter c none p (by intro x; cases x)) (hn.enter hl none p)
theorem wpN_call {f : Value} {pos : List Value} {kw : List (Str × Value)} {Q : Value → Shared → Prop} (hc : codeN M A (.call f ⟨pos, kw⟩) (fun r s' => match r with | .ok (.ret v) => Q v s' | .ok _ => False | .error e => E e s') s) :
    wpN M A (call f pos kw) Q E s := wpN_runValue hc rfl
theorem codeN_of_tree {c : Code} {R : Result → Shared → Prop}
    (h : wpN M (A.under c) (M.den c) (fun fin s' => match fin with | .done f => R (.ok f) s' | .again c' => c'.quiet = true ∧ lends c' = false ∧ codeN M A c' R s') (fun e s' => R (.error e) s') s) : codeN M A c R s := fun Γ p hc hΓ hn => by
  rw [wpCode_iff_wp, hc]
  refine Sem.wp_mono M Γ _ (fun fin p' s' h' => ?_) (fun _ _ _ h' => h') p s (h Γ p (hc ▸ hΓ.in) hn)
  cases fin with
  | done f => exact h'
  | again c' => exact ⟨h'.1, h'.2.2 (Γ.goto c') p' rfl (hΓ.goto c') (hn.goto h'.2.1)⟩
theorem codeN_loop {c : Code} {R : Result → Shared → Prop} (hq : c.quiet = true) (I : Nat → Shared → Prop)
    (turn : ∀ n s, I n s → wpN M (A.under c) (M.den c) (fun fin s' => match fin with | .done f => R (.ok f) s' | .again c' => (c' = c ∧ ∃ m, m < n ∧ I m s') ∨ (c'.quiet = true ∧ lends c' = false ∧ codeN M A c' R s')) (fun e s' => R (.error e) s') s)
    (hl : lends c = false) (n : Nat) (h : I n s) : codeN M A c R s := by
  induction n using Nat.strongRecOn generalizing s with
  | ind n ih =>
    refine codeN_of_tree (wpN_mono (turn n s h) (fun fin s' hf => ?_) fun _ _ h' => h')
    cases fin with
    | done f => exact hf
    | again c' =>
      rcases hf with ⟨rfl, m, hm, hI⟩ | hf
      · exact ⟨hq, hl, ih m hm hI⟩
      · exact hf
theorem wpN_with (M : Model) (A : Around) {t : Sem α} {Q : α → Shared → Prop} (h : ∀ Γ, NoLend Γ → Γ.In A → ∀ p, Sem.wp M Γ t (fun a _ s' => Q a s') (fun e _ s' => E e s') p s) : wpN M A t Q E s := fun Γ p hΓ hn => h Γ hn hΓ p
end

/-! ## The logic over the abstract state -/
section
variable (prog : Program) (w : World) (A : Around) (E : Value → Shared → Prop) (c : Cx)
def W {α : Type} (σ : St) (t : Sem α) (Q : α → St → Prop) : Prop :=
  ∀ s, Rep c σ s → wpN (model prog w) A t (fun a s' => ∃ σ', Rep c σ' s' ∧ Q a σ') E s
def NoE : Value → Shared → Prop := fun _ _ => False
end

section
variable {prog : Program} {w : World} {A : Around} {E : Value → Shared → Prop} {c : Cx} {σ : St} {α β : Type}

theorem W_pure {a : α} {Q : α → St → Prop} (h : Q a σ) : W prog w A E c σ (pure a) Q := fun s r => wpN_pure ⟨σ, r, h⟩
theorem W_mono {t : Sem α} {Q Q' : α → St → Prop} (h : W prog w A E c σ t Q) (hq : ∀ a σ', Q a σ' → Q' a σ') : W prog w A E c σ t Q' :=
  fun s r => wpN_mono (h s r) (fun a s' ⟨σ', r', q⟩ => ⟨σ', r', hq a σ' q⟩) fun _ _ e => e
theorem W_bind {m : Sem α} {f : α → Sem β} {Q : β → St → Prop} (h : W prog w A E c σ m (fun a σ' => W prog w A E c σ' (f a) Q)) : W prog w A E c σ (m >>= f) Q :=
  fun s r => wpN_bind (wpN_mono (h s r) (fun a s' ⟨σ', r', q⟩ => q s' r') fun _ _ e => e)
theorem W_le {σ' : St} {t : Sem α} {Q : α → St → Prop} (hl : Le c σ σ') (h : W prog w A E c σ' t Q) : W prog w A E c σ t Q := fun s r => h s (hl s r)
theorem W_eq {t t' : Sem α} {Q : α → St → Prop} (e : t = t') (h : W prog w A E c σ t' Q) : W prog w A E c σ t Q := e ▸ h
/-- the end may forget -/
theorem W_forget {t : Sem α} {Q : α → St → Prop} (h : W prog w A E c σ t (fun a σ' => ∃ σ'', Le c σ' σ'' ∧ Q a σ'')) : W prog w A E c σ t Q :=
  fun s r => wpN_mono (h s r) (fun a s' ⟨σ', r', σ'', hl, q⟩ => ⟨σ'', hl s' r', q⟩) fun _ _ e => e
theorem W_E {t : Sem α} {Q : α → St → Prop} (h : W prog w A NoE c σ t Q) : W prog w A E c σ t Q :=
  fun s r => wpN_mono (h s r) (fun _ _ q => q) fun _ _ e => e.elim
/-- from one rule of the kit to another -/
theorem W_any {t : Sem α} {Q : α → St → Prop} (h : ∀ s, Rep c σ s → wpAny (model prog w) A t (fun a s' => ∃ σ', Rep c σ' s' ∧ Q a σ') E s) : W prog w A E c σ t Q := fun s r => wpN_any (h s r)
theorem W_then {s : Shared} {t : Sem α} {Q : α → St → Prop} {R : α → Shared → Prop} (h : W prog w A E c σ t Q) (r : Rep c σ s) (k : ∀ a s' σ', Rep c σ' s' → Q a σ' → R a s') : wpN (model prog w) A t R E s :=
  wpN_mono (h s r) (fun a s' ⟨σ', r', q⟩ => k a s' σ' r' q) fun _ _ e => e
theorem W_holding {vs : List Value} {m : Sem α} {Q : α → St → Prop} (h : W prog w A E c σ m Q) : W prog w A E c σ (holding vs m) Q := fun s r => wpN_holding (h s r)
theorem W_keep {vs : List Value} {m : Sem α} {Q : α → St → Prop} (h : W prog w A E c σ m Q) : W prog w A E c σ (m.keep vs) Q := fun s r => wpN_keep (h s r)
theorem W_operate {vs : List Value} {m : Sem Value} {Q : Value → St → Prop} (h : W prog w A E c σ m Q) : W prog w A E c σ (operate vs m) Q := fun s r => wpN_operate (h s r)
theorem W_standAt {pos : Pos} {Q : Unit → St → Prop} (h : Q () σ) : W prog w A E c σ (standAt pos) Q := fun s r => wpN_any (wpAny_standAt ⟨σ, r, h⟩)
theorem W_point {Q : Unit → St → Prop} (h : Q () σ) : W prog w A E c σ point Q := fun s r => wpN_any (wpAny_point ⟨σ, r, h⟩)
theorem W_rule {tag : String} {Q : Unit → St → Prop} (h : Q () σ) : W prog w A E c σ (rule tag) Q := fun s r => wpN_any (wpAny_rule ⟨σ, r, h⟩)
theorem W_mkInt {i : Int} {Q : Value → St → Prop} (h : ∀ t, Q (.int i t) σ) : W prog w A E c σ (mkInt i) Q := fun s r => wpN_any (wpAny_mkInt ⟨σ, r.toks _, h _⟩)
/-- a computed value -/
theorem W_val {t : Sem α} {a : α} {Q : α → St → Prop} (e : t = pure a) (h : Q a σ) : W prog w A E c σ t Q := e ▸ W_pure h
theorem W_onRaise {m : Sem α} {k : Value → Sem Unit} {Q : α → St → Prop} (h : W prog w A NoE c σ m Q) : W prog w A E c σ (m.onRaise k) Q :=
  fun s r => wpN_onRaise (wpN_mono (h s r) (fun _ _ q => q) fun _ _ e => e.elim)
theorem W_attempt {m : Sem α} {Q : Except Value α → St → Prop} (h : W prog w A NoE c σ m (fun a σ' => Q (.ok a) σ')) : W prog w A E c σ m.attempt Q :=
  fun s r => wpN_attempt (wpN_mono (h s r) (fun _ _ q => q) fun _ _ e => e.elim)
theorem W_tryCatch {m : Sem α} {k : Value → Sem α} {Q : α → St → Prop} (h : W prog w A NoE c σ m Q) : W prog w A E c σ (tryCatch m k) Q :=
  fun s r => wpN_tryCatch (wpN_mono (h s r) (fun _ _ q => q) fun _ _ e => e.elim)

variable {env : Env}
theorem W_execs_nil {Q : Flow → St → Prop} (h : Q .next σ) : W prog w A E c σ (execs [] env) Q := W_pure h
theorem W_execs_cons {st : Stmt} {rest : List Stmt} {Q : Flow → St → Prop}
    (h : W prog w A E c σ (exec st env) (fun f σ' => match f with | .next => W prog w A E c σ' (execs rest env) Q | f => Q f σ')) : W prog w A E c σ (execs (st :: rest) env) Q := by
  rw [execs_cons]
  refine W_bind (W_mono h fun f σ' q => ?_)
  cases f <;> first | exact q | exact W_pure q
theorem W_Pass {pos : Pos} {Q : Flow → St → Prop} (h : Q .next σ) : W prog w A E c σ (exec (.Pass pos) env) Q := W_any fun s r => wpAny_Pass ⟨σ, r, h⟩
theorem W_Expr {e : Expr} {pos : Pos} {Q : Flow → St → Prop} (h : W prog w A E c σ (eval e env) (fun v σ' => match v with | .ref _ => False | _ => Q .next σ'))
    (hi : interactive env = false := by rfl) (hs : swapsWith e none pos.line env = pure false := by rfl) : W prog w A E c σ (exec (.Expr e pos) env) Q := by
  rw [exec_Expr env e pos hi hs]
  refine W_bind (W_standAt (W_bind (W_mono h fun v σ' q => ?_)))
  cases v <;> first | exact q.elim | (rw [dropValue_plain (by intro a e; cases e)]; exact W_pure q)
theorem W_bindName {x : Str} {v : Value} {Q : Unit → St → Prop} (h : W prog w A E c σ (storeName env x v) Q) : W prog w A E c σ (bindName env x v) Q := by
  unfold bindName
  refine W_bind (W_holding (W_point ?_))
  refine W_bind (W_mono h fun _ σ' q => ?_)
  exact W_point q
theorem W_Assign {x : Str} {pos' pos : Pos} {value : Expr} {Q : Flow → St → Prop} (h : W prog w A E c σ (eval value env) (fun v σ' => W prog w A E c σ' (storeName env x v) (fun _ σ'' => Q .next σ'')))
    (hs : swapsWith value (some (.Name x pos')) pos.line env = pure false := by rfl) : W prog w A E c σ (exec (.Assign [.Name x pos'] value pos) env) Q := by
  rw [exec_Assign_Name env x pos' value pos hs]
  refine W_bind (W_standAt (W_bind (W_mono h fun v σ' q => ?_)))
  refine W_bind (W_standAt (W_bind (W_bindName (W_mono q fun _ σ'' q' => ?_))))
  exact W_pure q'
theorem W_AugAssign {x : Str} {pos' pos : Pos} {op : Operator} {value : Expr} {Q : Flow → St → Prop}
    (h : W prog w A E c σ (loadName env x) (fun old σ₁ => W prog w A E c σ₁ (eval value env) (fun v σ₂ => W prog w A E c σ₂ (inplaceOp op old v) (fun r σ₃ => W prog w A E c σ₃ (storeName env x r) (fun _ σ₄ => Q .next σ₄))))) :
    W prog w A E c σ (exec (.AugAssign (.Name x pos') op value pos) env) Q := by
  rw [exec_AugAssign_Name]
  refine W_bind (W_standAt (W_bind (W_mono h fun old σ₁ q₁ => ?_)))
  refine W_bind (W_holding (W_mono q₁ fun v σ₂ q₂ => ?_))
  refine W_bind (W_standAt (W_bind (W_operate (W_mono q₂ fun r σ₃ q₃ => ?_))))
  refine W_bind (W_standAt (W_bind (W_bindName (W_mono q₃ fun _ σ'' q' => ?_))))
  exact W_pure q'
theorem W_If {test : Expr} {body orelse : List Stmt} {pos : Pos} {Q : Flow → St → Prop}
    (h : W prog w A E c σ (isTrue test env (eval test env)) (fun b σ' => if b then W prog w A E c σ' (execs body env) Q else W prog w A E c σ' (execs orelse env) Q)) : W prog w A E c σ (exec (.If test body orelse pos) env) Q := by
  rw [exec_If]
  exact W_bind (W_standAt (W_bind (W_mono h fun b σ' q => by cases b <;> exact q)))
theorem W_Return {e : Expr} {pos : Pos} {Q : Flow → St → Prop} (h : W prog w A E c σ (eval e env) (fun v σ' => Q (.ret v) σ')) : W prog w A E c σ (exec (.Return (some e) pos) env) Q := by
  rw [exec_Return_some]
  exact W_bind (W_standAt (W_bind (W_mono h fun v σ' q => W_pure q)))
theorem W_Break {pos : Pos} {Q : Flow → St → Prop} (h : Q .brk σ) : W prog w A E c σ (exec (.Break pos) env) Q := W_any fun s r => wpAny_Break ⟨σ, r, h⟩
theorem W_Nonlocal {ns : List Str} {pos : Pos} {Q : Flow → St → Prop} (h : Q .next σ) : W prog w A E c σ (exec (.Nonlocal ns pos) env) Q := W_any fun s r => wpAny_Nonlocal ⟨σ, r, h⟩

theorem W_Compare1 {l r : Expr} {op : CmpOp} {pos : Pos} {Q : Value → St → Prop}
    (h : W prog w A E c σ (eval l env) (fun a σ₁ => W prog w A E c σ₁ (eval r env) (fun b σ₂ => W prog w A E c σ₂ (compareOp op a b) Q))) (hm : behindInMarks op r = false := by with_unfolding_all rfl) :
    W prog w A E c σ (eval (.Compare l [op] [r] pos) env) Q := by
  rw [eval_Compare1]
  simp only [markedBehindIn_of_false hm]
  exact W_bind (W_mono h fun a σ₁ q₁ => W_bind (W_holding (W_mono q₁ fun b σ₂ q₂ => W_bind (W_standAt (W_operate q₂)))))
theorem W_isTrue_Compare1 {l r : Expr} {op : CmpOp} {pos : Pos} {whole : Sem Value} {Q : Bool → St → Prop}
    (h : W prog w A E c σ (eval l env) (fun a σ₁ => W prog w A E c σ₁ (eval r env) (fun b σ₂ => W prog w A E c σ₂ (compareOp op a b) (fun v σ₃ => W prog w A E c σ₃ (truthy v) Q)))) (hm : behindInMarks op r = false := by with_unfolding_all rfl) :
    W prog w A E c σ (isTrue (.Compare l [op] [r] pos) env whole) Q := by
  rw [isTrue_Compare1]
  simp only [markedBehindIn_of_false hm]
  exact W_bind (W_mono h fun a σ₁ q₁ => W_bind (W_holding (W_mono q₁ fun b σ₂ q₂ => W_bind (W_standAt (W_bind (W_operate (W_mono q₂ fun v σ₃ q₃ => W_holding q₃)))))))
theorem W_isTrue_value {e : Expr} {whole : Sem Value} {Q : Bool → St → Prop} (h : W prog w A E c σ whole (fun v σ₁ => W prog w A E c σ₁ (truthy v) Q))
    (he : isTrue e env whole = (do let v ← whole; standAt e.pos; holding [v] (truthy v)) := by rfl) : W prog w A E c σ (isTrue e env whole) Q := by
  rw [he]
  exact W_bind (W_mono h fun v σ₁ q => W_bind (W_standAt (W_holding q)))
theorem W_isTrue_Not {x : Expr} {pos : Pos} {whole : Sem Value} {Q : Bool → St → Prop} (h : W prog w A E c σ (isTrue x env (eval x env)) (fun b σ₁ => Q (!b) σ₁)) : W prog w A E c σ (isTrue (.UnaryOp .Not x pos) env whole) Q := by
  show W prog w A E c σ (isTrue x env (eval x env) >>= fun b => pure (!b)) Q
  exact W_bind (W_mono h fun b σ' q => W_pure q)
theorem W_isTrue_BoolOp {op : BoolOp} {values : List Expr} {pos : Pos} {whole : Sem Value} {Q : Bool → St → Prop} (h : W prog w A E c σ (allTrue op values env) Q) : W prog w A E c σ (isTrue (.BoolOp op values pos) env whole) Q := h
theorem W_allTrue_And {x : Expr} {rest : List Expr} {Q : Bool → St → Prop} (h : W prog w A E c σ (isTrue x env (eval x env)) (fun b σ₁ => if b then W prog w A E c σ₁ (allTrue .And rest env) Q else Q false σ₁)) : W prog w A E c σ (allTrue .And (x :: rest) env) Q := by
  show W prog w A E c σ (isTrue x env (eval x env) >>= fun t => _) Q
  refine W_bind (W_mono h fun b σ' q => ?_)
  cases b
  · exact W_pure q
  · exact q
theorem W_allTrue_Or {x : Expr} {rest : List Expr} {Q : Bool → St → Prop} (h : W prog w A E c σ (isTrue x env (eval x env)) (fun b σ₁ => if b then Q true σ₁ else W prog w A E c σ₁ (allTrue .Or rest env) Q)) : W prog w A E c σ (allTrue .Or (x :: rest) env) Q := by
  show W prog w A E c σ (isTrue x env (eval x env) >>= fun t => _) Q
  refine W_bind (W_mono h fun b σ' q => ?_)
  cases b
  · exact q
  · exact W_pure q
theorem W_allTrue_And_nil {Q : Bool → St → Prop} (h : Q true σ) : W prog w A E c σ (allTrue .And [] env) Q := W_pure h
theorem W_allTrue_Or_nil {Q : Bool → St → Prop} (h : Q false σ) : W prog w A E c σ (allTrue .Or [] env) Q := W_pure h
theorem W_IfExp {test body orelse : Expr} {pos : Pos} {Q : Value → St → Prop} (h : W prog w A E c σ (isTrue test env (eval test env)) (fun b σ₁ => if b then W prog w A E c σ₁ (eval body env) Q else W prog w A E c σ₁ (eval orelse env) Q)) : W prog w A E c σ (eval (.IfExp test body orelse pos) env) Q := by
  show W prog w A E c σ (isTrue test env (eval test env) >>= fun b => if b = true then eval body env else eval orelse env) Q
  exact W_bind (W_mono h fun b σ' q => by cases b <;> exact q)
theorem W_BinOp {l r : Expr} {op : Operator} {pos : Pos} {Q : Value → St → Prop}
    (h : W prog w A E c σ (eval l env) (fun a σ₁ => W prog w A E c σ₁ (eval r env) (fun b σ₂ => W prog w A E c σ₂ (binaryOp op a b) Q))) : W prog w A E c σ (eval (.BinOp l op r pos) env) Q := by
  rw [eval_BinOp]
  exact W_bind (W_mono h fun a σ₁ q₁ => W_bind (W_holding (W_mono q₁ fun b σ₂ q₂ => W_bind (W_standAt (W_operate q₂)))))
theorem W_UnaryOp {x : Expr} {op : UnaryOp} {pos : Pos} {Q : Value → St → Prop} (h : W prog w A E c σ (eval x env) (fun a σ₁ => W prog w A E c σ₁ (unaryOp op a) Q)) : W prog w A E c σ (eval (.UnaryOp op x pos) env) Q := by
  show W prog w A E c σ (eval x env >>= fun v => standAt pos >>= fun _ => holding [v] (unaryOp op v)) Q
  exact W_bind (W_mono h fun a σ₁ q₁ => W_bind (W_standAt (W_holding q₁)))

theorem W_int {i : Int} {k : Nat} {pos : Pos} {Q : Value → St → Prop} (h : ∀ t, Q (.int i t) σ) : W prog w A E c σ (eval (.Constant (.int i) k pos) env) Q := W_any fun s r => wpAny_Constant_int ⟨σ, r.toks _, h _⟩
theorem W_bool {b : Bool} {k : Nat} {pos : Pos} {Q : Value → St → Prop} (h : Q (.bool b) σ) : W prog w A E c σ (eval (.Constant (.bool b) k pos) env) Q := W_any fun s r => wpAny_Constant_bool ⟨σ, r, h⟩
theorem W_str {x : Str} {k : Nat} {pos : Pos} {Q : Value → St → Prop} (h : ∀ t, Q (.str x t) σ) : W prog w A E c σ (eval (.Constant (.str x) k pos) env) Q := W_any fun s r => Calls.Constant_str ⟨σ, r.toks _, h _⟩
theorem W_bytes {x : List UInt8} {k : Nat} {pos : Pos} {Q : Value → St → Prop} (h : ∀ t, Q (.bytes x.toArray t) σ) : W prog w A E c σ (eval (.Constant (.bytes x) k pos) env) Q := W_any fun s r => Constant_bytes ⟨σ, r.toks _, h _⟩

/-! names -/
theorem W_load {x : Str} {v : Value} {Q : Value → St → Prop} (hm : (x, v) ∈ σ.l) (h : Q v σ) (hL : env.locals = c.L := by rfl) (hk : env.scope.kind = .function := by rfl) (hl : env.kindOf x = some .local := by rfl) :
    W prog w A E c σ (loadName env x) Q := W_any fun s r => by
  obtain ⟨m, hn, hmm⟩ := r.ns
  exact wpAny_loadName_local hk hl (hL ▸ hn) (hmm _ hm) ⟨σ, r, h⟩
theorem W_Name {x : Str} {pos : Pos} {Q : Value → St → Prop} (h : W prog w A E c σ (loadName env x) Q) (hd : (x == ("__debug__" : Str)) = false := by decide) : W prog w A E c σ (eval (.Name x pos) env) Q := by
  rw [eval_Name env x pos hd]
  exact W_bind (W_standAt h)

theorem store_keys {m : Str → Option Value} {x : Str} {v v₀ : Value} {l l' : List (Str × Value)} (hm : ∀ p ∈ l, m p.1 = some p.2) (u : Upd x v₀ v l l') (hn : (l.map (·.1)).Nodup) :
    ∀ p ∈ l', (if p.1 = x then some v else m p.1) = some p.2 := fun p hp => by
  rcases u.other hn p hp with rfl | ⟨h1, h2⟩
  · rw [if_pos rfl]
  · rw [if_neg h2]; exact hm p h1
theorem W_store {x : Str} {v v₀ : Value} {l l' : List (Str × Value)} {ν : List (Addr × OP)} {g : Array GenState} {Q : Unit → St → Prop} (u : Upd x v₀ v l l') (h : Q () ⟨l', ν, g⟩) (hL : env.locals = c.L := by rfl)
    (hl : env.kindOf x = some .local := by rfl) (hk : env.scope.kind = .function := by rfl) : W prog w A E c ⟨l, ν, g⟩ (storeName env x v) Q := W_any fun s r => by
  obtain ⟨m, hn, hmm⟩ := r.ns
  refine wpAny_storeName_local hl (hL ▸ hn) (fun h' hn' hs' => ?_) (by rw [hk]; rfl)
  rw [hL] at hn' hs'
  exact ⟨_, r.setL (s' := { s with heap := h', toks := s.toks + 1 }) hs' hn' (store_keys hmm u r.lnd) (by rw [u.fst]; exact r.lnd) rfl rfl, h⟩
theorem W_store_new {x : Str} {v : Value} {l : List (Str × Value)} {ν : List (Addr × OP)} {g : Array GenState} {Q : Unit → St → Prop} (u : x ∉ l.map (·.1)) (h : Q () ⟨l ++ [(x, v)], ν, g⟩) (hL : env.locals = c.L := by rfl)
    (hl : env.kindOf x = some .local := by rfl) (hk : env.scope.kind = .function := by rfl) : W prog w A E c ⟨l, ν, g⟩ (storeName env x v) Q := W_any fun s r => by
  obtain ⟨m, hn, hmm⟩ := r.ns
  refine wpAny_storeName_local hl (hL ▸ hn) (fun h' hn' hs' => ?_) (by rw [hk]; rfl)
  rw [hL] at hn' hs'
  refine ⟨_, r.setL (s' := { s with heap := h', toks := s.toks + 1 }) hs' hn' (fun p hp => ?_) ?_ rfl rfl, h⟩
  · rcases List.mem_append.mp hp with hp | hp
    · rw [if_neg (fun e => u (List.mem_map.mpr ⟨p, hp, e⟩))]; exact hmm p hp
    · rw [List.mem_singleton.mp hp, if_pos rfl]
  · rw [List.map_append, List.nodup_append]
    refine ⟨r.lnd, by simp, fun a ha b hb e => ?_⟩
    subst e
    have : a = x := by simpa using hb
    exact u (this ▸ ha)
end
/-! ## What objects may be -/
def isList (vs : List Value) : OP := fun o => ∃ n, o = { cls := .type "list", data := .seq vs.toArray n }
def isTup (vs : List Value) : OP := fun o => ∃ n, o = { cls := .type "tuple", data := .seq vs.toArray n }
def isCell (v : Option Value) : OP := fun o => o.data = .cell v
def isSlice (l u st : Value) : OP := fun o => o = { cls := .type "slice", data := .fields #[l, u, st] }

def HasL (c : Cx) (σ : St) (a : Addr) (vs : List Value) : Prop := c.h.IsList a vs.toArray ∨ (a, isList vs) ∈ σ.ν
def HasT (c : Cx) (σ : St) (a : Addr) (vs : List Value) : Prop := IsTup c.h a vs.toArray ∨ (a, isTup vs) ∈ σ.ν
def HasC (c : Cx) (σ : St) (a : Addr) (v : Value) : Prop := c.h.IsCell a (some v) ∨ (a, isCell (some v)) ∈ σ.ν

section
variable {c : Cx} {σ : St} {s : Shared} {a : Addr} {vs : List Value}
theorem HasL.at (x : HasL c σ a vs) (r : Rep c σ s) : s.heap.IsList a vs.toArray := by
  rcases x with ⟨o, e, q⟩ | x
  · exact ⟨o, r.keep _ _ e, q⟩
  · obtain ⟨o, e, n, rfl⟩ := r.ok _ x
    exact ⟨_, e, rfl, n, rfl⟩
theorem HasT.at (x : HasT c σ a vs) (r : Rep c σ s) : IsTup s.heap a vs.toArray := by
  rcases x with ⟨o, e, q⟩ | x
  · exact ⟨o, r.keep _ _ e, q⟩
  · obtain ⟨o, e, n, rfl⟩ := r.ok _ x
    exact ⟨_, e, rfl, n, rfl⟩
theorem HasC.at {v : Value} (x : HasC c σ a v) (r : Rep c σ s) : s.heap.IsCell a (some v) := by
  rcases x with ⟨o, e, q⟩ | x
  · exact ⟨o, r.keep _ _ e, q⟩
  · obtain ⟨o, e, q⟩ := r.ok _ x
    exact ⟨o, e, q⟩
end

section
variable {prog : Program} {w : World} {A : Around} {E : Value → Shared → Prop} {c : Cx} {σ : St} {l : List (Str × Value)} {ν : List (Addr × OP)} {g : Array GenState}

/-! ## ints -/
section
variable {a b : Int} {t u : Tok} {Q : Value → St → Prop}
theorem W_add (h : ∀ t, Q (.int (a + b) t) σ) : W prog w A E c σ (binaryOp .Add (.int a t) (.int b u)) Q := W_any fun s r => add_int ⟨σ, r.toks _, h _⟩
theorem W_sub (h : ∀ t, Q (.int (a - b) t) σ) : W prog w A E c σ (binaryOp .Sub (.int a t) (.int b u)) Q := W_any fun s r => sub_int ⟨σ, r.toks _, h _⟩
theorem W_mul (hm : IntMulOk a b) (h : ∀ t, Q (.int (a * b) t) σ) : W prog w A E c σ (binaryOp .Mult (.int a t) (.int b u)) Q := W_any fun s r => mul_int ⟨σ, r.toks _, h _⟩ hm
theorem W_floordiv (h0 : b ≠ 0) (h1 : b.natAbs < 1073741824) (h : ∀ t, Q (.int (a.fdiv b) t) σ) : W prog w A E c σ (binaryOp .FloorDiv (.int a t) (.int b u)) Q :=
  W_any fun s r => floordiv_int h0 ⟨σ, r.toks _, h _⟩ (.inl (PyProof.noPylong_small h1))
theorem W_mod (h0 : b ≠ 0) (h : ∀ t, Q (.int (a.fmod b) t) σ) : W prog w A E c σ (binaryOp .Mod (.int a t) (.int b u)) Q := W_any fun s r => mod_int' h0 ⟨σ, r.toks _, h _⟩
theorem W_pow (h0 : 0 ≤ b) (h1 : b ≤ 1000000) (h2 : a.natAbs < 2 ^ 64) (h : ∀ t, Q (.int (a ^ b.toNat) t) σ) : W prog w A E c σ (binaryOp .Pow (.int a t) (.int b u)) Q := W_any fun s r => pow_int_small h0 h1 h2 ⟨σ, r.toks _, h _⟩
theorem W_lshift (h0 : 0 ≤ b) (h1 : b ≤ 1000000) (h2 : a.natAbs < 2 ^ 64) (h : ∀ t, Q (.int (a * 2 ^ b.toNat) t) σ) : W prog w A E c σ (binaryOp .LShift (.int a t) (.int b u)) Q := W_any fun s r => lshift_int_small h0 h1 h2 ⟨σ, r.toks _, h _⟩
theorem W_rshift (h0 : 0 ≤ b) (h : ∀ t, Q (.int (a.fdiv (2 ^ b.toNat)) t) σ) : W prog w A E c σ (binaryOp .RShift (.int a t) (.int b u)) Q := W_any fun s r => rshift_int h0 ⟨σ, r.toks _, h _⟩
theorem W_and (h : ∀ t, Q (.int (Builtin.bitAnd a b) t) σ) : W prog w A E c σ (binaryOp .BitAnd (.int a t) (.int b u)) Q := W_any fun s r => and_int ⟨σ, r.toks _, h _⟩
theorem W_or (h : ∀ t, Q (.int (Builtin.bitOr a b) t) σ) : W prog w A E c σ (binaryOp .BitOr (.int a t) (.int b u)) Q := W_any fun s r => or_int ⟨σ, r.toks _, h _⟩
theorem W_iadd (h : ∀ t, Q (.int (a + b) t) σ) : W prog w A E c σ (inplaceOp .Add (.int a t) (.int b u)) Q := W_any fun s r => iadd_int ⟨σ, r.toks _, h _⟩
theorem W_isub (h : ∀ t, Q (.int (a - b) t) σ) : W prog w A E c σ (inplaceOp .Sub (.int a t) (.int b u)) Q := W_any fun s r => isub_int ⟨σ, r.toks _, h _⟩
theorem W_ifloordiv (h0 : b ≠ 0) (h1 : b.natAbs < 1073741824) (h : ∀ t, Q (.int (a.fdiv b) t) σ) : W prog w A E c σ (inplaceOp .FloorDiv (.int a t) (.int b u)) Q :=
  W_any fun s r => ifloordiv_int h0 ⟨σ, r.toks _, h _⟩ (.inl (PyProof.noPylong_small h1))
theorem W_irshift (h0 : 0 ≤ b) (h : ∀ t, Q (.int (a.fdiv (2 ^ b.toNat)) t) σ) : W prog w A E c σ (inplaceOp .RShift (.int a t) (.int b u)) Q := W_any fun s r => irshift_int h0 ⟨σ, r.toks _, h _⟩
theorem W_ior (h : ∀ t, Q (.int (Builtin.bitOr a b) t) σ) : W prog w A E c σ (inplaceOp .BitOr (.int a t) (.int b u)) Q := W_any fun s r => ior_int ⟨σ, r.toks _, h _⟩
theorem W_neg (h : ∀ t, Q (.int (-a) t) σ) : W prog w A E c σ (unaryOp .USub (.int a t)) Q := W_any fun s r => neg_int ⟨σ, r.toks _, h _⟩
theorem W_invert (h : ∀ t, Q (.int (Builtin.bitNot a) t) σ) : W prog w A E c σ (unaryOp .Invert (.int a t)) Q := W_any fun s r => invert_int ⟨σ, r.toks _, h _⟩
theorem W_lt (h : Q (.bool (decide (a < b))) σ) : W prog w A E c σ (compareOp .Lt (.int a t) (.int b u)) Q := W_any fun s r => lt_int ⟨σ, r, h⟩
theorem W_le' (h : Q (.bool (decide (a ≤ b))) σ) : W prog w A E c σ (compareOp .LtE (.int a t) (.int b u)) Q := W_any fun s r => le_int ⟨σ, r, h⟩
theorem W_gt (h : Q (.bool (decide (b < a))) σ) : W prog w A E c σ (compareOp .Gt (.int a t) (.int b u)) Q := W_any fun s r => gt_int ⟨σ, r, h⟩
theorem W_ge (h : Q (.bool (decide (b ≤ a))) σ) : W prog w A E c σ (compareOp .GtE (.int a t) (.int b u)) Q := W_any fun s r => ge_int ⟨σ, r, h⟩
theorem W_eqI (h : Q (.bool (a == b)) σ) : W prog w A E c σ (compareOp .Eq (.int a t) (.int b u)) Q := W_any fun s r => eq_int ⟨σ, r, h⟩
theorem W_neI (h : Q (.bool (a != b)) σ) : W prog w A E c σ (compareOp .NotEq (.int a t) (.int b u)) Q := W_any fun s r => ne_int ⟨σ, r, h⟩
end
theorem W_truthy_bool {b : Bool} {Q : Bool → St → Prop} (h : Q b σ) : W prog w A E c σ (truthy (.bool b)) Q := W_any fun s r => wpAny_truthy_bool ⟨σ, r, h⟩
theorem W_truthy_int {a : Int} {t : Tok} {Q : Bool → St → Prop} (h : Q (a != 0) σ) : W prog w A E c σ (truthy (.int a t)) Q := W_any fun s r => truthy_int ⟨σ, r, h⟩

/-! ## strs compared -/
theorem W_eqS {x y : Str} {t u : Tok} {Q : Value → St → Prop} (h : Q (.bool (x == y)) σ) : W prog w A E c σ (compareOp .Eq (.str x t) (.str y u)) Q := W_any fun s r => PyProof.Rows.eq_str ⟨σ, r, h⟩

/-! ## bytes -/
section
variable {a b : List UInt8} {t u : Tok} {Q : Value → St → Prop}
theorem W_addB (hz : a.length + b.length ≤ 16777216) (h : ∀ t, Q (.bytes (a ++ b).toArray t) σ) : W prog w A E c σ (binaryOp .Add (.bytes a.toArray t) (.bytes b.toArray u)) Q :=
  W_any fun s r => KBy.add_bytes (by simpa using hz) fun t' k => ⟨σ, r.toks _, by rw [List.append_toArray]; exact h t'⟩
theorem W_eqB (h : Q (.bool (a == b)) σ) : W prog w A E c σ (compareOp .Eq (.bytes a.toArray t) (.bytes b.toArray u)) Q := W_any fun s r => eq_bytes ⟨σ, r, by simpa using h⟩
theorem W_neB (h : Q (.bool (a != b)) σ) : W prog w A E c σ (compareOp .NotEq (.bytes a.toArray t) (.bytes b.toArray u)) Q := W_any fun s r => ne_bytes ⟨σ, r, by simpa using h⟩
theorem W_lenB (hz : a.length ≤ 16777216) (h : ∀ t, Q (.int a.length t) σ) : W prog w A E c σ (call (.builtin "len") [.bytes a.toArray t] []) Q :=
  W_any fun s r => len_bytes (by simp only [List.size_toArray]; omega) ⟨σ, r.toks _, by simpa using h _⟩
end
theorem W_lenL {a : Addr} {vs : List Value} {Q : Value → St → Prop} (x : HasL c σ a vs) (hz : vs.length ≤ 16777216) (h : ∀ t, Q (.int vs.length t) σ) : W prog w A E c σ (call (.builtin "len") [.ref a] []) Q :=
  W_any fun s r => Calls.call_len_list (x.at r) (by simp only [List.size_toArray]; omega) ⟨σ, r.toks _, by simpa using h _⟩

/-! ## lists and tuples made -/
theorem W_newList {vs : List Value} {Q : Value → St → Prop} (hz : vs.length ≤ 16777216) (h : ∀ a, Q (.ref a) ⟨l, (a, isList vs) :: ν, g⟩) : W prog w A E c ⟨l, ν, g⟩ (newList vs) Q :=
  W_any fun s r => wpAny_newObj_type ⟨_, r.push _ ⟨0, rfl⟩, h _⟩ (by show vs.toArray.size ≤ sizeLine; rw [sizeLine_eq]; simpa using hz)
theorem W_newTuple {vs : List Value} {Q : Value → St → Prop} (hz : vs.length ≤ 16777216) (h : ∀ a, Q (.ref a) ⟨l, (a, isTup vs) :: ν, g⟩) : W prog w A E c ⟨l, ν, g⟩ (newTuple vs) Q :=
  W_any fun s r => wpAny_newObj_type ⟨_, r.push _ ⟨0, rfl⟩, h _⟩ (by show vs.toArray.size ≤ sizeLine; rw [sizeLine_eq]; simpa using hz)

/-! ## arguments -/
theorem W_spliced_nil {Q : List Value → St → Prop} (h : Q [] σ) : W prog w A E c σ (spliced []) Q := W_pure h
theorem W_spliced_cons {x : Sem Value} {rest : List (Bool × Sem Value)} {Q : List Value → St → Prop} (h : W prog w A E c σ x (fun v σ₁ => W prog w A E c σ₁ (spliced rest) (fun vs σ₂ => Q (v :: vs) σ₂))) :
    W prog w A E c σ (spliced ((false, x) :: rest)) Q := by
  show W prog w A E c σ (x >>= fun v => (pure [v] : Sem (List Value)) >>= fun here => holding here (spliced rest) >>= fun r => pure (here ++ r)) Q
  refine W_bind (W_mono h fun v σ₁ q => ?_)
  refine W_bind (W_pure (W_bind (W_holding (W_mono q fun vs σ₂ q' => ?_))))
  exact W_pure q'

def plainTrees (ts : List (Bool × Sem Value)) : Bool := ts.all fun x => !x.1
theorem W_evalArgs {f : Value} {ts : List (Bool × Sem Value)} {Q : Args → St → Prop} (hp : plainTrees ts = true) (h : W prog w A E c σ (spliced ts) (fun vs σ₁ => Q ⟨vs, []⟩ σ₁)) : W prog w A E c σ (evalArgs f true ts []) Q := by
  unfold evalArgs
  cases ts with
  | nil =>
    show W prog w A E c σ (spliced [] >>= fun a => _) _
    refine W_bind (W_mono h fun vs σ₁ q => W_bind (W_pure ?_))
    refine W_holding ?_
    exact W_bind (W_pure (W_bind (W_pure (W_pure q))))
  | cons x rest =>
    obtain ⟨b, t⟩ := x
    cases b with
    | true => simp [plainTrees] at hp
    | false =>
      show W prog w A E c σ (spliced ((false, t) :: rest) >>= fun a => _) _
      refine W_bind (W_mono h fun vs σ₁ q => W_bind (W_pure ?_))
      refine W_holding ?_
      exact W_bind (W_pure (W_bind (W_pure (W_pure q))))

theorem W_callWith {f : Value} {first : List Value} {ts : List (Bool × Sem Value)} {pos : Pos} {Q : Value → St → Prop} (hp : plainTrees ts = true)
    (hk : ∀ σ' s, Rep c σ' s → ∃ k, (k = Keeper.frame ∨ k = Keeper.machine ∨ k = Keeper.boundFrame) ∧ Looks (model prog w) s.heap (keeperOf f) k)
    (h : W prog w A E c σ (spliced ts) (fun vs σ₁ => W prog w A E c σ₁ (call f (first ++ vs) []) Q)) : W prog w A E c σ (callWith pos f first ts []) Q := by
  have hst : (ts.any (·.1) || ([] : List (Option Str × Sem Value)).any (·.1.isNone)) = false := by
    unfold plainTrees at hp
    rw [List.any_nil, Bool.or_false, List.any_eq_false]
    intro x hx
    have := List.all_eq_true.mp hp x hx
    simpa using this
  unfold callWith
  refine W_bind (W_holding (W_evalArgs hp (W_mono h fun vs σ₁ q => W_bind (W_standAt ?_))))
  simp only [hst]
  have tail : ∀ {t : Sem Value} {σ₁ : St}, W prog w A E c σ₁ t Q → W prog w A E c σ₁ (t >>= fun r => holding [r] point >>= fun _ => pure r) Q :=
    fun ht => W_bind (W_mono ht fun r σ₂ q => W_bind (W_holding (W_point (W_pure q))))
  have marked (mk : Value) : W prog w A E c σ₁ (callMarked mk f (first ++ vs) []) Q := by unfold callMarked; exact W_keep q
  intro s r
  obtain ⟨k, hk', L⟩ := hk σ₁ s r
  refine wpN_bind (wpN_any (L.here ?_))
  rcases hk' with rfl | rfl | rfl <;> dsimp only <;> first | exact tail q s r | (split <;> first | exact tail q s r | exact tail (marked _) s r)

theorem W_callWith_b {id : String} {first : List Value} {ts : List (Bool × Sem Value)} {pos : Pos} {Q : Value → St → Prop} (h : W prog w A E c σ (spliced ts) (fun vs σ₁ => W prog w A E c σ₁ (call (.builtin id) (first ++ vs) []) Q))
    (hp : plainTrees ts = true := by rfl) : W prog w A E c σ (callWith pos (.builtin id) first ts []) Q := W_callWith hp (fun _ _ _ => ⟨.machine, .inr (.inl rfl), .now⟩) h
theorem W_callWith_t {T : String} {first : List Value} {ts : List (Bool × Sem Value)} {pos : Pos} {Q : Value → St → Prop} (h : W prog w A E c σ (spliced ts) (fun vs σ₁ => W prog w A E c σ₁ (call (.type T) (first ++ vs) []) Q))
    (hp : plainTrees ts = true := by rfl) : W prog w A E c σ (callWith pos (.type T) first ts []) Q := W_callWith hp (fun _ _ _ => ⟨.machine, .inr (.inl rfl), .now⟩) h
/-- a def of the text's -/
theorem W_callWith_f {f : Addr} {o : Obj} {fd : FuncData} {ts : List (Bool × Sem Value)} {pos : Pos} {Q : Value → St → Prop} (ho : c.h.get? f = some o) (hd : o.data = .func fd)
    (h : W prog w A E c σ (spliced ts) (fun vs σ₁ => W prog w A E c σ₁ (call (.ref f) vs []) Q)) (hp : plainTrees ts = true := by rfl) : W prog w A E c σ (callWith pos (.ref f) [] ts []) Q :=
  W_callWith hp (fun _ s r => ⟨.frame, .inl rfl, (Looks.ld (part := none) (r.keep _ _ ho)).andThen (by rw [hd]; exact .now)⟩) h
theorem W_Call {x : Str} {np pos : Pos} {args : List Expr} {env : Env} {Q : Value → St → Prop} (h : W prog w A E c σ (eval (.Name x np) env) (fun f σ₁ => W prog w A E c σ₁ (callWith pos f [] (backTo pos (starEach args env)) []) Q)) :
    W prog w A E c σ (eval (.Call (.Name x np) args [] pos) env) Q := by
  show W prog w A E c σ (eval (.Name x np) env >>= fun f => callWith pos f [] (backTo pos (starEach args env)) []) Q
  exact W_bind h
end
/-- x[i:j] of a list -/
def cut {α : Type} (l : List α) (i j : Nat) : List α := (l.drop i).take (j - i)
theorem cut_min {α : Type} (l : List α) (i j : Nat) : (l.drop (min i l.length)).take (min j l.length - min i l.length) = cut l i j := by
  unfold cut
  rcases Nat.le_total i l.length with h | h
  · rw [Nat.min_eq_left h]
    rcases Nat.le_total j l.length with h' | h'
    · rw [Nat.min_eq_left h']
    · rw [Nat.min_eq_right h', List.take_of_length_le (by simp), List.take_of_length_le (by simp; omega)]
  · rw [Nat.min_eq_right h, List.drop_of_length_le (Nat.le_refl _), List.drop_of_length_le h]; simp
theorem cut_length {α : Type} (l : List α) (i j : Nat) : (cut l i j).length = min (j - i) (l.length - i) := by simp [cut]
theorem picked_cut (b : List UInt8) (i j : Nat) : KBy.picked b.toArray (some i) (some j) = (cut b i j).toArray := by
  rw [KBc.picked_eq]
  simp only [Option.elim, clipAt_nat, List.size_toArray]
  exact congrArg _ (cut_min b i j)
theorem picked_take (b : List UInt8) (j : Nat) : KBy.picked b.toArray none (some j) = (b.take j).toArray := by
  rw [KBc.picked_eq]
  simp only [Option.elim, clipAt_nat, List.size_toArray, List.drop_zero, Nat.sub_zero]
  refine congrArg _ ?_
  rcases Nat.le_total j b.length with h' | h'
  · rw [Nat.min_eq_left h']
  · rw [Nat.min_eq_right h', List.take_of_length_le (Nat.le_refl _), List.take_of_length_le h']
theorem picked_drop (b : List UInt8) (i : Nat) : KBy.picked b.toArray (some i) none = (b.drop i).toArray := by
  rw [KBc.picked_eq]
  simp only [Option.elim, clipAt_nat, List.size_toArray]
  refine congrArg _ ?_
  rcases Nat.le_total i b.length with h | h
  · rw [Nat.min_eq_left h, List.take_of_length_le (by simp)]
  · rw [Nat.min_eq_right h, List.drop_of_length_le (Nat.le_refl _), List.drop_of_length_le h]; simp
theorem pick_cut (vs : List Value) (i j : Nat) : slicePick vs.toArray (some i) (some j) none = (cut vs i j).toArray := by
  rw [slicePick_plain]
  simp only [Option.elim, clipAt_nat, List.size_toArray]
  exact congrArg _ (cut_min vs i j)

section
variable {prog : Program} {w : World} {A : Around} {E : Value → Shared → Prop} {c : Cx} {σ : St} {l : List (Str × Value)} {ν : List (Addr × OP)} {g : Array GenState} {env : Env}

/-! ## subscripts -/
theorem W_Subscript {value slice : Expr} {pos : Pos} {Q : Value → St → Prop} (h : W prog w A E c σ (eval value env) (fun o σ₁ => W prog w A E c σ₁ (eval slice env) (fun i σ₂ => W prog w A E c σ₂ (subscriptTail value slice o i) Q))) :
    W prog w A E c σ (eval (.Subscript value slice pos) env) Q := by
  show W prog w A E c σ (eval value env >>= fun o => holding [o] (eval slice env) >>= fun i => standAt pos >>= fun _ => subscriptTail value slice o i) Q
  exact W_bind (W_mono h fun o σ₁ q => W_bind (W_holding (W_mono q fun i σ₂ q' => W_bind (W_standAt q'))))
theorem W_Slice {lower upper : Option Expr} {p : Pos} {Q : Value → St → Prop} (h : W prog w A E c σ (evalPart lower env) (fun lo σ₁ => W prog w A E c σ₁ (evalPart upper env) (fun up σ₂ => ∀ a, Q (.ref a) ⟨σ₂.l, (a, isSlice lo up .none) :: σ₂.ν, σ₂.g⟩))) :
    W prog w A E c σ (eval (.Slice lower upper none p) env) Q := by
  have e : eval (.Slice lower upper none p) env = (evalPart lower env >>= fun l => holding [l] (evalPart upper env) >>= fun u => holding [l, u] (evalPart none env) >>= fun s => newFields "slice" [l, u, s]) := by
    cases lower <;> cases upper <;> rfl
  rw [e]
  refine W_bind (W_mono h fun lo σ₁ q => W_bind (W_holding (W_mono q fun up σ₂ q' => W_bind (W_holding ?_))))
  refine W_pure ?_
  exact W_any fun s r => wpAny_newObj_type ⟨_, r.push (P := isSlice lo up .none) _ rfl, q' _⟩ (by size_fits)
theorem W_part_none {Q : Value → St → Prop} (h : Q .none σ) : W prog w A E c σ (evalPart none env) Q := W_pure h
theorem W_part_some {e : Expr} {Q : Value → St → Prop} (h : W prog w A E c σ (eval e env) Q) : W prog w A E c σ (evalPart (some e) env) Q := h

theorem isSlice_at {s : Shared} {a : Addr} {lo up st : Value} (r : Rep c ⟨l, (a, isSlice lo up st) :: ν, g⟩ s) : s.heap.IsSliceOf a lo up st := by
  obtain ⟨o, e, rfl⟩ := r.ok _ (.head _)
  exact ⟨_, e, rfl, rfl⟩
theorem Rep.tail {s : Shared} {p : Addr × OP} (r : Rep c ⟨l, p :: ν, g⟩ s) : Rep c ⟨l, ν, g⟩ s :=
  r.sub (fun p hp => hp) r.lnd (fun q hq => .tail _ hq) (by have := r.nd; simp only [List.map_cons, List.nodup_cons] at this; exact this.2)

section
variable {value : Expr} {lo up : Option Expr} {p : Pos} {b : List UInt8} {t ti tj : Tok} {a : Addr} {Q : Value → St → Prop}
theorem bytes_slice {lv uv : Value} {i j : Option Int} (hl : IsPart lv i) (hu : IsPart uv j) (hz : b.length ≤ 16777216)
    (h : ∀ t', Q (.bytes (KBy.picked b.toArray i j) t') ⟨l, ν, g⟩) : W prog w A E c ⟨l, (a, isSlice lv uv .none) :: ν, g⟩ (subscriptTail value (.Slice lo up none p) (.bytes b.toArray t) (.ref a)) Q :=
  W_any fun s r => tail_of_ItemOn (ops := [.ref a, .bytes b.toArray t]) ⟨"bytes", _, FB.slot_bytes_getitem.lookup, typeIs_bytes _ _ _, getItem_meets (typeIs_bytes _ _ _) (by decide) FB.slot_bytes_getitem FB.entry_bytes_getitem (FB.args_bytes_getitem_2 _ _) (KBc.meets_slice2 b.toArray t _ hl hu)
    ⟨isSlice_at r, Nat.le_trans (KBc.size_picked_le b.toArray i j) (by rw [sizeLine_eq]; simpa using hz), fun t' k => ⟨_, r.tail.toks k, h t'⟩⟩⟩ rfl (fun r => by unfold letTemporaryGo; cases value <;> rfl)
theorem W_cutB {i j : Int} (h0 : 0 ≤ i) (h1 : 0 ≤ j) (hz : b.length ≤ 16777216) (h : ∀ t', Q (.bytes (cut b i.toNat j.toNat).toArray t') ⟨l, ν, g⟩) :
    W prog w A E c ⟨l, (a, isSlice (.int i ti) (.int j tj) .none) :: ν, g⟩ (subscriptTail value (.Slice lo up none p) (.bytes b.toArray t) (.ref a)) Q :=
  bytes_slice (.int i ti) (.int j tj) hz fun t' => by
    obtain ⟨i, rfl⟩ := Int.eq_ofNat_of_zero_le h0
    obtain ⟨j, rfl⟩ := Int.eq_ofNat_of_zero_le h1
    rw [show KBy.picked b.toArray (some (i : Int)) (some (j : Int)) = _ from picked_cut b i j]; exact h t'
theorem W_takeB {j : Int} (h1 : 0 ≤ j) (hz : b.length ≤ 16777216) (h : ∀ t', Q (.bytes (b.take j.toNat).toArray t') ⟨l, ν, g⟩) :
    W prog w A E c ⟨l, (a, isSlice .none (.int j tj) .none) :: ν, g⟩ (subscriptTail value (.Slice lo up none p) (.bytes b.toArray t) (.ref a)) Q :=
  bytes_slice .none (.int j tj) hz fun t' => by
    obtain ⟨j, rfl⟩ := Int.eq_ofNat_of_zero_le h1
    rw [show KBy.picked b.toArray none (some (j : Int)) = _ from picked_take b j]; exact h t'
theorem W_dropB {i : Int} (h1 : 0 ≤ i) (hz : b.length ≤ 16777216) (h : ∀ t', Q (.bytes (b.drop i.toNat).toArray t') ⟨l, ν, g⟩) :
    W prog w A E c ⟨l, (a, isSlice (.int i ti) .none .none) :: ν, g⟩ (subscriptTail value (.Slice lo up none p) (.bytes b.toArray t) (.ref a)) Q :=
  bytes_slice (.int i ti) .none hz fun t' => by
    obtain ⟨j, rfl⟩ := Int.eq_ofNat_of_zero_le h1
    rw [show KBy.picked b.toArray (some (j : Int)) none = _ from picked_drop b j]; exact h t'
end
section
variable {lo up : Option Expr} {p np : Pos} {x : Str} {vs : List Value} {ti tj : Tok} {a d : Addr} {Q : Value → St → Prop}
theorem list_slice {lv uv : Value} {i j : Option Int} (hl : IsPart lv i) (hu : IsPart uv j) (hx : HasL c ⟨l, ν, g⟩ d vs) (hz : vs.length ≤ 16777216)
    (h : ∀ d', Q (.ref d') ⟨l, (d', isList (slicePick vs.toArray i j none).toList) :: ν, g⟩) : W prog w A E c ⟨l, (a, isSlice lv uv .none) :: ν, g⟩ (subscriptTail (.Name x np) (.Slice lo up none p) (.ref d) (.ref a)) Q :=
  W_any fun s r => tail_any (ops := [.ref a, .ref d]) (hx.at r.tail).typeIs slot_list_getitem.lookup (wpAny_getItem_list_slice (hx.at r.tail) (isSlice_at r) hl hu .none (fun e => nomatch e)
    ⟨_, r.tail.push _ ⟨0, by simp⟩, h _⟩ (by rw [sizeLine_eq]; simpa using hz)) rfl
theorem W_cutL {i j : Int} (h0 : 0 ≤ i) (h1 : 0 ≤ j) (hx : HasL c ⟨l, ν, g⟩ d vs) (hz : vs.length ≤ 16777216) (h : ∀ d', Q (.ref d') ⟨l, (d', isList (cut vs i.toNat j.toNat)) :: ν, g⟩) :
    W prog w A E c ⟨l, (a, isSlice (.int i ti) (.int j tj) .none) :: ν, g⟩ (subscriptTail (.Name x np) (.Slice lo up none p) (.ref d) (.ref a)) Q :=
  list_slice (.int i ti) (.int j tj) hx hz fun t' => by
    obtain ⟨i, rfl⟩ := Int.eq_ofNat_of_zero_le h0
    obtain ⟨j, rfl⟩ := Int.eq_ofNat_of_zero_le h1
    rw [show slicePick vs.toArray (some (i : Int)) (some (j : Int)) none = _ from pick_cut vs i j]; exact h t'
theorem W_takeL {j : Int} (h1 : 0 ≤ j) (hx : HasL c ⟨l, ν, g⟩ d vs) (hz : vs.length ≤ 16777216) (h : ∀ d', Q (.ref d') ⟨l, (d', isList (vs.take j.toNat)) :: ν, g⟩) :
    W prog w A E c ⟨l, (a, isSlice .none (.int j tj) .none) :: ν, g⟩ (subscriptTail (.Name x np) (.Slice lo up none p) (.ref d) (.ref a)) Q :=
  list_slice .none (.int j tj) hx hz fun t' => by
    obtain ⟨j, rfl⟩ := Int.eq_ofNat_of_zero_le h1
    rw [show slicePick vs.toArray none (some (j : Int)) none = _ from slicePick_upto' vs.toArray j]; exact h t'
theorem W_dropL {i : Int} (h1 : 0 ≤ i) (hx : HasL c ⟨l, ν, g⟩ d vs) (hz : vs.length ≤ 16777216) (h : ∀ d', Q (.ref d') ⟨l, (d', isList (vs.drop i.toNat)) :: ν, g⟩) :
    W prog w A E c ⟨l, (a, isSlice (.int i ti) .none .none) :: ν, g⟩ (subscriptTail (.Name x np) (.Slice lo up none p) (.ref d) (.ref a)) Q :=
  list_slice (.int i ti) .none hx hz fun t' => by
    obtain ⟨j, rfl⟩ := Int.eq_ofNat_of_zero_le h1
    rw [show slicePick vs.toArray (some (j : Int)) none none = _ from slicePick_from' vs.toArray j]; exact h t'
end
section
variable {value slice : Expr} {d : Addr} {vs : List Value} {k : Int} {t : Tok} {v : Value} {Q : Value → St → Prop}
theorem W_itemL (hx : HasL c σ d vs) (h0 : 0 ≤ k) (h1 : k < 2 ^ 63) (hv : vs[k.toNat]? = some v) (h : Q v σ)
    (hs : subscripted slice false (.ref d) (.int k t) = operate [.ref d, .int k t] (getItem (.ref d) (.int k t)) := by with_unfolding_all rfl) : W prog w A E c σ (subscriptTail value slice (.ref d) (.int k t)) Q :=
  W_any fun s r => tail_any (hx.at r).typeIs slot_list_getitem.lookup (wpAny_getItem_list (hx.at r) h0 h1 (by simpa using hv) ⟨σ, r, h⟩) hs
theorem W_itemLneg (hx : HasL c σ d vs) (h0 : k < 0) (h1 : -(vs.length : Int) ≤ k) (h2 : -(2 ^ 63) ≤ k) (hv : vs[(k + vs.length).toNat]? = some v) (h : Q v σ)
    (hs : subscripted slice false (.ref d) (.int k t) = operate [.ref d, .int k t] (getItem (.ref d) (.int k t)) := by with_unfolding_all rfl) : W prog w A E c σ (subscriptTail value slice (.ref d) (.int k t)) Q :=
  W_any fun s r => tail_any (hx.at r).typeIs slot_list_getitem.lookup (wpAny_getItem_list_neg (hx.at r) h0 (by simpa using h1) h2 (by simpa using hv) ⟨σ, r, h⟩) hs
theorem W_itemT {j : Nat} (hx : HasT c σ d vs) (hlo : -(2 ^ 63) ≤ k) (hhi : k < 2 ^ 63) (hj : seqIndex? k vs.length = some j) (hv : vs[j]? = some v) (h : Q v σ)
    (hs : subscripted slice false (.ref d) (.int k t) = operate [.ref d, .int k t] (getItem (.ref d) (.int k t)) := by with_unfolding_all rfl) : W prog w A E c σ (subscriptTail value slice (.ref d) (.int k t)) Q :=
  W_any fun s r => item_tupleT (hx.at r) hlo hhi (by simpa using hj) (by simpa using hv) ⟨σ, r, h⟩ hs
end

/-! ## while -/
theorem codeN_while {test : Expr} {body orelse : List Stmt} {R : Result → Shared → Prop} {s : Shared} (I : Nat → Shared → Prop)
    (turn : ∀ n s, I n s → wpN (model prog w) A (isTrue test env (eval test env)) (fun b s₂ => if b then wpN (model prog w) A (execs body env) (fun f s₃ => match f with
        | .next | .cont => ∃ m, m < n ∧ I m s₃
        | .brk => R (.ok .next) s₃
        | .ret v => R (.ok (.ret v)) s₃) NoE s₂ else wpN (model prog w) A (execs orelse env) (fun f s₃ => R (.ok f) s₃) NoE s₂) NoE s)
    (n : Nat) (h : I n s) : codeN (model prog w) A (.whileLoop test body orelse env) R s := by
  refine codeN_loop rfl I (fun n s hI => ?_) rfl n h
  show wpN _ A ((whileTurn test body orelse env).onRaise (fun x => do noteFrame x env; theTreesLotGoes x)) _ _ s
  refine wpN_onRaise (wpN_mono (E := NoE) ?_ (fun _ _ q => q) fun _ _ e => e.elim)
  unfold whileTurn
  refine wpN_bind (wpN_mono (turn n s hI) (fun b s₂ h₂ => ?_) fun _ _ e => e)
  cases b with
  | false => exact wpN_bind (wpN_mono h₂ (fun f s₃ h₃ => wpN_pure h₃) fun _ _ e => e)
  | true =>
    refine wpN_bind (wpN_mono h₂ (fun f s₃ h₃ => ?_) fun _ _ e => e)
    cases f with
    | next => exact wpN_pure (.inl ⟨rfl, h₃⟩)
    | cont => exact wpN_pure (.inl ⟨rfl, h₃⟩)
    | brk => exact wpN_pure h₃
    | ret v => exact wpN_pure h₃
theorem W_runOwn {code : Code} {Q : Flow → St → Prop} (hl : lends code = false) (h : ∀ s, Rep c σ s → codeN (model prog w) A code (fun r s' => match r with | .ok f => ∃ σ', Rep c σ' s' ∧ Q f σ' | .error _ => False) s) : W prog w A E c σ (runOwn code env) Q := by
  unfold runOwn
  refine W_onRaise fun s r => wpN_run (codeN_mono (h s r) fun r s' q => ?_) hl
  cases r <;> exact q

def TurnEnd (c : Cx) (Q : Flow → St → Prop) (again : St → Prop) (f : Flow) (σ₃ : St) : Prop := match f with
  | .next | .cont => ∃ σ', Le c σ₃ σ' ∧ again σ'
  | .brk => Q .next σ₃
  | .ret v => Q (.ret v) σ₃
theorem W_While {test : Expr} {body orelse : List Stmt} {pos : Pos} {Q : Flow → St → Prop} (I : Nat → St → Prop) (n : Nat) (h : I n σ)
    (turn : ∀ n σ, I n σ → W prog w A NoE c σ (isTrue test env (eval test env)) (fun b σ₂ => if b then W prog w A NoE c σ₂ (execs body env) (TurnEnd c Q fun σ' => ∃ m, m < n ∧ I m σ')
      else W prog w A NoE c σ₂ (execs orelse env) Q)) : W prog w A E c σ (exec (.While test body orelse pos) env) Q := by
  rw [exec_While]
  refine W_bind (W_standAt (W_runOwn rfl fun s r => ?_))
  refine codeN_while (fun n s => ∃ σ, Rep c σ s ∧ I n σ) (fun n s ⟨σ, r, hI⟩ => ?_) n ⟨σ, r, h⟩
  refine wpN_mono (turn n σ hI s r) (fun b s₂ ⟨σ₂, r₂, q₂⟩ => ?_) fun _ _ e => e
  cases b with
  | false => exact q₂ s₂ r₂
  | true =>
    refine wpN_mono (q₂ s₂ r₂) (fun f s₃ ⟨σ₃, r₃, q₃⟩ => ?_) fun _ _ e => e
    cases f with
    | next => obtain ⟨σ', hl, m, hm, hI'⟩ := q₃; exact ⟨m, hm, σ', hl s₃ r₃, hI'⟩
    | cont => obtain ⟨σ', hl, m, hm, hI'⟩ := q₃; exact ⟨m, hm, σ', hl s₃ r₃, hI'⟩
    | brk => exact ⟨σ₃, r₃, q₃⟩
    | ret v => exact ⟨σ₃, r₃, q₃⟩

/-! ## for -/
theorem codeN_for {target : Expr} {it : Value} {body orelse : List Stmt} {R : Result → Shared → Prop} {s : Shared} (I : Nat → Shared → Prop)
    (turn : ∀ n s, I n s → wpN (model prog w) A (pyNext it) (fun r s₁ => match r with
      | none => wpN (model prog w) A (execs orelse env) (fun f s₃ => R (.ok f) s₃) NoE s₁
      | some v => wpN (model prog w) A (letOwnedTupleGo target it v) (fun _ s₁' => wpN (model prog w) A (assign target env v) (fun _ s₂ => wpN (model prog w) A (execs body env) (fun f s₃ => match f with
        | .next | .cont => ∃ m, m < n ∧ I m s₃
        | .brk => R (.ok .next) s₃
        | .ret v => R (.ok (.ret v)) s₃) NoE s₂) NoE s₁') NoE s₁) NoE s)
    (n : Nat) (h : I n s) : codeN (model prog w) A (.forLoop target it body orelse env) R s := by
  refine codeN_loop rfl I (fun n s hI => ?_) rfl n h
  show wpN _ A ((forTurn target it body orelse env).onRaise (fun x => do noteFrame x env; theTreesLotGoes x)) _ _ s
  refine wpN_onRaise (wpN_mono (E := NoE) ?_ (fun _ _ q => q) fun _ _ e => e.elim)
  unfold forTurn
  refine wpN_bind (wpN_any (wpAny_standAt ?_))
  refine wpN_bind (wpN_onRaise (wpN_mono (turn n s hI) (fun r s₁ h₁ => ?_) fun _ _ e => e.elim))
  cases r with
  | none =>
    refine wpN_pure (.inr ⟨rfl, rfl, codeN_of_tree ?_⟩)
    show wpN _ _ (do return Fin.done (← (execs orelse env).onRaise (fun x => do noteFrame x env; theTreesLotGoes x))) _ _ s₁
    exact wpN_bind (wpN_onRaise (wpN_mono h₁ (fun f s' h' => wpN_pure h') fun _ _ e => e.elim))
  | some v =>
    refine wpN_bind (wpN_mono h₁ (fun _ s₁' h₁' => ?_) fun _ _ e => e)
    refine wpN_bind (wpN_mono h₁' (fun _ s₂ h₂ => ?_) fun _ _ e => e)
    refine wpN_bind (wpN_mono h₂ (fun f s₃ h₃ => ?_) fun _ _ e => e)
    cases f with
    | next => exact wpN_pure (.inl ⟨rfl, h₃⟩)
    | cont => exact wpN_pure (.inl ⟨rfl, h₃⟩)
    | brk => exact wpN_pure h₃
    | ret v => exact wpN_pure h₃

/-- an iterator over a list; over a range -/
def isLIter (d : Addr) (i : Nat) : OP := fun o => o.cls = .type "list_iterator" ∧ o.data = .fields #[.ref d, .int i 0]
def isRIter (x left step : Int) : OP := fun o => o = { cls := .type "range_iterator", data := .fields #[rawInt x, rawInt left, rawInt step] }

theorem pyIter_list {d : Addr} {vs : List Value} {Q : Value → St → Prop} (hx : HasL c ⟨l, ν, g⟩ d vs) (h : ∀ it, Q (.ref it) ⟨l, (it, isLIter d 0) :: ν, g⟩) : W prog w A E c ⟨l, ν, g⟩ (pyIter (.ref d)) Q :=
  W_any fun s r => wpAny_pyIter_list (hx.at r) ⟨_, r.push _ ⟨rfl, rfl⟩, h _⟩

theorem Rep.dropIter {s : Shared} {it : Addr} {P : OP} {h' : Heap} {tk : Nat} (r : Rep c ⟨l, (it, P) :: ν, g⟩ s) (hk : ∀ b o, b ≠ it → s.heap.get? b = some o → h'.get? b = some o) : Rep c ⟨l, ν, g⟩ { s with heap := h', toks := tk } := by
  have own := r.own _ (.head _)
  have r0 := r.tail
  have nd := r.nd
  simp only [List.map_cons, List.nodup_cons] at nd
  exact ⟨let ⟨m, hn, hm⟩ := r0.ns; ⟨m, hn.at' fun o e => hk _ o (Ne.symm own.1) e, hm⟩, r0.lnd, fun b o e => hk b o (fun q => by rw [q, own.2] at e; cases e) (r0.keep b o e), r0.fr,
    fun p hp => let ⟨o, e, q⟩ := r0.ok p hp; ⟨o, hk _ _ (fun q => nd.1 (List.mem_map.mpr ⟨p, hp, q⟩)) e, q⟩, r0.own, r0.nd, r0.os, r0.gens⟩

/-- what an iterator at `it` does: J i is its object before turn i, P i what turn i is handed -/
structure Iter (prog : Program) (w : World) (A : Around) (c : Cx) (it : Addr) (n : Nat) (J : Nat → OP) (P : Nat → Value → Prop) (X : St → Prop) : Prop where
  next : ∀ i (σ : St) (s : Shared) (Q : Option Value → Shared → Prop), i < n → X σ → Rep c ⟨σ.l, (it, J i) :: σ.ν, σ.g⟩ s → (∀ v s', P i v → Rep c ⟨σ.l, (it, J (i + 1)) :: σ.ν, σ.g⟩ s' → Q (some v) s') → wpN (model prog w) A (pyNext (.ref it)) Q NoE s
  done : ∀ (σ : St) (s : Shared) (Q : Option Value → Shared → Prop), X σ → Rep c ⟨σ.l, (it, J n) :: σ.ν, σ.g⟩ s → (∀ s', Rep c σ s' → Q none s') → wpN (model prog w) A (pyNext (.ref it)) Q NoE s

theorem Iter.list (hh : A.handled = none) (it d : Addr) (vs : List Value) : Iter prog w A c it vs.length (isLIter d) (fun i v => vs[i]? = some v) (fun σ => HasL c σ d vs) := by
  have pre : ∀ i (σ : St) s, HasL c σ d vs → Rep c ⟨σ.l, (it, isLIter d i) :: σ.ν, σ.g⟩ s → s.heap.IsListIter it d i ∧ s.heap.IsList d vs.toArray ∧ d ≠ it := fun i σ s hx r => by
    have hL := hx.at (σ := ⟨σ.l, σ.ν, σ.g⟩) r.tail
    have hit : s.heap.IsListIter it d i := by obtain ⟨o, e, a, b⟩ := r.ok _ (.head _); exact ⟨o, e, a, b⟩
    refine ⟨hit, hL, ?_⟩
    rintro rfl
    obtain ⟨o, e, a, _⟩ := hL
    obtain ⟨o', e', a', _⟩ := hit
    rw [e] at e'; cases e'; rw [a] at a'
    exact absurd a' (by decide)
  refine ⟨fun i σ s Q hi hx r k => ?_, fun σ s Q hx r k => ?_⟩
  · obtain ⟨hit, hL, hne⟩ := pre i σ s hx r
    refine wpN_any ((Walks.list (prog := prog) (w := w) hh it d hne vs.toArray).item i s _ _ (by simpa using hi) ⟨hit, hL⟩ fun v h' tk hP hst hk => ?_)
    obtain ⟨o', e', a', b'⟩ := hst.1
    exact k v _ (by simpa using hP) (r.upd (s' := { s with heap := h', toks := tk }) (P' := isLIter d (i + 1)) .head (fun b o hb e => hk b o (by simpa using hb) e) e' ⟨a', b'⟩ rfl rfl)
  · obtain ⟨hit, hL, hne⟩ := pre _ σ s hx r
    exact wpN_any ((Walks.list (prog := prog) (w := w) hh it d hne vs.toArray).done s _ _ ⟨by simpa using hit, hL⟩ fun h' tk hk => k _ (r.dropIter fun b o hb e => hk b o (by simpa using hb) e))

theorem Iter.range (hh : A.handled = none) (it : Addr) (a : Int) (n : Nat) : Iter prog w A c it n (fun i => isRIter (a + (i : Nat) * 1) ((n : Int) - (i : Nat)) 1) (fun i v => ∃ t, v = .int (a + (i : Nat)) t) (fun _ => True) := by
  refine ⟨fun i σ s Q hi _ r k => ?_, fun σ s Q _ r k => ?_⟩
  · obtain ⟨o, e, rfl⟩ := r.ok _ (.head _)
    refine wpN_any ((Walks.range (prog := prog) (w := w) hh it a 1 n).item i s _ _ hi e fun v h' tk hP hst hk => ?_)
    obtain ⟨t, rfl⟩ := hP
    exact k _ _ ⟨t, by rw [Int.mul_one]⟩ (r.upd (s' := { s with heap := h', toks := tk }) (P' := isRIter (a + ((i + 1 : Nat) : Int) * 1) ((n : Int) - ((i + 1 : Nat) : Int)) 1) .head (fun b o hb e => hk b o (by simpa using hb) e) hst rfl rfl rfl)
  · obtain ⟨o, e, rfl⟩ := r.ok _ (.head _)
    exact wpN_any ((Walks.range (prog := prog) (w := w) hh it a 1 n).done s _ _ e fun h' tk hk => k _ (r.dropIter fun b o hb e => hk b o (by simpa using hb) e))

theorem codeN_forI {target : Expr} {it : Addr} {body : List Stmt} {n : Nat} {J : Nat → OP} {P : Nat → Value → Prop} {X : St → Prop} {Q : Flow → St → Prop} (H : Iter prog w A c it n J P X) (I : Nat → St → Prop) (hX : ∀ i σ, I i σ → X σ)
    (turn : ∀ i v σ₂, i < n → P i v → I i σ₂ → W prog w A NoE c ⟨σ₂.l, (it, J (i + 1)) :: σ₂.ν, σ₂.g⟩ (letOwnedTupleGo target (.ref it) v) (fun _ σ₃ => W prog w A NoE c σ₃ (assign target env v) (fun _ σ₄ => W prog w A NoE c σ₄ (execs body env)
        (TurnEnd c Q fun σ' => ∃ ν', σ'.ν = (it, J (i + 1)) :: ν' ∧ I (i + 1) ⟨σ'.l, ν', σ'.g⟩))))
    (fin : ∀ σ₂, I n σ₂ → Q .next σ₂) {s : Shared} {σ : St} (r : Rep c ⟨σ.l, (it, J 0) :: σ.ν, σ.g⟩ s) (h : I 0 σ) :
    codeN (model prog w) A (.forLoop target (.ref it) body [] env) (fun r s' => match r with | .ok f => ∃ σ', Rep c σ' s' ∧ Q f σ' | .error _ => False) s := by
  refine codeN_for (fun k s => ∃ i σ, k = n + 1 - i ∧ i ≤ n ∧ Rep c ⟨σ.l, (it, J i) :: σ.ν, σ.g⟩ s ∧ I i σ) (fun k s hI => ?_) (n + 1) ⟨0, σ, rfl, Nat.zero_le _, r, h⟩
  obtain ⟨i, σ, rfl, hi, r, hI⟩ := hI
  by_cases hlt : i < n
  · refine H.next i σ s _ hlt (hX i σ hI) r fun v s₁ hP r₁ => ?_
    refine wpN_mono (turn i v σ hlt hP hI _ r₁) (fun _ s₁ ⟨σ₃, r₃, q₃⟩ => ?_) fun _ _ e => e
    refine wpN_mono (q₃ _ r₃) (fun _ s₂ ⟨σ₄, r₄, q₄⟩ => ?_) fun _ _ e => e
    refine wpN_mono (q₄ _ r₄) (fun f s₃ ⟨σ₅, r₅, q₅⟩ => ?_) fun _ _ e => e
    cases f with
    | next => obtain ⟨σ', hl, ν', e, hI'⟩ := q₅; exact ⟨_, by omega, i + 1, ⟨σ'.l, ν', σ'.g⟩, rfl, hlt, by rw [← e]; exact hl _ r₅, hI'⟩
    | cont => obtain ⟨σ', hl, ν', e, hI'⟩ := q₅; exact ⟨_, by omega, i + 1, ⟨σ'.l, ν', σ'.g⟩, rfl, hlt, by rw [← e]; exact hl _ r₅, hI'⟩
    | brk => exact ⟨σ₅, r₅, q₅⟩
    | ret v => exact ⟨σ₅, r₅, q₅⟩
  · obtain rfl : i = n := Nat.le_antisymm hi (Nat.not_lt.mp hlt)
    exact H.done σ s _ (hX _ σ hI) r fun s' r' => wpN_pure ⟨σ, r', fin _ hI⟩

theorem W_For {target iter : Expr} {body : List Stmt} {pos : Pos} {Q : Flow → St → Prop}
    (h : W prog w A NoE c σ (eval iter env) (fun x σ₁ => W prog w A NoE c σ₁ (pyIter x) (fun v σ₂ => ∃ (it : Addr) (n : Nat) (J : Nat → OP) (P : Nat → Value → Prop) (X : St → Prop) (ν' : List (Addr × OP)) (I : Nat → St → Prop), v = .ref it ∧ σ₂.ν = (it, J 0) :: ν' ∧ Iter prog w A c it n J P X ∧ (∀ i σ, I i σ → X σ) ∧ I 0 ⟨σ₂.l, ν', σ₂.g⟩ ∧
      (∀ i v σ₂, i < n → P i v → I i σ₂ → W prog w A NoE c ⟨σ₂.l, (it, J (i + 1)) :: σ₂.ν, σ₂.g⟩ (letOwnedTupleGo target (.ref it) v) (fun _ σ₃ => W prog w A NoE c σ₃ (assign target env v) (fun _ σ₄ => W prog w A NoE c σ₄ (execs body env)
        (TurnEnd c Q fun σ' => ∃ ν', σ'.ν = (it, J (i + 1)) :: ν' ∧ I (i + 1) ⟨σ'.l, ν', σ'.g⟩)))) ∧ (∀ σ₂, I n σ₂ → Q .next σ₂))))
    (hs : ∀ x, foldedSetIterable iter env x = pure x := by intro _; rfl) : W prog w A E c σ (exec (.For target iter body [] pos) env) Q := by
  rw [exec_For]
  refine W_E (W_bind (W_standAt (W_bind (W_mono h fun x σ₁ q => ?_))))
  refine W_bind (W_val (hs _) (W_bind (W_standAt (W_bind (W_holding (W_mono q fun v σ₂ q' => ?_))))))
  obtain ⟨it, n, J, P, X, ν', I, rfl, e, H, hX, h0, turn, fin⟩ := q'
  obtain ⟨l₂, ν₂, g₂⟩ := σ₂
  dsimp only at e h0
  subst e
  exact W_runOwn rfl fun s r => codeN_forI H I hX turn fin (σ := ⟨l₂, ν', g₂⟩) r h0

/-- for .. in a list -/
theorem W_For_list {target iter : Expr} {body : List Stmt} {pos : Pos} {Q : Flow → St → Prop} (hh : A.handled = none)
    (h : W prog w A NoE c σ (eval iter env) (fun x σ₁ => ∃ (d : Addr) (vs : List Value) (I : Nat → St → Prop), x = .ref d ∧ (∀ i σ, I i σ → HasL c σ d vs) ∧ I 0 σ₁ ∧
      (∀ (i : Nat) v σ₂ it, vs[i]? = some v → I i σ₂ → W prog w A NoE c ⟨σ₂.l, (it, isLIter d (i + 1)) :: σ₂.ν, σ₂.g⟩ (letOwnedTupleGo target (.ref it) v) (fun _ σ₃ => W prog w A NoE c σ₃ (assign target env v) (fun _ σ₄ => W prog w A NoE c σ₄ (execs body env)
        (TurnEnd c Q fun σ' => ∃ ν', σ'.ν = (it, isLIter d (i + 1)) :: ν' ∧ I (i + 1) ⟨σ'.l, ν', σ'.g⟩)))) ∧ (∀ σ₂, I vs.length σ₂ → Q .next σ₂)))
    (hs : ∀ x, foldedSetIterable iter env x = pure x := by intro _; rfl) : W prog w A E c σ (exec (.For target iter body [] pos) env) Q := by
  refine W_For (W_mono h fun x σ₁ q => ?_) hs
  obtain ⟨d, vs, I, rfl, hX, h0, turn, fin⟩ := q
  obtain ⟨l₁, ν₁, g₁⟩ := σ₁
  exact pyIter_list (hX _ _ h0) fun it => ⟨it, vs.length, isLIter d, _, _, ν₁, I, rfl, rfl, Iter.list hh it d vs, hX, h0, fun i v σ₂ _ hP hI => turn i v σ₂ it hP hI, fin⟩

def isRange (a b st : Int) : OP := fun o => ∃ t u v, o = { cls := .type "range", data := .fields #[.int a t, .int b u, .int st v] }
theorem pyIter_range {d : Addr} {a b : Int} {n : Nat} {Q : Value → St → Prop} (hsm : Builtin.Range.small a b 1 = true) (hn : Builtin.Range.rangeSize a b 1 = (n : Int)) (h : ∀ it, Q (.ref it) ⟨l, (it, isRIter (a + (0 : Nat) * 1) ((n : Int) - (0 : Nat)) 1) :: ν, g⟩) :
    W prog w A E c ⟨l, (d, isRange a b 1) :: ν, g⟩ (pyIter (.ref d)) Q := W_any fun s r => by
  obtain ⟨o, e, t, u, v, rfl⟩ := r.ok _ (.head _)
  refine wpAny_pyIter_range e hsm ⟨_, r.tail.push (P := isRIter (a + (0 : Nat) * 1) ((n : Int) - (0 : Nat)) 1) _ ?_, h _⟩
  show _ = _
  rw [hn]; simp
/-- for .. in range(..) -/
theorem W_For_range {target iter : Expr} {body : List Stmt} {pos : Pos} {Q : Flow → St → Prop} (hh : A.handled = none)
    (h : W prog w A NoE c σ (eval iter env) (fun x σ₁ => ∃ (d : Addr) (a b : Int) (n : Nat) (ν₁ : List (Addr × OP)) (I : Nat → St → Prop), x = .ref d ∧ Builtin.Range.small a b 1 = true ∧ Builtin.Range.rangeSize a b 1 = ((n : Nat) : Int) ∧ σ₁.ν = (d, isRange a b 1) :: ν₁ ∧ I 0 ⟨σ₁.l, ν₁, σ₁.g⟩ ∧
      (∀ (i : Nat) t σ₂ it J, i < n → I i σ₂ → W prog w A NoE c ⟨σ₂.l, (it, J) :: σ₂.ν, σ₂.g⟩ (letOwnedTupleGo target (.ref it) (.int (a + i) t)) (fun _ σ₃ => W prog w A NoE c σ₃ (assign target env (.int (a + i) t)) (fun _ σ₄ => W prog w A NoE c σ₄ (execs body env)
        (TurnEnd c Q fun σ' => ∃ ν', σ'.ν = (it, J) :: ν' ∧ I (i + 1) ⟨σ'.l, ν', σ'.g⟩)))) ∧ (∀ σ₂, I n σ₂ → Q .next σ₂)))
    (hs : ∀ x, foldedSetIterable iter env x = pure x := by intro _; rfl) : W prog w A E c σ (exec (.For target iter body [] pos) env) Q := by
  refine W_For (W_mono h fun x σ₁ q => ?_) hs
  obtain ⟨d, a, b, n, ν₁, I, rfl, hsm, hn, e, h0, turn, fin⟩ := q
  obtain ⟨l₁, ν', g₁⟩ := σ₁
  dsimp only at e h0
  subst e
  refine pyIter_range hsm hn fun it => ⟨it, n, _, _, _, ν₁, I, rfl, rfl, Iter.range hh it a n, fun _ _ _ => trivial, h0, fun i v σ₂ hi hP hI => ?_, fin⟩
  obtain ⟨t, rfl⟩ := hP
  exact turn i t σ₂ it _ hi hI

/-! targets -/
theorem W_let_name {x : Str} {px : Pos} {it v : Value} {Q : Unit → St → Prop} (h : Q () σ) : W prog w A E c σ (letOwnedTupleGo (.Name x px) it v) Q := W_pure h
theorem W_let_tuple {elts : List Expr} {x1} {tp : Pos} {it d T : Addr} {i : Nat} {Q : Unit → St → Prop} (hm : (it, isLIter d i) ∈ σ.ν) (h : Q () σ) : W prog w A E c σ (letOwnedTupleGo (.Tuple elts x1 tp) (.ref it) (.ref T)) Q :=
  W_any fun s r => by
    obtain ⟨o, e, a, b⟩ := r.ok _ hm
    exact wpAny_letOwnedTupleGo_listiter (i := i) ⟨o, e, a, b⟩ ⟨σ, r, h⟩
theorem W_assign_name {x : Str} {px : Pos} {v : Value} {Q : Unit → St → Prop} (h : W prog w A E c σ (storeName env x v) Q) : W prog w A E c σ (assign (.Name x px) env v) Q := by
  rw [PySem.assign_Name]; exact W_bind (W_standAt (W_bindName h))
theorem W_inOrder_nil {xs : List Value} {Q : Unit → St → Prop} (h : Q () σ) : W prog w A E c σ (assignInOrder [] xs) Q := W_pure h
theorem W_inOrder_cons {t : Value → Sem Unit} {ts : List (Value → Sem Unit)} {x : Value} {xs : List Value} {Q : Unit → St → Prop} (h : W prog w A E c σ (t x) (fun _ σ₁ => W prog w A E c σ₁ (assignInOrder ts xs) Q)) : W prog w A E c σ (assignInOrder (t :: ts) (x :: xs)) Q := by
  show W prog w A E c σ (holding xs (t x) >>= fun _ => assignInOrder ts xs) Q
  exact W_bind (W_holding h)
theorem W_assign_tuple {elts : List Expr} {x1} {tp : Pos} {T : Addr} {vs : List Value} {Q : Unit → St → Prop} (hh : A.handled = none) (hT : HasT c σ T vs) (hn : (assignEach elts env).length = vs.length) (hstar : (assignEach elts env).findIdx? (·.1) = none)
    (h : W prog w A E c σ (assignInOrder ((assignEach elts env).map (·.2)) vs) Q) : W prog w A E c σ (assign (.Tuple elts x1 tp) env (.ref T)) Q := by
  have e : assign (.Tuple elts x1 tp) env (.ref T) = (do standAt tp; unpack (.ref T) (assignEach elts env)) := rfl
  rw [e]
  refine W_bind (W_standAt ?_)
  unfold unpack
  rw [hn, hstar]
  refine W_bind (W_holding (W_mono (Q := fun xs σ' => xs = vs ∧ σ' = σ) ?_ fun xs σ' q => by obtain ⟨rfl, rfl⟩ := q; exact h))
  refine W_any fun s r => ?_
  have ht := hT.at r
  have := PyProof.Rows.unpackItems_tuple (prog := prog) (w := w) (A := A) (E := E) (Q := fun xs s' => ∃ σ', Rep c σ' s' ∧ xs = vs ∧ σ' = σ) hh ht fun h' he => ⟨σ, r.keeps (s' := { s with heap := h' }) (fun b o e => he b o (Nat.ne_of_lt (Heap.lt_size e)) e) rfl rfl, rfl, rfl⟩
  simpa using this
end
section
variable {prog : Program} {w : World} {A : Around} {E : Value → Shared → Prop} {c : Cx} {σ : St} {l : List (Str × Value)} {ν : List (Addr × OP)} {g : Array GenState} {env : Env}

/-! ## methods of built-in types -/
theorem W_method {o : Expr} {name : Str} {apos pos : Pos} {args : List Expr} {Q : Value → St → Prop}
    (h : W prog w A E c σ (eval o env) (fun ov σ₁ => ∃ T id, PlainAttrs T ∧ Slot T name id ∧ typeOf (.builtin id) = pure (.type "method_descriptor") ∧
      (∀ s, Rep c σ₁ s → s.TypeIs ov T ∧ ∀ a, ov = .ref a → ∃ ob, s.heap.get? a = some ob ∧ ob.dict = none) ∧
      W prog w A E c σ₁ (spliced (backTo pos (starEach args env))) (fun vs σ₂ => W prog w A E c σ₂ (call (.builtin id) (ov :: vs) []) Q)))
    (hbase : attributeBase o name env (eval o env) = eval o env := by rfl)
    (hfew : methodCallForm (args.length + ([] : List Keyword).length) (backTo pos (starEach args env)) (backToKw pos (keywordEach [] env)) = true := by rfl)
    (hline : (apos.endLine == pos.line) = true := by rfl) (hp : plainTrees (backTo pos (starEach args env)) = true := by rfl) : W prog w A E c σ (eval (.Call (.Attribute o name apos) args [] pos) env) Q := by
  rw [arm_eval_Call, hbase]
  refine W_bind (W_mono h fun ov σ₁ q => ?_)
  obtain ⟨T, id, pa, slot, hty, hT, hc⟩ := q
  refine W_bind (W_standAt ?_)
  unfold methodCall
  rw [hfew]
  refine W_bind (W_holding (W_mono (Q := fun fx σ' => fx = (.builtin id, [ov]) ∧ σ' = σ₁) (W_any fun s r => getMethod_builtin (hT s r).1 pa slot hty (hT s r).2 ⟨_, r, rfl, rfl⟩) ?_))
  rintro _ _ ⟨rfl, rfl⟩
  have hpos : methodCallPos true o env apos pos = pure pos := by unfold methodCallPos; simp [hline]
  exact W_bind (W_val hpos (W_callWith_b (first := [ov]) hc hp))

theorem isList_type {s : Shared} {a : Addr} {vs : List Value} (r : Rep c σ s) (hm : (a, isList vs) ∈ σ.ν) : s.TypeIs (.ref a) "list" ∧ ∀ b, Value.ref a = .ref b → ∃ ob, s.heap.get? b = some ob ∧ ob.dict = none := by
  obtain ⟨o, e, n, rfl⟩ := r.ok _ hm
  exact ⟨⟨_, e, rfl⟩, fun b q => by cases q; exact ⟨_, e, rfl⟩⟩

/-- x.append(e) of a list of the call's own -/
theorem W_append_call {a : Addr} {vs : List Value} {x : Value} {ν' : List (Addr × OP)} {Q : Value → St → Prop} (u : Upd a (isList vs) (isList (vs ++ [x])) ν ν') (hz : vs.length ≤ 16777216) (h : Q .none ⟨l, ν', g⟩) :
    W prog w A E c ⟨l, ν, g⟩ (call (.builtin "list.append") [.ref a, x] []) Q := W_any fun s r => by
  obtain ⟨o, e, n, rfl⟩ := r.ok _ u.mem
  refine append_at (hsz := by rw [sizeLine_eq]; simpa using hz) e fun h' hs ho' => ⟨_, r.upd (s' := { s with heap := h' }) u (fun b o hb e => hs.extBut b o hb e) ho' ⟨n + 1, by simp⟩ rfl rfl, h⟩
theorem W_append {o e : Expr} {apos pos : Pos} {Q : Value → St → Prop}
    (h : W prog w A E c σ (eval o env) (fun ov σ₁ => ∃ a vs, ov = .ref a ∧ (a, isList vs) ∈ σ₁.ν ∧ W prog w A E c σ₁ (eval e env) (fun x σ₂ => W prog w A E c σ₂ (call (.builtin "list.append") [.ref a, x] []) Q)))
    (hst : starEach [e] env = [(false, eval e env)] := by rfl)
    (hbase : attributeBase o "append" env (eval o env) = eval o env := by rfl) (hline : (apos.endLine == pos.line) = true := by rfl) : W prog w A E c σ (eval (.Call (.Attribute o "append" apos) [e] [] pos) env) Q := by
  refine W_method (W_mono h fun ov σ₁ q => ?_) hbase (by rw [hst]; rfl) hline (by rw [hst]; rfl)
  obtain ⟨a, vs, rfl, hm, q⟩ := q
  refine ⟨"list", "list.append", F.plainAttrs_list, F.slot_list_append, F.type_list_append, fun s r => isList_type r hm, ?_⟩
  rw [hst]
  exact W_spliced_cons (W_mono q fun x σ₂ q' => W_spliced_nil q')

/-! ## a rule of the kit that speaks of Fr and News -/
def heap0 : Heap := {}
def others (h : Heap) (L : Addr) : List (Addr × Obj) := (List.range h.objs.size).filterMap fun b => if b = L then none else (h.get? b).map (b, ·)
theorem mem_others {h : Heap} {L b : Addr} {o : Obj} : (b, o) ∈ others h L ↔ h.get? b = some o ∧ b ≠ L := by
  unfold others
  rw [List.mem_filterMap]
  constructor
  · rintro ⟨x, hx, e⟩
    split at e
    · cases e
    · rename_i hn
      obtain ⟨o', e', q⟩ := Option.map_eq_some_iff.mp e
      cases q
      exact ⟨e', hn⟩
  · rintro ⟨e, hn⟩
    exact ⟨b, List.mem_range.mpr (Heap.lt_size e), by rw [if_neg hn, e]; rfl⟩
theorem Rep.frnews {s : Shared} (r : Rep c σ s) : ∃ m, Fr heap0 c.L s.heap m ∧ News heap0 c.L s.heap (others s.heap c.L) ∧
    ∀ (s' : Shared), Fr heap0 c.L s'.heap m → News heap0 c.L s'.heap (others s.heap c.L) → s'.os = s.os → s'.gens = s.gens → Rep c σ s' := by
  obtain ⟨m, hn, hm⟩ := r.ns
  refine ⟨m, ⟨hn, fun b o e => by cases b <;> simp [heap0, Heap.get?] at e, Nat.zero_le _⟩, fun p hp => ⟨(mem_others.mp hp).1, (mem_others.mp hp).2, by simp [heap0, Heap.get?]⟩, fun s' F N ho hg => ?_⟩
  have hk : ∀ b o, b ≠ c.L → s.heap.get? b = some o → s'.heap.get? b = some o := fun b o hb e => (N (b, o) (mem_others.mpr ⟨e, hb⟩)).1
  exact ⟨⟨m, F.ns, hm⟩, r.lnd, fun b o e => hk b o (fun q => by rw [q, r.fr] at e; cases e) (r.keep b o e), r.fr, fun p hp => let ⟨o, e, q⟩ := r.ok p hp; ⟨o, hk _ _ (r.own p hp).1 e, q⟩, r.own, r.nd, ho.trans r.os, hg.trans r.gens⟩

theorem Rep.fresh {s : Shared} (r : Rep c ⟨l, ν, g⟩ s) {a : Addr} (hf : s.heap.get? a = none) : a ≠ c.L ∧ c.h.get? a = none ∧ a ∉ ν.map (·.1) :=
  ⟨r.ne_L hf, r.none_of_fresh hf, fun hm => by
    obtain ⟨p, hp, rfl⟩ := List.mem_map.mp hm
    obtain ⟨o, e, _⟩ := r.ok p hp
    rw [hf] at e; cases e⟩
theorem Rep.cons {s : Shared} {a : Addr} {P : OP} {o : Obj} (r : Rep c ⟨l, ν, g⟩ s) (e : s.heap.get? a = some o) (hP : P o) (hf : a ≠ c.L ∧ c.h.get? a = none ∧ a ∉ ν.map (·.1)) : Rep c ⟨l, (a, P) :: ν, g⟩ s :=
  ⟨r.ns, r.lnd, r.keep, r.fr, fun p hp => by
    rcases List.mem_cons.mp hp with rfl | hp
    · exact ⟨o, e, hP⟩
    · exact r.ok p hp, fun p hp => by
    rcases List.mem_cons.mp hp with rfl | hp
    · exact ⟨hf.1, hf.2.1⟩
    · exact r.own p hp, List.nodup_cons.mpr ⟨hf.2.2, r.nd⟩, r.os, r.gens⟩
theorem size_none (h : Heap) : h.get? h.objs.size = none := by
  cases e : h.get? h.objs.size with
  | none => rfl
  | some o' => exact absurd (Heap.lt_size e) (Nat.lt_irrefl _)

theorem W_addL {a b : Addr} {vs ws : List Value} {Q : Value → St → Prop} (ha : HasL c ⟨l, ν, g⟩ a vs) (hb : HasL c ⟨l, ν, g⟩ b ws) (hz : vs.length + ws.length ≤ 16777216) (h : ∀ d, Q (.ref d) ⟨l, (d, isList (vs ++ ws)) :: ν, g⟩) :
    W prog w A E c ⟨l, ν, g⟩ (binaryOp .Add (.ref a) (.ref b)) Q := W_any fun s r => by
  obtain ⟨m, F, N, back⟩ := r.frnews
  refine add_arrays F N (ha.at r) (hb.at r) (fun h' F' N' => ⟨_, ?_, h s.heap.objs.size⟩) (by rw [sizeLine_eq]; simpa using hz)
  have r' : Rep c ⟨l, ν, g⟩ { s with heap := h' } := back _ F' (fun p hp => N' p (.tail _ hp)) rfl rfl
  exact r'.cons (N' _ (.head _)).1 ⟨0, by simp⟩ (r.fresh (size_none _))

/-! ## more built-ins -/
theorem W_max2 {a b : Int} {t u : Tok} {Q : Value → St → Prop} (hh : A.handled = none) (h : ∀ t, Q (.int (max a b) t) σ) : W prog w A E c σ (call (.builtin "max") [.int a t, .int b u] []) Q := W_any fun s r =>
  max_two_ints hh fun h' tk hk => ⟨σ, r.keeps (s' := { s with heap := h', toks := tk }) hk rfl rfl, by
    split
    · rw [show b = max a b by omega]; exact h _
    · rw [show a = max a b by omega]; exact h _⟩
theorem W_min2 {a b : Int} {t u : Tok} {Q : Value → St → Prop} (hh : A.handled = none) (h : ∀ t, Q (.int (min a b) t) σ) : W prog w A E c σ (call (.builtin "min") [.int a t, .int b u] []) Q := W_any fun s r =>
  min_two_ints hh fun h' tk hk => ⟨σ, r.keeps (s' := { s with heap := h', toks := tk }) hk rfl rfl, by
    split
    · rw [show b = min a b by omega]; exact h _
    · rw [show a = min a b by omega]; exact h _⟩

theorem W_isiL {a : Addr} {vs : List Value} {Q : Value → St → Prop} (hx : HasL c σ a vs) (h : Q (.bool false) σ) : W prog w A E c σ (call (.builtin "isinstance") [.ref a, .type "bytes"] []) Q := W_any fun s r => by
  obtain ⟨o, e, hc, _⟩ := hx.at r
  exact IsiPair.list_bytes e hc ⟨σ, r.toks _, h⟩
theorem W_isiLL {a : Addr} {vs : List Value} {Q : Value → St → Prop} (hx : HasL c σ a vs) (h : Q (.bool true) σ) : W prog w A E c σ (call (.builtin "isinstance") [.ref a, .type "list"] []) Q := W_any fun s r => by
  obtain ⟨o, e, hc, _⟩ := hx.at r
  exact IsiPair.list_list e hc ⟨σ, r, h⟩
theorem W_isiB {b : Array UInt8} {t : Tok} {Q : Value → St → Prop} (h : Q (.bool true) σ) : W prog w A E c σ (call (.builtin "isinstance") [.bytes b t, .type "bytes"] []) Q := W_any fun s r =>
  call_isinstance_yes (typeIs_bytes s b t) F.isi_meta_bytes F.sub_bytes_bytes ⟨σ, r, h⟩

theorem W_range1 {n : Int} {t : Tok} {Q : Value → St → Prop} (h : ∀ d, Q (.ref d) ⟨l, (d, isRange 0 n 1) :: ν, g⟩) : W prog w A E c ⟨l, ν, g⟩ (call (.type "range") [.int n t] []) Q := W_any fun s r =>
  call_range_1 ⟨_, (r.push (P := isRange 0 n 1) _ ⟨_, _, _, rfl⟩).toks _, h _⟩
theorem W_range3 {a b st : Int} {t u v : Tok} {Q : Value → St → Prop} (h0 : st ≠ 0) (h1 : st.natAbs < 1073741824) (h : ∀ d, Q (.ref d) ⟨l, (d, isRange a b st) :: ν, g⟩) : W prog w A E c ⟨l, ν, g⟩ (call (.type "range") [.int a t, .int b u, .int st v] []) Q := W_any fun s r =>
  call_range_3 h0 ⟨_, r.push (P := isRange a b st) _ ⟨_, _, _, rfl⟩, h _⟩ (.inl (PyProof.noPylong_small h1))

/-- ints to bytes -/
def toB (ns : List Int) : List UInt8 := ns.map fun n => n.toNat.toUInt8
def AllInts (vs : List Value) (ns : List Int) : Prop := IntsAre vs ns
theorem W_bytesL {a : Addr} {vs : List Value} {ns : List Int} {Q : Value → St → Prop} (hh : A.handled = none) (hx : HasL c σ a vs) (hi : IntsAre vs ns) (hr : ∀ n ∈ ns, 0 ≤ n ∧ n < 256) (hz : ns.length ≤ 16777216) (h : ∀ t, Q (.bytes (toB ns).toArray t) σ) :
    W prog w A E c σ (call (.type "bytes") [.ref a] []) Q := W_any fun s r =>
  call_bytes_ints (hx.at r) hi hr (by rw [hi.length, sizeLine_eq]; exact hz) hh fun h' t k hk => ⟨σ, r.keeps (s' := { s with heap := h', toks := k }) hk rfl rfl, h t⟩
end
section
variable {prog : Program} {w : World} {A : Around} {E : Value → Shared → Prop} {c : Cx} {σ : St} {l : List (Str × Value)} {ν : List (Addr × OP)} {g : Array GenState} {env : Env}

theorem gives_ordB (x : UInt8) (t : Tok) : Gives (Builtin.«ord» ⟨[.bytes #[x] t], []⟩) (.int x.toNat) := .of_eq rfl
theorem W_ordB {b : List UInt8} {x : UInt8} {t : Tok} {Q : Value → St → Prop} (hb : b = [x]) (h : ∀ t, Q (.int x.toNat t) σ) : W prog w A E c σ (call (.builtin "ord") [.bytes b.toArray t] []) Q := W_any fun s r => by
  subst hb
  exact call_function_meets F.kind_ord F.plain_ord F.entry_ord (F.args_ord1 _) (gives_ordB x t).meets ⟨σ, r.toks _, h _⟩

theorem noI_bytes_add : typeLookup (.type "bytes") (dunderI "add") = pure none := by rw [typeLookup_type, builtinLookup_eq_fast]; kernel_rfl
theorem W_iaddB {a b : List UInt8} {t u : Tok} {Q : Value → St → Prop} (hz : a.length + b.length ≤ 16777216) (h : ∀ t, Q (.bytes (a ++ b).toArray t) σ) : W prog w A E c σ (inplaceOp .Add (.bytes a.toArray t) (.bytes b.toArray u)) Q := W_any fun s r => by
  refine iconcat_gives (typeIs_bytes s a.toArray t) (typeIs_bytes s b.toArray u) noI_bytes_add KBy.noFill_bytes_add KBy.seq_bytes_add FB.slot_bytes_add FB.entry_bytes_add (FB.args_bytes_add_2 _ _) (KBy.gives_bytes_add (KBy.tooLong_not (by simpa using hz))) ?_
  by_cases ha : a = []
  · subst ha
    rw [if_pos (by simp)]
    exact ⟨σ, r, by simpa using h u⟩
  · rw [if_neg (by simpa using ha)]
    by_cases hb : b = []
    · subst hb
      rw [if_pos (by simp)]
      exact ⟨σ, r, by simpa using h t⟩
    · rw [if_neg (by simpa using hb)]
      exact ⟨by rw [sizeLine_eq]; simpa using hz, σ, r.toks _, by rw [List.append_toArray]; exact h _⟩

theorem sum_le_mul {B : Int} (hB : 0 ≤ B) : ∀ {ns : List Int}, (∀ n ∈ ns, 0 ≤ n ∧ n ≤ B) → 0 ≤ ns.sum ∧ ns.sum ≤ B * (ns.length : Int)
  | [], _ => by simp
  | n :: r, h => by
    have h1 := h n (.head _)
    have h2 := sum_le_mul hB (ns := r) fun m hm => h m (.tail _ hm)
    rw [List.sum_cons, List.length_cons, Int.natCast_succ, Int.mul_add, Int.mul_one]
    omega
theorem ints_get {vs : List Value} {ns : List Int} (hi : IntsAre vs ns) : ∀ {i : Nat} {v : Value}, vs[i]? = some v → ∃ n t, ns[i]? = some n ∧ v = .int n t := by
  induction hi with
  | nil => intro i v hv; simp at hv
  | cons n t h ih =>
    intro i v hv
    cases i with
    | zero => simp at hv; exact ⟨n, t, rfl, hv.symm⟩
    | succ i => exact ih (by simpa using hv)
theorem W_sumL {a : Addr} {vs : List Value} {ns : List Int} {Q : Value → St → Prop} (hh : A.handled = none) (hx : HasL c σ a vs) (hi : IntsAre vs ns) (hr : ∀ n ∈ ns, 0 ≤ n ∧ n ≤ 1048576) (hz : ns.length ≤ 16777216) (h : ∀ t, Q (.int ns.sum t) σ) :
    W prog w A E c σ (call (.builtin "sum") [.ref a] []) Q := W_any fun s r => by
  have hL := hx.at r
  have hlt : a < s.heap.objs.size := by obtain ⟨_, e, _⟩ := hL; exact Heap.lt_size e
  refine call_sum_walk (wpAny_pyIter_list hL ?_)
  have up : ∀ b o, s.heap.get? b = some o → (s.heap.push { cls := .type "list_iterator", data := .fields #[.ref a, .int 0 0] }).get? b = some o := fun b o e => Heap.get?_push_of_some _ e
  have hlen := hi.length
  have pre : ∀ j, j ≤ ns.length → 0 ≤ preSum (fun j => ns.getD j 0) j ∧ preSum (fun j => ns.getD j 0) j ≤ 1048576 * 16777216 := fun j hj => by
    rw [KBmo.pre_take ns j hj]
    have := sum_le_mul (B := 1048576) (by decide) (ns := ns.take j) fun n hn => hr n (List.mem_of_mem_take hn)
    rw [List.length_take] at this
    omega
  refine ⟨s.heap.objs.size, _, _, vs.toArray.size, _, _, fun j => ns.getD j 0, rfl, Walks.list (A := A.in1) hh s.heap.objs.size a (Nat.ne_of_lt hlt) vs.toArray, ⟨⟨_, Heap.get?_push_size _ rfl, rfl, rfl⟩, hL.push _⟩, ?_, ?_, ?_, ?_⟩
  · intro b hb
    show b < (s.heap.push _).objs.size
    rw [Heap.size_push]
    rcases List.mem_cons.mp hb with rfl | hb
    · exact Nat.lt_succ_self _
    · rw [List.mem_singleton.mp hb]; exact Nat.lt_succ_of_lt hlt
  · intro i v hv
    obtain ⟨n, t, hn, rfl⟩ := ints_get hi (i := i) (v := v) (by simpa using hv)
    exact ⟨t, by dsimp only; rw [List.getD_eq_getElem?_getD, hn]; rfl⟩
  · intro j hj
    have hj : j < ns.length := by rw [← hlen]; simpa using hj
    have h1 := pre (j + 1) (by omega)
    have h2 : ns.getD j 0 ∈ ns := by
      rw [List.getD_eq_getElem?_getD, List.getElem?_eq_getElem hj]
      exact List.getElem_mem _
    have h3 := hr _ h2
    unfold InLong
    dsimp only
    constructor <;> constructor <;> omega
  · intro h' tk t' hk
    refine ⟨σ, r.keeps (s' := { s with heap := h', toks := tk }) (fun b o e => hk b o (fun hm => ?_) (up b o e)) rfl rfl, ?_⟩
    · rw [List.mem_singleton.mp hm, size_none] at e; cases e
    · rw [List.size_toArray, KBmo.pre_take ns vs.length (by omega), List.take_of_length_le (by omega)]
      exact h t'
end
/-! ## a namespace as an object; the change from one frame to another -/
def isNs (l : List (Str × Value)) : OP := fun o => ∃ es ep, o.data = .dict es ep ∧ StrKeys es ∧ ∀ p ∈ l, nsFind es p.1 = some p.2

/-- what a frame that is entered from the state (c, _ ++ ν) may know -/
structure Frz (c : Cx) (ν : List (Addr × OP)) (c' : Cx) : Prop where
  keep : ∀ b o, c.h.get? b = some o → c'.h.get? b = some o
  ok : ∀ p ∈ ν, ∃ o, c'.h.get? p.1 = some o ∧ p.2 o
  os : c'.os = c.os

def inside (s : Shared) (c : Cx) (L' : Addr) (ν' : List (Addr × OP)) : Cx := ⟨hideAll s.heap (L' :: ν'.map (·.1)), L', c.os⟩

section
variable {c : Cx} {s s' : Shared} {l l' l'' : List (Str × Value)} {ν ν' ν'' : List (Addr × OP)} {g g' : Array GenState} {L' : Addr}

theorem Rep.apart (r : Rep c ⟨l, (L', isNs l') :: ν' ++ ν, g⟩ s) : ∀ p ∈ ν, p.1 ∉ L' :: ν'.map (·.1) := fun p hp hm => by
  have nd := r.nd
  dsimp only at nd
  rw [List.map_append, List.nodup_append] at nd
  exact nd.2.2 p.1 (by simpa using hm) p.1 (List.mem_map.mpr ⟨p, hp, rfl⟩) rfl

theorem Rep.enter (r : Rep c ⟨l, (L', isNs l') :: ν' ++ ν, g⟩ s) (hn : (l'.map (·.1)).Nodup) : Rep (inside s c L' ν') ⟨l', ν', g⟩ s ∧ Frz c ν (inside s c L' ν') := by
  have nd := r.nd
  have ap := r.apart
  dsimp only at nd
  rw [List.map_append, List.nodup_append] at nd
  have nd1 : (L' :: ν'.map (·.1)).Nodup := nd.1
  rw [List.nodup_cons] at nd1
  refine ⟨⟨?_, hn, fun b o e => of_hideAll _ e, hideAll_none _ (.head _), fun p hp => r.ok p (List.mem_append_left _ (.tail _ hp)), fun p hp => ⟨fun q => nd1.1 (List.mem_map.mpr ⟨p, hp, q⟩), hideAll_none _ (.tail _ (List.mem_map.mpr ⟨p, hp, rfl⟩))⟩, nd1.2, r.os, r.gens⟩, ⟨fun b o e => ?_, fun p hp => ?_, rfl⟩⟩
  · obtain ⟨o, e, es, ep, hd, hk, hm⟩ := r.ok _ (List.mem_append_left _ (.head _))
    exact ⟨nsFind es, ⟨o, es, ep, e, hd, hk, fun _ => rfl⟩, hm⟩
  · refine hideAll_get _ (r.keep b o e) fun hm => ?_
    have : b ∈ ((L', isNs l') :: ν').map (·.1) := hm
    obtain ⟨p, hp, rfl⟩ := List.mem_map.mp this
    have := (r.own p (List.mem_append_left _ hp)).2
    rw [e] at this; cases this
  · obtain ⟨o, e, q⟩ := r.ok p (List.mem_append_right _ hp)
    exact ⟨o, hideAll_get _ e (ap p hp), q⟩

theorem Rep.leave (r0 : Rep c ⟨l, (L', isNs l') :: ν' ++ ν, g⟩ s) (r : Rep (inside s c L' ν') ⟨l'', ν'', g'⟩ s') : Rep c ⟨l, (L', isNs l'') :: ν'' ++ ν, g'⟩ s' ∧ (l''.map (·.1)).Nodup := by
  have ap := r0.apart
  have own0 := r0.own
  have notin : ∀ b o, s.heap.get? b = some o → b ∉ L' :: ν'.map (·.1) → s'.heap.get? b = some o := fun b o e hb => r.keep b o (hideAll_get _ e hb)
  have hmem : ∀ b, b ∈ L' :: ν'.map (·.1) → b ≠ c.L ∧ c.h.get? b = none := fun b hb => by
    have : b ∈ ((L', isNs l') :: ν').map (·.1) := hb
    obtain ⟨p, hp, rfl⟩ := List.mem_map.mp this
    exact own0 p (List.mem_append_left _ hp)
  have hL : L' ≠ c.L ∧ c.h.get? L' = none := hmem _ (.head _)
  have dj : ∀ p ∈ ν'', p.1 ∉ ν.map (·.1) := fun p hp hm => by
    obtain ⟨q, hq, e⟩ := List.mem_map.mp hm
    obtain ⟨o, eo, _⟩ := r0.ok q (List.mem_append_right _ hq)
    have h1 := hideAll_get _ eo (ap q hq)
    have h2 := (r.own p hp).2
    rw [← e] at h2
    have h2 : (hideAll s.heap (L' :: ν'.map (·.1))).get? q.1 = none := h2
    rw [h1] at h2; cases h2
  have djL : L' ∉ ν.map (·.1) := fun hm => by
    obtain ⟨q, hq, e⟩ := List.mem_map.mp hm
    exact ap q hq (by rw [e]; exact .head _)
  refine ⟨⟨?_, r0.lnd, fun b o e => notin b o (r0.keep b o e) fun hm => ?_, r0.fr, fun p hp => ?_, fun p hp => ?_, ?_, r.os, r.gens⟩, r.lnd⟩
  · obtain ⟨m, hn, hm⟩ := r0.ns
    exact ⟨m, hn.at' fun o e => notin _ o e fun hm => (hmem _ hm).1 rfl, hm⟩
  · have := (hmem b hm).2; rw [e] at this; cases this
  · rcases List.mem_append.mp hp with hp | hp
    · rcases List.mem_cons.mp hp with rfl | hp
      · obtain ⟨m, ⟨o, es, ep, e, hd, hk, hf⟩, hm⟩ := r.ns
        exact ⟨o, e, es, ep, hd, hk, fun p hp => (hf _).trans (hm p hp)⟩
      · exact r.ok p hp
    · obtain ⟨o, e, q⟩ := r0.ok p (List.mem_append_right _ hp)
      exact ⟨o, notin _ o e (ap p hp), q⟩
  · rcases List.mem_append.mp hp with hp | hp
    · rcases List.mem_cons.mp hp with rfl | hp
      · exact hL
      · have hp2 : (hideAll s.heap (L' :: ν'.map (·.1))).get? p.1 = none := (r.own p hp).2
        refine ⟨fun e => ?_, ?_⟩
        · obtain ⟨m, ⟨o, es, ep, eo, _⟩, _⟩ := r0.ns
          rw [e, hideAll_get _ eo fun hm => (hmem _ hm).1 rfl] at hp2
          cases hp2
        · cases e : c.h.get? p.1 with
          | none => rfl
          | some o =>
            rw [hideAll_get _ (r0.keep _ _ e) fun hm => by have := (hmem _ hm).2; rw [e] at this; cases this] at hp2
            cases hp2
    · exact own0 p (List.mem_append_right _ hp)
  · show (((L', isNs l'') :: ν'' ++ ν).map (·.1)).Nodup
    rw [List.map_append, List.nodup_append]
    have nd0 := r0.nd
    dsimp only at nd0
    rw [List.map_append, List.nodup_append] at nd0
    refine ⟨?_, nd0.2.1, fun a ha b hb e => ?_⟩
    · rw [List.map_cons, List.nodup_cons]
      refine ⟨fun hm => ?_, r.nd⟩
      obtain ⟨p, hp, e⟩ := List.mem_map.mp hm
      exact (r.own p hp).1 e
    · subst e
      rw [List.map_cons] at ha
      rcases List.mem_cons.mp ha with h | h
      · have h : a = L' := h
        exact djL (h ▸ hb)
      · obtain ⟨p, hp, rfl⟩ := List.mem_map.mp h
        exact dj p hp hb
end

section
variable {c c' : Cx} {σ σ' : St} {ν : List (Addr × OP)} {a : Addr} {vs : List Value}
theorem Frz.obj (z : Frz c ν c') {P : OP} (h : (a, P) ∈ ν) : ∃ o, c'.h.get? a = some o ∧ P o := z.ok _ h
theorem HasL.frz {l g} (x : HasL c ⟨l, ν, g⟩ a vs) (z : Frz c ν c') : HasL c' σ' a vs := by
  rcases x with ⟨o, e, q⟩ | x
  · exact .inl ⟨o, z.keep _ _ e, q⟩
  · obtain ⟨o, e, n, rfl⟩ := z.ok _ x
    exact .inl ⟨_, e, rfl, n, rfl⟩
theorem HasT.frz {l g} (x : HasT c ⟨l, ν, g⟩ a vs) (z : Frz c ν c') : HasT c' σ' a vs := by
  rcases x with ⟨o, e, q⟩ | x
  · exact .inl ⟨o, z.keep _ _ e, q⟩
  · obtain ⟨o, e, n, rfl⟩ := z.ok _ x
    exact .inl ⟨_, e, rfl, n, rfl⟩
theorem HasC.frz {l g} {v : Value} (x : HasC c ⟨l, ν, g⟩ a v) (z : Frz c ν c') : HasC c' σ' a v := by
  rcases x with ⟨o, e, q⟩ | x
  · exact .inl ⟨o, z.keep _ _ e, q⟩
  · obtain ⟨o, e, q⟩ := z.ok _ x
    exact .inl ⟨o, e, q⟩
end

/-! ## calls of the text's defs -/
section
variable {prog : Program} {w : World} {A : Around} {E : Value → Shared → Prop} {R : Result → Shared → Prop} {s : Shared}
theorem codeN_call_function {a : Addr} {args : Args} {o : Obj} {fd : FuncData} {body : List Stmt} (hroom : A.depth < recursionLimit)
    (ho : s.heap.get? a = some o)
    (hd' : o.data = .func fd) (hco : fd.scope.isCoroutine = false) (hgen : fd.scope.isGenerator = false) (hbody : fd.body = .stmts body) (hcd : s.heap.CodeRec fd.code fd.qualname)
    (h : wpN (model prog w) A.in1 (bindArgs fd args) (fun binds s₁ =>
      wpN (model prog w) A.in1 (newFunctionEnv fd.scope fd.globals fd.closure binds (fd.qualname ++ ".<locals>.") (some a) fd.code none fd.builtins)
        (fun env s₂ => s₂.heap.NoLimit ∧ codeN (model prog w) A (.func body env) R s₂) (fun e s' => R (.error e) s') s₁) (fun e s' => R (.error e) s') s) :
    codeN (model prog w) A (.call (.ref a) args) R s := by
  refine codeN_of_tree ?_
  show wpN _ A.in1 (callAny (.ref a) args) _ _ s
  simp only [callAny]
  refine wpN_bind (wpN_any (wpAny_load ho ?_))
  obtain ⟨c, oc, vs, tq, hc, hoc, hdc, hq⟩ := hcd
  simp only [hd', callFunction, hco, hgen, hbody, hc]
  rw [hc] at h
  refine wpN_bind (m := field (.ref c) 1) (wpN_any (wpAny_field hoc hdc hq ?_))
  refine wpN_bind (wpN_pure ?_)
  refine wpN_bind (wpN_mono h (fun binds s₁ h₁ => ?_) fun _ _ h' => h')
  refine wpN_bind (wpN_mono h₁ (fun env s₂ h₂ => ?_) fun _ _ h' => h')
  refine wpN_bind (wpN_any (wpAny_enterFrame h₂.1 hroom ?_))
  exact wpN_pure ⟨rfl, rfl, h₂.2⟩
theorem codeN_func {body env}
    (h : wpN (model prog w) (A.deeper env) (execs body env) (fun f s' => R (.ok (.ret (match f with | .ret v => v | _ => .none))) s')
      (fun e s' => wpN (model prog w) (A.deeper env) (leaving env e) (fun _ s'' => R (.error e) s'') (fun e' s'' => R (.error e') s'') s') s) :
    codeN (model prog w) A (.func body env) R s := by
  refine codeN_of_tree ?_
  show wpN _ (A.deeper env) (do point; match ← (execs body env).onRaise (leaving env) with | .ret v => ret v | _ => ret .none) _ _ s
  refine wpN_bind (wpN_any (wpAny_point ?_))
  refine wpN_bind (wpN_onRaise (wpN_mono h (fun f s' h' => ?_) fun _ _ h' => h'))
  cases f <;> exact wpN_pure h'
end

theorem lookup_nd {α : Type} : ∀ (m : List (Str × α)), (m.map (·.1)).Nodup → ∀ p ∈ m, m.lookup p.1 = some p.2
  | [], _, p, hp => nomatch hp
  | (k, v) :: r, hn, p, hp => by
    rw [List.map_cons, List.nodup_cons] at hn
    rcases List.mem_cons.mp hp with rfl | hp
    · simp
    · have : p.1 ≠ k := fun e => hn.1 (List.mem_map.mpr ⟨p, hp, e⟩)
      rw [List.lookup_cons, beq_eq_false_iff_ne.mpr this]
      exact lookup_nd r hn.2 p hp
theorem lookup_rev {l : List (Str × Value)} (hn : (l.map (·.1)).Nodup) : ∀ p ∈ l, l.reverse.lookup p.1 = some p.2 := fun p hp =>
  lookup_nd _ (by rw [List.map_reverse]; exact (List.reverse_perm _).nodup_iff.mpr hn) p (List.mem_reverse.mpr hp)
theorem cellsFrom_keys : ∀ (names : List (Str × NameKind)) (n : Nat) (acc : List (Str × Addr)), (cellsFrom n names acc).map (·.1) = (names.filter (·.2 == .cell)).reverse.map (·.1) ++ acc.map (·.1)
  | [], _, _ => rfl
  | (k, kd) :: r, n, acc => by
    unfold cellsFrom
    split
    · rename_i h
      rw [cellsFrom_keys r]
      simp [h]
    · rename_i h
      rw [cellsFrom_keys r]
      simp [h]
theorem cellsFrom_lookup {names : List (Str × NameKind)} (hn : ((names.filter (·.2 == .cell)).map (·.1)).Nodup) (n : Nat) : ∀ x ∈ cellsFrom n names [], (cellsFrom n names []).lookup x.1 = some x.2 :=
  lookup_nd _ (by rw [cellsFrom_keys]; simp only [List.map_nil, List.append_nil, List.map_reverse]; exact (List.reverse_perm _).nodup_iff.mpr hn)

/-- a def of the text's, at an address -/
def Callee (c : Cx) (σ : St) (a : Addr) (fd : FuncData) : Prop := ∀ s, Rep c σ s → ∃ o, s.heap.get? a = some o ∧ o.data = .func fd ∧ s.heap.CodeRec fd.code fd.qualname ∧ s.heap.NoLimit
def ofX (c : Cx) (X : Value → St → Prop) : Value → Shared → Prop := fun e s => ∃ σ, Rep c σ s ∧ X e σ
def retOf : Flow → Value
  | .ret v => v
  | _ => .none
def liftE (l : List (Str × Value)) (ν : List (Addr × OP)) (Q : Value → St → Prop) (v : Value) (σ' : St) : Prop := Q v ⟨l, σ'.ν ++ ν, σ'.g⟩
abbrev liftQ (l : List (Str × Value)) (ν : List (Addr × OP)) (Q : Value → St → Prop) (f : Flow) (σ' : St) : Prop := liftE l ν Q (retOf f) σ'

section
variable {prog : Program} {w : World} {A : Around} {E : Value → Shared → Prop} {c : Cx} {l : List (Str × Value)} {ρ ν : List (Addr × OP)} {g : Array GenState}

theorem codeN_body {env : Env} {body : List Stmt} {bl : List (Str × Value)} {κ : List (Addr × OP)} {L' : Addr} {s₂ : Shared} {Q : Value → St → Prop} {X' : Cx → Value → St → Prop} {X : Value → St → Prop}
    (hnd : (bl.map (·.1)).Nodup) (r : Rep c ⟨l, (L', isNs bl) :: (κ ++ ρ) ++ ν, g⟩ s₂)
    (h : ∀ c', Frz c ν c' → c'.L = L' → W prog w (A.deeper env) (ofX c' (X' c')) c' ⟨bl, κ ++ ρ, g⟩ (execs body env) (liftQ l ν Q))
    (hX : ∀ c' e σ', Frz c ν c' → c'.L = L' → X' c' e σ' → W prog w (A.deeper env) NoE c' σ' (leaving env e) (fun _ => liftE l ν X e)) :
    codeN (model prog w) A (.func body env) (fun r s' => match r with | .ok (.ret v) => ∃ σ', Rep c σ' s' ∧ Q v σ' | .ok _ => False | .error e => ofX c X e s') s₂ := by
  obtain ⟨r1, z⟩ := r.enter hnd
  refine codeN_func (wpN_mono (h _ z rfl _ r1) (fun f s' q => ?_) fun e s' q => ?_)
  · obtain ⟨σ', r', q⟩ := q
    obtain ⟨l'', ν'', g'⟩ := σ'
    have rl := (r.leave r').1
    have rl' : Rep c ⟨l, ν'' ++ ν, g'⟩ s' := Rep.tail rl
    exact ⟨_, rl', q⟩
  · obtain ⟨σ', r', q⟩ := q
    refine wpN_mono (hX _ e σ' z rfl q _ r') (fun _ s'' q' => ?_) fun _ _ q' => q'.elim
    obtain ⟨σ'', r'', q'⟩ := q'
    obtain ⟨l'', ν'', g'⟩ := σ''
    have rl' : Rep c ⟨l, ν'' ++ ν, g'⟩ s'' := Rep.tail (r.leave r'').1
    exact ⟨_, rl', q'⟩

/-- a call of a def without cells of its own -/
theorem W_callX {a : Addr} {fd : FuncData} {body : List Stmt} {vals : List Value} {binds : List (Str × Value)} {Q : Value → St → Prop} {X' : Cx → Value → St → Prop} {X : Value → St → Prop}
    (hroom : A.depth < recursionLimit) (hF : Callee c ⟨l, ρ ++ ν, g⟩ a fd) (hbody : fd.body = .stmts body) (hbind : bindArgs fd ⟨vals, []⟩ = pure binds) (hnd : (binds.map (·.1)).Nodup)
    (h : ∀ c', Frz c ν c' → W prog w (A.deeper (callEnv fd c'.L a)) (ofX c' (X' c')) c' ⟨binds, ρ, g⟩ (execs body (callEnv fd c'.L a)) (liftQ l ν Q))
    (hX : ∀ c' e σ', Frz c ν c' → X' c' e σ' → W prog w (A.deeper (callEnv fd c'.L a)) NoE c' σ' (leaving (callEnv fd c'.L a) e) (fun _ => liftE l ν X e))
    (hloc : ∀ x ∈ binds, fd.scope.names.lookup x.1 = some .local) (hcell : ∀ x ∈ fd.scope.names, x.2 ≠ .cell := by decide)
    (hco : fd.scope.isCoroutine = false := by rfl) (hgen : fd.scope.isGenerator = false := by rfl) (hk : fd.scope.kind = .function := by rfl) :
    W prog w A (ofX c X) c ⟨l, ρ ++ ν, g⟩ (call (.ref a) vals []) Q := fun s r => wpN_call (by
  obtain ⟨o, ho, hdata, hcd, hlim⟩ := hF s r
  refine codeN_call_function hroom ho hdata hco hgen hbody hcd ?_
  rw [hbind]
  refine wpN_pure (wpN_any (wpAny_newFunctionEnv hcell hloc (fun h₁ hns hsb => ⟨hlim.fresh _ hsb, ?_⟩) hk))
  have hk' : ∀ b o, s.heap.get? b = some o → h₁.get? b = some o := fun b o e => hsb.extBut b o (Nat.ne_of_lt (Heap.lt_size e)) (Heap.get?_push_of_some _ e)
  have r2 : Rep c ⟨l, (s.heap.objs.size, isNs binds) :: ([] ++ ρ) ++ ν, g⟩ { s with heap := h₁, toks := s.toks + binds.length } := by
    obtain ⟨o, es, ep, e, hd, hs, hf⟩ := hns
    exact r.alloc hk' e ⟨es, ep, hd, hs, fun p hp => (hf _).trans (lookup_rev hnd p hp)⟩ (size_none _) rfl rfl
  exact codeN_body (X' := X') (X := X) (Q := Q) hnd r2 (fun c' z e => by rw [← e]; exact h c' z) (fun c' e σ' z e' hx => by rw [← e']; exact hX c' e σ' z hx))

theorem W_call_ {a : Addr} {fd : FuncData} {body : List Stmt} {vals : List Value} {binds : List (Str × Value)} {Q : Value → St → Prop}
    (hroom : A.depth < recursionLimit) (hF : Callee c ⟨l, ρ ++ ν, g⟩ a fd) (hbody : fd.body = .stmts body) (hbind : bindArgs fd ⟨vals, []⟩ = pure binds) (hnd : (binds.map (·.1)).Nodup)
    (h : ∀ c', Frz c ν c' → W prog w (A.deeper (callEnv fd c'.L a)) NoE c' ⟨binds, ρ, g⟩ (execs body (callEnv fd c'.L a)) (liftQ l ν Q))
    (hloc : ∀ x ∈ binds, fd.scope.names.lookup x.1 = some .local) (hcell : ∀ x ∈ fd.scope.names, x.2 ≠ .cell := by decide)
    (hco : fd.scope.isCoroutine = false := by rfl) (hgen : fd.scope.isGenerator = false := by rfl) (hk : fd.scope.kind = .function := by rfl) :
    W prog w A E c ⟨l, ρ ++ ν, g⟩ (call (.ref a) vals []) Q := by
  have := W_callX (prog := prog) (w := w) (A := A) (Q := Q) (X' := fun _ _ _ => False) (X := fun _ _ => False) hroom hF hbody hbind hnd (fun c' z => W_E (h c' z)) (fun _ _ _ _ hx => hx.elim) hloc hcell hco hgen hk
  exact fun s r => wpN_mono (this s r) (fun _ _ q => q) fun _ _ ⟨_, _, q⟩ => q.elim

/-- a call of a def with cells of its own -/
def cellsNu (fd : FuncData) (binds : List (Str × Value)) (L : Addr) : List (Addr × OP) :=
  (cellsFrom (L + 1) fd.scope.names []).map fun x => (x.2, isCell (bindC (fun n => fd.scope.names.lookup n) binds (fun _ => none) x.1))
theorem W_callCX {a : Addr} {fd : FuncData} {body : List Stmt} {vals : List Value} {binds bl : List (Str × Value)} {Q : Value → St → Prop} {X' : Cx → Value → St → Prop} {X : Value → St → Prop}
    (hroom : A.depth < recursionLimit) (hF : Callee c ⟨l, ρ ++ ν, g⟩ a fd) (hbody : fd.body = .stmts body) (hbind : bindArgs fd ⟨vals, []⟩ = pure binds) (hnd : (bl.map (·.1)).Nodup)
    (h : ∀ c', Frz c ν c' → W prog w (A.deeper (callEnvC fd c'.L a)) (ofX c' (X' c')) c' ⟨bl, cellsNu fd binds c'.L ++ ρ, g⟩ (execs body (callEnvC fd c'.L a)) (liftQ l ν Q))
    (hX : ∀ c' e σ', Frz c ν c' → X' c' e σ' → W prog w (A.deeper (callEnvC fd c'.L a)) NoE c' σ' (leaving (callEnvC fd c'.L a) e) (fun _ => liftE l ν X e))
    (hbl : ∀ p ∈ bl, bindL (fun n => fd.scope.names.lookup n) binds (fun _ => none) p.1 = some p.2)
    (hkind : ∀ (s : Shared), ∀ x ∈ binds, fd.scope.names.lookup x.1 = some .local ∨ (fd.scope.names.lookup x.1 = some .cell ∧ ((cellsFrom (s.heap.objs.size + 1) fd.scope.names []).lookup x.1).isSome = true))
    (hclo : fd.closure = []) (hcn : ((fd.scope.names.filter (·.2 == .cell)).map (·.1)).Nodup) (hco : fd.scope.isCoroutine = false := by rfl) (hgen : fd.scope.isGenerator = false := by rfl) (hk : fd.scope.kind = .function := by rfl) :
    W prog w A (ofX c X) c ⟨l, ρ ++ ν, g⟩ (call (.ref a) vals []) Q := fun s r => wpN_call (by
  obtain ⟨o, ho, hdata, hcd, hlim⟩ := hF s r
  refine codeN_call_function hroom ho hdata hco hgen hbody hcd ?_
  rw [hbind, hclo]
  refine wpN_pure (wpN_any (wpAny_newFunctionEnv_cells hk (hkind s) ?_))
  intro env he s' x
  subst he
  obtain ⟨⟨h', tk, rfl⟩, ⟨o', es, ep, e', hd, hs, hf⟩, hk', hfr⟩ := x.toInCall
  refine ⟨hlim.keeps hk', ?_⟩
  let L' := s.heap.objs.size
  have ncell : ∀ n : Nat, s.heap.objs.size ≤ n → s.heap.get? n = none := fun n hn => by
    cases e : s.heap.get? n with
    | none => rfl
    | some o' => exact absurd (Heap.lt_size e) (Nat.not_lt.mpr hn)
  have r2 : Rep c ⟨l, ((L', isNs bl) :: cellsNu fd binds L') ++ (ρ ++ ν), g⟩ { s with heap := h', toks := tk } := by
    refine r.allocs ((L', isNs bl) :: cellsNu fd binds L') hk' (fun p hp => ?_) ?_ rfl rfl
    · rcases List.mem_cons.mp hp with rfl | hp
      · exact ⟨⟨o', e', es, ep, hd, hs, fun p hp => (hf _).trans (hbl p hp)⟩, ncell _ (Nat.le_refl _)⟩
      · obtain ⟨y, hy, rfl⟩ := List.mem_map.mp hp
        obtain ⟨oc, eoc, hoc⟩ := x.cell y.1 y.2 (cellsFrom_lookup hcn _ y hy)
        exact ⟨⟨oc, eoc, hoc⟩, ncell _ (Nat.le_of_lt (x.above y.1 y.2 hy))⟩
    · rw [List.map_cons, List.nodup_cons]
      refine ⟨fun hm => ?_, ?_⟩
      · obtain ⟨p, hp, e⟩ := List.mem_map.mp hm
        obtain ⟨y, hy, rfl⟩ := List.mem_map.mp hp
        have h1 : L' < y.2 := x.above y.1 y.2 hy
        have h2 : y.2 = L' := e
        exact absurd h1 (by rw [h2]; exact Nat.lt_irrefl _)
      · have : (cellsNu fd binds L').map (·.1) = (cellsFrom (L' + 1) fd.scope.names []).map (·.2) := by simp [cellsNu]
        rw [this]
        exact List.pairwise_map.mpr x.apart
  have r3 : Rep c ⟨l, (L', isNs bl) :: (cellsNu fd binds L' ++ ρ) ++ ν, g⟩ { s with heap := h', toks := tk } := by
    simpa [List.append_assoc] using r2
  have he : newEnv fd.scope s.heap.objs.size fd.globals (cellsFrom (s.heap.objs.size + 1) fd.scope.names []) (fd.qualname ++ ".<locals>.") (some a) fd.code none fd.builtins = callEnvC fd L' a := rfl
  rw [he]
  exact codeN_body (κ := cellsNu fd binds L') (X' := X') (X := X) (Q := Q) hnd r3 (fun c' z e => by rw [← e]; exact h c' z) (fun c' e σ' z e' hx => by rw [← e']; exact hX c' e σ' z hx))
theorem W_callC {a : Addr} {fd : FuncData} {body : List Stmt} {vals : List Value} {binds bl : List (Str × Value)} {Q : Value → St → Prop}
    (hroom : A.depth < recursionLimit) (hF : Callee c ⟨l, ρ ++ ν, g⟩ a fd) (hbody : fd.body = .stmts body) (hbind : bindArgs fd ⟨vals, []⟩ = pure binds) (hnd : (bl.map (·.1)).Nodup)
    (h : ∀ c', Frz c ν c' → W prog w (A.deeper (callEnvC fd c'.L a)) NoE c' ⟨bl, cellsNu fd binds c'.L ++ ρ, g⟩ (execs body (callEnvC fd c'.L a)) (liftQ l ν Q))
    (hbl : ∀ p ∈ bl, bindL (fun n => fd.scope.names.lookup n) binds (fun _ => none) p.1 = some p.2)
    (hkind : ∀ (s : Shared), ∀ x ∈ binds, fd.scope.names.lookup x.1 = some .local ∨ (fd.scope.names.lookup x.1 = some .cell ∧ ((cellsFrom (s.heap.objs.size + 1) fd.scope.names []).lookup x.1).isSome = true))
    (hclo : fd.closure = []) (hcn : ((fd.scope.names.filter (·.2 == .cell)).map (·.1)).Nodup) (hco : fd.scope.isCoroutine = false := by rfl) (hgen : fd.scope.isGenerator = false := by rfl) (hk : fd.scope.kind = .function := by rfl) :
    W prog w A E c ⟨l, ρ ++ ν, g⟩ (call (.ref a) vals []) Q := by
  have := W_callCX (prog := prog) (w := w) (A := A) (Q := Q) (X' := fun _ _ _ => False) (X := fun _ _ => False) hroom hF hbody hbind hnd (fun c' z => W_E (h c' z)) (fun _ _ _ _ hx => hx.elim) hbl hkind hclo hcn hco hgen hk
  exact fun s r => wpN_mono (this s r) (fun _ _ q => q) fun _ _ ⟨_, _, q⟩ => q.elim
end
/-! ## names that are no locals -/
section
variable {prog : Program} {w : World} {A : Around} {E : Value → Shared → Prop} {c : Cx} {σ : St} {l : List (Str × Value)} {ν ν' : List (Addr × OP)} {g : Array GenState} {env : Env}

theorem W_loadC {x : Str} {a : Addr} {v : Value} {Q : Value → St → Prop} (hm : HasC c σ a v) (h : Q v σ) (hc : env.cells.lookup x = some a := by rfl) (hk : env.scope.kind = .function := by rfl) (hl : env.kindOf x = some .cell := by rfl) :
    W prog w A E c σ (loadName env x) Q := W_any fun s r => wpAny_loadName_cell hk hl hc (hm.at r) ⟨σ, r, h⟩
theorem W_loadF {x : Str} {a : Addr} {v : Value} {Q : Value → St → Prop} (hm : HasC c σ a v) (h : Q v σ) (hc : env.cells.lookup x = some a := by rfl) (hk : env.scope.kind = .function := by rfl) (hl : env.kindOf x = some .free := by rfl)
    (hn : (x == ("__classdict__" : Str)) = false := by decide) : W prog w A E c σ (loadName env x) Q := W_any fun s r => wpAny_loadName_free hk hl hc (hm.at r) ⟨σ, r, h⟩ hn
theorem W_cellSet {a : Addr} {v₀ : Option Value} {v : Value} {Q : Unit → St → Prop} (u : Upd a (isCell v₀) (isCell (some v)) ν ν') (h : Q () ⟨l, ν', g⟩) : W prog w A E c ⟨l, ν, g⟩ (cellSet a (some v)) Q := W_any fun s r => by
  obtain ⟨o, e, hd⟩ := r.ok _ u.mem
  exact wpAny_cellSet ⟨o, e, hd⟩ fun h' hc hs => by
    obtain ⟨o', e', hd'⟩ := hc
    exact ⟨_, r.upd (s' := { s with heap := h' }) u (fun b o hb e => hs.extBut b o hb e) e' hd' rfl rfl, h⟩
theorem W_storeC {x : Str} {a : Addr} {v₀ : Option Value} {v : Value} {Q : Unit → St → Prop} (u : Upd a (isCell v₀) (isCell (some v)) ν ν') (h : Q () ⟨l, ν', g⟩) (hc : env.cells.lookup x = some a := by rfl)
    (hk : env.scope.kind = .function := by rfl) (hl : env.kindOf x = some .cell := by rfl) : W prog w A E c ⟨l, ν, g⟩ (storeName env x v) Q := by
  have e : storeName env x v = (cellOf env x >>= fun a => cellSet a (some v)) := by
    unfold storeName; simp only [hl, hk]; rfl
  have e2 : cellOf env x = pure a := by unfold cellOf; rw [hc]
  rw [e, e2]
  exact W_bind (W_pure (W_cellSet u h))
theorem W_storeF {x : Str} {a : Addr} {v₀ : Option Value} {v : Value} {Q : Unit → St → Prop} (u : Upd a (isCell v₀) (isCell (some v)) ν ν') (h : Q () ⟨l, ν', g⟩) (hc : env.cells.lookup x = some a := by rfl)
    (hk : env.scope.kind = .function := by rfl) (hl : env.kindOf x = some .free := by rfl) : W prog w A E c ⟨l, ν, g⟩ (storeName env x v) Q := by
  have e : storeName env x v = (cellOf env x >>= fun a => cellSet a (some v)) := by
    unfold storeName; simp only [hl, hk]; rfl
  have e2 : cellOf env x = pure a := by unfold cellOf; rw [hc]
  rw [e, e2]
  exact W_bind (W_pure (W_cellSet u h))

/-- what the text's top has left: the names and where they lead -/
structure GP where
  mg : Str → Option Value
  mb : Str → Option Value
  fa : Nat → Addr
  pm : Nat → Value
  cd : Nat → Value
  doc : Nat → Value
  exc : Addr
end

def stmtAt (i : Nat) : Stmt := PySem.Challenge.pw_bb0033_01.main.body.getD i (.Pass default)
def nameOf : Stmt → Str
  | .FunctionDef name .. => name
  | .ClassDef name .. => name
  | .Assign [.Name x _] _ _ => x
  | _ => ""
def paramsOf : Stmt → Arguments
  | .FunctionDef _ p .. => p
  | _ => default
def bodyOf : Stmt → List Stmt
  | .FunctionDef _ _ b .. => b
  | .ClassDef _ _ _ b .. => b
  | _ => []
def scopeOf : Stmt → Scope
  | .FunctionDef _ _ _ _ _ _ sc .. => sc
  | _ => default
def fdOf (P : GP) (i : Nat) : FuncData := docDef (nameOf (stmtAt i)) (paramsOf (stmtAt i)) (bodyOf (stmtAt i)) (scopeOf (stmtAt i)) (P.pm i) (P.cd i) (P.doc i)

def fnIdx : List Nat := [3, 4, 6, 7, 8, 9, 10, 12, 13, 14, 15, 16]
structure FnOk (P : GP) (h : Heap) (i : Nat) : Prop where
  name : P.mg (nameOf (stmtAt i)) = some (.ref (P.fa i))
  obj : ∃ o, h.get? (P.fa i) = some o ∧ o.data = .func (fdOf P i)
  code : h.CodeRec (P.cd i) (nameOf (stmtAt i))
def builtinsUsed : List Str := ["Exception", "isinstance", "bytes", "len", "sum", "bytearray", "range", "list", "min", "max", "ord"]
structure GL (P : GP) (h : Heap) : Prop where
  g : h.Ns mainGlobals P.mg
  b : h.Ns builtinsNs P.mb
  nolimit : h.NoLimit
  bb : ∀ x, x ≠ ("__name__" : Str) → P.mb x = bootBuiltins x
  fn : ∀ i ∈ fnIdx, FnOk P h i
  free : ∀ x ∈ builtinsUsed, P.mg x = none
  maxc : ∃ t, P.mg "_MAX_COPY_LEN" = some (.int 65535 t)
theorem CodeRec_keeps {h h' : Heap} (k : ∀ b o, h.get? b = some o → h'.get? b = some o) {cd : Value} {q : Str} (x : h.CodeRec cd q) : h'.CodeRec cd q := by
  obtain ⟨a, o, vs, t, e, e1, e2, e3⟩ := x
  exact ⟨a, o, vs, t, e, k _ _ e1, e2, e3⟩
theorem GL.keeps {P : GP} {h h' : Heap} (G : GL P h) (k : ∀ b o, h.get? b = some o → h'.get? b = some o) : GL P h' where
  g := let ⟨o, es, ep, e, r⟩ := G.g; ⟨o, es, ep, k _ _ e, r⟩
  b := let ⟨o, es, ep, e, r⟩ := G.b; ⟨o, es, ep, k _ _ e, r⟩
  nolimit := G.nolimit.keeps k
  bb := G.bb
  fn := fun i hi => let F := G.fn i hi; ⟨F.name, let ⟨o, e, d⟩ := F.obj; ⟨o, k _ _ e, d⟩, CodeRec_keeps k F.code⟩
  free := G.free
  maxc := G.maxc
theorem GL.frz {P : GP} {c c' : Cx} {ν : List (Addr × OP)} (G : GL P c.h) (z : Frz c ν c') : GL P c'.h := G.keeps z.keep

def Room (n : Nat) (A : Around) : Prop := A.handled = none ∧ A.depth + n < recursionLimit
theorem Room.deeper {n : Nat} {A : Around} {env : Env} (h : Room (n + 1) A) : Room n (A.deeper env) := ⟨h.1, by have := h.2; show A.depth + 1 + n < _; omega⟩
theorem Room.lt {n : Nat} {A : Around} (h : Room n A) : A.depth < recursionLimit := by have := h.2; omega
theorem Room.less {n m : Nat} {A : Around} (h : Room n A) (hm : m ≤ n) : Room m A := ⟨h.1, by have := h.2; omega⟩

theorem Le_drop {c : Cx} {l : List (Str × Value)} {ρ ν : List (Addr × OP)} {g : Array GenState} : Le c ⟨l, ρ ++ ν, g⟩ ⟨l, ν, g⟩ := fun s r =>
  r.sub (fun _ h => h) r.lnd (fun p h => List.mem_append_right _ h) (by have := r.nd; dsimp only at this; rw [List.map_append, List.nodup_append] at this; exact this.2.1)
theorem Le_refl {c : Cx} {σ : St} : Le c σ σ := fun _ r => r
theorem Le_trans {c : Cx} {σ σ' σ'' : St} (h : Le c σ σ') (h' : Le c σ' σ'') : Le c σ σ'' := fun s r => h' s (h s r)

section
variable {prog : Program} {w : World} {A : Around} {E : Value → Shared → Prop} {c : Cx} {σ : St} {l : List (Str × Value)} {ν ν' : List (Addr × OP)} {g : Array GenState} {env : Env} {P : GP}
theorem W_global {x : Str} {v : Value} {Q : Value → St → Prop} (G : GL P c.h) (hv : P.mg x = some v) (h : Q v σ) (hgl : env.globals = mainGlobals := by rfl) (hk : env.scope.kind = .function := by rfl) (hl : env.kindOf x = some .globalImplicit := by rfl) :
    W prog w A E c σ (loadName env x) Q := W_any fun s r => by
  unfold loadName
  simp only [Env.blockKind, hk, hl, ScopeKind.isAnnotationScope, Bool.false_and, Bool.false_eq_true, if_false]
  exact loadGlobal_global (by rw [hgl]; exact (G.keeps r.keep).g) hv ⟨σ, r, h⟩
theorem W_builtin {x : Str} {v : Value} {Q : Value → St → Prop} (G : GL P c.h) (hf : x ∈ builtinsUsed) (hv : bootBuiltins x = some v) (h : Q v σ) (hn : x ≠ ("__name__" : Str) := by decide) (hgl : env.globals = mainGlobals := by rfl) (hbl : env.builtins = builtinsNs := by rfl)
    (hk : env.scope.kind = .function := by rfl) (hl : env.kindOf x = some .globalImplicit := by rfl) : W prog w A E c σ (loadName env x) Q := W_any fun s r => by
  unfold loadName
  simp only [Env.blockKind, hk, hl, ScopeKind.isAnnotationScope, Bool.false_and, Bool.false_eq_true, if_false]
  have G' := G.keeps r.keep
  exact loadGlobal_builtin (by rw [hgl]; exact G'.g) (G.free x hf) (by rw [hbl]; exact G'.b) ((G.bb x hn).trans hv) ⟨σ, r, h⟩
theorem callee_of {i : Nat} (G : GL P c.h) (hi : i ∈ fnIdx) : Callee c σ (P.fa i) (fdOf P i) := fun s r => by
  have G' := G.keeps r.keep
  obtain ⟨o, e, d⟩ := (G'.fn i hi).obj
  exact ⟨o, e, d, (G'.fn i hi).code, G'.nolimit⟩
theorem W_bltn {x : Str} {np : Pos} {v : Value} {Q : Value → St → Prop} (G : GL P c.h) (hf : x ∈ builtinsUsed) (hv : bootBuiltins x = some v) (h : Q v σ) (hd : (x == ("__debug__" : Str)) = false := by decide) (hn : x ≠ ("__name__" : Str) := by decide) (hgl : env.globals = mainGlobals := by rfl) (hbl : env.builtins = builtinsNs := by rfl)
    (hk : env.scope.kind = .function := by rfl) (hl : env.kindOf x = some .globalImplicit := by rfl) : W prog w A E c σ (eval (.Name x np) env) Q := W_Name (W_builtin G hf hv h hn hgl hbl hk hl) hd
end
section
variable {prog : Program} {w : World} {A : Around} {E : Value → Shared → Prop} {c c' : Cx} {σ : St} {l l' : List (Str × Value)} {ν ν' : List (Addr × OP)} {g : Array GenState} {env : Env} {P : GP}

theorem Le_sub (hl : ∀ p ∈ l', p ∈ l) (hν : ν'.Sublist ν) (xs : List Str) (hx : l'.map (·.1) = xs := by rfl) (hn : xs.Nodup := by decide +kernel) : Le c ⟨l, ν, g⟩ ⟨l', ν', g⟩ := fun s r =>
  r.sub hl (by rw [hx]; exact hn) (fun p h => hν.subset h) ((hν.map _).nodup r.nd)
theorem Le_perm (hν : ν.Perm ν') : Le c ⟨l, ν, g⟩ ⟨l, ν', g⟩ := fun s r =>
  r.sub (fun _ h => h) r.lnd (fun p h => hν.symm.subset h) ((hν.map _).nodup_iff.mp r.nd)
theorem Le_nu (hν : ν'.Sublist ν) : Le c ⟨l, ν, g⟩ ⟨l, ν', g⟩ := fun s r => r.sub (fun _ h => h) r.lnd (fun p h => hν.subset h) ((hν.map _).nodup r.nd)

inductive NotIn (x : Str) : List (Str × Value) → Prop
  | nil : NotIn x []
  | cons {y : Str} {v : Value} {r : List (Str × Value)} (h : (x == y) = false) (t : NotIn x r) : NotIn x ((y, v) :: r)
theorem NotIn.not {x : Str} {l : List (Str × Value)} (h : NotIn x l) : x ∉ l.map (·.1) := by
  induction h with
  | nil => simp
  | cons h t ih =>
    rw [List.map_cons, List.mem_cons]
    rintro (rfl | h')
    · simp at h
    · exact ih h'
theorem W_storeN {x : Str} {v : Value} {Q : Unit → St → Prop} (hn : NotIn x l) (h : Q () ⟨(x, v) :: l, ν, g⟩) (hL : env.locals = c.L)
    (hl : env.kindOf x = some .local) (hk : env.scope.kind = .function) : W prog w A E c ⟨l, ν, g⟩ (storeName env x v) Q := by
  refine W_forget (W_mono (W_store_new (Q := fun _ σ' => σ' = ⟨l ++ [(x, v)], ν, g⟩) hn.not rfl hL hl hk) fun _ σ' e => ⟨⟨(x, v) :: l, ν, g⟩, ?_, h⟩)
  subst e
  refine fun s r => ⟨?_, ?_, r.keep, r.fr, r.ok, r.own, r.nd, r.os, r.gens⟩
  · obtain ⟨m, hn, hm⟩ := r.ns
    exact ⟨m, hn, fun p (hp : p ∈ (x, v) :: l) => hm p (by rcases List.mem_cons.mp hp with rfl | hp; exact List.mem_append_right _ (.head _); exact List.mem_append_left _ hp)⟩
  · have := r.lnd
    dsimp only at this
    rw [List.map_append] at this
    exact ((List.perm_append_comm (l₁ := l.map (·.1)) (l₂ := [(x, v)].map (·.1))).nodup_iff).mp this

/-- a call of a def at the text's top, without cells of its own -/
theorem W_fn {i : Nat} {vals : List Value} {binds : List (Str × Value)} {Q : Value → St → Prop} (G : GL P c.h) (hA : A.depth < recursionLimit) (hbind : bindArgs (fdOf P i) ⟨vals, []⟩ = pure binds)
    (h : ∀ c', Frz c ν c' → W prog w (A.deeper (callEnv (fdOf P i) c'.L (P.fa i))) NoE c' ⟨binds, [], g⟩ (execs (bodyOf (stmtAt i)) (callEnv (fdOf P i) c'.L (P.fa i))) (liftQ l ν fun v σ' => ∃ σ'', Le c σ' σ'' ∧ Q v σ''))
    (xs : List Str) (hx : binds.map (·.1) = xs := by rfl) (hnd : xs.Nodup := by decide +kernel) (hloc : ∀ x ∈ xs, (scopeOf (stmtAt i)).names.lookup x = some .local := by decide +kernel) (hcell : ∀ x ∈ (scopeOf (stmtAt i)).names, x.2 ≠ .cell := by decide +kernel)
    (hi : i ∈ fnIdx := by decide) (hco : (fdOf P i).scope.isCoroutine = false := by rfl) (hgen : (fdOf P i).scope.isGenerator = false := by rfl) (hk : (fdOf P i).scope.kind = .function := by rfl) :
    W prog w A E c ⟨l, ν, g⟩ (call (.ref (P.fa i)) vals []) Q :=
  W_forget (W_call_ (ρ := []) hA (callee_of G hi) rfl hbind (by rw [hx]; exact hnd) h (fun x hm => hloc x.1 (hx ▸ List.mem_map.mpr ⟨x, hm, rfl⟩)) hcell hco hgen hk)
end
section
variable {prog : Program} {w : World} {A : Around} {E : Value → Shared → Prop} {c : Cx} {σ : St} {l : List (Str × Value)} {ν ν' : List (Addr × OP)} {g : Array GenState} {env : Env}

/-! ## displays -/
theorem W_List {elts : List Expr} {pos : Pos} {Q : Value → St → Prop} (h : W prog w A E c σ (spliced (backTo pos (starEach elts env))) (fun vs σ₁ => W prog w A E c σ₁ (newList vs) Q)) : W prog w A E c σ (eval (.List elts pos) env) Q := by
  rw [arm_eval_List]
  exact W_bind (W_standAt (W_bind (W_mono h fun _ _ q => q)))
theorem W_Tuple {elts : List Expr} {k : Nat} {pos : Pos} {Q : Value → St → Prop} (h : W prog w A E c σ (spliced (backTo pos (starEach elts env))) (fun vs σ₁ => W prog w A E c σ₁ (newTuple vs) Q)) : W prog w A E c σ (eval (.Tuple elts k pos) env) Q := by
  rw [arm_eval_Tuple]
  exact W_bind (W_standAt (W_bind (W_mono h fun _ _ q => q)))
theorem W_args0 {pos : Pos} {Q : List Value → St → Prop} (h : Q [] σ) : W prog w A E c σ (spliced (backTo pos (starEach [] env))) Q := W_spliced_nil h
theorem W_args1 {e : Expr} {rest : List Expr} {pos : Pos} {Q : List Value → St → Prop} (h : W prog w A E c σ (eval e env) (fun v σ₁ => W prog w A E c σ₁ (spliced (backTo pos (starEach rest env))) fun vs σ₂ => Q (v :: vs) σ₂))
    (hs : starEach (e :: rest) env = (false, eval e env) :: starEach rest env) : W prog w A E c σ (spliced (backTo pos (starEach (e :: rest) env))) Q := by
  rw [hs]
  exact W_spliced_cons h

/-! ## list comprehensions -/
structure CIter (prog : Program) (w : World) (A : Around) (it : Addr) (n : Nat) (J : Nat → OP) (P : Nat → Value → Prop) (X : Cx → St → Prop) : Prop where
  iter : ∀ c, Iter prog w A c it n J P (X c)
  self : ∀ c (σ : St) (s : Shared) (Q : Value → Shared → Prop), X c σ → Rep c ⟨σ.l, (it, J 0) :: σ.ν, σ.g⟩ s → Q (.ref it) s → wpAny (model prog w) A (pyIter (.ref it)) Q NoE s
theorem CIter.list (hh : A.handled = none) (it d : Addr) (vs : List Value) : CIter prog w A it vs.length (isLIter d) (fun i v => vs[i]? = some v) (fun c σ => HasL c σ d vs) :=
  ⟨fun c => Iter.list hh it d vs, fun c σ s Q hx r h => by
    obtain ⟨o, e, a, b⟩ := r.ok _ (.head _)
    exact wpAny_pyIter_listiter (l := d) (i := 0) ⟨o, e, a, b⟩ h⟩
theorem CIter.range (hh : A.handled = none) (it : Addr) (a : Int) (n : Nat) : CIter prog w A it n (fun i => isRIter (a + (i : Nat) * 1) ((n : Int) - (i : Nat)) 1) (fun i v => ∃ t, v = .int (a + (i : Nat)) t) (fun _ _ => True) :=
  ⟨fun c => Iter.range hh it a n, fun c σ s Q hx r h => by
    obtain ⟨o, e, rfl⟩ := r.ok _ (.head _)
    exact (Walks.range (prog := prog) (w := w) hh it a 1 n).self 0 s _ _ e h⟩

abbrev compIfs (ifs : List Expr) (env : Env) : Sem Bool := forIn ifs true fun c r => if r = true then do let ok ← isTrue c env (eval c env); pure (ForInStep.yield ok) else pure (ForInStep.yield r)
theorem W_tests_nil {Q : Bool → St → Prop} (h : Q true σ) : W prog w A E c σ (compIfs [] env) Q := W_pure h
theorem W_tests_one {e : Expr} {Q : Bool → St → Prop} (h : W prog w A E c σ (isTrue e env (eval e env)) Q) : W prog w A E c σ (compIfs [e] env) Q := by
  unfold compIfs
  simp only [List.forIn_cons, List.forIn_nil, if_true]
  exact W_bind (W_bind (W_mono h fun b s' hb => W_pure (W_pure hb)))

theorem codeN_compStart {elt target iter ifs rest scope pos it acc env} {R : Result → Shared → Prop} {s : Shared}
    (h0 : codeN (model prog w) A (.compLoop (.ListComp elt (⟨target, iter, ifs, 0⟩ :: rest) scope pos) 0 it acc env) R s)
    (h : wpAny (model prog w) A (pyIter it) (fun it' s' => it' = it ∧ s' = s) NoE s) :
    codeN (model prog w) A (.compStart (.ListComp elt (⟨target, iter, ifs, 0⟩ :: rest) scope pos) 0 it acc env) R s := by
  refine codeN_of_tree ?_
  show wpN _ A ((compStart (.ListComp elt (⟨target, iter, ifs, 0⟩ :: rest) scope pos) 0 it acc env).onRaise (fun x => do noteFrame x env; standAt theWindowsPlace)) _ _ s
  refine wpN_onRaise (wpN_mono (E := NoE) ?_ (fun _ _ q => q) fun _ _ e => e.elim)
  unfold compStart
  show wpN _ _ (ask >>= _) _ _ s
  refine wpN_bind (wpN_any (wpAny_askSetting ?_))
  refine wpN_ite ?_
  split
  · first
      | exact wpN_bind (wpN_pure (wpN_pure ⟨rfl, rfl, h0⟩))
      | exact wpN_pure ⟨rfl, rfl, h0⟩
  · refine wpN_bind (wpN_any (wpAny_rule ?_))
    show wpN _ _ (standAt iter.pos >>= _) _ _ s
    refine wpN_bind (wpN_any (wpAny_standAt ?_))
    refine wpN_bind (wpN_mono (wpN_any h) (fun it' s' h' => ?_) fun _ _ e => e)
    obtain ⟨rfl, rfl⟩ := h'
    exact wpN_pure ⟨rfl, rfl, h0⟩

/-- what one turn of a comprehension shall do -/
def CompTurn (prog : Program) (w : World) (A : Around) (c' : Cx) (scope : Scope) (cl : List (Str × Addr)) (env : Env) (target elt : Expr) (ifs : List Expr) (ia D : Addr) (Jn : OP) (g : Array GenState) (I : List Value → Prop) (ys : List Value) (v : Value) : Prop :=
  W prog w A NoE c' ⟨[], [(ia, Jn), (D, isList ys)], g⟩ (letOwnedTupleGo target (.ref ia) v) (fun _ σ₃ => W prog w A NoE c' σ₃ (assign target (compEnvC scope cl c'.L env) v) (fun _ σ₄ =>
    W prog w A NoE c' σ₄ (compIfs ifs (compEnvC scope cl c'.L env)) (fun ok σ₅ => if ok = true then W prog w A NoE c' σ₅ (eval elt (compEnvC scope cl c'.L env)) (fun y σ₆ => I (ys ++ [y]) ∧ Le c' σ₆ ⟨[], [(ia, Jn), (D, isList ys)], g⟩)
      else I ys ∧ Le c' σ₅ ⟨[], [(ia, Jn), (D, isList ys)], g⟩)))

theorem codeN_compLoop {elt target iter : Expr} {ifs : List Expr} {scope : Scope} {cl : List (Str × Addr)} {pos : Pos} {ia D : Addr} {n : Nat} {J : Nat → OP} {P : Nat → Value → Prop} {X : Cx → St → Prop} {c' : Cx} {I : Nat → List Value → Prop} {s : Shared}
    (H : CIter prog w A ia n J P X) (hX : ∀ l' ν', X c' ⟨l', ν', g⟩) (hn : n ≤ 16777216) (turn : ∀ i ys v, i < n → P i v → I i ys → CompTurn prog w A c' scope cl env target elt ifs ia D (J (i + 1)) g (I (i + 1)) ys v)
    (h0 : I 0 []) (r : Rep c' ⟨[], [(ia, J 0), (D, isList [])], g⟩ s) :
    codeN (model prog w) A (.compLoop (.ListComp elt [⟨target, iter, ifs, 0⟩] scope pos) 0 (.ref ia) (.ref D) (compEnvC scope cl c'.L env))
      (fun r s' => match r with | .ok _ => ∃ ys, I n ys ∧ Rep c' ⟨[], [(D, isList ys)], g⟩ s' | .error _ => False) s := by
  refine codeN_loop rfl (fun k s => ∃ i ys, i ≤ n ∧ ys.length ≤ i ∧ k = n - i ∧ I i ys ∧ Rep c' ⟨[], [(ia, J i), (D, isList ys)], g⟩ s) (fun k s hI => ?_) rfl n ⟨0, [], Nat.zero_le _, Nat.zero_le _, rfl, h0, r⟩
  obtain ⟨i, ys, hi, hlen, rfl, hI, r⟩ := hI
  show wpN _ A ((compTurn (.ListComp elt [⟨target, iter, ifs, 0⟩] scope pos) 0 (.ref ia) (.ref D) (compEnvC scope cl c'.L env)).onRaise (fun x => do noteFrame x (compEnvC scope cl c'.L env); theTreesLotGoes x)) _ _ s
  refine wpN_onRaise (wpN_mono (E := NoE) ?_ (fun _ _ q => q) fun _ _ e => e.elim)
  rw [compTurn_list]
  refine wpN_bind (wpN_any (wpAny_standAt ?_))
  rcases Nat.lt_or_ge i n with hin | hin
  · refine wpN_bind ((H.iter c').next i ⟨[], [(D, isList ys)], g⟩ s _ hin (hX _ _) r fun v s' hv r' => ?_)
    refine wpN_bind (wpN_mono (turn i ys v hin hv hI s' r') (fun _ s₃ ⟨σ₃, r₃, q₃⟩ => ?_) fun _ _ e => e)
    refine wpN_bind (wpN_mono (q₃ s₃ r₃) (fun _ s₄ ⟨σ₄, r₄, q₄⟩ => ?_) fun _ _ e => e)
    refine wpN_bind (wpN_mono (q₄ s₄ r₄) (fun ok s₅ ⟨σ₅, r₅, q₅⟩ => ?_) fun _ _ e => e)
    cases ok with
    | false =>
      obtain ⟨q1, q2⟩ := q₅
      exact wpN_pure (.inl ⟨rfl, n - (i + 1), by omega, i + 1, ys, hin, by omega, rfl, q1, q2 _ r₅⟩)
    | true =>
      refine wpN_bind (wpN_bind (wpN_mono (q₅ s₅ r₅) (fun y s₆ ⟨σ₆, r₆, q1, q2⟩ => ?_) fun _ _ e => e))
      have := W_append_call (prog := prog) (w := w) (A := A) (E := NoE) (c := c') (l := []) (g := g) (x := y) (Q := fun _ σ' => σ' = ⟨[], [(ia, J (i + 1)), (D, isList (ys ++ [y]))], g⟩) (Upd.tail .head) (by omega) rfl s₆ (q2 _ r₆)
      refine wpN_bind (wpN_mono this (fun _ s₇ ⟨σ₇, r₇, e⟩ => ?_) fun _ _ e => e)
      subst e
      exact wpN_pure (wpN_pure (.inl ⟨rfl, n - (i + 1), by omega, i + 1, _, hin, by simpa using hlen, rfl, q1, r₇⟩))
  · obtain rfl : i = n := Nat.le_antisymm hi hin
    exact wpN_bind ((H.iter c').done ⟨[], [(D, isList ys)], g⟩ s _ (hX _ _) r fun s' r' => wpN_pure ⟨ys, hI, r'⟩)

theorem W_ListComp {elt target iter : Expr} {ifs : List Expr} {scope : Scope} {cl : List (Str × Addr)} {pos : Pos} {Q : Value → St → Prop}
    (h : W prog w A NoE c σ (eval iter env) (fun x σ₁ => W prog w A NoE c σ₁ (pyIter x) (fun it σ₂ => ∃ (ia : Addr) (n : Nat) (J : Nat → OP) (P : Nat → Value → Prop) (X : Cx → St → Prop) (ν₂ : List (Addr × OP)) (I : Nat → List Value → Prop),
      it = .ref ia ∧ σ₂.ν = (ia, J 0) :: ν₂ ∧ CIter prog w A ia n J P X ∧ n ≤ 16777216 ∧ I 0 [] ∧
      (∀ c', Frz c ν₂ c' → (∀ l' ν', X c' ⟨l', ν', σ₂.g⟩) ∧ ∀ D i ys v, i < n → P i v → I i ys → CompTurn prog w A c' scope cl env target elt ifs ia D (J (i + 1)) σ₂.g (I (i + 1)) ys v) ∧
      (∀ D ys, I n ys → Q (.ref D) ⟨σ₂.l, (D, isList ys) :: ν₂, σ₂.g⟩))))
    (hclos : closureFor scope env = pure cl) (hcell : ∀ y ∈ scope.names, y.2 ≠ .cell) (hkind : scope.kind = .function) (hnames : ∀ x ∈ scope.names, x.2 = .local → scope.names.lookup x.1 = some .local)
    (hs : ∀ x, foldedSetIterable iter env x = pure x) : W prog w A E c σ (eval (.ListComp elt [⟨target, iter, ifs, 0⟩] scope pos) env) Q := by
  rw [eval_ListComp]
  unfold comprehension
  rw [hclos]
  refine W_E (W_bind (W_mono h fun x σ₁ q => W_bind (W_standAt (W_bind (W_eq (hs x) (W_pure (W_bind (W_holding (W_mono q fun it σ₂ q₂ => ?_)))))))))
  obtain ⟨ia, n, J, P, X, ν₂, I, rfl, e, H, hn, h0, turn, fin⟩ := q₂
  obtain ⟨l₂, ν', g₂⟩ := σ₂
  dsimp only at e turn fin
  subst e
  dsimp only [Option.isSome_none]
  refine W_eq (if_neg (by simp)) ?_
  refine W_bind (W_newList (by simp) fun D => ?_)
  refine W_bind (W_pure ?_)
  intro s r
  refine wpN_bind (wpN_any (wpAny_newFunctionEnv hcell (by intro y hy; cases hy) (fun h₁ hns hsb => ?_) hkind))
  have hk' : ∀ b o, s.heap.get? b = some o → h₁.get? b = some o := fun b o e => hsb.extBut b o (Nat.ne_of_lt (Heap.lt_size e)) (Heap.get?_push_of_some _ e)
  have r2 : Rep c ⟨l₂, (s.heap.objs.size, isNs []) :: [(ia, J 0), (D, isList [])] ++ ν₂, g₂⟩ { s with heap := h₁, toks := s.toks + 0 } := by
    have r0 : Rep c ⟨l₂, [(ia, J 0), (D, isList [])] ++ ν₂, g₂⟩ s := Le_perm (List.Perm.swap (ia, J 0) (D, isList []) ν₂) s r
    obtain ⟨o, es, ep, e, hd, hs, hf⟩ := hns
    exact r0.alloc hk' e ⟨es, ep, hd, hs, fun p hp => by cases hp⟩ (size_none _) rfl rfl
  obtain ⟨r3, z⟩ := r2.enter (l' := []) (ν' := [(ia, J 0), (D, isList [])]) (by simp)
  have z2 : Frz c ν₂ (inside { s with heap := h₁, toks := s.toks + 0 } c s.heap.objs.size [(ia, J 0), (D, isList [])]) := z
  obtain ⟨hX, turn⟩ := turn _ z2
  generalize hc' : inside { s with heap := h₁, toks := s.toks + 0 } c s.heap.objs.size [(ia, J 0), (D, isList [])] = c' at *
  have hL : c'.L = s.heap.objs.size := by rw [← hc']; rfl
  have hv : ∀ x ∈ (scope.names.filter fun x => (x.2 == .local || x.2 == .cell) && x.1 != (".0" : Str)).reverse, x.2 = .local →
      Env.kindOf (compEnvC scope cl c'.L env) x.1 = some .local := fun x hx hl => lookup_relabel_local (hnames x (List.mem_filter.mp (List.mem_reverse.mp hx)).1 hl)
  have loop : codeN (model prog w) A (.compStart (.ListComp elt [⟨target, iter, ifs, 0⟩] scope pos) 0 (.ref ia) (.ref D) (compEnvC scope cl c'.L env))
      (fun r s' => match r with | .ok _ => ∃ ys, I n ys ∧ Rep c' ⟨[], [(D, isList ys)], g₂⟩ s' | .error _ => False) { s with heap := h₁, toks := s.toks + 0 } := by
    refine codeN_compStart (codeN_compLoop H hX hn (fun i ys v hi hv hI => turn D i ys v hi hv hI) h0 r3) ?_
    exact H.self c' ⟨[], [(D, isList [])], g₂⟩ _ _ (hX _ _) r3 ⟨rfl, rfl⟩
  rw [hL] at loop hv
  refine wpN_holding (wpN_bind (wpN_attempt (wpN_holding (wpN_run (h := none) (codeN_mono loop fun r s' hr => ?_) rfl))))
  cases r with
  | error x => exact hr.elim
  | ok f =>
    obtain ⟨ys, hI, rr⟩ := hr
    obtain ⟨m, hm, _⟩ := rr.ns
    rw [hL] at hm
    refine wpN_bind (wpN_holding (wpN_any (wpAny_comp_letGo (cenv := compEnvC scope cl s.heap.objs.size env) (by simp [compEnvC, relabel, hkind]) _ s' m hv hm fun h' m' hn' hs' => ?_)))
    have rr' : Rep c' ⟨[], [(D, isList ys)], g₂⟩ { s' with heap := h' } := rr.setL (s' := { s' with heap := h' }) (m := m') (by rw [hL]; exact hs') (by rw [hL]; exact hn') (fun p hp => by cases hp) (by simp) rfl rfl
    rw [← hc'] at rr'
    have rl := (r2.leave rr').1
    exact wpN_pure ⟨_, Rep.tail rl, fin D ys hI⟩
end
/-! ## bytearrays: facts of the table -/
namespace FB
theorem mro : mroOf (.type "bytearray") = pure [.type "bytearray", .type "object"] := by rw [mroOf_type]; kernel_rfl
theorem lookup_new : typeLookup (.type "bytearray") "__new__" = pure (some (.builtin "bytearray.__new__")) := by rw [typeLookup_type, builtinLookup_eq_fast]; kernel_rfl
theorem slot_init : Slot "bytearray" "__init__" "bytearray.__init__" :=
  .of (owner := "bytearray") (n := "__init__") (by rw [typeLookup_type, builtinLookup_eq_fast]; kernel_rfl) (by decide +kernel) (by decide +kernel) (by decide +kernel)
    (by first | exact .inl (by decide +kernel) | exact .inr (by decide +kernel)) (by rw [isSubtype_type]; kernel_rfl)
theorem slot_append : Slot "bytearray" "append" "bytearray.append" :=
  .of (owner := "bytearray") (n := "append") (by rw [typeLookup_type, builtinLookup_eq_fast]; kernel_rfl) (by decide +kernel) (by decide +kernel) (by decide +kernel)
    (by first | exact .inl (by decide +kernel) | exact .inr (by decide +kernel)) (by rw [isSubtype_type]; kernel_rfl)
theorem slot_getitem : Slot "bytearray" "__getitem__" "bytearray.__getitem__" :=
  .of (owner := "bytearray") (n := "__getitem__") (by rw [typeLookup_type, builtinLookup_eq_fast]; kernel_rfl) (by decide +kernel) (by decide +kernel) (by decide +kernel)
    (by first | exact .inl (by decide +kernel) | exact .inr (by decide +kernel)) (by rw [isSubtype_type]; kernel_rfl)
theorem slot_setitem : Slot "bytearray" "__setitem__" "bytearray.__setitem__" :=
  .of (owner := "bytearray") (n := "__setitem__") (by rw [typeLookup_type, builtinLookup_eq_fast]; kernel_rfl) (by decide +kernel) (by decide +kernel) (by decide +kernel)
    (by first | exact .inl (by decide +kernel) | exact .inr (by decide +kernel)) (by rw [isSubtype_type]; kernel_rfl)
theorem called : TypeCalled "bytearray" "bytearray.__new__" "bytearray.__init__" :=
  ⟨by decide +kernel, by decide +kernel, ⟨_, _, mro⟩, madeBy_type mro lookup_new (by decide +kernel), by decide +kernel, by rw [isSubtype_type]; kernel_rfl, slot_init⟩
theorem sub_self : isSubtype (.type "bytearray") (.type "bytearray") = pure true := by rw [isSubtype_type]; kernel_rfl
theorem typeCall0 : checkTypeCall "bytearray" ⟨[], []⟩ = pure () := by kernel_rfl
theorem typeCall1 (a : Value) : checkTypeCall "bytearray" ⟨[a], []⟩ = pure () := by kernel_rfl
theorem newCall0 : checkBuiltinCall "bytearray.__new__" ⟨[.type "bytearray"], []⟩ = pure () := by kernel_rfl
theorem newCall1 (a : Value) : checkBuiltinCall "bytearray.__new__" ⟨[.type "bytearray", a], []⟩ = pure () := by kernel_rfl
theorem entry_new : entryFor table "bytearray.__new__" = some Builtin.«list.__new__» := entryFor_alias (id' := "list.__new__") (by rw [fastTable_eq_tree]; kernel_rfl) (by first | rfl | decide +kernel) (by decide +kernel) (by rw [fastTable_eq_tree]; kernel_rfl)
theorem plain_new : plainId "bytearray.__new__" = true := by decide +kernel
theorem entry_init : entryFor table "bytearray.__init__" = some Builtin.«bytearray.__init__» := entryFor_of_tree (by kernel_rfl)
theorem entry_append : entryFor table "bytearray.append" = some Builtin.«bytearray.append» := entryFor_of_tree (by kernel_rfl)
theorem entry_getitem : entryFor table "bytearray.__getitem__" = some Builtin.«bytearray.__getitem__» := entryFor_of_tree (by kernel_rfl)
theorem entry_setitem : entryFor table "bytearray.__setitem__" = some Builtin.«bytearray.__setitem__» := entryFor_of_tree (by kernel_rfl)
theorem plainAttrs : PlainAttrs "bytearray" :=
  ⟨⟨"bytearray.__getattribute__", by rw [typeLookup_type, builtinLookup_eq_fast]; kernel_rfl, by decide +kernel⟩, by rw [typeLookup_type, builtinLookup_eq_fast]; kernel_rfl⟩
theorem owner : Manifest.owners.lookup (String.ofList ['y', 'a', 'r', 'r', 'a', 'e', 't', 'y', 'b'].reverse) = some Manifest.sig_bytearray := by kernel_rfl
theorem type_append : typeOf (.builtin "bytearray.append") = pure (.type "method_descriptor") := by show builtinType _ = _; rw [builtinType_eq_fast]; kernel_rfl
theorem args_append (a b : Value) : argsOk "bytearray.append" ⟨[a, b], []⟩ := by
  unfold argsOk; rw [signature?_of (id := "bytearray.append") (n := ['d', 'n', 'e', 'p', 'p', 'a']) (o := ['y', 'a', 'r', 'r', 'a', 'e', 't', 'y', 'b']) (by kernel_rfl) owner]; kernel_rfl
theorem args_getitem (a b : Value) : argsOk "bytearray.__getitem__" ⟨[a, b], []⟩ := by
  unfold argsOk; rw [signature?_of (id := "bytearray.__getitem__") (n := ['_', '_', 'm', 'e', 't', 'i', 't', 'e', 'g', '_', '_']) (o := ['y', 'a', 'r', 'r', 'a', 'e', 't', 'y', 'b']) (by kernel_rfl) owner]; kernel_rfl
theorem args_setitem (a b d : Value) : argsOk "bytearray.__setitem__" ⟨[a, b, d], []⟩ := by
  unfold argsOk; rw [signature?_of (id := "bytearray.__setitem__") (n := ['_', '_', 'm', 'e', 't', 'i', 't', 'e', 's', '_', '_']) (o := ['y', 'a', 'r', 'r', 'a', 'e', 't', 'y', 'b']) (by kernel_rfl) owner]; kernel_rfl
theorem args_init1 (a : Value) : argsOk "bytearray.__init__" ⟨[a], []⟩ := by
  unfold argsOk; rw [signature?_of (id := "bytearray.__init__") (n := ['_', '_', 't', 'i', 'n', 'i', '_', '_']) (o := ['y', 'a', 'r', 'r', 'a', 'e', 't', 'y', 'b']) (by kernel_rfl) owner]; kernel_rfl
theorem args_init2 (a b : Value) : argsOk "bytearray.__init__" ⟨[a, b], []⟩ := by
  unfold argsOk; rw [signature?_of (id := "bytearray.__init__") (n := ['_', '_', 't', 'i', 'n', 'i', '_', '_']) (o := ['y', 'a', 'r', 'r', 'a', 'e', 't', 'y', 'b']) (by kernel_rfl) owner]; kernel_rfl
theorem bind0 : Builtin.Bytes.bindOptional "bytearray.__init__" "bytearray" ["source", "encoding", "errors"] [] [] = pure [none, none, none] := by kernel_rfl
theorem bind1 (v : Value) : Builtin.Bytes.bindOptional "bytearray.__init__" "bytearray" ["source", "encoding", "errors"] [v] [] = pure [some v, none, none] := by kernel_rfl
theorem release : typeLookup (.type "bytearray") "__release_buffer__" = pure (some (.builtin "bytearray.__release_buffer__")) := by rw [typeLookup_type, builtinLookup_eq_fast]; kernel_rfl
theorem buffer : typeLookup (.type "bytearray") "__buffer__" = pure (some (.builtin "bytearray.__buffer__")) := by rw [typeLookup_type, builtinLookup_eq_fast]; kernel_rfl
theorem noBytes : typeLookup (.type "bytearray") "__bytes__" = pure none := by rw [typeLookup_type, builtinLookup_eq_fast]; kernel_rfl
theorem noIndex : typeLookup (.type "bytearray") "__index__" = pure none := by rw [typeLookup_type, builtinLookup_eq_fast]; kernel_rfl
end FB
def isBA (b : List UInt8) : OP := fun o => o = { cls := .type "bytearray", data := .bytearray b.toArray }

section
variable {prog : Program} {w : World} {A : Around} {E : Value → Shared → Prop} {s : Shared}
theorem wpN_if_false {α : Type} {M : Model} {c : Bool} {a b : Sem α} {Q : α → Shared → Prop} (hc : c = false) (h : wpN M A b Q E s) : wpN M A (if c = true then a else b) Q E s := by
  subst hc; exact h
theorem wpN_if_true {α : Type} {M : Model} {c : Bool} {a b : Sem α} {Q : α → Shared → Prop} (hc : c = true) (h : wpN M A a Q E s) : wpN M A (if c = true then a else b) Q E s := by
  subst hc; exact h
theorem wpN_of_eq {α : Type} {M : Model} {t : Sem α} {a : α} {Q : α → Shared → Prop} (e : t = pure a) (h : Q a s) : wpN M A t Q E s := by rw [e]; exact wpN_pure h

/-- no code of the stack holds a bytearray's memory -/
theorem wpN_exported {a : Addr} {M : Model} {Q : Bool → Shared → Prop} (h : Q false s) : wpN M A (Builtin.Bytes.exported (.ref a)) Q E s := fun Γ p hΓ hn => by
  have key : ∀ x : Code × Pos, lends x.1 = false → (match x with
    | (.builtin "bytearray.__contains__" ⟨v :: _, _⟩, _) | (.builtin "bytearray.__mod__" ⟨v :: _, _⟩, _)
    | (.builtin "bytearray.__rmod__" ⟨_ :: v :: _, _⟩, _) | (.builtin "_struct.pack_into.held" ⟨v :: _, _⟩, _) => Builtin.Bytes.sameRef v (.ref a)
    | (.builtin "bytearray.find.held" ⟨_ :: _ :: held, _⟩, _) => held.any (Builtin.Bytes.sameRef (.ref a))
    | (.builtin id ⟨v :: _, _⟩, _) => Builtin.Bytes.sameRef v (.ref a) && Builtin.Bytes.decodersThatHold.contains id
    | _ => false) = false := by
    intro x hx
    split
    · exact absurd hx (show ¬ (lendIds.contains "bytearray.__contains__" = false) by decide +kernel)
    · exact absurd hx (show ¬ (lendIds.contains "bytearray.__mod__" = false) by decide +kernel)
    · exact absurd hx (show ¬ (lendIds.contains "bytearray.__rmod__" = false) by decide +kernel)
    · exact absurd hx (show ¬ (lendIds.contains "_struct.pack_into.held" = false) by decide +kernel)
    · exact absurd hx (show ¬ (lendIds.contains "bytearray.find.held" = false) by decide +kernel)
    · rename_i id v _ _ _ _ _ _ _ _
      have : lendIds.contains id = false := hx
      unfold lendIds at this
      rw [List.contains_eq_any_beq, List.any_append, Bool.or_eq_false_iff] at this
      rw [List.contains_eq_any_beq, this.2, Bool.and_false]
    · rfl
  unfold Builtin.Bytes.exported
  show Q (((Γ.code, p) :: Γ.below).any _) s
  have e : ((Γ.code, p) :: Γ.below).any _ = false := List.any_eq_false.mpr fun x hx => Bool.eq_false_iff.mp (key x (by
      rcases List.mem_cons.mp hx with rfl | hx
      · exact hn.1
      · exact hn.2 x hx))
  exact (congrArg (fun b => Q b s) e).mpr h

theorem wpN_exportedOr {a : Addr} {b : Array UInt8} {o : Obj} {M : Model} {Q : Bool → Shared → Prop} (ho : s.heap.get? a = some o) (hd : o.data = .bytearray b) (h : Q false s) :
    wpN M A (Builtin.Bytes.exported (.ref a) <||> (do return (← Builtin.Bytes.exportsOf (.ref a)) > 0)) Q E s := by
  show wpN M A (Builtin.Bytes.exported (.ref a) >>= fun b => _) Q E s
  refine wpN_bind (wpN_exported ?_)
  show wpN M A ((load a >>= _) >>= _) Q E s
  refine wpN_bind (wpN_bind (wpN_any (wpAny_load ho ?_)))
  rw [hd]
  exact wpN_pure (wpN_pure h)
theorem wpN_checkResize {a : Addr} {b : Array UInt8} {o : Obj} {M : Model} {Q : Unit → Shared → Prop} (ho : s.heap.get? a = some o) (hd : o.data = .bytearray b) (h : Q () s) : wpN M A (Builtin.Bytes.checkResize (.ref a)) Q E s := by
  unfold Builtin.Bytes.checkResize
  refine wpN_bind (wpN_exportedOr ho hd ?_)
  exact wpN_if_false rfl (wpN_pure h)

theorem codeN_builtin_at {id : String} {args : Args} {b : Builtin} {R : Result → Shared → Prop} (hb : entryFor table id = some b)
    (h : wpN (model prog w) (A.under (.builtin id args)) (b args) (fun fin s' => ∃ f, fin = .done f ∧ R (.ok f) s') (fun e s' => R (.error e) s') s) : codeN (model prog w) A (.builtin id args) R s := by
  refine codeN_of_tree ?_
  show wpN _ _ (match entryFor table id with | some b => b args | none => unsupported ((withoutEnding? id "#data").getD id)) _ _ s
  rw [hb]
  refine wpN_mono h (fun fin s' h' => ?_) fun _ _ e => e
  obtain ⟨f, rfl, hf⟩ := h'
  exact hf
theorem codeN_builtin {id : String} {args : Args} {b : Builtin} {R : Result → Shared → Prop} (hp : plainId id = true) (hb : entryFor table id = some b)
    (h : wpN (model prog w) A.in1 (b args) (fun fin s' => ∃ f, fin = .done f ∧ R (.ok f) s') (fun e s' => R (.error e) s') s) : codeN (model prog w) A (.builtin id args) R s := by
  refine codeN_of_tree ?_
  rw [Around.under_plainId hp args]
  show wpN _ _ (match entryFor table id with | some b => b args | none => unsupported ((withoutEnding? id "#data").getD id)) _ _ s
  rw [hb]
  refine wpN_mono h (fun fin s' h' => ?_) fun _ _ e => e
  obtain ⟨f, rfl, hf⟩ := h'
  exact hf
theorem wpN_call_entry {T : String} {name : Str} {id : String} {b : Builtin} {self : Value} {rest : List Value} {Q : Value → Shared → Prop} (h : Slot T name id) (hT : s.TypeIs self T)
    (hb : entryFor table id = some b) (ha : argsOk id ⟨self :: rest, []⟩) (hl : lends (.builtin id ⟨self :: rest, []⟩) = false)
    (hc : wpN (model prog w) A.in1 (b ⟨self :: rest, []⟩) (fun fin s' => ∃ v, fin = .done (.ret v) ∧ Q v s') E s) : wpN (model prog w) A (call (.builtin id) (self :: rest)) Q E s := by
  refine wpN_call (codeN_of_tree ?_)
  show wpN _ A.in1 (do checkBuiltinCall id ⟨self :: rest, []⟩; again (.builtin id ⟨self :: rest, []⟩)) _ _ s
  refine wpN_bind (wpN_any (h.check _ _ _ _ _ _ _ _ hT ha ?_))
  refine wpN_pure ⟨plainId_quiet h.plain _, hl, codeN_builtin h.plain hb (wpN_mono hc (fun fin s' h' => ?_) fun _ _ e => e)⟩
  obtain ⟨v, rfl, hv⟩ := h'
  exact ⟨_, rfl, hv⟩
theorem wpAny_payloadBA {a : Addr} {b : Array UInt8} {o : Obj} {M : Model} {Q : Array UInt8 → Shared → Prop} (ho : s.heap.get? a = some o) (hd : o.data = .bytearray b) (h : Q b s) : wpAny M A (Builtin.Bytes.payload (.ref a)) Q E s := by
  unfold Builtin.Bytes.payload Builtin.Bytes.payload?
  refine wpAny_bind (wpAny_bind (wpAny_load ho ?_))
  rw [hd]
  exact wpAny_pure (wpAny_pure h)
theorem wpAny_writeBA {a : Addr} {b : Array UInt8} {f : Array UInt8 → Array UInt8} {M : Model} {Q : Unit → Shared → Prop} (ho : s.heap.get? a = some { cls := .type "bytearray", data := .bytearray b }) (hz : (f b).size ≤ 16777216)
    (h : ∀ h', Heap.SameBut a s.heap h' → h'.get? a = some { cls := .type "bytearray", data := .bytearray (f b) } → Q () { s with heap := h' }) : wpAny M A (Builtin.Bytes.write (.ref a) f) Q E s := by
  show wpAny M A (updateBytearray a f) Q E s
  unfold updateBytearray
  refine wpAny_bind (wpAny_load ho ?_)
  show wpAny _ _ (update a (Obj.mapBytearray f) >>= fun _ => lookBehind a) _ _ s
  refine wpAny_bind (wpAny_update ho ?_)
  have hS : (s.heap.update a (Obj.mapBytearray f)).get? a = some { cls := .type "bytearray", data := .bytearray (f b) } := Heap.get?_update_self (Obj.mapBytearray f) ho rfl
  refine wpAny_lookBehind hS ?_ (h _ (Heap.SameBut.update ..) hS)
  show (if (f b).size > sizeLine then some "bytearray:memory" else none) = none
  rw [if_neg]
  rw [sizeLine_eq]; omega
theorem wpAny_byteValue {i : Int} {t : Tok} {M : Model} {Q : UInt8 → Shared → Prop} (h0 : 0 ≤ i) (h1 : i < 256) (h : Q i.toNat.toUInt8 s) : wpAny M A (Builtin.Bytes.byteValue (.int i t)) Q E s := by
  unfold Builtin.Bytes.byteValue
  refine wpAny_bind (wpAny_of_eq (rfl : asIndex (.int i t) = pure i) ?_)
  refine bm_if_false (by simp only [Bool.or_eq_false_iff, decide_eq_false_iff_not]; omega) ?_
  exact wpAny_pure h
end

section
variable {prog : Program} {w : World} {A : Around} {E : Value → Shared → Prop} {c : Cx} {σ : St} {l : List (Str × Value)} {ν ν' : List (Addr × OP)} {g : Array GenState} {env : Env} {a : Addr} {b : List UInt8}
theorem isBA_type {s : Shared} (r : Rep c σ s) (hm : (a, isBA b) ∈ σ.ν) : s.TypeIs (.ref a) "bytearray" ∧ ∀ b, Value.ref a = .ref b → ∃ ob, s.heap.get? b = some ob ∧ ob.dict = none := by
  obtain ⟨o, e, rfl⟩ := r.ok _ hm
  exact ⟨⟨_, e, rfl⟩, fun b q => by cases q; exact ⟨_, e, rfl⟩⟩
theorem W_appendBA {i : Int} {t : Tok} {Q : Value → St → Prop} (u : Upd a (isBA b) (isBA (b ++ [i.toNat.toUInt8])) ν ν') (hz : b.length < 16777216) (h0 : 0 ≤ i) (h1 : i < 256) (h : Q .none ⟨l, ν', g⟩) :
    W prog w A E c ⟨l, ν, g⟩ (call (.builtin "bytearray.append") [.ref a, .int i t] []) Q := fun s r => by
  have hT := (isBA_type r u.mem).1
  obtain ⟨o, e, rfl⟩ := r.ok _ u.mem
  refine wpN_call_entry FB.slot_append hT FB.entry_append (FB.args_append _ _) (show lendIds.contains "bytearray.append" = false by decide +kernel) ?_
  unfold Builtin.«bytearray.append»
  refine wpN_bind (wpN_of_eq rfl ?_)
  dsimp only
  refine wpN_bind (wpN_any (wpAny_byteValue h0 h1 ?_))
  refine wpN_bind (wpN_checkResize e rfl ?_)
  refine wpN_bind (wpN_any (wpAny_writeBA e (by simp; omega) fun h' hs hS => ?_))
  exact wpN_pure ⟨_, rfl, _, r.upd (s' := { s with heap := h' }) u (fun b o hb e => hs.extBut b o hb e) hS (by simp [isBA]) rfl rfl, h⟩
theorem W_methodBA {o e : Expr} {apos pos : Pos} {Q : Value → St → Prop}
    (h : W prog w A E c σ (eval o env) (fun ov σ₁ => ∃ a b, ov = .ref a ∧ (a, isBA b) ∈ σ₁.ν ∧ W prog w A E c σ₁ (eval e env) (fun x σ₂ => W prog w A E c σ₂ (call (.builtin "bytearray.append") [.ref a, x] []) Q)))
    (hst : starEach [e] env = [(false, eval e env)] := by rfl)
    (hbase : attributeBase o "append" env (eval o env) = eval o env := by rfl) (hline : (apos.endLine == pos.line) = true := by rfl) : W prog w A E c σ (eval (.Call (.Attribute o "append" apos) [e] [] pos) env) Q := by
  refine W_method (W_mono h fun ov σ₁ q => ?_) hbase (by rw [hst]; rfl) hline (by rw [hst]; rfl)
  obtain ⟨a, vs, rfl, hm, q⟩ := q
  refine ⟨"bytearray", "bytearray.append", FB.plainAttrs, FB.slot_append, FB.type_append, fun s r => isBA_type r hm, ?_⟩
  rw [hst]
  exact W_spliced_cons (W_mono q fun x σ₂ q' => W_spliced_nil q')
theorem subscriptB {M : Model} {A : Around} {s : Shared} {E : Value → Shared → Prop} {u : Tok} {Q : Option Int → Shared → Prop} (h : Q (some 0) s) : wpAny M A (Builtin.Bytes.subscript? (.int 0 u)) Q E s := by
  unfold Builtin.Bytes.subscript?
  refine wpAny_bind (wpAny_specialOf (typeIs_int s 0 u) F.slot_int_index.lookup ?_)
  exact wpAny_pure h
theorem W_getBA {u : Tok} {x : UInt8} {Q : Value → St → Prop} (hm : (a, isBA (x :: b)) ∈ σ.ν) (h : ∀ t, Q (.int x.toNat t) σ) : W prog w A E c σ (getItem (.ref a) (.int 0 u)) Q := W_any fun s r => by
  have hT := (isBA_type r hm).1
  obtain ⟨o, e, rfl⟩ := r.ok _ hm
  refine wpAny_getItem_slot hT (by decide) FB.slot_getitem (wpAny_call_entry FB.slot_getitem hT FB.entry_getitem ?_ (FB.args_getitem _ _))
  have e0 : slotArgs "__getitem__" 1 ⟨[.ref a, .int 0 u], []⟩ = pure (.ref a, [.int 0 u]) := rfl
  unfold Builtin.«bytearray.__getitem__»
  rw [e0]
  refine wpAny_bind (wpAny_pure ?_)
  dsimp only
  refine wpAny_bind (subscriptB ?_)
  show wpAny _ _ (Builtin.Bytes.payload (.ref a) >>= _) _ _ s
  refine wpAny_bind (wpAny_payloadBA e rfl ?_)
  have : (seqIndex? 0 (x :: b).toArray.size).bind ((x :: b).toArray[·]?) = some x := by
    have e1 : seqIndex? 0 (x :: b).toArray.size = some 0 := by simp [seqIndex?]
    rw [e1]; simp
  rw [this]
  exact wpAny_bind (wpAny_mkInt (wpAny_pure ⟨_, rfl, σ, r.toks _, h _⟩))
theorem W_setBA {u t : Tok} {x : UInt8} {i : Int} {Q : Unit → St → Prop} (up : Upd a (isBA (x :: b)) (isBA (i.toNat.toUInt8 :: b)) ν ν') (hz : b.length < 16777216) (h0 : 0 ≤ i) (h1 : i < 256) (h : Q () ⟨l, ν', g⟩) :
    W prog w A E c ⟨l, ν, g⟩ (setItem (.ref a) (.int 0 u) (.int i t)) Q := W_any fun s r => by
  have hT := (isBA_type r up.mem).1
  obtain ⟨o, e, rfl⟩ := r.ok _ up.mem
  unfold setItem
  try with_reducible refine wpAny_holding ?_
  first | refine wpAny_bind (wpAny_pure ?_) | skip
  refine wpAny_bind (wpAny_sequenceKey hT (by decide) ?_)
  refine wpAny_bind (wpAny_callSpecial?_slot (name := Str.ofString "__setitem__") hT FB.slot_setitem
    (wpAny_call_entry FB.slot_setitem hT FB.entry_setitem ?_ (FB.args_setitem _ _ _)))
  show wpAny _ _ (Builtin.Bytes.subscript? (.int 0 u) >>= _) _ _ s
  refine wpAny_bind (subscriptB ?_)
  show wpAny _ _ (Builtin.Bytes.byteValue (.int i t) >>= _) _ _ s
  refine wpAny_bind (wpAny_byteValue h0 h1 ?_)
  show wpAny _ _ (Builtin.Bytes.payload (.ref a) >>= _) _ _ s
  refine wpAny_bind (wpAny_payloadBA e rfl ?_)
  have e1 : seqIndex? 0 (x :: b).toArray.size = some 0 := by simp [seqIndex?]
  rw [e1]
  show wpAny _ _ (Builtin.Bytes.write (.ref a) (·.setIfInBounds 0 i.toNat.toUInt8) >>= _) _ _ s
  refine wpAny_bind (wpAny_writeBA e (by simp; omega) fun h' hs hS => ?_)
  have hfin : Rep c ⟨l, ν', g⟩ { s with heap := h' } := r.upd (s' := { s with heap := h' }) up (fun b o hb e => hs.extBut b o hb e) hS (by simp [isBA]) rfl rfl
  exact wpAny_pure ⟨.none, rfl, wpAny_pure ⟨_, hfin, h⟩⟩
theorem W_AugSub {o i value : Expr} {tpos pos : Pos} {op : Operator} {Q : Flow → St → Prop}
    (h : W prog w A E c σ (eval o env) (fun ov s₁ => W prog w A E c s₁ (eval i env) (fun iv s₂ => W prog w A E c s₂ (getItem ov iv) (fun old s₃ => W prog w A E c s₃ (eval value env) (fun v s₄ => W prog w A E c s₄ (inplaceOp op old v) (fun new s₅ =>
      W prog w A E c s₅ (setItem ov iv new) (fun _ => Q .next)))))))
    (hi : ∀ ov iv new, augStore i ov iv new = (do holding [new, ov, iv] (setItem ov iv new); release [new, ov, iv] []; pure .next) := by intros; rfl) :
    W prog w A E c σ (exec (.AugAssign (.Subscript o i tpos) op value pos) env) Q := by
  have e : exec (.AugAssign (.Subscript o i tpos) op value pos) env = (do
      standAt pos
      let ov ← eval o env
      let iv ← holding [ov] (eval i env)
      let new ← holding [ov, iv] do
        standAt tpos
        let old ← getItem ov iv
        let v ← holding [old] (eval value env)
        standAt pos
        operate [old, v] (inplaceOp op old v)
      standAt tpos
      augStore i ov iv new) := rfl
  rw [e]
  refine W_bind (W_standAt (W_bind (W_mono h fun ov s₁ h₁ => ?_)))
  refine W_bind (W_holding (W_mono h₁ fun iv s₂ h₂ => ?_))
  refine W_bind (W_holding (W_bind (W_standAt (W_bind (W_mono h₂ fun old s₃ h₃ => ?_)))))
  refine W_bind (W_holding (W_mono h₃ fun v s₄ h₄ => ?_))
  refine W_bind (W_standAt (W_operate (W_mono h₄ fun new s₅ h₅ => ?_)))
  refine W_bind (W_standAt ?_)
  rw [hi]
  exact W_bind (W_holding (W_mono h₅ fun _ s₆ h₆ => W_bind (W_any fun s r => wpAny_release ⟨_, r, W_pure h₆⟩)))

/-! bytearray(), bytearray([..]) -/
set_option maxRecDepth 1000000 in
set_option maxHeartbeats 4000000 in
theorem owner_ba_new : ("bytearray.__new__".splitOn ".__new__").headD "" = "bytearray" := by simp +decide [String.splitOn, String.splitOnAux]
theorem code_ba_new {A : Around} {s : Shared} {args : List Value} {Q₁ : Value → Shared → Prop} (hn : checkBuiltinCall "bytearray.__new__" ⟨.type "bytearray" :: args, []⟩ = pure ())
    (h : Q₁ (.ref s.heap.objs.size) { s with heap := s.heap.push { cls := .type "bytearray", data := .bytearray #[] } }) :
    codeAny (model prog w) A (.call (.builtin "bytearray.__new__") ⟨.type "bytearray" :: args, []⟩) (wants Q₁ E) s := by
  refine codeAny_of_tree ?_
  show wpAny _ A.in1 (do checkBuiltinCall "bytearray.__new__" ⟨.type "bytearray" :: args, []⟩; again (.builtin "bytearray.__new__" ⟨.type "bytearray" :: args, []⟩)) _ _ s
  refine wpAny_bind (wpAny_of_eq hn (wpAny_pure ⟨plainId_quiet FB.plain_new _, codeAny_builtin_stack FB.entry_new rfl fun p st => ?_⟩))
  rw [Around.under_plainId FB.plain_new _]
  dsimp only
  rw [owner_ba_new]
  refine wpAny_bind (wpAny_of_eq (a := true) rfl ?_)
  refine bm_if_false rfl ?_
  refine wpAny_bind (wpAny_of_eq FB.sub_self ?_)
  refine bm_if_false rfl ?_
  refine wpAny_bind (wpAny_pure ?_)
  refine bm_if_true (by decide +kernel) ?_
  refine wpAny_bind (wpAny_newObj_type ?_ (Nat.zero_le _))
  exact wpAny_pure h
theorem rel_ends : ("bytearray.__release_buffer__".endsWith ("." ++ "__release_buffer__")) = true := by first | decide +kernel | rfl | simp
theorem rel_drop : ("bytearray.__release_buffer__".dropRight ("__release_buffer__".length + 1)) = "bytearray" := by first | decide +kernel | rfl | simp
theorem buf_ends : ("bytearray.__buffer__".endsWith ("." ++ "__buffer__")) = true := by first | decide +kernel | rfl | simp
theorem buf_drop : ("bytearray.__buffer__".dropRight ("__buffer__".length + 1)) = "bytearray" := by first | decide +kernel | rfl | simp
theorem wpAny_ownRelease {M : Model} {A : Around} {s : Shared} {v : Value} {Q : Bool → Shared → Prop} (hT : s.TypeIs v "bytearray") (h : Q false s) : wpAny M A (Builtin.Bytes.ownRelease v) Q E s := by
  unfold Builtin.Bytes.ownRelease Builtin.Bytes.slotIsOwn
  refine wpAny_bind (wpAny_bind (wpAny_specialOf hT FB.release ?_))
  dsimp only
  rw [rel_ends, rel_drop]
  refine bm_if_false rfl ?_
  refine wpAny_isInstance hT FB.sub_self ?_
  exact wpAny_pure h

/-- type.__call__ on a built-in type: the object made, then its __init__ -/
theorem wpN_callType {A : Around} {s : Shared} {T newId initId : String} {args : List Value} {Q Q₁ : Value → Shared → Prop} (ft : TypeCalled T newId initId) (hct : checkTypeCall T ⟨args, []⟩ = pure ())
    (hnew : codeAny (model prog w) A.in1 (.call (.builtin newId) ⟨.type T :: args, []⟩) (wants Q₁ NoE) s)
    (hinit : ∀ obj s₁, Q₁ obj s₁ → s₁.TypeIs obj T ∧ wpN (model prog w) A.in1 (call (.builtin initId) (obj :: args) []) (fun r s' => r = .none ∧ Q obj s') E s₁) :
    wpN (model prog w) A (call (.type T) args []) Q E s := by
  obtain ⟨c₀, tl, hmro⟩ := ft.mro
  refine wpN_call (codeN_of_tree ?_)
  show wpN _ _ (callAny (.type T) _) _ _ _
  refine wpN_pure ⟨Code.quiet_builtin _ (by decide +kernel), (show lendIds.contains "type.__call__" = false by decide +kernel), codeN_builtin_at F.entry_type_call ?_⟩
  rw [Around.under_plain (weight_type_call_type T args []) rfl]
  unfold Builtin.«type.__call__»
  dsimp only
  refine wpN_if_false ft.notType ?_
  refine wpN_if_false ft.canCreate ?_
  refine wpN_bind (wpN_of_eq hct ?_)
  refine wpN_bind (wpN_of_eq hmro ?_)
  refine wpN_if_false rfl ?_
  refine wpN_bind (wpN_of_eq ft.made ?_)
  dsimp only
  refine wpN_bind (wpN_pure ?_)
  refine wpN_bind (wpN_holding (wpN_any (wpAny_call (codeAny_mono hnew fun r s' hr => ?_))))
  cases r with
  | error e => exact hr.elim
  | ok fl =>
    cases fl with
    | ret v =>
      obtain ⟨hT, hi⟩ := hinit _ _ hr
      dsimp only
      refine wpN_bind (wpN_any (wpAny_isInstance hT ft.sub ?_))
      refine wpN_if_false rfl ?_
      refine wpN_bind (wpN_holding ?_)
      simp only [callSpecial?]
      refine wpN_bind (wpN_any (wpAny_specialOf hT ft.init.lookup ?_))
      simp only [ft.init.bind]
      refine wpN_holding (wpN_bind (wpN_pure (wpN_bind (wpN_mono hi (fun r s' q => ?_) fun _ _ e => e))))
      obtain ⟨rfl, q⟩ := q
      refine wpN_pure ?_
      dsimp only
      refine wpN_if_false (by decide) ?_
      exact wpN_pure ⟨_, rfl, q⟩
    | _ => exact hr.elim
theorem wpN_callBA {A : Around} {s : Shared} {args : List Value} {Q : Value → Shared → Prop} (hct : checkTypeCall "bytearray" ⟨args, []⟩ = pure ()) (hn : checkBuiltinCall "bytearray.__new__" ⟨.type "bytearray" :: args, []⟩ = pure ())
    (hinit : wpN (model prog w) A.in1 (call (.builtin "bytearray.__init__") (.ref s.heap.objs.size :: args) []) (fun r s' => r = .none ∧ Q (.ref s.heap.objs.size) s') E { s with heap := s.heap.push { cls := .type "bytearray", data := .bytearray #[] } }) :
    wpN (model prog w) A (call (.type "bytearray") args []) Q E s :=
  wpN_callType (Q₁ := fun v s' => v = .ref s.heap.objs.size ∧ s' = { s with heap := s.heap.push { cls := .type "bytearray", data := .bytearray #[] } }) FB.called hct (code_ba_new hn ⟨rfl, rfl⟩) fun obj s₁ h => by
    obtain ⟨rfl, rfl⟩ := h
    exact ⟨⟨_, Heap.get?_push_size _ rfl, rfl⟩, hinit⟩
theorem W_newBA0 {Q : Value → St → Prop} (h : ∀ a, Q (.ref a) ⟨l, (a, isBA []) :: ν, g⟩) : W prog w A E c ⟨l, ν, g⟩ (call (.type "bytearray") [] []) Q := fun s r => by
  refine wpN_callBA FB.typeCall0 FB.newCall0 ?_
  have r2 : Rep c ⟨l, (s.heap.objs.size, isBA []) :: ν, g⟩ { s with heap := s.heap.push { cls := .type "bytearray", data := .bytearray #[] } } := r.push _ rfl
  have hT := (isBA_type r2 (.head _)).1
  have e : (s.heap.push { cls := .type "bytearray", data := .bytearray #[] }).get? s.heap.objs.size = some { cls := .type "bytearray", data := .bytearray #[] } := Heap.get?_push_size _ rfl
  refine wpN_call_entry FB.slot_init hT FB.entry_init (FB.args_init1 _) (show lendIds.contains "bytearray.__init__" = false by decide +kernel) ?_
  unfold Builtin.«bytearray.__init__»
  dsimp only
  refine wpN_bind (wpN_any (wpAny_ownRelease hT ?_))
  refine wpN_if_false rfl ?_
  refine wpN_bind (wpN_of_eq FB.bind0 ?_)
  dsimp only
  refine wpN_bind (wpN_of_eq (a := ()) rfl ?_)
  refine wpN_bind (wpN_of_eq (a := ()) rfl ?_)
  refine wpN_bind (wpN_exportedOr e rfl ?_)
  refine wpN_if_false rfl ?_
  refine wpN_bind (wpN_any (wpAny_writeBA e (by simp) fun h' hs hS => ?_))
  refine wpN_bind (wpN_of_eq (a := ()) rfl ?_)
  refine wpN_pure ⟨_, rfl, rfl, _, r2.upd (s' := { s with heap := h' }) .head (fun b o hb e => hs.extBut b o hb e) hS (by simp [isBA]) rfl rfl, h _⟩
theorem W_newBA1 {d : Addr} {u : Tok} {Q : Value → St → Prop} (hd : HasL c ⟨l, ν, g⟩ d [.int 128 u]) (h : ∀ a, Q (.ref a) ⟨l, (a, isBA [128]) :: ν, g⟩) : W prog w A E c ⟨l, ν, g⟩ (call (.type "bytearray") [.ref d] []) Q := fun s r => by
  refine wpN_callBA (FB.typeCall1 _) (FB.newCall1 _) ?_
  have r2 : Rep c ⟨l, (s.heap.objs.size, isBA []) :: ν, g⟩ { s with heap := s.heap.push { cls := .type "bytearray", data := .bytearray #[] } } := r.push _ rfl
  have hT := (isBA_type r2 (.head _)).1
  have e : (s.heap.push { cls := .type "bytearray", data := .bytearray #[] }).get? s.heap.objs.size = some { cls := .type "bytearray", data := .bytearray #[] } := Heap.get?_push_size _ rfl
  refine wpN_call_entry FB.slot_init hT FB.entry_init (FB.args_init2 _ _) (show lendIds.contains "bytearray.__init__" = false by decide +kernel) ?_
  unfold Builtin.«bytearray.__init__»
  dsimp only
  refine wpN_bind (wpN_any (wpAny_ownRelease hT ?_))
  refine wpN_if_false rfl ?_
  refine wpN_bind (wpN_of_eq (FB.bind1 _) ?_)
  dsimp only
  refine wpN_bind (wpN_of_eq (a := ()) rfl ?_)
  refine wpN_bind (wpN_of_eq (a := ()) rfl ?_)
  refine wpN_bind (wpN_exportedOr e rfl ?_)
  refine wpN_if_false rfl ?_
  refine wpN_bind (wpN_any (wpAny_writeBA e (by simp) fun h' hs hS => ?_))
  have r3 : Rep c ⟨l, (s.heap.objs.size, isBA []) :: ν, g⟩ { s with heap := h' } := r2.upd (s' := { s with heap := h' }) .head (fun b o hb e => hs.extBut b o hb e) hS (by simp [isBA]) rfl rfl
  have hL := hd.at r3.tail
  have hTL := hL.typeIs
  obtain ⟨ol, hol, hoc, nl, hod⟩ := id hL
  refine wpN_bind (wpN_any ?_)
  show wpAny _ _ (load d >>= _) _ _ _
  refine wpAny_bind (wpAny_load hol ?_)
  rw [hod]
  refine wpAny_pure ?_
  refine wpN_if_false rfl ?_
  refine wpN_bind (wpN_of_eq (a := ()) rfl ?_)
  refine wpN_bind (wpN_any (wpAny_specialOf hTL F.bm_no_index ?_))
  refine wpN_if_false rfl ?_
  refine wpN_bind (wpN_any ?_)
  unfold Builtin.Bytes.buffer?
  refine wpAny_bind (wpAny_specialOf hTL F.bm_no_buffer ?_)
  refine wpAny_bind (wpAny_specialOf hTL F.bm_no_buffer ?_)
  refine wpAny_pure ?_
  dsimp only
  refine wpN_bind (wpN_any (wpAny_typeOf hTL ?_))
  refine wpN_if_true (by decide) ?_
  refine wpN_bind (wpN_any (wpAny_seqItems hol hod ?_))
  dsimp only
  show wpN _ _ (rule "bytearray.__init__.list-of-ints" >>= fun _ => Builtin.Bytes.write (.ref s.heap.objs.size) (fun _ => #[128]) >>= fun _ => ret .none) _ _ _
  refine wpN_bind (wpN_any (wpAny_rule ?_))
  have r3e : h'.get? s.heap.objs.size = some { cls := .type "bytearray", data := .bytearray #[] } := hS
  refine wpN_bind (wpN_any (wpAny_writeBA r3e (by simp) fun h'' hs' hS' => ?_))
  exact wpN_pure ⟨_, rfl, rfl, _, r3.upd (s' := { s with heap := h'' }) .head (fun b o hb e => hs'.extBut b o hb e) hS' (by simp [isBA]) rfl rfl, h _⟩

/-- bytes(b) of a bytearray -/
theorem W_bytesBA {Q : Value → St → Prop} (hm : (a, isBA b) ∈ σ.ν) (hz : b.length ≤ 16777216) (h : ∀ t, Q (.bytes b.toArray t) σ) : W prog w A E c σ (call (.type "bytes") [.ref a] []) Q := W_any fun s r => by
  have hT := (isBA_type r hm).1
  obtain ⟨o, e, rfl⟩ := r.ok _ hm
  refine callType_codes (Q₁ := fun obj s₁ => s₁.TypeIs obj "bytes" ∧ ∃ σ', Rep c σ' s₁ ∧ Q obj σ') F.bm_called (F.bm_typeCall _) F.entry_object_init ?_ fun obj s₁ h₁ => ?_
  · refine codeAny_of_tree ?_
    show wpAny _ A.in1.in1 (do checkBuiltinCall "bytes.__new__" ⟨[.type "bytes", .ref a], []⟩; again (.builtin "bytes.__new__" ⟨[.type "bytes", .ref a], []⟩)) _ _ s
    refine wpAny_bind (wpAny_of_eq (F.bm_newCall _) (wpAny_pure ⟨plainId_quiet F.bm_plain _, codeAny_builtin F.bm_entry ?_⟩))
    rw [Around.under_plainId F.bm_plain _]
    unfold Builtin.«bytes.__new__»
    refine wpAny_bind (wpAny_of_eq (a := true) rfl ?_)
    refine bm_if_false rfl ?_
    refine wpAny_bind (wpAny_of_eq F.bm_sub ?_)
    refine bm_if_false rfl ?_
    refine wpAny_bind (wpAny_of_eq (F.bm_bind _) ?_)
    refine wpAny_bind (wpAny_of_eq (a := ()) rfl ?_)
    refine wpAny_bind (wpAny_of_eq (a := ()) rfl ?_)
    refine bm_if_false rfl ?_
    refine wpAny_bind (wpAny_specialOf hT FB.noBytes ?_)
    refine wpAny_bind (wpAny_bind ?_)
    show wpAny _ _ (load a >>= _) _ _ _
    refine wpAny_bind (wpAny_load e ?_)
    refine wpAny_pure (wpAny_pure ?_)
    refine bm_if_false rfl ?_
    refine wpAny_bind (wpAny_specialOf hT FB.noIndex ?_)
    refine bm_if_true rfl ?_
    show wpAny _ _ (Builtin.Bytes.buffer? "bytes.__new__" (.ref a) true >>= _) _ _ _
    refine wpAny_bind ?_
    unfold Builtin.Bytes.buffer?
    refine wpAny_bind (wpAny_specialOf hT FB.buffer ?_)
    dsimp only
    refine wpAny_bind ?_
    unfold Builtin.Bytes.slotIsOwn
    refine wpAny_bind (wpAny_specialOf hT FB.buffer ?_)
    dsimp only
    rw [buf_ends, buf_drop]
    refine bm_if_false rfl ?_
    refine wpAny_isInstance hT FB.sub_self ?_
    refine bm_if_false rfl ?_
    refine wpAny_bind (wpAny_specialOf hT FB.buffer ?_)
    refine wpAny_bind (wpAny_ownRelease hT ?_)
    refine bm_if_false rfl ?_
    refine wpAny_bind (wpAny_payloadBA e rfl ?_)
    refine wpAny_pure ?_
    refine wpAny_bind (wpAny_rule ?_)
    refine wpAny_bind (wpAny_mkBytes ?_ (by rw [sizeLine_eq]; simpa using hz))
    exact wpAny_pure ⟨typeIs_bytes _ _ _, σ, r.toks _, h _⟩
  · exact ⟨h₁.1, F.args_object_init_2 obj _, object_init_meets F.bm_called.init.lookup F.bm_called.made (by decide) prog w A.in1 _ s₁ ⟨h₁.1, rfl, h₁.2⟩⟩
end
abbrev Bs := List UInt8

/-! ## a generator's run, from one yield to the next -/
def EndNil (cx : Cx) (gg : Array GenState) (e : End) (s' : Shared) : Prop := e = .ret (.ok (.ret .none)) ∧ ∃ σ', Rep cx σ' s' ∧ σ'.g = gg
def EndCons (𝒦 : Cx → Prop) (b : Bs) (next : Cx → Array GenState → Code → Sem Fin → List Frame → Shared → Prop) (cx : Cx) (gg : Array GenState) (e : End) (s' : Shared) : Prop :=
  ∃ u g l k c p fs, e = .susp (.bytes b.toArray u) g l k c p fs ∧ e.quiet = true ∧ lends c = false ∧ (∀ f ∈ fs, lends f.where_.1 = false) ∧
    ∃ σ', Rep cx σ' s' ∧ σ'.g = gg ∧ ∀ cx2, 𝒦 cx2 → cx2.L = cx.L → ∀ g2 s2, Rep cx2 ⟨σ'.l, σ'.ν, g2⟩ s2 → next cx2 g2 c (k (.send .none)) fs s2

section
variable (M : Model) (A : Around) (𝒦 : Cx → Prop)
def Segs (P : End → Shared → Prop) (c : Code) (t : Sem Fin) (fs : List Frame) (s : Shared) : Prop :=
  ∀ Γ p, Γ.code = c → Γ.Woken A → NoLend (Γ.over fs) → ∃ e s', Runs M Γ p t fs s e s' ∧ P e s'
def SegB : List Bs → Cx → Array GenState → Code → Sem Fin → List Frame → Shared → Prop
  | [] => fun cx gg => Segs M A (EndNil cx gg)
  | b :: vs => fun cx gg => Segs M A (EndCons 𝒦 b (SegB vs) cx gg)
def EndB : List Bs → Cx → Array GenState → End → Shared → Prop
  | [] => EndNil
  | b :: vs => EndCons 𝒦 b (SegB M A 𝒦 vs)
end

section
variable {M : Model} {A : Around} {𝒦 : Cx → Prop}
theorem segB_iff {vs : List Bs} {cx : Cx} {gg : Array GenState} : SegB M A 𝒦 vs cx gg = Segs M A (EndB M A 𝒦 vs cx gg) := by cases vs <;> rfl

section
variable {P : End → Shared → Prop} {c : Code} {fs : List Frame} {s : Shared}
theorem segs_wrap {α : Type} {m : Sem α} {K : α → Sem Fin} {H : Value → Sem Fin} {gd lv}
    (h : wpN M (A.over c fs) m (fun a s' => Segs M A P c (K a) fs s') (fun x s' => Segs M A P c (H x) fs s') s) : Segs M A P c (m.wrap K H gd lv) fs s := by
  rintro Γ p rfl hΓ hn
  exact runs_wrap_of_wp K H gd lv m (h (Γ.over fs) p (hΓ.over fs) hn) (fun a p' s' h' => h' Γ p' rfl hΓ hn) (fun x p' s' h' => h' Γ p' rfl hΓ hn)
theorem segs_call {c' : Code} {h g l} {k : Result → Sem Fin} (hl : lends c' = false) (hc : ∀ p, Segs M A P c' (M.den c') (.ret k h g l c p [] :: fs) s) : Segs M A P c (.call c' h g l k) fs s := by
  rintro Γ p rfl hΓ hn
  obtain ⟨e, s', hr, he⟩ := hc p (Γ.goto c') p rfl (hΓ.goto c') ⟨hl, fun x hx => by
    rcases List.mem_cons.mp hx with rfl | hx
    · exact hn.1
    · exact hn.2 x hx⟩
  exact ⟨e, s', runs_call_seg hr, he⟩
theorem segs_leaf {k h g l c₁ p₁ kp} (r : Result) (hk : Segs M A P c₁ (k r) fs s) : Segs M A P c (leafOf r) (.ret k h g l c₁ p₁ kp :: fs) s := by
  rintro Γ p rfl hΓ hn
  obtain ⟨e, s', hr, he⟩ := hk (Γ.goto c₁) p₁ rfl (hΓ.goto c₁) ⟨hn.2 (c₁, p₁) (.head _), fun x hx => hn.2 x (.tail _ hx)⟩
  exact ⟨e, s', Runs.pop r hr, he⟩
theorem segs_again {c' : Code} (hq : c'.quiet = true) (hl : lends c' = false) (hc : Segs M A P c' (M.den c') fs s) : Segs M A P c (.pure (.again c')) fs s := by
  rintro Γ p rfl hΓ hn
  obtain ⟨e, s', hr, he⟩ := hc (Γ.goto c') p rfl (hΓ.goto c') ⟨hl, hn.2⟩
  exact ⟨e, s', Runs.head (c₁ := c') (fun _ _ x => .again hq x) hr, he⟩
theorem segs_end (r : Result) (h : P (.ret r) s) : Segs M A P c (leafOf r) [] s := by
  rintro Γ p rfl _ _
  exact ⟨.ret r, s, Runs.leaf r, h⟩
theorem segs_at {p' : Pos} {k : Unit → Sem Fin} (h : Segs M A P c (k ()) fs s) : Segs M A P c (.at p' k) fs s :=
  segs_wrap (m := standAt p') (K := k) (H := .raise) (gd := id) (lv := id) (wpN_any (wpAny_standAt h))
theorem segs_point {l : List Value} {k : Unit → Sem Fin} (h : Segs M A P c (k ()) fs s) : Segs M A P c (.point l k) fs s :=
  segs_wrap (m := point) (K := k) (H := .raise) (gd := id) (lv := fun _ => l) (wpN_any (wpAny_point h))
end

/-! ## the walk of a generator's body -/
structure Fine (A : Around) (r : Nat) (c : Code) (fs : List Frame) : Prop where
  nogen : splitAtGen fs = none
  calm : fs.any Frame.guarded = false
  room : Room r (A.over c fs)

section
variable (M A 𝒦)
def GW (c : Code) (fs : List Frame) {α : Type} (vs : List Bs) (cx : Cx) (σ : St) (m : Sem α) (Q : α → List Bs → Cx → St → Prop) : Prop :=
  ∀ (K : α → Sem Fin) (H : Value → Sem Fin) (gd : Bool → Bool) (lv : List Value → List Value), gd false = false →
    (∀ a vs' cx' σ', Q a vs' cx' σ' → ∀ s', Rep cx' σ' s' → SegB M A 𝒦 vs' cx' σ'.g c (K a) fs s') → ∀ s, Rep cx σ s → SegB M A 𝒦 vs cx σ.g c (m.wrap K H gd lv) fs s
end

variable {c : Code} {fs : List Frame} {vs : List Bs} {cx : Cx} {σ : St} {α β : Type}
theorem GW_pure {a : α} {Q : α → List Bs → Cx → St → Prop} (h : Q a vs cx σ) : GW M A 𝒦 c fs vs cx σ (pure a) Q := fun K H gd lv hg hQ s r => hQ a _ _ _ h s r
theorem GW_mono {m : Sem α} {Q Q' : α → List Bs → Cx → St → Prop} (h : GW M A 𝒦 c fs vs cx σ m Q) (hq : ∀ a vs' cx' σ', Q a vs' cx' σ' → Q' a vs' cx' σ') : GW M A 𝒦 c fs vs cx σ m Q' :=
  fun K H gd lv hg hQ s r => h K H gd lv hg (fun a vs' cx' σ' q => hQ a vs' cx' σ' (hq _ _ _ _ q)) s r
theorem GW_bind {m : Sem α} {f : α → Sem β} {Q : β → List Bs → Cx → St → Prop} (h : GW M A 𝒦 c fs vs cx σ m (fun a vs' cx' σ' => GW M A 𝒦 c fs vs' cx' σ' (f a) Q)) : GW M A 𝒦 c fs vs cx σ (m >>= f) Q := by
  intro K H gd lv hg hQ s r
  rw [Sem.bind_eq_wrap', Sem.wrap_wrap]
  exact h _ _ _ _ hg (fun a vs' cx' σ' q s' r' => q K H gd lv hg hQ s' r') s r
theorem GW_onRaise {m : Sem α} {k : Value → Sem Unit} {Q : α → List Bs → Cx → St → Prop} (h : GW M A 𝒦 c fs vs cx σ m Q) : GW M A 𝒦 c fs vs cx σ (m.onRaise k) Q := by
  intro K H gd lv hg hQ s r
  rw [Sem.onRaise_eq_wrap, Sem.wrap_wrap]
  exact h _ _ _ _ hg (fun a vs' cx' σ' q s' r' => hQ a vs' cx' σ' q s' r') s r
theorem GW_holding {ws : List Value} {m : Sem α} {Q : α → List Bs → Cx → St → Prop} (h : GW M A 𝒦 c fs vs cx σ m Q) : GW M A 𝒦 c fs vs cx σ (holding ws m) Q := by
  intro K H gd lv hg hQ s r
  unfold holding
  have e : ∀ l, GW M A 𝒦 c fs vs cx σ (m.keep l) Q := fun l K H gd lv hg hQ s r => by
    rw [Sem.keep_eq_wrap, Sem.wrap_wrap]
    exact h _ _ _ _ hg (fun a vs' cx' σ' q s' r' => hQ a vs' cx' σ' q s' r') s r
  first | exact e _ K H gd lv hg hQ s r | (split <;> first | exact e _ K H gd lv hg hQ s r | exact h K H gd lv hg hQ s r)
end

section
variable {prog : Program} {w : World} {A : Around} {𝒦 : Cx → Prop} {c : Code} {fs : List Frame} {vs : List Bs} {cx : Cx} {σ : St} {α β : Type} {env : Env}
theorem GW_W {m : Sem α} {Q : α → List Bs → Cx → St → Prop} (h : W prog w (A.over c fs) NoE cx σ m (fun a σ' => σ'.g = σ.g ∧ Q a vs cx σ')) : GW (model prog w) A 𝒦 c fs vs cx σ m Q := by
  intro K H gd lv hg hQ s r
  rw [segB_iff]
  refine segs_wrap (wpN_mono (h s r) (fun a s' ⟨σ', r', e, q⟩ => ?_) fun _ _ e => e.elim)
  have := hQ a vs cx σ' q s' r'
  rw [segB_iff, e] at this
  exact this
theorem GW_execs_nil {Q : Flow → List Bs → Cx → St → Prop} (h : Q .next vs cx σ) : GW (model prog w) A 𝒦 c fs vs cx σ (execs [] env) Q := GW_pure h
theorem GW_execs_cons {st : Stmt} {rest : List Stmt} {Q : Flow → List Bs → Cx → St → Prop}
    (h : GW (model prog w) A 𝒦 c fs vs cx σ (exec st env) (fun f vs' cx' σ' => match f with | .next => GW (model prog w) A 𝒦 c fs vs' cx' σ' (execs rest env) Q | f => Q f vs' cx' σ')) : GW (model prog w) A 𝒦 c fs vs cx σ (execs (st :: rest) env) Q := by
  rw [execs_cons]
  refine GW_bind (GW_mono h fun f vs' cx' σ' q => ?_)
  cases f <;> first | exact q | exact GW_pure q
theorem GW_If {test : Expr} {body orelse : List Stmt} {pos : Pos} {Q : Flow → List Bs → Cx → St → Prop}
    (h : W prog w (A.over c fs) NoE cx σ (isTrue test env (eval test env)) (fun b σ' => σ'.g = σ.g ∧ if b then GW (model prog w) A 𝒦 c fs vs cx σ' (execs body env) Q else GW (model prog w) A 𝒦 c fs vs cx σ' (execs orelse env) Q)) : GW (model prog w) A 𝒦 c fs vs cx σ (exec (.If test body orelse pos) env) Q := by
  rw [exec_If]
  refine GW_bind (GW_W (W_standAt ⟨rfl, GW_bind (GW_W (W_mono h fun b σ' q => ⟨q.1, ?_⟩))⟩))
  have q := q.2
  cases b <;> exact q
theorem GW_yield {e : Expr} {ypos pos : Pos} {r : Nat} {Q : Flow → List Bs → Cx → St → Prop} (F : Fine A r c fs)
    (h : W prog w (A.over c fs) NoE cx σ (eval e env) (fun v σ' => σ'.g = σ.g ∧ ∃ b u vs', v = .bytes b.toArray u ∧ vs = b :: vs' ∧ ∀ cx2, 𝒦 cx2 → cx2.L = cx.L → ∀ g2, Q .next vs' cx2 ⟨σ'.l, σ'.ν, g2⟩))
    (hco : env.scope.isCoroutine = false := by rfl) (hi : interactive env = false := by rfl) : GW (model prog w) A 𝒦 c fs vs cx σ (exec (.Expr (.Yield (some e) ypos) pos) env) Q := by
  rw [exec_Expr env _ pos hi rfl]
  refine GW_bind (GW_W (W_standAt ⟨rfl, ?_⟩))
  refine GW_bind ?_
  show GW _ A 𝒦 c fs vs cx σ (eval e env >>= fun v => (standAt ypos >>= fun _ => yieldOut env v)) _
  refine GW_bind (GW_W (W_mono h fun v σ' q => ⟨q.1, ?_⟩))
  obtain ⟨_, b, u, vs', rfl, rfl, q⟩ := q
  refine GW_bind (GW_W (W_standAt ⟨rfl, ?_⟩))
  have hy : yieldOut env (.bytes b.toArray u) = yieldValue (.bytes b.toArray u) := by simp only [yieldOut, hco, Bool.false_eq_true, if_false]
  rw [hy]
  intro K H gd lv hg hQ s rr
  rw [segB_iff]
  rintro Γ p rfl hΓ hn
  refine ⟨_, s, Runs.yield' fs F.nogen, u, _, _, _, _, _, _, rfl, ?_, hn.1, fun f hf => ?_, σ', rr, rfl, fun cx2 hk hL g2 s2 r2 => ?_⟩
  · simp [End.quiet, hg, F.calm]
  · exact hn.2 f.where_ (List.mem_append_left _ (List.mem_map.mpr ⟨f, hf, rfl⟩))
  · refine hQ .none vs' cx2 ⟨σ'.l, σ'.ν, g2⟩ ?_ s2 r2
    exact GW_pure (q cx2 hk hL g2)
end
section
variable {M : Model} {A : Around} {𝒦 : Cx → Prop} {c : Code} {fs : List Frame} {vs : List Bs} {cx : Cx} {σ : St} {α β : Type} {env : Env}
theorem Fine.push {r : Nat} {c' : Code} {k : Result → Sem Fin} {lv : List Value} {p : Pos} (F : Fine A r c fs) (hw : c'.weight = 0) : Fine A r c' (.ret k none false lv c p [] :: fs) := by
  refine ⟨?_, ?_, ?_, ?_⟩
  · simp [splitAtGen, F.nogen]
  · simp [Frame.guarded, F.calm]
  · exact F.room.1
  · have := F.room.2
    simp only [Around.over, List.map_cons, Frame.where_, frameCount_cons, hw] at this ⊢
    omega

theorem GW_runOwn {c' : Code} {Q : Flow → List Bs → Cx → St → Prop} (hl : lends c' = false)
    (h : ∀ (k : Result → Sem Fin) lv p, (∀ f vs' cx' σ', Q f vs' cx' σ' → ∀ s', Rep cx' σ' s' → SegB M A 𝒦 vs' cx' σ'.g c (k (.ok f)) fs s') → ∀ s, Rep cx σ s → SegB M A 𝒦 vs cx σ.g c' (M.den c') (.ret k none false lv c p [] :: fs) s) :
    GW M A 𝒦 c fs vs cx σ (runOwn c' env) Q := by
  unfold runOwn
  refine GW_onRaise ?_
  intro K H gd lv hg hQ s r
  show SegB M A 𝒦 vs cx σ.g c (.call c' none (gd false) (lv []) fun x => ((match x with | .ok f => .pure f | .error e => .raise e : Sem Flow)).wrap K H gd lv) fs s
  rw [hg, segB_iff]
  refine segs_call hl fun p => ?_
  have := h (fun x => ((match x with | .ok f => .pure f | .error e => .raise e : Sem Flow)).wrap K H gd lv) (lv []) p (fun f vs' cx' σ' q s' r' => hQ f vs' cx' σ' q s' r') s r
  rw [segB_iff] at this
  exact this

theorem seg_loop {c' : Code} {turn : Sem Fin} {hnd : Value → Sem Unit} (hden : M.den c' = turn.onRaise hnd) (hq : c'.quiet = true) (hl : lends c' = false) (I : Nat → List Bs → Cx → St → Prop) {Q : Flow → List Bs → Cx → St → Prop}
    {k : Result → Sem Fin} {lv : List Value} {p : Pos} (hk : ∀ f vs' cx' σ', Q f vs' cx' σ' → ∀ s', Rep cx' σ' s' → SegB M A 𝒦 vs' cx' σ'.g c (k (.ok f)) fs s')
    (ht : ∀ n vs cx σ, I n vs cx σ → GW M A 𝒦 c' (.ret k none false lv c p [] :: fs) vs cx σ turn (fun fin vs' cx' σ' => match fin with
      | .done f => Q f vs' cx' σ'
      | .again c'' => (c'' = c' ∧ ∃ m, m < n ∧ ∃ σ'', Le cx' σ' σ'' ∧ σ''.g = σ'.g ∧ I m vs' cx' σ'') ∨ (∃ env, c'' = .block [] env ∧ Q .next vs' cx' σ'))) (hb : ∀ env, M.den (.block [] env) = .pure (.done .next)) (hbl : ∀ env, lends (.block [] env) = false) :
    ∀ n vs cx σ, I n vs cx σ → ∀ s, Rep cx σ s → SegB M A 𝒦 vs cx σ.g c' (M.den c') (.ret k none false lv c p [] :: fs) s := by
  intro n
  induction n using Nat.strongRecOn with
  | ind n ih =>
    intro vs cx σ hI s r
    rw [hden, Sem.onRaise_eq_wrap]
    refine ht n vs cx σ hI _ _ _ _ rfl (fun fin vs' cx' σ' q s' r' => ?_) s r
    cases fin with
    | done f =>
      have := hk f vs' cx' σ' q s' r'
      rw [segB_iff] at this ⊢
      exact segs_leaf (.ok f) this
    | again c'' =>
      rcases q with ⟨rfl, m, hm, σ'', hle, hgg, hI'⟩ | ⟨env, rfl, q⟩
      · have := ih m hm vs' cx' σ'' hI' s' (hle s' r')
        rw [segB_iff] at this ⊢
        rw [hgg] at this
        exact segs_again hq hl this
      · rw [segB_iff]
        refine segs_again rfl (hbl env) ?_
        rw [hb]
        have := hk .next vs' cx' σ' q s' r'
        rw [segB_iff] at this
        exact segs_leaf (.ok .next) this
end

section
variable {prog : Program} {w : World} {A : Around} {𝒦 : Cx → Prop} {c : Code} {fs : List Frame} {vs : List Bs} {cx : Cx} {σ : St} {α β : Type} {env : Env}
theorem GW_W2 {γ : Type} {m₁ : Sem α} {m₂ : α → Sem β} {g : β → Sem γ} {Q : γ → List Bs → Cx → St → Prop}
    (h : W prog w (A.over c fs) NoE cx σ m₁ (fun a σ' => W prog w (A.over c fs) NoE cx σ' (m₂ a) (fun b σ'' => σ''.g = σ.g ∧ GW (model prog w) A 𝒦 c fs vs cx σ'' (g b) Q))) : GW (model prog w) A 𝒦 c fs vs cx σ (m₁ >>= fun a => m₂ a >>= g) Q := by
  intro K H gd lv hg hQ s r
  rw [segB_iff, Sem.bind_eq_wrap', Sem.wrap_wrap]
  refine segs_wrap (wpN_mono (h s r) (fun a s' ⟨σ', r', q⟩ => ?_) fun _ _ e => e.elim)
  rw [Sem.bind_eq_wrap', Sem.wrap_wrap]
  refine segs_wrap (wpN_mono (q s' r') (fun b s'' ⟨σ'', r'', e, q⟩ => ?_) fun _ _ e => e.elim)
  have := q K H gd lv hg hQ s'' r''
  rw [segB_iff, e] at this
  exact this
theorem den_block (env : Env) : (model prog w).den (.block [] env) = .pure (.done .next) := rfl
/-- how a turn ends that goes on -/
def GTurn (P : List Bs → Cx → St → Prop) (f : Flow) (vs : List Bs) (cx : Cx) (σ : St) : Prop := (f = .next ∨ f = .cont) ∧ ∃ σ', Le cx σ σ' ∧ σ'.g = σ.g ∧ P vs cx σ'
theorem GW_While {test : Expr} {body : List Stmt} {pos : Pos} {r : Nat} {Q : Flow → List Bs → Cx → St → Prop} (F : Fine A r c fs) (I : Nat → List Bs → Cx → St → Prop) (n : Nat) (h : I n vs cx σ)
    (turn : ∀ n vs cx σ fs', Fine A r (.whileLoop test body [] env) fs' → I n vs cx σ → W prog w (A.over (.whileLoop test body [] env) fs') NoE cx σ (isTrue test env (eval test env)) (fun b σ₂ => σ₂.g = σ.g ∧
      if b then GW (model prog w) A 𝒦 (.whileLoop test body [] env) fs' vs cx σ₂ (execs body env) (GTurn fun vs' cx' σ' => ∃ m, m < n ∧ I m vs' cx' σ') else Q .next vs cx σ₂)) :
    GW (model prog w) A 𝒦 c fs vs cx σ (exec (.While test body [] pos) env) Q := by
  rw [exec_While]
  refine GW_bind (GW_W (W_standAt ⟨rfl, GW_runOwn rfl fun k lv p hk s r => ?_⟩))
  refine seg_loop (turn := whileTurn test body [] env) rfl rfl rfl I hk (fun n vs cx σ hI => ?_) den_block (fun _ => rfl) n vs cx σ h s r
  unfold whileTurn
  refine GW_bind (GW_W (W_mono (turn n vs cx σ _ (F.push rfl) hI) fun b σ₂ q => ⟨q.1, ?_⟩))
  have q := q.2
  cases b with
  | false => exact GW_bind (GW_execs_nil (GW_pure q))
  | true =>
    refine GW_bind (GW_mono q fun f vs' cx' σ' q' => ?_)
    obtain ⟨hf, σ'', hle, hg, m, hm, hI'⟩ := q'
    rcases hf with rfl | rfl
    · exact GW_pure (.inl ⟨rfl, m, hm, σ'', hle, hg, hI'⟩)
    · exact GW_pure (.inl ⟨rfl, m, hm, σ'', hle, hg, hI'⟩)

/-- for .. in a list -/
theorem GW_For_list {target iter : Expr} {body : List Stmt} {pos : Pos} {r : Nat} {Q : Flow → List Bs → Cx → St → Prop} (F : Fine A r c fs)
    (h : W prog w (A.over c fs) NoE cx σ (eval iter env) (fun x σ₁ => σ₁.g = σ.g ∧ ∃ (d : Addr) (xs : List Value) (I : Nat → List Bs → Cx → St → Prop), x = .ref d ∧ (∀ i vs cx σ, I i vs cx σ → HasL cx σ d xs) ∧ I 0 vs cx σ₁ ∧
      (∀ (i : Nat) v vs cx σ₂ it fs', xs[i]? = some v → I i vs cx σ₂ → Fine A r (.forLoop target (.ref it) body [] env) fs' →
        W prog w (A.over (.forLoop target (.ref it) body [] env) fs') NoE cx ⟨σ₂.l, (it, isLIter d (i + 1)) :: σ₂.ν, σ₂.g⟩ (letOwnedTupleGo target (.ref it) v) (fun _ σ₃ => W prog w (A.over (.forLoop target (.ref it) body [] env) fs') NoE cx σ₃ (assign target env v) (fun _ σ₄ => σ₄.g = σ₂.g ∧
          GW (model prog w) A 𝒦 (.forLoop target (.ref it) body [] env) fs' vs cx σ₄ (execs body env) (GTurn fun vs' cx' σ' => ∃ ν', σ'.ν = (it, isLIter d (i + 1)) :: ν' ∧ I (i + 1) vs' cx' ⟨σ'.l, ν', σ'.g⟩)))) ∧ (∀ vs cx σ₂, I xs.length vs cx σ₂ → Q .next vs cx σ₂)))
    (hs : ∀ x, foldedSetIterable iter env x = pure x := by intro _; rfl) : GW (model prog w) A 𝒦 c fs vs cx σ (exec (.For target iter body [] pos) env) Q := by
  rw [exec_For]
  refine GW_bind (GW_W (W_standAt ⟨rfl, ?_⟩))
  refine GW_bind (GW_W (W_mono h fun x σ₁ q => ⟨q.1, ?_⟩))
  obtain ⟨_, d, xs, I, rfl, hX, h0, turn, fin⟩ := q
  refine GW_bind (GW_W (W_val (hs _) ⟨rfl, ?_⟩))
  refine GW_bind (GW_W (W_standAt ⟨rfl, ?_⟩))
  obtain ⟨l₁, ν₁, g₁⟩ := σ₁
  refine GW_bind (GW_W (W_holding (pyIter_list (hX _ _ _ _ h0) fun it => ⟨rfl, ?_⟩)))
  refine GW_runOwn rfl fun k lv p hk s r => ?_
  refine seg_loop (turn := forTurn target (.ref it) body [] env) rfl rfl rfl (fun n vs cx σ => ∃ i ν', i ≤ xs.length ∧ n = xs.length - i ∧ σ.ν = (it, isLIter d i) :: ν' ∧ I i vs cx ⟨σ.l, ν', σ.g⟩) hk (fun n vs cx σ hI => ?_) den_block (fun _ => rfl)
    xs.length vs cx ⟨l₁, (it, isLIter d 0) :: ν₁, g₁⟩ ⟨0, ν₁, Nat.zero_le _, rfl, rfl, h0⟩ s r
  obtain ⟨i, ν', hi, rfl, e, hI⟩ := hI
  obtain ⟨l₂, ν₂, g₂⟩ := σ
  dsimp only at e hI
  subst e
  have F' : Fine A _ (.forLoop target (.ref it) body [] env) (.ret k none false lv c p [] :: fs) := F.push rfl
  unfold forTurn
  refine GW_bind (GW_W (W_standAt ⟨rfl, ?_⟩))
  have HI := Iter.list (prog := prog) (w := w) (c := cx) (A := A.over (.forLoop target (.ref it) body [] env) (.ret k none false lv c p [] :: fs)) F'.room.1 it d xs
  rcases Nat.lt_or_ge i xs.length with hin | hin
  · refine GW_bind (GW_onRaise (GW_W fun s r => ?_))
    refine HI.next i ⟨l₂, ν', g₂⟩ s _ hin (hX _ _ _ _ hI) r fun v s' hv r' => ⟨_, r', rfl, ?_⟩
    dsimp only
    refine GW_W2 (W_mono (turn i v vs cx ⟨l₂, ν', g₂⟩ it _ hv hI F') fun _ σ₃ q₃ => W_mono q₃ fun _ σ₄ q₄ => ⟨q₄.1, ?_⟩)
    refine GW_bind (GW_mono q₄.2 fun f vs' cx' σ' q' => ?_)
    obtain ⟨hf, σ'', hle, hg, ν'', e, hI'⟩ := q'
    have fin : (Code.forLoop target (.ref it) body [] env = Code.forLoop target (.ref it) body [] env ∧ ∃ m, m < xs.length - i ∧ ∃ σ₅, Le cx' σ' σ₅ ∧ σ₅.g = σ'.g ∧ ∃ j ν', j ≤ xs.length ∧ m = xs.length - j ∧ σ₅.ν = (it, isLIter d j) :: ν' ∧ I j vs' cx' ⟨σ₅.l, ν', σ₅.g⟩) :=
      ⟨rfl, xs.length - (i + 1), by omega, σ'', hle, hg, i + 1, ν'', hin, rfl, e, hI'⟩
    rcases hf with rfl | rfl
    · exact GW_pure (.inl fin)
    · exact GW_pure (.inl fin)
  · obtain rfl : i = xs.length := Nat.le_antisymm hi hin
    refine GW_bind (GW_onRaise (GW_W fun s r => ?_))
    refine HI.done ⟨l₂, ν', g₂⟩ s _ (hX _ _ _ _ hI) r fun s' r' => ⟨_, r', rfl, ?_⟩
    exact GW_pure (.inr ⟨env, rfl, fin _ _ _ hI⟩)
end
namespace FJ
theorem slot_join : Slot "bytes" "join" "bytes.join" :=
  .of (owner := "bytes") (n := "join") (by rw [typeLookup_type, builtinLookup_eq_fast]; kernel_rfl) (by decide +kernel) (by decide +kernel) (by decide +kernel)
    (by first | exact .inl (by decide +kernel) | exact .inr (by decide +kernel)) (by rw [isSubtype_type]; kernel_rfl)
theorem entry_join : entryFor table "bytes.join" = some Builtin.«bytes.join» := entryFor_of_tree (by kernel_rfl)
theorem type_join : typeOf (.builtin "bytes.join") = pure (.type "method_descriptor") := by show builtinType _ = _; rw [builtinType_eq_fast]; kernel_rfl
theorem owner : Manifest.owners.lookup (String.ofList ['s', 'e', 't', 'y', 'b'].reverse) = some Manifest.sig_bytes := by kernel_rfl
theorem args_join (a b : Value) : argsOk "bytes.join" ⟨[a, b], []⟩ := by
  unfold argsOk; rw [signature?_of (id := "bytes.join") (n := ['n', 'i', 'o', 'j']) (o := ['s', 'e', 't', 'y', 'b']) (by kernel_rfl) owner]; kernel_rfl
theorem plainAttrs : PlainAttrs "bytes" :=
  ⟨⟨"bytes.__getattribute__", by rw [typeLookup_type, builtinLookup_eq_fast]; kernel_rfl, by decide +kernel⟩, by rw [typeLookup_type, builtinLookup_eq_fast]; kernel_rfl⟩
theorem buffer : typeLookup (.type "bytes") "__buffer__" = pure (some (.builtin "bytes.__buffer__")) := by rw [typeLookup_type, builtinLookup_eq_fast]; kernel_rfl
theorem noRelease : typeLookup (.type "bytes") "__release_buffer__" = pure none := by rw [typeLookup_type, builtinLookup_eq_fast]; kernel_rfl
theorem sub : isSubtype (.type "bytes") (.type "bytes") = pure true := by rw [isSubtype_type]; kernel_rfl
end FJ
theorem bbuf_ends : ("bytes.__buffer__".endsWith ("." ++ "__buffer__")) = true := by first | decide +kernel | rfl | simp
set_option linter.deprecated false in
theorem bbuf_drop : ("bytes.__buffer__".dropRight ("__buffer__".length + 1)) = "bytes" := by first | decide +kernel | rfl | simp

/-- values that are bytes -/
inductive BytesAre : List Value → List Bs → Prop
  | nil : BytesAre [] []
  | cons (b : Bs) (t : Tok) {vs : List Value} {bs : List Bs} : BytesAre vs bs → BytesAre (.bytes b.toArray t :: vs) (b :: bs)
theorem BytesAre.length {vs : List Value} {bs : List Bs} (h : BytesAre vs bs) : vs.length = bs.length := by induction h <;> simp_all
theorem BytesAre.snoc {vs : List Value} {bs : List Bs} (h : BytesAre vs bs) (b : Bs) (t : Tok) : BytesAre (vs ++ [.bytes b.toArray t]) (bs ++ [b]) := by
  induction h with
  | nil => exact .cons b t .nil
  | cons b' t' h ih => exact .cons b' t' ih
theorem BytesAre.at {vs : List Value} {bs : List Bs} (h : BytesAre vs bs) : ∀ {i : Nat}, i < vs.length → ∃ b t, vs[i]? = some (.bytes b.toArray t) ∧ bs[i]? = some b := by
  induction h with
  | nil => intro i hi; simp at hi
  | cons b t h ih =>
    intro i hi
    cases i with
    | zero => exact ⟨b, t, rfl, rfl⟩
    | succ i => simpa using ih (by simpa using hi)

theorem joined_nil (bs : List Bs) : Builtin.Bytes.joined #[] (bs.map List.toArray) = bs.flatten.toArray := by
  unfold Builtin.Bytes.joined
  have key : ∀ (bs : List Bs) (acc : Bs) (k : Nat), ((bs.map List.toArray).zipIdx k).foldl (fun out (x : Array UInt8 × Nat) => (if x.2 > 0 then out ++ #[] else out) ++ x.1) acc.toArray = (acc ++ bs.flatten).toArray := by
    intro bs
    induction bs with
    | nil => intro acc k; simp
    | cons b r ih =>
      intro acc k
      rw [List.map_cons, List.zipIdx_cons, List.foldl_cons]
      have : ((if k > 0 then acc.toArray ++ #[] else acc.toArray) ++ b.toArray) = (acc ++ b).toArray := by split <;> simp
      rw [this, ih]
      simp
  simpa using key bs [] 0

section
variable {prog : Program} {w : World} {A : Around} {E : Value → Shared → Prop} {s : Shared} {M : Model}
theorem wpAny_takeBuf {id : String} {b : Array UInt8} {t : Tok} {Q : Option (Array UInt8 × Option Value) → Shared → Prop} (h : Q (some (b, none)) s) : wpAny M A (Builtin.Bytes.takeBufferQuiet? id (.bytes b t) 0) Q E s := by
  have hT := typeIs_bytes s b t
  have own : ∀ (Q : Bool → Shared → Prop) E, Q true s → wpAny M A (Builtin.Bytes.slotIsOwn (.bytes b t) "__buffer__") Q E s := fun Q E h => by
    unfold Builtin.Bytes.slotIsOwn
    refine wpAny_bind (wpAny_specialOf hT FJ.buffer ?_)
    dsimp only
    rw [bbuf_ends, bbuf_drop]
    refine bm_if_false rfl ?_
    exact wpAny_isInstance hT FJ.sub h
  have rel : ∀ (Q : Bool → Shared → Prop) E, Q false s → wpAny M A (Builtin.Bytes.ownRelease (.bytes b t)) Q E s := fun Q E h => by
    unfold Builtin.Bytes.ownRelease Builtin.Bytes.slotIsOwn
    refine wpAny_bind (wpAny_bind (wpAny_specialOf hT FJ.noRelease ?_))
    exact wpAny_pure (wpAny_pure h)
  unfold Builtin.Bytes.takeBufferQuiet?
  refine wpAny_bind (wpAny_attempt ?_)
  unfold Builtin.Bytes.takeBuffer?
  refine wpAny_bind (wpAny_specialOf hT FJ.buffer ?_)
  dsimp only
  refine wpAny_bind (own _ _ ?_)
  refine bm_if_false rfl ?_
  refine wpAny_bind (wpAny_specialOf hT FJ.buffer ?_)
  refine wpAny_bind ?_
  unfold Builtin.Bytes.buffer?
  refine wpAny_bind (wpAny_specialOf hT FJ.buffer ?_)
  dsimp only
  refine wpAny_bind (own _ _ ?_)
  refine bm_if_false rfl ?_
  refine wpAny_bind (wpAny_specialOf hT FJ.buffer ?_)
  refine wpAny_bind (rel _ _ ?_)
  refine bm_if_false rfl ?_
  refine wpAny_bind (wpAny_of_eq rfl ?_)
  refine wpAny_pure (wpAny_pure ?_)
  exact wpAny_pure h
end

section
variable {A : Around} {E : Value → Shared → Prop} {s : Shared} {M : Model}
theorem wpN_forIn_list {β : Type} {f : Nat → β → Sem (ForInStep β)} {Q : β → Shared → Prop} (I : Nat → β → Shared → Prop) : ∀ (k i n : Nat) (b : β) (s : Shared), i + k = n → I i b s → (∀ i b s, i < n → I i b s → wpN M A (f i b) (fun r s' => ∃ b', r = .yield b' ∧ I (i + 1) b' s') E s) →
    (∀ b s, I n b s → Q b s) → wpN M A (forIn (List.range' i k) b f) Q E s
  | 0, i, n, b, s, e, h, step, fin => by
    obtain rfl : i = n := by omega
    exact wpN_pure (fin _ _ h)
  | k + 1, i, n, b, s, e, h, step, fin => by
    rw [List.range'_succ, List.forIn_cons]
    refine wpN_bind (wpN_mono (step i b s (by omega) h) (fun r s' q => ?_) fun _ _ e => e)
    obtain ⟨b', rfl, q⟩ := q
    exact wpN_forIn_list I k (i + 1) n b' s' (by omega) q step fin
theorem wpN_forIn_range {β : Type} {n : Nat} {b : β} {f : Nat → β → Sem (ForInStep β)} {Q : β → Shared → Prop} (I : Nat → β → Shared → Prop) (h : I 0 b s) (step : ∀ i b s, i < n → I i b s → wpN M A (f i b) (fun r s' => ∃ b', r = .yield b' ∧ I (i + 1) b' s') E s)
    (fin : ∀ b s, I n b s → Q b s) : wpN M A (forIn [:n] b f) Q E s := by
  rw [Std.Legacy.Range.forIn_eq_forIn_range']
  have : ([:n] : Std.Legacy.Range).size = n := by simp [Std.Legacy.Range.size]
  rw [this]
  exact wpN_forIn_list I n 0 n b s (by omega) h step fin
end

section
variable {prog : Program} {w : World} {A : Around} {E : Value → Shared → Prop} {c : Cx} {σ : St} {l : List (Str × Value)} {ν ν' : List (Addr × OP)} {g : Array GenState} {env : Env}
theorem wpAny_joinLetGo {M : Model} {s : Shared} {keep : List Value} {Q : Unit → Shared → Prop} (h : Q () s) : ∀ ys : List Value, wpAny M A (Builtin.Bytes.joinLetGo (ys.map fun y => (y, none)) keep) Q E s
  | [] => wpAny_pure h
  | y :: r => by
    show wpAny M A (letGo (y :: []) _ >>= fun _ => Builtin.Bytes.joinLetGo (r.map fun y => (y, none)) keep) Q E s
    refine wpAny_bind (wpAny_letGo ?_)
    exact wpAny_joinLetGo h r
theorem sum_sizes (bs : List Bs) : ∀ n : Nat, (bs.map List.toArray).toArray.foldl (fun a (b : Array UInt8) => a + b.size) n = n + bs.flatten.length := by
  induction bs with
  | nil => intro n; simp
  | cons b r ih =>
    intro n
    have := ih (n + b.length)
    simp only [List.size_toArray, List.foldl_toArray', List.foldl_cons, List.map_cons, List.flatten_cons, List.length_append] at this ⊢
    omega
/-- what joinM does behind the items' making -/
theorem W_joinTail {bs : List Bs} {u : Tok} {Q : Value → St → Prop} (hz : bs.flatten.length ≤ 16777216) {t : Sem Value}
    (ht : W prog w A.in1 E c σ t (fun v σ' => ∃ d xs, v = .ref d ∧ HasL c σ' d xs ∧ BytesAre xs bs ∧ ∀ t, Q (.bytes bs.flatten.toArray t) σ')) (k : Value)
    (hj : Builtin.Bytes.joinItems k = t) : W prog w A E c σ (call (.builtin "bytes.join") [.bytes #[] u, k] []) Q := fun s r => by
  refine wpN_call_entry FJ.slot_join (typeIs_bytes _ _ _) FJ.entry_join (FJ.args_join _ _) (show lendIds.contains "bytes.join" = false by decide +kernel) ?_
  unfold Builtin.«bytes.join» Builtin.Bytes.joinM
  dsimp only
  refine wpN_bind (wpN_of_eq (a := (.bytes #[] u, k)) rfl ?_)
  dsimp only
  rw [hj]
  refine wpN_bind ?_
  show wpN _ _ t _ _ _
  refine wpN_mono (ht s r) (fun v s₁ ⟨σ₁, r₁, q⟩ => ?_) fun _ _ e => e
  obtain ⟨d, xs, rfl, hx, hb, h⟩ := q
  have hL := hx.at r₁
  obtain ⟨ol, hol, hoc, nl, hod⟩ := id hL
  refine wpN_bind (wpN_any (wpAny_seqItems hol hod ?_))
  dsimp only
  refine wpN_if_true (by decide) ?_
  have hsz : xs.toArray.size = bs.length := by rw [List.size_toArray, hb.length]
  have xlen : xs.length = bs.length := hb.length
  rcases xs with _ | ⟨x, _ | ⟨y, rest⟩⟩
  case cons.nil =>
    show wpN _ _ (typeOf x >>= _) _ _ _
    cases hb with
    | cons b t hb' =>
      cases hb'
      refine wpN_bind (wpN_any (wpAny_typeOf (typeIs_bytes _ _ _) ?_))
      refine wpN_if_true (by decide) ?_
      refine wpN_bind (wpN_any (wpAny_rule ?_))
      exact wpN_pure ⟨_, rfl, σ₁, r₁, (show Q (.bytes b.toArray t) σ₁ by simpa using h t)⟩
  all_goals
    show wpN _ _ (forIn (m := Sem) [:_] (#[], []) _ >>= _) _ _ _
    refine wpN_bind (wpN_forIn_range (fun i (st : Array (Array UInt8) × List (Value × Option Value)) s' => s' = s₁ ∧ st.1 = ((bs.take i).map List.toArray).toArray ∧ ∃ ys, st.2 = ys.map (fun y => (y, none)) ∧ ∀ y ∈ ys, y.onHeap = false) ⟨rfl, by simp, [], rfl, by simp⟩ ?_ ?_)
    · rintro i ⟨parts, taken⟩ s' hi ⟨rfl, hp, ys, ht, hy⟩
      dsimp only at hp ht
      subst hp ht
      rw [List.size_toArray] at hi
      obtain ⟨b, t, hv, hbv⟩ := hb.at hi
      refine wpN_bind (wpN_any (wpAny_seqItems hol hod ?_))
      dsimp only
      rw [show (List.toArray _).getD i Value.none = .bytes b.toArray t by rw [Array.getD_eq_getD_getElem?, List.getElem?_toArray, hv]; rfl]
      refine wpN_if_false (by rw [Bool.or_eq_false_iff]; exact ⟨by decide, List.any_eq_false.mpr fun y hy' => by obtain ⟨z, hz, rfl⟩ := List.mem_map.mp hy'; simpa using hy z hz⟩) ?_
      refine wpN_bind (wpN_holding (wpN_any (wpAny_takeBuf ?_)))
      dsimp only
      refine wpN_bind (wpN_any (wpAny_seqItems hol hod ?_))
      dsimp only
      refine wpN_if_false (by simp) ?_
      refine wpN_pure ⟨_, rfl, rfl, ?_, ys ++ [.bytes b.toArray t], by simp, fun y hy' => ?_⟩
      · rw [List.take_add_one, hbv]; simp
      · rcases List.mem_append.mp hy' with h | h
        · exact hy y h
        · rw [List.mem_singleton.mp h]; rfl
    · rintro ⟨parts, taken⟩ s' ⟨rfl, hp, ys, ht, hy⟩
      dsimp only at hp ht
      subst hp ht
      refine wpN_bind (wpN_of_eq (a := #[]) rfl ?_)
      rw [hsz, List.take_of_length_le (Nat.le_refl _)]
      refine wpN_if_false (by
        unfold Builtin.Bytes.tooLong
        rw [decide_eq_false_iff_not, sizeLine_eq, sum_sizes]
        simp only [Array.size_empty]
        omega) ?_
      refine wpN_bind ?_
      show wpN _ _ (mkBytes (Builtin.Bytes.joined #[] (bs.map List.toArray))) _ _ _
      rw [joined_nil]
      refine wpN_any (wpAny_mkBytes ?_ (by rw [sizeLine_eq]; simpa using hz))
      refine wpN_bind (wpN_holding (wpN_any (wpAny_point ?_)))
      refine wpN_bind (wpN_any (wpAny_joinLetGo ?_ ys))
      exact wpN_pure ⟨_, rfl, σ₁, r₁.toks _, h _⟩

theorem W_joinL {d : Addr} {xs : List Value} {bs : List Bs} {u : Tok} {Q : Value → St → Prop} (hx : HasL c σ d xs) (hb : BytesAre xs bs) (hz : bs.flatten.length ≤ 16777216) (h : ∀ t, Q (.bytes bs.flatten.toArray t) σ) :
    W prog w A E c σ (call (.builtin "bytes.join") [.bytes #[] u, .ref d] []) Q := by
  refine W_joinTail hz (t := Builtin.Bytes.joinItems (.ref d)) ?_ (.ref d) rfl
  intro s r
  have hT := (hx.at r).typeIs
  unfold Builtin.Bytes.joinItems
  refine wpN_bind (wpN_any (wpAny_typeOf hT ?_))
  refine wpN_if_true (by decide) ?_
  exact wpN_pure ⟨σ, r, d, xs, rfl, hx, hb, h⟩
/-- b''.join(e) -/
theorem W_join {k : Nat} {cp apos pos : Pos} {e : Expr} {Q : Value → St → Prop}
    (h : W prog w A E c σ (eval e env) (fun x σ₂ => ∀ u, W prog w A E c σ₂ (call (.builtin "bytes.join") [.bytes #[] u, x] []) Q))
    (hst : starEach [e] env = [(false, eval e env)] := by rfl) (hbase : attributeBase (.Constant (.bytes []) k cp) "join" env (eval (.Constant (.bytes []) k cp) env) = eval (.Constant (.bytes []) k cp) env := by rfl)
    (hline : (apos.endLine == pos.line) = true := by rfl) : W prog w A E c σ (eval (.Call (.Attribute (.Constant (.bytes []) k cp) "join" apos) [e] [] pos) env) Q := by
  refine W_method (W_bytes fun u => ?_) hbase (by rw [hst]; rfl) hline (by rw [hst]; rfl)
  refine ⟨"bytes", "bytes.join", FJ.plainAttrs, FJ.slot_join, FJ.type_join, fun s r => ⟨typeIs_bytes _ _ _, fun a e => by cases e⟩, ?_⟩
  rw [hst]
  exact W_spliced_cons (W_mono h fun x σ₂ q' => W_spliced_nil (q' u))
end
def isGenO (i : Nat) : OP := fun o => ∃ nm qn, o.cls = .type "generator" ∧ o.data = .fields #[.int i 0, nm, qn] ∧ o.slots = #[]
def GoesS (M : Model) (A : Around) (P : End → Shared → Prop) (gs : GenState) (s : Shared) : Prop := match gs with
  | .fresh c => lends c = false ∧ Segs M A P c (M.den c) [] s
  | .suspended k _ c _ fs _ => lends c = false ∧ (∀ f ∈ fs, lends f.where_.1 = false) ∧ Segs M A P c (k (.send .none)) fs s
  | _ => False
def Goes (M : Model) (A : Around) (𝒦 : Cx → Prop) (gs : GenState) (vs : List Bs) (L' : Addr) (l' : List (Str × Value)) (ν' : List (Addr × OP)) : Prop := match gs with
  | .fresh c => lends c = false ∧ ∀ cx, 𝒦 cx → cx.L = L' → ∀ g s, Rep cx ⟨l', ν', g⟩ s → SegB M A 𝒦 vs cx g c (M.den c) [] s
  | .suspended k _ c _ fs _ => lends c = false ∧ (∀ f ∈ fs, lends f.where_.1 = false) ∧ ∀ cx, 𝒦 cx → cx.L = L' → ∀ g s, Rep cx ⟨l', ν', g⟩ s → SegB M A 𝒦 vs cx g c (k (.send .none)) fs s
  | _ => False

section
variable {M : Model} {A : Around} {E : Value → Shared → Prop} {s : Shared}
theorem NoLend.wakeOver {Γ : Ctx} (h : NoLend Γ) {c : Code} (hc : lends c = false) (p : Pos) {fs : List Frame} (hf : ∀ f ∈ fs, lends f.where_.1 = false) : NoLend ((Γ.wake c p).over fs) :=
  ⟨hc, fun x hx => by
    rcases List.mem_append.mp hx with hx | hx
    · obtain ⟨f, hm, rfl⟩ := List.mem_map.mp hx
      exact hf f hm
    · rcases List.mem_cons.mp hx with rfl | hx
      · exact h.1
      · exact h.2 x hx⟩
theorem wpN_resume {α : Type} {P : End → Shared → Prop} {g : Nat} {gs : GenState} {l : List Value} {k : GenResult → Sem α} {Q : α → Shared → Prop} (hg : s.gens[g]? = some gs) (hgo : GoesS M A P gs (s.setGen g .running))
    (hK : ∀ e s₁, P e s₁ → e.quiet = true ∧ wpN M A (k e.result) Q E (s₁.setGen g e.genState)) : wpN M A (.resume g (.send .none) l k) Q E s := by
  intro Γ p hΓ hn
  rw [Sem.wp_resume]
  cases gs with
  | fresh c =>
    obtain ⟨hl, hs⟩ := hgo
    obtain ⟨e₁, s₁, hr, he⟩ := hs (Γ.wake c p) p rfl (hΓ.wake c p) (hn.wakeOver hl p (fun f hf => by cases hf))
    obtain ⟨hq, hk⟩ := hK e₁ s₁ he
    exact ⟨_, _, by unfold Wakes; rw [hg]; exact ⟨e₁, s₁, hr, hq, rfl, rfl⟩, hk Γ p hΓ hn⟩
  | suspended k₀ l₀ c₀ p₀ fs₀ cl =>
    obtain ⟨hl, hf, hs⟩ := hgo
    obtain ⟨e₁, s₁, hr, he⟩ := hs (Γ.wake c₀ p) p₀ rfl (hΓ.wake c₀ p) (hn.wakeOver hl p hf)
    obtain ⟨hq, hk⟩ := hK e₁ s₁ he
    exact ⟨_, _, by unfold Wakes; rw [hg]; exact ⟨e₁, s₁, hr, hq, rfl, rfl⟩, hk Γ p hΓ hn⟩
  | running => exact hgo.elim
  | finished => exact hgo.elim
end

section
variable {prog : Program} {w : World} {A : Around} {𝒦 : Cx → Prop} {E : Value → Shared → Prop} {c : Cx} {l l' : List (Str × Value)} {ν ν' ρ : List (Addr × OP)} {g : Array GenState} {env : Env} {s : Shared} {G L' : Addr} {i : Nat} {gs : GenState} {vs : List Bs}
theorem Rep.setGens {g' : Array GenState} (r : Rep c ⟨l, ν, g⟩ s) : Rep c ⟨l, ν, g'⟩ { s with gens := g' } :=
  ⟨r.ns, r.lnd, r.keep, r.fr, r.ok, r.own, r.nd, r.os, rfl⟩
theorem isGen_at (r : Rep c ⟨l, ν, g⟩ s) (hm : (G, isGenO i) ∈ ν) : s.heap.IsGen G i := by
  obtain ⟨o, e, nm, qn, a, b, d⟩ := r.ok _ hm
  exact ⟨o, nm, qn, e, a, b, d⟩

theorem wpN_pyNext_gen {Q : Option Value → Shared → Prop} (hh : A.handled = none) (hl : c.h.NoLimit) (hroom : A.depth < recursionLimit) (hm : (G, isGenO i) ∈ ρ) (hgs : g[i]? = some gs) (hn : (l'.map (·.1)).Nodup)
    (hgo : Goes (model prog w) A.in1 𝒦 gs vs L' l' ν') (h𝒦 : ∀ cx, Frz c ρ cx → 𝒦 cx) (r : Rep c ⟨l, (L', isNs l') :: ν' ++ ρ, g⟩ s)
    (hnil : vs = [] → ∀ s' l'' ν'', Rep c ⟨l, (L', isNs l'') :: ν'' ++ ρ, g.setIfInBounds i .finished⟩ s' → Q none s')
    (hcons : ∀ b vs' u l'' ν'' gs' s', vs = b :: vs' → (l''.map (·.1)).Nodup → Goes (model prog w) A.in1 𝒦 gs' vs' L' l'' ν'' → Rep c ⟨l, (L', isNs l'') :: ν'' ++ ρ, g.setIfInBounds i gs'⟩ s' → Q (some (.bytes b.toArray u)) s') :
    wpN (model prog w) A (pyNext (.ref G)) Q E s := by
  have hG : s.heap.IsGen G i := isGen_at r (List.mem_append_right _ hm)
  unfold pyNext
  refine wpN_bind (wpN_attempt ?_)
  simp only [callSpecial?]
  refine wpN_bind (wpN_any (wpAny_specialOf hG.typeIs slot_gen_next.lookup ?_))
  simp only [slot_gen_next.bind]
  refine wpN_holding (wpN_bind (wpN_pure (wpN_bind ?_)))
  refine wpN_call_entry slot_gen_next hG.typeIs entry_gen_next (args_gen_next _) (show lendIds.contains "generator.__next__" = false by decide +kernel) ?_
  show wpN _ _ (Builtin.Generator.genWake (.ref G) (.send .none)) _ _ s
  unfold Builtin.Generator.genWake
  refine wpN_bind (wpN_holding (wpN_any (wpAny_genNumber hG ?_)))
  have hgs' : s.gens[i]? = some gs := by rw [r.gens]; exact hgs
  refine wpN_bind (wpN_any (wpAny_genState hgs' ?_))
  obtain ⟨r1, z⟩ := r.enter hn
  have hk := h𝒦 _ z
  have r1' : Rep (inside s c L' ν') ⟨l', ν', g.setIfInBounds i .running⟩ (s.setGen i .running) := by
    have := r1.setGens (g' := g.setIfInBounds i .running)
    unfold Shared.setGen
    rw [r.gens]
    exact this
  have r0' : Rep c ⟨l, (L', isNs l') :: ν' ++ ρ, g.setIfInBounds i .running⟩ (s.setGen i .running) := by
    have := r.setGens (g' := g.setIfInBounds i .running)
    unfold Shared.setGen
    rw [r.gens]
    exact this
  have hgoS : GoesS (model prog w) A.in1 (EndB (model prog w) A.in1 𝒦 vs (inside s c L' ν') (g.setIfInBounds i .running)) gs (s.setGen i .running) := by
    cases gs with
    | fresh c => exact ⟨hgo.1, by have := hgo.2 _ hk rfl _ _ r1'; rwa [segB_iff] at this⟩
    | suspended k _ c _ fs _ => exact ⟨hgo.1, hgo.2.1, by have := hgo.2.2 _ hk rfl _ _ r1'; rwa [segB_iff] at this⟩
    | running => exact hgo
    | finished => exact hgo
  cases gs with
  | running => exact hgo.elim
  | finished => exact hgo.elim
  | _ =>
    refine wpN_bind (wpN_any (wpAny_roomToWake (hl.keeps r.keep) hroom ?_))
    show wpN _ _ (.resume i (.send .none) [] _) _ _ s
    refine wpN_resume hgs' hgoS fun e s₁ he => ?_
    cases vs with
    | nil =>
      obtain ⟨rfl, σ', rr, hgg⟩ := he
      obtain ⟨l'', ν'', g''⟩ := σ'
      dsimp only at hgg
      subst hgg
      refine ⟨rfl, ?_⟩
      have rl := (r0'.leave rr).1
      have rl2 : Rep c ⟨l, (L', isNs l'') :: ν'' ++ ρ, g.setIfInBounds i .finished⟩ (s₁.setGen i .finished) := by
        have := rl.setGens (g' := g.setIfInBounds i .finished)
        unfold Shared.setGen
        rw [rr.gens, Array.setIfInBounds_setIfInBounds]
        exact this
      show wpN _ _ (newExc (.type "StopIteration") [] >>= _) _ _ (s₁.setGen i .finished)
      refine wpN_bind (wpN_any ?_)
      simp only [newExc, newTuple]
      refine wpAny_bind (wpAny_newObj_type ?_ (by size_fits))
      refine wpAny_bind (m := firstArgMember _ _) (wpAny_of_eq (a := Value.none) (by first | rfl | (simp only [firstArgMember]; rfl)) ?_)
      refine wpAny_newObj_type ?_ (by size_fits)
      simp only [raiseNew]
      refine wpN_any ?_
      refine wpAny_bind (wpAny_bind (wpAny_handled ?_))
      rw [show A.in1.handled = none from hh]
      refine wpAny_throw ?_
      refine wpN_any (wpAny_bind (wpAny_isInstance (T := "StopIteration") (b := true) ⟨_, Heap.get?_push_size _ rfl, rfl⟩ isSubtype_stop ?_))
      refine wpAny_pure (hnil rfl _ l'' ν'' (rl2.keeps ?_ rfl rfl))
      exact fun b o hb => Heap.get?_push_of_some _ (Heap.get?_push_of_some _ hb)
    | cons b vs' =>
      obtain ⟨u, g0, lv, k, c1, p1, fs1, rfl, hq, hl1, hf1, σ', rr, hgg, hnext⟩ := he
      obtain ⟨l'', ν'', g''⟩ := σ'
      dsimp only at hgg
      subst hgg
      refine ⟨hq, ?_⟩
      obtain ⟨rl, hnd⟩ := r0'.leave rr
      refine wpN_pure ⟨_, rfl, wpN_pure (wpN_pure ?_)⟩
      refine hcons b vs' u l'' ν'' (End.susp (.bytes b.toArray u) g0 lv k c1 p1 fs1).genState _ rfl hnd ⟨hl1, hf1, fun cx hc hL g2 s2 r2 => hnext cx hc hL g2 s2 r2⟩ ?_
      have := rl.setGens (g' := g.setIfInBounds i (End.susp (.bytes b.toArray u) g0 lv k c1 p1 fs1).genState)
      unfold Shared.setGen
      rw [rr.gens, Array.setIfInBounds_setIfInBounds]
      exact this
end
theorem Upd.app {α β : Type} {a : α} {P P' : β} {r r' : List (α × β)} (u : Upd a P P' r r') : ∀ pre : List (α × β), Upd a P P' (pre ++ r) (pre ++ r')
  | [] => u
  | _ :: pre => .tail (Upd.app u pre)
theorem Frz.mono {c c' : Cx} {ν ν' : List (Addr × OP)} (z : Frz c ν c') (h : ∀ p ∈ ν', p ∈ ν) : Frz c ν' c' := ⟨z.keep, fun p hp => z.ok p (h p hp), z.os⟩
theorem BytesAre.append {vs ws : List Value} {bs cs : List Bs} (h : BytesAre vs bs) (h' : BytesAre ws cs) : BytesAre (vs ++ ws) (bs ++ cs) := by
  induction h with
  | nil => exact h'
  | cons b t h ih => exact .cons b t ih

theorem codeN_builtin_all {prog : Program} {w : World} {A : Around} {s : Shared} {id : String} {args : Args} {b : Builtin} {R : Result → Shared → Prop} (hp : plainId id = true) (hb : entryFor table id = some b)
    (h : wpN (model prog w) A.in1 (b args) (fun fin s' => match fin with | .done f => R (.ok f) s' | .again c' => c'.quiet = true ∧ lends c' = false ∧ codeN (model prog w) A c' R s') (fun e s' => R (.error e) s') s) : codeN (model prog w) A (.builtin id args) R s := by
  refine codeN_of_tree ?_
  rw [Around.under_plainId hp args]
  show wpN _ _ (match entryFor table id with | some b => b args | none => unsupported ((withoutEnding? id "#data").getD id)) _ _ s
  rw [hb]
  exact h
section
variable {prog : Program} {w : World} {A : Around} {𝒦 : Cx → Prop} {E : Value → Shared → Prop} {c : Cx} {l l' : List (Str × Value)} {ν ν' ρ : List (Addr × OP)} {g : Array GenState} {env : Env} {s : Shared} {G L' S : Addr} {i : Nat} {gs : GenState} {vs : List Bs}

theorem codeN_extendLoop {R : Result → Shared → Prop} {res : Value} (hh : A.handled = none) (hl : c.h.NoLimit) (hroom : A.depth < recursionLimit) (hm : (G, isGenO i) ∈ ρ) (h𝒦 : ∀ cx, Frz c ρ cx → 𝒦 cx) :
    ∀ (vs : List Bs) (ys : List Value) (bs : List Bs) (gs : GenState) (l' : List (Str × Value)) (ν' : List (Addr × OP)) (g : Array GenState) (s : Shared), g[i]? = some gs → (l'.map (·.1)).Nodup → Goes (model prog w) A.in1.in1 𝒦 gs vs L' l' ν' →
      Rep c ⟨l, (L', isNs l') :: ν' ++ ((S, isList ys) :: ρ), g⟩ s → BytesAre ys bs → ys.length + vs.length ≤ 16777216 →
      (∀ s' ys' l'' ν'', BytesAre ys' (bs ++ vs) → Rep c ⟨l, (L', isNs l'') :: ν'' ++ ((S, isList ys') :: ρ), g.setIfInBounds i .finished⟩ s' → R (.ok (.ret res)) s') →
      codeN (model prog w) A (.builtin "list.extend.loop" ⟨[.ref S, .ref G, res], []⟩) R s := by
  intro vs
  induction vs with
  | nil =>
    intro ys bs gs l' ν' g s hgs hn hgo r hb hz hR
    refine codeN_builtin F.plain_extend_loop F.entry_extend_loop ?_
    show wpN _ A.in1 (pyNext (.ref G) >>= _) _ _ s
    refine wpN_bind (wpN_pyNext_gen (A := A.in1) hh hl hroom (.tail _ hm) hgs hn hgo (fun cx z => h𝒦 cx (z.mono fun p hp => .tail _ hp)) r (fun _ s' l'' ν'' r' => ?_) fun b vs' u l'' ν'' gs' s' e => by cases e)
    exact wpN_pure ⟨_, rfl, hR s' ys l'' ν'' (by simpa using hb) r'⟩
  | cons b vs ih =>
    intro ys bs gs l' ν' g s hgs hn hgo r hb hz hR
    refine codeN_builtin_all F.plain_extend_loop F.entry_extend_loop ?_
    show wpN _ A.in1 (pyNext (.ref G) >>= _) _ _ s
    refine wpN_bind (wpN_pyNext_gen (A := A.in1) hh hl hroom (.tail _ hm) hgs hn hgo (fun cx z => h𝒦 cx (z.mono fun p hp => .tail _ hp)) r (fun e => by cases e) fun b' vs' u l'' ν'' gs' s' e hn' hgo' r' => ?_)
    cases e
    obtain ⟨o, eo, n, rfl⟩ := r'.ok (S, isList ys) (List.mem_append_right _ (.head _))
    show wpN _ A.in1 (updateSeq S (·.push (.bytes b.toArray u)) >>= _) _ _ _
    have hzz : ys.length + (vs.length + 1) ≤ 16777216 := by simpa using hz
    refine wpN_bind (wpN_any (wpAny_updateSeq eo rfl ?_ (by rw [List.size_toArray, sizeLine_eq]; omega) (by show (ys.toArray.push _).size ≤ sizeLine + 1; rw [Array.size_push, List.size_toArray, sizeLine_eq]; omega)))
    obtain ⟨n', hS⟩ : ∃ n', (s'.heap.update S (Obj.mapSeq (·.push (.bytes b.toArray u)))).get? S = some { cls := .type "list", data := .seq (ys.toArray.push (.bytes b.toArray u)) n' } := ⟨_, Heap.get?_update_self (Obj.mapSeq (·.push (.bytes b.toArray u))) eo rfl⟩
    have r2 : Rep c ⟨l, (L', isNs l'') :: ν'' ++ ((S, isList (ys ++ [.bytes b.toArray u])) :: ρ), g.setIfInBounds i gs'⟩ { s' with heap := s'.heap.update S (Obj.mapSeq (·.push (.bytes b.toArray u))) } :=
      r'.upd (s' := { s' with heap := s'.heap.update S (Obj.mapSeq (·.push (.bytes b.toArray u))) }) (Upd.app .head _) (fun b o hb e => (Heap.get?_update_other _ _ (Ne.symm hb)).trans e) hS ⟨n', by simp⟩ rfl rfl
    refine wpN_pure ⟨plainId_quiet F.plain_extend_loop _, (show lendIds.contains "list.extend.loop" = false by decide +kernel), ih (ys ++ [.bytes b.toArray u]) (bs ++ [b]) gs' l'' ν'' _ _ ?_ hn' hgo' r2 (hb.snoc b u) (by simp; omega) fun s'' ys' l₃ ν₃ hb' r3 => ?_⟩
    · rw [Array.getElem?_setIfInBounds_self]
      have := Array.getElem?_eq_some_iff.mp hgs
      rw [if_pos this.1]
    · rw [Array.setIfInBounds_setIfInBounds] at r3
      exact hR s'' ys' l₃ ν₃ (by simpa using hb') r3

theorem wpN_listGen {Q : Value → Shared → Prop} (hh : A.handled = none) (hl : c.h.NoLimit) (hroom : A.depth < recursionLimit) (hm : (G, isGenO i) ∈ ρ) (h𝒦 : ∀ cx, Frz c ρ cx → 𝒦 cx) (hgs : g[i]? = some gs) (hn : (l'.map (·.1)).Nodup)
    (hgo : Goes (model prog w) A.in1.in1.in1 𝒦 gs vs L' l' ν') (r : Rep c ⟨l, (L', isNs l') :: ν' ++ ρ, g⟩ s) (hz : vs.length ≤ 16777216)
    (hQ : ∀ S s' ys l'' ν'', BytesAre ys vs → Rep c ⟨l, (L', isNs l'') :: ν'' ++ ((S, isList ys) :: ρ), g.setIfInBounds i .finished⟩ s' → Q (.ref S) s') : wpN (model prog w) A (call (.type "list") [.ref G] []) Q E s := by
  refine wpN_callType (Q₁ := fun obj s₁ => obj = .ref s.heap.objs.size ∧ s₁ = { s with heap := s.heap.push { cls := .type "list", data := .seq #[] } }) F.called_list (F.typeCall_list_1 _) (code_list_new _ ⟨rfl, rfl⟩) fun obj s₁ h₁ => ?_
  obtain ⟨rfl, rfl⟩ := h₁
  have eS : (s.heap.push { cls := .type "list", data := .seq #[] }).get? s.heap.objs.size = some { cls := .type "list", data := .seq #[] } := Heap.get?_push_size _ rfl
  have r1 : Rep c ⟨l, (s.heap.objs.size, isList []) :: ((L', isNs l') :: ν' ++ ρ), g⟩ { s with heap := s.heap.push { cls := .type "list", data := .seq #[] } } := r.push _ ⟨0, rfl⟩
  have r2 : Rep c ⟨l, (L', isNs l') :: ν' ++ ((s.heap.objs.size, isList []) :: ρ), g⟩ { s with heap := s.heap.push { cls := .type "list", data := .seq #[] } } := Le_perm List.perm_middle.symm _ r1
  refine ⟨⟨_, eS, rfl⟩, ?_⟩
  refine wpN_call (codeN_of_tree ?_)
  show wpN _ A.in1.in1 (do checkBuiltinCall "list.__init__" ⟨[.ref s.heap.objs.size, .ref G], []⟩; again (.builtin "list.__init__" ⟨[.ref s.heap.objs.size, .ref G], []⟩)) _ _ _
  refine wpN_bind (wpN_any (F.called_list.init.check _ _ _ _ _ _ _ _ ⟨_, eS, rfl⟩ (F.args_list_init_2 _ _) ?_))
  refine wpN_pure ⟨plainId_quiet F.called_list.init.plain _, (show lendIds.contains "list.__init__" = false by decide +kernel), codeN_builtin_all F.called_list.init.plain F.entry_list_init ?_⟩
  show wpN _ _ (do let old ← Builtin.List.listItems (.ref s.heap.objs.size); Builtin.List.listUpdate (.ref s.heap.objs.size) (fun _ => #[]); letGo old.toList.reverse; Builtin.List.listExtendWith (.ref s.heap.objs.size) (.ref G) .none) _ _ _
  refine wpN_bind (wpN_any ?_)
  unfold Builtin.List.listItems
  refine wpAny_bind (wpAny_seqItems eS rfl (wpAny_pure ?_))
  show wpN _ _ (updateSeq s.heap.objs.size (fun _ => #[]) >>= fun _ => letGo (#[] : Array Value).toList.reverse >>= fun _ => Builtin.List.listExtendWith (.ref s.heap.objs.size) (.ref G) .none) _ _ _
  refine wpN_bind (wpN_any (wpAny_updateSeq eS rfl ?_))
  obtain ⟨s₁, hs₁⟩ : ∃ s₁ : Shared, s₁ = { s with heap := (s.heap.push { cls := .type "list", data := .seq #[] }).update s.heap.objs.size (Obj.mapSeq fun _ => (#[] : Array Value)) } := ⟨_, rfl⟩
  have eS₁ : s₁.heap.get? s.heap.objs.size = some { cls := .type "list", data := .seq (#[] : Array Value) 0 } := by rw [hs₁]; exact Heap.get?_update_self (Obj.mapSeq fun _ => (#[] : Array Value)) eS rfl
  have oth : ∀ b o, b ≠ s.heap.objs.size → (s.heap.push { cls := .type "list", data := .seq #[] }).get? b = some o → s₁.heap.get? b = some o := fun b o hb e => by rw [hs₁]; exact (Heap.get?_update_other _ _ (Ne.symm hb)).trans e
  have r3 : Rep c ⟨l, (L', isNs l') :: ν' ++ ((s.heap.objs.size, isList []) :: ρ), g⟩ s₁ := r2.upd (Upd.app .head _) oth eS₁ ⟨0, rfl⟩ (by rw [hs₁]) (by rw [hs₁])
  rw [← hs₁]
  refine wpN_bind (wpN_any (wpAny_letGo ?_))
  have hG : s₁.heap.IsGen G i := isGen_at r3 (List.mem_append_right _ (.tail _ hm))
  have hSI : s.heap.objs.size ≠ G := fun e => by
    obtain ⟨o, _, _, eo, hc, _⟩ := hG
    rw [← e, eS₁] at eo
    cases eo
    exact absurd hc (by decide)
  unfold Builtin.List.listExtendWith
  refine wpN_bind (wpN_any (wpAny_typeOf hG.typeIs ?_))
  have h1 : Builtin.List.listSameRef (.ref s.heap.objs.size) (.ref G) = false := by simp [Builtin.List.listSameRef, hSI]
  have h2 : (Value.type "generator" == Value.type "list") = false := by decide
  have h3 : (Value.type "generator" == Value.type "tuple") = false := by decide
  simp only [h1, h2, h3, Bool.or_false, Bool.false_eq_true, if_false]
  refine wpN_bind (wpN_any (wpAny_pyIter_gen hG ?_))
  refine wpN_bind (wpN_holding (wpN_any ?_))
  unfold Builtin.List.listLengthHint
  refine wpAny_bind (wpAny_specialOf hG.typeIs F.gen_no_len ?_)
  show wpAny _ _ (specialOf (Value.ref G) (Str.ofString "__length_hint__") >>= _) _ _ _
  refine wpAny_bind (wpAny_specialOf hG.typeIs F.gen_no_hint ?_)
  refine wpAny_pure ?_
  show wpN _ _ (rule "list.extend.makes-room" >>= fun _ => Builtin.List.listTouch (.ref s.heap.objs.size) >>= fun _ =>
    again (.builtin "list.extend.loop" ⟨[.ref s.heap.objs.size, .ref G, .none], []⟩)) _ _ _
  refine wpN_bind (wpN_any (wpAny_rule ?_))
  refine wpN_bind ?_
  show wpN _ _ (updateSeq s.heap.objs.size (·.push .none) >>= fun _ => updateSeq s.heap.objs.size (·.pop)) _ _ _
  refine wpN_bind (wpN_any (wpAny_updateSeq eS₁ rfl ?_))
  obtain ⟨s₂, hs₂⟩ : ∃ s₂ : Shared, s₂ = { s₁ with heap := s₁.heap.update s.heap.objs.size (Obj.mapSeq (·.push Value.none)) } := ⟨_, rfl⟩
  obtain ⟨n₂, eS₂⟩ : ∃ n₂, s₂.heap.get? s.heap.objs.size = some { cls := .type "list", data := .seq #[Value.none] n₂ } := ⟨_, by rw [hs₂]; exact Heap.get?_update_self (Obj.mapSeq (·.push Value.none)) eS₁ rfl⟩
  rw [← hs₂]
  refine wpN_any (wpAny_updateSeq eS₂ rfl ?_ (by rw [sizeLine_eq]; decide) (by rw [sizeLine_eq]; decide))
  obtain ⟨n₃, eS₃⟩ : ∃ n₃, (s₂.heap.update s.heap.objs.size (Obj.mapSeq (·.pop))).get? s.heap.objs.size = some { cls := .type "list", data := .seq #[] n₃ } := ⟨_, Heap.get?_update_self (Obj.mapSeq (·.pop)) eS₂ rfl⟩
  have r4 : Rep c ⟨l, (L', isNs l') :: ν' ++ ((s.heap.objs.size, isList []) :: ρ), g⟩ { s₂ with heap := s₂.heap.update s.heap.objs.size (Obj.mapSeq (·.pop)) } :=
    r3.upd (s' := { s₂ with heap := s₂.heap.update s.heap.objs.size (Obj.mapSeq (·.pop)) }) (Upd.app .head _) (fun b o hb e => (Heap.get?_update_other _ _ (Ne.symm hb)).trans (by rw [hs₂]; exact (Heap.get?_update_other _ _ (Ne.symm hb)).trans e)) eS₃ ⟨n₃, by simp⟩ (by rw [hs₂]) (by rw [hs₂])
  refine wpN_pure ⟨plainId_quiet F.plain_extend_loop _, (show lendIds.contains "list.extend.loop" = false by decide +kernel), ?_⟩
  exact codeN_extendLoop (A := A.in1) hh hl hroom hm h𝒦 vs [] [] gs l' ν' g _ hgs hn hgo r4 .nil (by simpa using hz) fun s' ys' l'' ν'' hb r' => ⟨rfl, hQ _ s' ys' l'' ν'' (by simpa using hb) r'⟩

theorem W_joinGen {u : Tok} {Q : Value → St → Prop} (hh : A.handled = none) (hl : c.h.NoLimit) (hroom : A.depth < recursionLimit) (hm : (G, isGenO i) ∈ ρ) (h𝒦 : ∀ cx, Frz c ρ cx → 𝒦 cx) (hgs : g[i]? = some gs) (hn : (l'.map (·.1)).Nodup)
    (hgo : Goes (model prog w) A.in1.in1.in1.in1 𝒦 gs vs L' l' ν') (hz : vs.length ≤ 16777216) (hz' : vs.flatten.length ≤ 16777216) (hQ : ∀ t, Q (.bytes vs.flatten.toArray t) ⟨l, ρ, g.setIfInBounds i .finished⟩) :
    W prog w A E c ⟨l, (L', isNs l') :: ν' ++ ρ, g⟩ (call (.builtin "bytes.join") [.bytes #[] u, .ref G] []) Q := by
  refine W_forget (W_joinTail hz' (t := Builtin.Bytes.joinItems (.ref G)) ?_ (.ref G) rfl)
  intro s r
  have hG : s.heap.IsGen G i := isGen_at r (List.mem_append_right _ hm)
  unfold Builtin.Bytes.joinItems
  refine wpN_bind (wpN_any (wpAny_typeOf hG.typeIs ?_))
  refine wpN_if_false (by decide) ?_
  refine wpN_bind (wpN_tryCatch (wpN_any (wpAny_pyIter_gen hG ?_)))
  refine wpN_listGen (A := A.in1) hh hl hroom hm h𝒦 hgs hn hgo r hz fun S s' ys l'' ν'' hb r' => ⟨_, r', S, ys, rfl, .inr (List.mem_append_right _ (.head _)), hb, fun t => ⟨⟨l, ρ, g.setIfInBounds i .finished⟩, Le_nu ?_, hQ t⟩⟩
  exact (List.sublist_cons_self _ ρ).trans (List.sublist_append_right _ _)

/-- a call of a generator's def: the generator, fresh -/
theorem W_callGen {a : Addr} {fd : FuncData} {body : List Stmt} {vals : List Value} {binds : List (Str × Value)} {Q : Value → St → Prop}
    (hroom : A.depth < recursionLimit) (hF : Callee c ⟨l, ν, g⟩ a fd) (hbody : fd.body = .stmts body) (hbind : bindArgs fd ⟨vals, []⟩ = pure binds) (hnd : (binds.map (·.1)).Nodup)
    (h : ∀ G L', Q (.ref G) ⟨l, (L', isNs binds) :: (G, isGenO g.size) :: ν, g.push (.fresh (.func body (callEnv fd L' a)))⟩)
    (hloc : ∀ x ∈ binds, fd.scope.names.lookup x.1 = some .local) (hcell : ∀ x ∈ fd.scope.names, x.2 ≠ .cell)
    (hco : fd.scope.isCoroutine = false) (hgen : fd.scope.isGenerator = true) (hk : fd.scope.kind = .function) :
    W prog w A E c ⟨l, ν, g⟩ (call (.ref a) vals []) Q := W_any fun s r => wpAny_call (by
  obtain ⟨o, ho, hdata, hcd, hlim⟩ := hF s r
  refine codeAny_call_generator hroom ho hdata hco hgen hbody hcd ?_
  rw [hbind]
  refine wpAny_pure (wpAny_newFunctionEnv hcell hloc (fun h₁ hns hsb => ⟨hlim.fresh _ hsb, ?_⟩) hk)
  have hk' : ∀ b o, s.heap.get? b = some o → h₁.get? b = some o := fun b o e => hsb.extBut b o (Nat.ne_of_lt (Heap.lt_size e)) (Heap.get?_push_of_some _ e)
  obtain ⟨o', es, ep, e, hd, hs, hf⟩ := hns
  have r2 : Rep c ⟨l, (s.heap.objs.size, isNs binds) :: ν, g⟩ { s with heap := h₁, toks := s.toks + binds.length } :=
    r.alloc hk' e ⟨es, ep, hd, hs, fun p hp => (hf _).trans (lookup_rev hnd p hp)⟩ (size_none _) rfl rfl
  have r3 := r2.push (P := isGenO g.size) { cls := .type "generator", data := .fields #[.int s.gens.size 0, .str fd.name (s.toks + binds.length), .str fd.qualname (s.toks + binds.length + 1)] } ⟨_, _, rfl, by rw [r.gens], rfl⟩
  have r4 := Le_perm (List.Perm.swap (s.heap.objs.size, isNs binds) _ ν) _ r3
  have r5 := (r4.setGens (g' := g.push (.fresh (.func body (callEnv fd s.heap.objs.size a))))).toks (s.toks + binds.length + 1 + 1)
  refine ⟨_, ?_, h _ s.heap.objs.size⟩
  rw [show s.gens = g from r.gens] at *
  exact r5)
end
section
variable {prog : Program} {w : World} {A : Around} {𝒦 : Cx → Prop} {l' : List (Str × Value)} {ν' : List (Addr × OP)} {env : Env} {L' : Addr} {vs : List Bs} {body : List Stmt}
theorem fine_func {r : Nat} (h : Room (r + 1) A) : Fine A r (.func body env) [] := by
  refine ⟨rfl, rfl, h.1, ?_⟩
  have := h.2
  show A.depth + frameCount [] + (Code.func body env).weight + r < _
  have hw : (Code.func body env).weight = 1 := rfl
  rw [hw]
  show A.depth + 0 + 1 + r < _
  omega
theorem goes_fresh (h : ∀ cx, 𝒦 cx → cx.L = L' → ∀ g, GW (model prog w) A 𝒦 (.func body env) [] vs cx ⟨l', ν', g⟩ (execs body env) (fun f vs' _ _ => vs' = [] ∧ retOf f = .none)) :
    Goes (model prog w) A 𝒦 (.fresh (.func body env)) vs L' l' ν' := by
  refine ⟨rfl, fun cx hk hL g s r => ?_⟩
  rw [segB_iff]
  show Segs _ A _ _ (.point [] fun _ => ((execs body env).onRaise (leaving env)) >>= _) [] s
  refine segs_point ?_
  rw [Sem.onRaise_eq_wrap, Sem.bind_eq_wrap', Sem.wrap_wrap]
  have := h cx hk hL g
  refine (segB_iff (M := model prog w) (A := A) (𝒦 := 𝒦) (vs := vs) (cx := cx) (gg := g)) ▸ (this _ _ _ _ rfl (fun f vs' cx' σ' q s' r' => ?_) s r)
  obtain ⟨rfl, hf⟩ := q
  rw [segB_iff]
  cases f with
  | ret v =>
    have hv : v = .none := hf
    subst hv
    exact segs_end (.ok (.ret .none)) ⟨rfl, σ', r', rfl⟩
  | next => exact segs_end (.ok (.ret .none)) ⟨rfl, σ', r', rfl⟩
  | brk => exact segs_end (.ok (.ret .none)) ⟨rfl, σ', r', rfl⟩
  | cont => exact segs_end (.ok (.ret .none)) ⟨rfl, σ', r', rfl⟩
end
theorem bb_bytes : bootBuiltins "bytes" = some (.type "bytes") := by kernel_rfl
theorem bb_bytearray : bootBuiltins "bytearray" = some (.type "bytearray") := by kernel_rfl
theorem bb_range : bootBuiltins "range" = some (.type "range") := by kernel_rfl
theorem bb_list : bootBuiltins "list" = some (.type "list") := by kernel_rfl
theorem bb_len : bootBuiltins "len" = some (.builtin "len") := by kernel_rfl
theorem bb_sum : bootBuiltins "sum" = some (.builtin "sum") := by kernel_rfl
theorem bb_min : bootBuiltins "min" = some (.builtin "min") := by kernel_rfl
theorem bb_max : bootBuiltins "max" = some (.builtin "max") := by kernel_rfl
theorem bb_ord : bootBuiltins "ord" = some (.builtin "ord") := by kernel_rfl
theorem bb_isinstance : bootBuiltins "isinstance" = some (.builtin "isinstance") := by kernel_rfl
theorem bb_Exception : bootBuiltins "Exception" = some (.type "Exception") := by kernel_rfl

section
variable {prog : Program} {w : World} {A : Around} {E : Value → Shared → Prop} {c : Cx} {σ : St} {l : List (Str × Value)} {ν ν' : List (Addr × OP)} {g : Array GenState} {env : Env} {P : GP}
variable {x : Str} {np pos : Pos} {args : List Expr} {Q : Value → St → Prop}
theorem W_CallT {T : String} (hv : bootBuiltins x = some (.type T)) (G : GL P c.h) (h : W prog w A E c σ (spliced (backTo pos (starEach args env))) (fun vs σ₁ => W prog w A E c σ₁ (call (.type T) vs []) Q)) (hf : x ∈ builtinsUsed := by decide)
    (hp : plainTrees (backTo pos (starEach args env)) = true := by rfl) (hd : (x == ("__debug__" : Str)) = false := by decide) (hn : x ≠ ("__name__" : Str) := by decide) (hgl : env.globals = mainGlobals := by rfl) (hbl : env.builtins = builtinsNs := by rfl)
    (hk : env.scope.kind = .function := by rfl) (hl : env.kindOf x = some .globalImplicit := by rfl) : W prog w A E c σ (eval (.Call (.Name x np) args [] pos) env) Q :=
  W_Call (W_bltn G hf hv (W_callWith_t h hp) hd hn hgl hbl hk hl)
theorem W_CallB {id : String} (hv : bootBuiltins x = some (.builtin id)) (G : GL P c.h) (h : W prog w A E c σ (spliced (backTo pos (starEach args env))) (fun vs σ₁ => W prog w A E c σ₁ (call (.builtin id) vs []) Q)) (hf : x ∈ builtinsUsed := by decide)
    (hp : plainTrees (backTo pos (starEach args env)) = true := by rfl) (hd : (x == ("__debug__" : Str)) = false := by decide) (hn : x ≠ ("__name__" : Str) := by decide) (hgl : env.globals = mainGlobals := by rfl) (hbl : env.builtins = builtinsNs := by rfl)
    (hk : env.scope.kind = .function := by rfl) (hl : env.kindOf x = some .globalImplicit := by rfl) : W prog w A E c σ (eval (.Call (.Name x np) args [] pos) env) Q :=
  W_Call (W_bltn G hf hv (W_callWith_b h hp) hd hn hgl hbl hk hl)
theorem W_CallF {i : Nat} (hi : i ∈ fnIdx) (hx : nameOf (stmtAt i) = x) (G : GL P c.h) (h : W prog w A E c σ (spliced (backTo pos (starEach args env))) (fun vs σ₁ => W prog w A E c σ₁ (call (.ref (P.fa i)) vs []) Q))
    (hp : plainTrees (backTo pos (starEach args env)) = true := by rfl) (hd : (x == ("__debug__" : Str)) = false := by decide) (hgl : env.globals = mainGlobals := by rfl)
    (hk : env.scope.kind = .function := by rfl) (hl : env.kindOf x = some .globalImplicit := by rfl) : W prog w A E c σ (eval (.Call (.Name x np) args [] pos) env) Q := by
  have F := G.fn i hi
  obtain ⟨o, ho, hd'⟩ := F.obj
  exact W_Call (W_Name (W_global G (by rw [← hx]; exact F.name) (W_callWith_f ho hd' h hp) hgl hk hl) hd)
end
theorem nm3 : nameOf (stmtAt 3) = "chunks_length" := rfl
theorem nm4 : nameOf (stmtAt 4) = "_delta_encode_size" := rfl
theorem nm6 : nameOf (stmtAt 6) = "_encode_copy_operation" := rfl
theorem nm7 : nameOf (stmtAt 7) = "_create_delta_py" := rfl
theorem nm8 : nameOf (stmtAt 8) = "_apply_delta_py" := rfl
theorem nm9 : nameOf (stmtAt 9) = "create_delta" := rfl
theorem nm10 : nameOf (stmtAt 10) = "apply_delta" := rfl
theorem nm12 : nameOf (stmtAt 12) = "_law_size" := rfl
theorem nm13 : nameOf (stmtAt 13) = "_law_delta" := rfl
theorem nm14 : nameOf (stmtAt 14) = "_law_ranges" := rfl
theorem nm15 : nameOf (stmtAt 15) = "_law_made" := rfl
theorem nm16 : nameOf (stmtAt 16) = "_law_laid" := rfl
section
variable {prog : Program} {w : World} {A : Around} {E : Value → Shared → Prop} {c : Cx} {σ : St} {l : List (Str × Value)} {ν ν' : List (Addr × OP)} {g : Array GenState} {env : Env} {P : GP}
/-- [elt for target in a list if ..] -/
theorem W_LCl {elt target iter : Expr} {ifs : List Expr} {scope : Scope} {cl : List (Str × Addr)} {pos : Pos} {Q : Value → St → Prop} (hh : A.handled = none)
    (h : W prog w A NoE c σ (eval iter env) (fun x σ₁ => ∃ (d : Addr) (vs : List Value) (I : Nat → List Value → Prop), x = .ref d ∧ HasL c σ₁ d vs ∧ vs.length ≤ 16777216 ∧ I 0 [] ∧
      (∀ c', Frz c σ₁.ν c' → ∀ ia D J i ys v, vs[i]? = some v → I i ys → CompTurn prog w A c' scope cl env target elt ifs ia D (isLIter d J) σ₁.g (I (i + 1)) ys v) ∧
      (∀ D ys, I vs.length ys → Q (.ref D) ⟨σ₁.l, (D, isList ys) :: σ₁.ν, σ₁.g⟩)))
    (hclos : closureFor scope env = pure cl) (hcell : ∀ y ∈ scope.names, y.2 ≠ .cell) (hkind : scope.kind = .function) (hnames : ∀ x ∈ scope.names, x.2 = .local → scope.names.lookup x.1 = some .local)
    (hs : ∀ x, foldedSetIterable iter env x = pure x) : W prog w A E c σ (eval (.ListComp elt [⟨target, iter, ifs, 0⟩] scope pos) env) Q := by
  refine W_ListComp (W_mono h fun x σ₁ q => ?_) hclos hcell hkind hnames hs
  obtain ⟨d, vs, I, rfl, hx, hz, h0, turn, fin⟩ := q
  obtain ⟨l₁, ν₁, g₁⟩ := σ₁
  exact pyIter_list hx fun it => ⟨it, vs.length, isLIter d, _, _, ν₁, I, rfl, rfl, CIter.list hh it d vs, hz, h0, fun c' z => ⟨fun l' ν' => hx.frz z, fun D i ys v _ hP hI => turn c' z it D (i + 1) i ys v hP hI⟩, fin⟩
/-- [elt for target in range(..) if ..] -/
theorem W_LCr {elt target iter : Expr} {ifs : List Expr} {scope : Scope} {cl : List (Str × Addr)} {pos : Pos} {Q : Value → St → Prop} (hh : A.handled = none)
    (h : W prog w A NoE c σ (eval iter env) (fun x σ₁ => ∃ (d : Addr) (a b : Int) (n : Nat) (ν₁ : List (Addr × OP)) (I : Nat → List Value → Prop), x = .ref d ∧ Builtin.Range.small a b 1 = true ∧ Builtin.Range.rangeSize a b 1 = ((n : Nat) : Int) ∧ σ₁.ν = (d, isRange a b 1) :: ν₁ ∧ n ≤ 16777216 ∧ I 0 [] ∧
      (∀ c', Frz c ν₁ c' → ∀ ia D J i ys t, i < n → I i ys → CompTurn prog w A c' scope cl env target elt ifs ia D J σ₁.g (I (i + 1)) ys (.int (a + i) t)) ∧
      (∀ D ys, I n ys → Q (.ref D) ⟨σ₁.l, (D, isList ys) :: ν₁, σ₁.g⟩)))
    (hclos : closureFor scope env = pure cl) (hcell : ∀ y ∈ scope.names, y.2 ≠ .cell) (hkind : scope.kind = .function) (hnames : ∀ x ∈ scope.names, x.2 = .local → scope.names.lookup x.1 = some .local)
    (hs : ∀ x, foldedSetIterable iter env x = pure x) : W prog w A E c σ (eval (.ListComp elt [⟨target, iter, ifs, 0⟩] scope pos) env) Q := by
  refine W_ListComp (W_mono h fun x σ₁ q => ?_) hclos hcell hkind hnames hs
  obtain ⟨d, a, b, n, ν₁, I, rfl, hsm, hn, e, hz, h0, turn, fin⟩ := q
  obtain ⟨l₁, ν', g₁⟩ := σ₁
  dsimp only at e turn fin
  subst e
  refine pyIter_range hsm hn fun it => ⟨it, n, _, _, _, ν₁, I, rfl, rfl, CIter.range hh it a n, hz, h0, fun c' z => ⟨fun l' ν' => trivial, fun D i ys v hi hP hI => ?_⟩, fin⟩
  obtain ⟨t, rfl⟩ := hP
  exact turn c' z it D _ i ys t hi hI
end
theorem lookup_isSome {α : Type} : ∀ (m : List (Str × α)) (x : Str), x ∈ m.map (·.1) → (m.lookup x).isSome = true
  | [], x, h => by cases h
  | (k, v) :: r, x, h => by
    rw [List.lookup_cons]
    cases hb : x == k with
    | true => rfl
    | false =>
      rw [List.map_cons, List.mem_cons] at h
      rcases h with rfl | h
      · simp at hb
      · exact lookup_isSome r x h
section
variable {prog : Program} {w : World} {A : Around} {E : Value → Shared → Prop} {c : Cx} {l : List (Str × Value)} {ν : List (Addr × OP)} {g : Array GenState} {P : GP}
/-- a call of a def at the text's top, with cells of its own -/
theorem W_fnC {i : Nat} {vals : List Value} {binds bl : List (Str × Value)} {κ : Addr → List (Addr × OP)} {Q : Value → St → Prop} (G : GL P c.h) (hA : A.depth < recursionLimit) (hbind : bindArgs (fdOf P i) ⟨vals, []⟩ = pure binds)
    (hκ : ∀ L, cellsNu (fdOf P i) binds L = κ L)
    (h : ∀ c', Frz c ν c' → W prog w (A.deeper (callEnvC (fdOf P i) c'.L (P.fa i))) NoE c' ⟨bl, κ c'.L, g⟩ (execs (bodyOf (stmtAt i)) (callEnvC (fdOf P i) c'.L (P.fa i))) (liftQ l ν fun v σ' => ∃ σ'', Le c σ' σ'' ∧ Q v σ''))
    (hbl : bl.map (fun p => bindL (fun n => (fdOf P i).scope.names.lookup n) binds (fun _ => none) p.1) = bl.map fun p => some p.2)
    (xs ys : List Str) (hx : bl.map (·.1) = xs := by rfl) (hy : binds.map (·.1) = ys := by rfl) (hnd : xs.Nodup := by decide +kernel)
    (hkind : ∀ x ∈ ys, (scopeOf (stmtAt i)).names.lookup x = some .local ∨ ((scopeOf (stmtAt i)).names.lookup x = some .cell ∧ x ∈ ((scopeOf (stmtAt i)).names.filter (·.2 == .cell)).map (·.1)) := by decide +kernel)
    (hcn : (((scopeOf (stmtAt i)).names.filter (·.2 == .cell)).map (·.1)).Nodup := by decide +kernel)
    (hi : i ∈ fnIdx := by decide) (hco : (fdOf P i).scope.isCoroutine = false := by rfl) (hgen : (fdOf P i).scope.isGenerator = false := by rfl) (hk : (fdOf P i).scope.kind = .function := by rfl) :
    W prog w A E c ⟨l, ν, g⟩ (call (.ref (P.fa i)) vals []) Q := by
  refine W_forget (W_callC (ρ := []) hA (callee_of G hi) rfl hbind (by rw [hx]; exact hnd) (fun c' z => ?_) (List.map_inj_left.mp hbl) (fun s x hm => ?_) rfl hcn hco hgen hk)
  · rw [hκ, List.append_nil]; exact h c' z
  · rcases hkind x.1 (hy ▸ List.mem_map.mpr ⟨x, hm, rfl⟩) with h | ⟨h1, h2⟩
    · exact .inl h
    · refine .inr ⟨h1, lookup_isSome _ _ ?_⟩
      rw [cellsFrom_keys]
      rw [List.map_reverse, List.map_nil, List.append_nil, List.mem_reverse]
      exact h2
end

/-! ## rows -/
inductive Row
  | ins (b : Bs)
  | cpy (p n : Nat)
def RowVals : Row → List Value → Prop
  | .ins b, ws => ∃ t u, ws = [.int (-1) t, .bytes b.toArray u]
  | .cpy p n, ws => ∃ t u, ws = [.int p t, .int n u]
inductive RowsAre (T : Addr → List Value → Prop) : List Value → List Row → Prop
  | nil : RowsAre T [] []
  | cons {a : Addr} {ws : List Value} {r : Row} {vs : List Value} {rs : List Row} : RowVals r ws → T a ws → RowsAre T vs rs → RowsAre T (.ref a :: vs) (r :: rs)
theorem RowsAre.mono {T T' : Addr → List Value → Prop} {vs : List Value} {rs : List Row} (h : RowsAre T vs rs) (hT : ∀ a ws, T a ws → T' a ws) : RowsAre T' vs rs := by
  induction h with
  | nil => exact .nil
  | cons a b _ ih => exact .cons a (hT _ _ b) ih
theorem RowsAre.length {T : Addr → List Value → Prop} {vs : List Value} {rs : List Row} (h : RowsAre T vs rs) : vs.length = rs.length := by induction h <;> simp_all
theorem RowsAre.at {T : Addr → List Value → Prop} {vs : List Value} {rs : List Row} (h : RowsAre T vs rs) : ∀ {i : Nat} {v : Value}, vs[i]? = some v → ∃ a ws r, v = .ref a ∧ rs[i]? = some r ∧ RowVals r ws ∧ T a ws := by
  induction h with
  | nil => intro i v hv; simp at hv
  | cons hr ht _ ih =>
    intro i v hv
    cases i with
    | zero => simp at hv; exact ⟨_, _, _, hv.symm, rfl, hr, ht⟩
    | succ i => exact ih (by simpa using hv)
theorem RowsAre.snoc {T : Addr → List Value → Prop} {vs : List Value} {rs : List Row} (h : RowsAre T vs rs) {a : Addr} {ws : List Value} {r : Row} (hr : RowVals r ws) (ht : T a ws) : RowsAre T (vs ++ [.ref a]) (rs ++ [r]) := by
  induction h with
  | nil => exact .cons hr ht .nil
  | cons a b _ ih => exact .cons a b ih
def rowLen : Row → Nat
  | .ins b => b.length
  | .cpy _ n => n
def rowMade (src : Bs) : Row → Bs
  | .ins b => b
  | .cpy p n => cut src p (p + n)
def made (src : Bs) (rows : List Row) : Bs := (rows.map (rowMade src)).flatten
def total (rows : List Row) : Nat := (rows.map rowLen).sum
theorem total_snoc (rows : List Row) (r : Row) : total (rows ++ [r]) = total rows + rowLen r := by simp [total]
theorem total_cons (r : Row) (rows : List Row) : total (r :: rows) = rowLen r + total rows := by simp [total]
theorem total_take_le (rows : List Row) (i : Nat) : total (rows.take i) ≤ total rows := by
  have : total rows = total (rows.take i) + total (rows.drop i) := by
    unfold total
    rw [← List.sum_append_nat, ← List.map_append, List.take_append_drop]
  omega
theorem rowLen_le {rows : List Row} {r : Row} {i : Nat} (h : rows[i]? = some r) : total (rows.take i) + rowLen r ≤ total rows := by
  have h1 := total_take_le rows (i + 1)
  rw [List.take_add_one, h] at h1
  rw [show (some r).toList = [r] from rfl, total_snoc] at h1
  exact h1
section
variable {prog : Program} {w : World} {A : Around} {E : Value → Shared → Prop} {c : Cx} {σ : St} {l : List (Str × Value)} {ν ν' : List (Addr × OP)} {g : Array GenState} {env : Env}
theorem W_unpackT {T : Addr} {vs : List Value} {n : Nat} {Q : List Value → St → Prop} (hh : A.handled = none) (hT : HasT c σ T vs) (hn : n = vs.length) (h : Q vs σ) : W prog w A E c σ (unpackItems (.ref T) n none) Q := W_any fun s r => by
  subst hn
  have ht := hT.at r
  have := PyProof.Rows.unpackItems_tuple (prog := prog) (w := w) (A := A) (E := E) (Q := fun xs s' => ∃ σ', Rep c σ' s' ∧ xs = vs ∧ σ' = σ) hh ht fun h' he => ⟨σ, r.keeps (s' := { s with heap := h' }) (fun b o e => he b o (Nat.ne_of_lt (Heap.lt_size e)) e) rfl rfl, rfl, rfl⟩
  have this : wpAny (model prog w) A (unpackItems (.ref T) vs.length none) (fun xs s' => ∃ σ', Rep c σ' s' ∧ xs = vs ∧ σ' = σ) E s := by simpa using this
  exact wpAny_mono this (fun xs s' ⟨σ', r', e1, e2⟩ => ⟨σ', r', by rw [e1, e2]; exact h⟩) fun _ _ e => e
theorem W_AssignTup {elts : List Expr} {k : Nat} {tp pos : Pos} {value : Expr} {Q : Flow → St → Prop} (hh : A.handled = none)
    (h : W prog w A E c σ (eval value env) (fun v σ₁ => ∃ T vs, v = .ref T ∧ HasT c σ₁ T vs ∧ (assignEach elts env).length = vs.length ∧ (assignEach elts env).findIdx? (·.1) = none ∧ W prog w A E c σ₁ (assignInOrder ((assignEach elts env).map (·.2)) vs) (fun _ => Q .next)))
    (hs : swapsWith value (some (.Tuple elts k tp)) pos.line env = pure false) (hsw : swappedStores [.Tuple elts k tp] value env = pure none) : W prog w A E c σ (exec (.Assign [.Tuple elts k tp] value pos) env) Q := by
  rw [arm_exec_Assign]
  refine W_bind (W_standAt ?_)
  show W prog w A E c σ (swapsWith value (some (.Tuple elts k tp)) pos.line env >>= fun b => _) Q
  rw [hs]
  refine W_bind (W_pure ?_)
  refine W_eq (if_neg (by simp)) ?_
  refine W_bind (W_mono h fun v σ₁ q => ?_)
  obtain ⟨T, vs, rfl, hT, hn, hf, q⟩ := q
  rw [hsw]
  refine W_bind (W_pure ?_)
  show W prog w A E c σ₁ (assign (.Tuple elts k tp) env (.ref T) >>= fun _ => pure .next) Q
  exact W_bind (W_assign_tuple hh hT hn hf (W_mono q fun _ _ q => W_pure q))
theorem W_AssignSwap {elts : List Expr} {k : Nat} {tp pos : Pos} {value : Expr} {names : List Str} {Q : Flow → St → Prop} (hh : A.handled = none)
    (h : W prog w A E c σ (eval value env) (fun v σ₁ => ∃ T vs, v = .ref T ∧ HasT c σ₁ T vs ∧ names.length = vs.length ∧ W prog w A E c σ₁ (assignInOrder (names.reverse.map fun n => bindName env n) vs.reverse) (fun _ => Q .next)))
    (hs : swapsWith value (some (.Tuple elts k tp)) pos.line env = pure false) (hsw : swappedStores [.Tuple elts k tp] value env = pure (some names)) : W prog w A E c σ (exec (.Assign [.Tuple elts k tp] value pos) env) Q := by
  rw [arm_exec_Assign]
  refine W_bind (W_standAt ?_)
  show W prog w A E c σ (swapsWith value (some (.Tuple elts k tp)) pos.line env >>= fun b => _) Q
  rw [hs]
  refine W_bind (W_pure ?_)
  refine W_eq (if_neg (by simp)) ?_
  refine W_bind (W_mono h fun v σ₁ q => ?_)
  obtain ⟨T, vs, rfl, hT, hn, q⟩ := q
  rw [hsw]
  refine W_bind (W_pure ?_)
  refine W_bind (W_rule ?_)
  refine W_bind (W_unpackT hh hT hn ?_)
  exact W_bind (W_mono q fun _ _ q => W_pure q)
end
section
variable {prog : Program} {w : World} {A : Around} {E : Value → Shared → Prop} {c : Cx} {σ : St} {l : List (Str × Value)} {ν ν' : List (Addr × OP)} {g : Array GenState} {env : Env}
theorem Iter.rangeS (hh : A.handled = none) (it : Addr) (a st : Int) (n : Nat) : Iter prog w A c it n (fun i => isRIter (a + (i : Nat) * st) ((n : Int) - (i : Nat)) st) (fun i v => ∃ t, v = .int (a + (i : Nat) * st) t) (fun _ => True) := by
  refine ⟨fun i σ s Q hi _ r k => ?_, fun σ s Q _ r k => ?_⟩
  · obtain ⟨o, e, rfl⟩ := r.ok _ (.head _)
    refine wpN_any ((Walks.range (prog := prog) (w := w) hh it a st n).item i s _ _ hi e fun v h' tk hP hst hk => ?_)
    obtain ⟨t, rfl⟩ := hP
    exact k _ _ ⟨t, rfl⟩ (r.upd (s' := { s with heap := h', toks := tk }) (P' := isRIter (a + ((i + 1 : Nat) : Int) * st) ((n : Int) - ((i + 1 : Nat) : Int)) st) .head (fun b o hb e => hk b o (by simpa using hb) e) hst rfl rfl rfl)
  · obtain ⟨o, e, rfl⟩ := r.ok _ (.head _)
    exact wpN_any ((Walks.range (prog := prog) (w := w) hh it a st n).done s _ _ e fun h' tk hk => k _ (r.dropIter fun b o hb e => hk b o (by simpa using hb) e))
theorem pyIter_rangeS {d : Addr} {a b st : Int} {n : Nat} {Q : Value → St → Prop} (hsm : Builtin.Range.small a b st = true) (hn : Builtin.Range.rangeSize a b st = (n : Int)) (h : ∀ it, Q (.ref it) ⟨l, (it, isRIter (a + (0 : Nat) * st) ((n : Int) - (0 : Nat)) st) :: ν, g⟩) :
    W prog w A E c ⟨l, (d, isRange a b st) :: ν, g⟩ (pyIter (.ref d)) Q := W_any fun s r => by
  obtain ⟨o, e, t, u, v, rfl⟩ := r.ok _ (.head _)
  refine wpAny_pyIter_range e hsm ⟨_, r.tail.push (P := isRIter (a + (0 : Nat) * st) ((n : Int) - (0 : Nat)) st) _ ?_, h _⟩
  show _ = _
  rw [hn]; simp
/-- for .. in range(.., .., step) -/
theorem W_For_rangeS {target iter : Expr} {body : List Stmt} {pos : Pos} {Q : Flow → St → Prop} (hh : A.handled = none)
    (h : W prog w A NoE c σ (eval iter env) (fun x σ₁ => ∃ (d : Addr) (a b st : Int) (n : Nat) (ν₁ : List (Addr × OP)) (I : Nat → St → Prop), x = .ref d ∧ Builtin.Range.small a b st = true ∧ Builtin.Range.rangeSize a b st = ((n : Nat) : Int) ∧ σ₁.ν = (d, isRange a b st) :: ν₁ ∧ I 0 ⟨σ₁.l, ν₁, σ₁.g⟩ ∧
      (∀ (i : Nat) t σ₂ it J, i < n → I i σ₂ → W prog w A NoE c ⟨σ₂.l, (it, J) :: σ₂.ν, σ₂.g⟩ (letOwnedTupleGo target (.ref it) (.int (a + i * st) t)) (fun _ σ₃ => W prog w A NoE c σ₃ (assign target env (.int (a + i * st) t)) (fun _ σ₄ => W prog w A NoE c σ₄ (execs body env)
        (TurnEnd c Q fun σ' => ∃ ν', σ'.ν = (it, J) :: ν' ∧ I (i + 1) ⟨σ'.l, ν', σ'.g⟩)))) ∧ (∀ σ₂, I n σ₂ → Q .next σ₂)))
    (hs : ∀ x, foldedSetIterable iter env x = pure x := by intro _; rfl) : W prog w A E c σ (exec (.For target iter body [] pos) env) Q := by
  refine W_For (W_mono h fun x σ₁ q => ?_) hs
  obtain ⟨d, a, b, st, n, ν₁, I, rfl, hsm, hn, e, h0, turn, fin⟩ := q
  obtain ⟨l₁, ν', g₁⟩ := σ₁
  dsimp only at e h0
  subst e
  refine pyIter_rangeS hsm hn fun it => ⟨it, n, _, _, _, ν₁, I, rfl, rfl, Iter.rangeS hh it a st n, fun _ _ _ => trivial, h0, fun i v σ₂ hi hP hI => ?_, fin⟩
  obtain ⟨t, rfl⟩ := hP
  exact turn i t σ₂ it _ hi hI
end
section
variable {prog : Program} {w : World} {A : Around} {E : Value → Shared → Prop} {c : Cx} {σ : St}
theorem isi_false_bytes {n : Array UInt8} {u : Tok} {T : String} (hne : (Value.type "bytes" == Value.type T) = false) (hty : typeOf (.type T) = pure (.type "type")) (hsub : isSubtype (.type "bytes") (.type T) = pure false) :
    Meets (Builtin.«isinstance» ⟨[.bytes n u, .type T], []⟩) (fun _ R s => R (.ok (.ret (.bool false))) { s with toks := s.toks + 1 }) :=
  fun _ _ _ _ s hs => by
    obtain ⟨h, g, d, t, os⟩ := s
    exact isinstance_outer (isinstance_nested_false_bytes hne hty hsub hs)
theorem W_isiBL {b : Array UInt8} {t : Tok} {Q : Value → St → Prop} (h : Q (.bool false) σ) : W prog w A E c σ (call (.builtin "isinstance") [.bytes b t, .type "list"] []) Q := W_any fun s r =>
  PySem.call_isinstance (isi_false_bytes (by decide +kernel) PySem.F.isi_meta_list PySem.F.sub_bytes_list) ⟨σ, r.toks _, h⟩
end
/-! ## defs made inside a def -/
def isTab (ps : Array Value) : OP := fun o => o = tabObj ps
def isFn (fd : FuncData) : OP := fun o => o.data = .func fd
def isCR (qual : Str) : OP := fun o => ∃ vs t, o.data = .fields vs ∧ vs[1]? = some (.str qual t)
structure GL2 (P : GP) (cc PT : Addr) (h : Heap) : Prop where
  code : P.cd 8 = .ref cc
  hd : CodeHd h cc PT
  bm : ∃ bm ob, P.mg "__builtins__" = some (.ref bm) ∧ bm ≠ builtinsNs ∧ bm ≠ mainGlobals ∧ bm ≠ PT ∧ h.get? bm = some ob ∧ ob.cls = .type "module" ∧ ob.dict = some builtinsNs ∧ ob.data = .plain
  ne : mainGlobals ≠ PT
theorem GL2.keeps {P : GP} {cc PT : Addr} {h h' : Heap} (G : GL2 P cc PT h) (k : ∀ b o, h.get? b = some o → h'.get? b = some o) : GL2 P cc PT h' :=
  ⟨G.code, G.hd.keeps k, let ⟨bm, ob, a1, a2, a3, a4, a5, a6⟩ := G.bm; ⟨bm, ob, a1, a2, a3, a4, k _ _ a5, a6⟩, G.ne⟩
theorem GL2.frz {P : GP} {cc PT : Addr} {c c' : Cx} {ν : List (Addr × OP)} (G : GL2 P cc PT c.h) (z : Frz c ν c') : GL2 P cc PT c'.h := G.keeps z.keep

section
variable {prog : Program} {w : World} {A : Around} {E : Value → Shared → Prop} {c : Cx} {σ : St} {l : List (Str × Value)} {ν ν' : List (Addr × OP)} {g : Array GenState} {env : Env} {P : GP} {cc PT : Addr}
  {name qual : Str} {params : Arguments} {body : List Stmt} {scope : Scope} {clos : List (Str × Addr)} {pos : Pos} {ps : Array Value}

abbrev fdNest (P : GP) (name qual : Str) (params : Arguments) (body : List Stmt) (scope : Scope) (clos : List (Str × Addr)) (doc : Value) (c' : Addr) (ctv : Value) : FuncData :=
  fnX name qual params body scope clos .none .none doc ((P.mg "__name__").getD .none) none (.ref c') ctv

theorem W_makeNew {line : Nat} {Q : Value → St → Prop} (G : GL P c.h) (G2 : GL2 P cc PT c.h) (hcl : closureFor scope env = pure clos) (hge : env.globals = mainGlobals) (hcode : env.code = .ref cc) (ht : TriplesOk ps.toList) (hnf : codeAmong pos ps.toList = none)
    (h : ∀ f c' doc ctv, Q (.ref f) ⟨l, (f, isFn (fdNest P name qual params body scope clos doc c' ctv)) :: (c', isCR qual) :: (PT, isTab (ps ++ #[rawInt pos.line, rawInt pos.col, .ref c'])) :: ν, g⟩) :
    W prog w A E c ⟨l, (PT, isTab ps) :: ν, g⟩ (makeFunction name qual params (.stmts body) scope env [] [] [] pos line) Q := W_any fun s r => by
  have G' := G.keeps r.keep
  have G2' := G2.keeps r.keep
  obtain ⟨o, eP, rfl⟩ := r.ok _ (.head _)
  refine makeFunction_K (mg := P.mg) (c := cc) (P := PT) hcl hge G'.g hcode G2'.hd eP ht hnf G2'.ne G2'.bm fun c' ctv doc h' tk hx hge' hlt hrec htb => ?_
  obtain ⟨c2, oc, vs, t, e2, hoc, hd, hv⟩ := hrec
  cases e2
  have hsz : s.heap.objs.size < h'.objs.size := Nat.lt_of_le_of_lt hge' hlt
  have hc0 : s.heap.get? c' = none := by
    cases e : s.heap.get? c' with
    | none => rfl
    | some o' => exact absurd (Heap.lt_size e) (Nat.not_lt.mpr hge')
  have r1 : Rep c ⟨l, (PT, isTab (ps ++ #[rawInt pos.line, rawInt pos.col, .ref c'])) :: ν, g⟩ { s with heap := h', toks := tk } :=
    r.upd (s' := { s with heap := h', toks := tk }) .head (fun b o hb e => hx b o hb e) htb rfl rfl rfl
  have fr := r.fresh hc0
  have hcP : c' ∉ ((PT, isTab (ps ++ #[rawInt pos.line, rawInt pos.col, .ref c'])) :: ν).map (·.1) := fr.2.2
  have r2 : Rep c ⟨l, (c', isCR qual) :: (PT, isTab (ps ++ #[rawInt pos.line, rawInt pos.col, .ref c'])) :: ν, g⟩ { s with heap := h', toks := tk } := r1.cons hoc ⟨vs, t, hd, hv⟩ ⟨fr.1, fr.2.1, hcP⟩
  exact ⟨_, r2.push (P := isFn _) _ rfl, h h'.objs.size c' doc ctv⟩

theorem W_makeHit {line : Nat} {c' : Addr} {Q : Value → St → Prop} (G : GL P c.h) (G2 : GL2 P cc PT c.h) (hm : (PT, isTab ps) ∈ ν) (hcl : closureFor scope env = pure clos) (hge : env.globals = mainGlobals) (hcode : env.code = .ref cc) (ht : TriplesOk ps.toList) (hf : codeAmong pos ps.toList = some (.ref c'))
    (h : ∀ f doc ctv, Q (.ref f) ⟨l, (f, isFn (fdNest P name qual params body scope clos doc c' ctv)) :: ν, g⟩) :
    W prog w A E c ⟨l, ν, g⟩ (makeFunction name qual params (.stmts body) scope env [] [] [] pos line) Q := W_any fun s r => by
  have G' := G.keeps r.keep
  have G2' := G2.keeps r.keep
  obtain ⟨o, eP, rfl⟩ := r.ok _ hm
  refine makeFunction_hit (mg := P.mg) (c := cc) (P := PT) hcl hge G'.g hcode G2'.hd eP ht hf G2'.bm fun ctv doc h' tk hk hsz => ?_
  have r1 : Rep c ⟨l, ν, g⟩ { s with heap := h', toks := tk } := r.keeps (s' := { s with heap := h', toks := tk }) hk rfl rfl
  exact ⟨_, r1.push (P := isFn _) _ rfl, h h'.objs.size doc ctv⟩

theorem W_Def {Q : Flow → St → Prop} (hd0 : params.defaults = []) (hk0 : params.kw_defaults = []) (ha : annTrees params none env = [])
    (h : W prog w A E c σ (makeFunction name (qualnameIn env name name) params (.stmts body) scope env [] [] [] pos pos.line) (fun v σ' => W prog w A E c σ' (storeName env name v) (fun _ => Q .next))) :
    W prog w A E c σ (exec (.FunctionDef name params body [] none [] scope none name pos) env) Q := by
  rw [exec_def]
  refine W_bind (W_standAt (W_bind (W_holding ?_)))
  rw [defaultsOf_eq, hd0, hk0, ha]
  refine W_bind (W_pure ?_)
  refine W_bind (W_holding (W_pure ?_))
  refine W_holding (W_bind (W_pure ?_))
  exact W_mono h fun v σ' h' => W_bind (W_standAt (W_bind (W_bindName (W_mono h' fun _ _ h'' => W_pure h''))))

theorem callee_nest {f c' : Addr} {doc ctv : Value} (G : GL P c.h) (hf : (f, isFn (fdNest P name qual params body scope clos doc c' ctv)) ∈ σ.ν) (hc : (c', isCR qual) ∈ σ.ν) : Callee c σ f (fdNest P name qual params body scope clos doc c' ctv) := fun s r => by
  obtain ⟨o, e, hd⟩ := r.ok _ hf
  obtain ⟨oc, ec, vs, t, hv, h1⟩ := r.ok _ hc
  exact ⟨o, e, hd, ⟨c', oc, vs, t, rfl, ec, hv, h1⟩, (G.keeps r.keep).nolimit⟩
theorem W_callWith_n {f : Addr} {ts : List (Bool × Sem Value)} {pos : Pos} {Q : Value → St → Prop} (hp : plainTrees ts = true)
    (h : W prog w A E c σ (spliced ts) (fun vs σ₁ => (∃ fd, (f, isFn fd) ∈ σ₁.ν) ∧ W prog w A E c σ₁ (call (.ref f) vs []) Q)) : W prog w A E c σ (callWith pos (.ref f) [] ts []) Q := by
  have hst : (ts.any (·.1) || ([] : List (Option Str × Sem Value)).any (·.1.isNone)) = false := by
    unfold plainTrees at hp
    rw [List.any_nil, Bool.or_false, List.any_eq_false]
    intro x hx
    have := List.all_eq_true.mp hp x hx
    simpa using this
  unfold callWith
  refine W_bind (W_holding (W_evalArgs hp (W_mono h fun vs σ₁ q => W_bind (W_standAt ?_))))
  obtain ⟨⟨fd, hm⟩, q⟩ := q
  simp only [hst]
  have tail : ∀ {t : Sem Value} {σ₁ : St}, W prog w A E c σ₁ t Q → W prog w A E c σ₁ (t >>= fun r => holding [r] point >>= fun _ => pure r) Q :=
    fun ht => W_bind (W_mono ht fun r σ₂ q => W_bind (W_holding (W_point (W_pure q))))
  intro s r
  obtain ⟨o, e, hd⟩ := r.ok _ hm
  have hd : o.data = .func fd := hd
  have L : Looks (model prog w) s.heap (keeperOf (.ref f)) Keeper.frame := (Looks.ld (part := none) e).andThen (by rw [hd]; exact .now)
  refine wpN_bind (wpN_any (L.here ?_))
  have marked (mk : Value) : W prog w A E c σ₁ (callMarked mk (.ref f) ([] ++ vs) []) Q := by unfold callMarked; exact W_keep q
  dsimp only
  first | exact tail q s r | (split <;> first | exact tail q s r | exact tail (marked _) s r)
theorem W_CallN {x : Str} {np pos : Pos} {args : List Expr} {f : Addr} {Q : Value → St → Prop} (hn : W prog w A E c σ (loadName env x) (fun v σ' => v = .ref f ∧ σ' = σ))
    (h : W prog w A E c σ (spliced (backTo pos (starEach args env))) (fun vs σ₁ => (∃ fd, (f, isFn fd) ∈ σ₁.ν) ∧ W prog w A E c σ₁ (call (.ref f) vs []) Q)) (hp : plainTrees (backTo pos (starEach args env)) = true := by rfl) (hd : (x == ("__debug__" : Str)) = false := by decide) :
    W prog w A E c σ (eval (.Call (.Name x np) args [] pos) env) Q := by
  refine W_Call (W_Name (W_mono hn ?_) hd)
  rintro _ _ ⟨rfl, rfl⟩
  exact W_callWith_n hp h
end
/-! ## the text's own exception class -/
def clsBody : Stmt → List Stmt
  | .ClassDef _ _ _ b .. => b
  | _ => []
def initS : Stmt := (clsBody (stmtAt 1)).getD 0 (.Pass default)
def bmX : List Value := [.type "Exception", .type "BaseException", .type "object"]
structure InitFd (fd : FuncData) : Prop where
  params : fd.params = paramsOf initS
  body : fd.body = .stmts (bodyOf initS)
  scope : fd.scope = scopeOf initS
  globals : fd.globals = mainGlobals
  builtins : fd.builtins = builtinsNs
  closure : fd.closure = []
structure GE (P : GP) (C fI : Addr) (fd : FuncData) (h : Heap) : Prop where
  name : P.mg "ApplyDeltaError" = some (.ref C)
  obj : ∃ N mN nm q bs hdct sn sub ab col dd k0 k1 k2 k3 k5, h.get? C = some (excClassObj nm q C N bs bmX hdct sn sub ab col dd k0 k1 k2 k3 k5 "Exception.__new__") ∧ h.Ns N mN ∧ mN "__init__" = some (.ref fI)
  fn : ∃ o, h.get? fI = some o ∧ o.cls = .type "function" ∧ o.data = .func fd
  code : h.CodeRec fd.code fd.qualname
  ini : InitFd fd
  dflt : ∃ T o d n, fd.defaults = .ref T ∧ h.get? T = some o ∧ o.data = .seq #[d] n
theorem GE.keeps {P : GP} {C fI : Addr} {fd : FuncData} {h h' : Heap} (G : GE P C fI fd h) (k : ∀ b o, h.get? b = some o → h'.get? b = some o) : GE P C fI fd h' :=
  ⟨G.name, let ⟨N, mN, nm, q, bs, hdct, sn, sub, ab, col, dd, k0, k1, k2, k3, k5, a, b, c⟩ := G.obj; ⟨N, mN, nm, q, bs, hdct, sn, sub, ab, col, dd, k0, k1, k2, k3, k5, k _ _ a, b.keeps k, c⟩,
    let ⟨o, a, b⟩ := G.fn; ⟨o, k _ _ a, b⟩, CodeRec_keeps k G.code, G.ini, let ⟨T, o, d, n, a, b, c⟩ := G.dflt; ⟨T, o, d, n, a, k _ _ b, c⟩⟩
theorem GE.frz {P : GP} {C fI : Addr} {fd : FuncData} {c c' : Cx} {ν : List (Addr × OP)} (G : GE P C fI fd c.h) (z : Frz c ν c') : GE P C fI fd c'.h := G.keeps z.keep

def excObj (C t : Addr) : Obj := { cls := .ref C, data := .fields #[.ref t, .none, .none, .none, .bool false, .none] }
theorem initBody : ∃ p1 p2 p3 p4 p5 p6, bodyOf initS = [.Expr (.Call (.Attribute (.Name "Exception" p1) "__init__" p2) [.Name "self" p3, .Name "message" p4] [] p5) p6] ∧ (p2.endLine == p5.line) = true := ⟨_, _, _, _, _, _, rfl, rfl⟩
theorem typeExc : typeOf (.type "Exception") = pure (.type "type") := by kernel_rfl
theorem stubExc : Manifest.isStub "Exception" = false := by decide +kernel
theorem handExc : handedIn (.builtin "Exception.__init__") = true := by decide +kernel
theorem slotVal : findCls [] (.type "Exception") (.type "type") "__init__" = some (.val (.builtin "Exception.__init__")) := by kernel_rfl
section
variable {prog : Program} {w : World} {A : Around} {E : Value → Shared → Prop} {s : Shared} {P : GP} {C fI : Addr} {fd : FuncData}
theorem init_base {e t0 : Addr} {m : Value} {Q : Fin → Shared → Prop} (he : s.heap.get? e = some (excObj C t0))
    (h : ∀ h' t1, (∀ b o, b ≠ e → s.heap.get? b = some o → h'.get? b = some o) → h'.get? e = some (excObj C t1) → Q (.done (.ret .none)) { s with heap := h' }) :
    wpAny (model prog w) A (Builtin.«BaseException.__init__» ⟨[.ref e, m], []⟩) Q E s := by
  unfold Builtin.«BaseException.__init__»
  dsimp only
  rw [if_neg (by simp)]
  unfold newTuple Builtin.BaseException.bexcPut
  have he₁ := Heap.get?_push_of_some (h := s.heap) { cls := .type "tuple", data := .seq #[m] } he
  refine wpAny_bind (wpAny_newObj_type (wpAny_bind (wpAny_bind (wpAny_field he₁ rfl rfl (wpAny_bind (wpAny_setField he₁ rfl (by show (0:Nat) < 6; decide) ?_))))) (by size_fits))
  refine wpAny_letGo (wpAny_pure (h _ s.heap.objs.size (fun b o hb hbo => ?_) ?_))
  · rw [Heap.get?_update_other _ _ (Ne.symm hb)]; exact Heap.get?_push_of_some _ hbo
  · rw [Heap.get?_update_self _ he₁ rfl]; rfl
theorem init_call {e t0 : Addr} {m : Value} {Q : Value → Shared → Prop} (G : GE P C fI fd s.heap) (he : s.heap.get? e = some (excObj C t0))
    (h : ∀ h' t1, (∀ b o, b ≠ e → s.heap.get? b = some o → h'.get? b = some o) → h'.get? e = some (excObj C t1) → Q .none { s with heap := h' }) :
    wpAny (model prog w) A (call (.builtin "Exception.__init__") [.ref e, m]) Q E s := by
  obtain ⟨N, mN, nm, q, bs, hdct, sn, sub, ab, col, dd, k0, k1, k2, k3, k5, hC, _⟩ := G.obj
  have F := PySem.F.excBase_Exception
  obtain ⟨hp, g, d, tk, os⟩ := s
  refine wpAny_call (codeAny_call_builtin F.init.plain F.initEntry (wpAny_check_init_sub F hC he rfl ?_))
  exact init_base he h
theorem init_body {env : Env} {e t0 L : Addr} {m : Value} {mm : Str → Option Value} {Q : Flow → Shared → Prop} (GG : GL P s.heap) (G : GE P C fI fd s.heap) (he : s.heap.get? e = some (excObj C t0)) (hns : s.heap.Ns L mm) (hv1 : mm "self" = some (.ref e)) (hv2 : mm "message" = some m)
    (hL : env.locals = L) (hgl : env.globals = mainGlobals) (hbl : env.builtins = builtinsNs) (hk : env.scope.kind = .function) (h1 : env.kindOf "self" = some .local) (h2 : env.kindOf "message" = some .local) (h3 : env.kindOf "Exception" = some .globalImplicit) (hint : interactive env = false)
    (h : ∀ h' tk t1, (∀ b o, b ≠ e → s.heap.get? b = some o → h'.get? b = some o) → h'.get? e = some (excObj C t1) → Q .next { s with heap := h', toks := tk }) :
    wpAny (model prog w) A (execs (bodyOf initS) env) Q E s := by
  obtain ⟨p1, p2, p3, p4, p5, p6, hb, hline⟩ := initBody
  rw [hb, execs_cons]
  refine wpAny_bind ?_
  rw [exec_Expr _ _ _ hint (by rfl)]
  refine wpAny_bind (wpAny_standAt (wpAny_bind ?_))
  rw [arm_eval_Call]
  refine wpAny_bind (m := eval (.Name "Exception" p1) env) (Name_function_global hk h3 (loadGlobal_builtin (by rw [hgl]; exact GG.g) (GG.free "Exception" (by decide)) (by rw [hbl]; exact GG.b) ((GG.bb "Exception" (by decide)).trans (show bootBuiltins "Exception" = some (.type "Exception") from PyProof.Rows.Boot.«Exception»)) ?_))
  refine wpAny_bind (wpAny_standAt ?_)
  have hfew : methodCallForm ([Expr.Name "self" p3, .Name "message" p4].length + ([] : List Keyword).length) (backTo p5 (starEach [.Name "self" p3, .Name "message" p4] env)) (backToKw p5 (keywordEach [] env)) = true := by rfl
  unfold methodCall
  rw [hfew]
  have F : Fr { objs := #[], life := s.heap.life } L s.heap mm := ⟨hns, fun b o q => absurd (Heap.lt_size q) (Nat.not_lt_zero _), Nat.zero_le _⟩
  refine wpAny_bind (wpAny_holding ?_)
  refine method_type (K := []) (v := .builtin "Exception.__init__") F (fun a o q => by cases q) typeExc stubExc slotVal handExc ?_
  have hpos : methodCallPos true (.Name "Exception" p1) env p2 p5 = pure p5 := by unfold methodCallPos; simp [hline]
  dsimp only
  refine wpAny_bind (wpAny_of_eq hpos ?_)
  refine Calls.callWith_builtin (args := backTo p5 (starEach [.Name "self" p3, .Name "message" p4] env)) (by rfl) ?_
  refine Calls.evalArgs_plain (Calls.spliced_cons ?_)
  refine wpAny_Name (wpAny_loadName_local hk h1 (by rw [hL]; exact hns) hv1 ?_) (by decide)
  refine Calls.spliced_cons ?_
  refine wpAny_Name (wpAny_loadName_local hk h2 (by rw [hL]; exact hns) hv2 ?_) (by decide)
  refine Calls.spliced_nil ?_
  refine init_call G he fun h' t1 hk' he' => ?_
  rw [dropValue_plain (by intro a e; cases e)]
  exact wpAny_pure (wpAny_pure (h h' _ t1 hk' he'))
theorem init_fn {e t0 : Addr} {m : Value} {Q : Value → Shared → Prop} (GG : GL P s.heap) (G : GE P C fI fd s.heap) (he : s.heap.get? e = some (excObj C t0)) (hA : A.depth < recursionLimit)
    (h : ∀ h' tk t1, (∀ b o, b ≠ e → s.heap.get? b = some o → h'.get? b = some o) → h'.get? e = some (excObj C t1) → Q .none { s with heap := h', toks := tk }) :
    wpAny (model prog w) A (call (.ref fI) [.ref e, m]) Q E s := by
  obtain ⟨o, ho, hcls, hd⟩ := G.fn
  obtain ⟨hpar, hbody, hsc, hgl, hbl, hcl⟩ := G.ini
  obtain ⟨name, qualname, params, body, scope, globals, closure⟩ := fd
  dsimp only at hpar hbody hsc hgl hbl hcl
  subst hpar hbody hsc hgl hbl hcl
  obtain ⟨T, oT, dv, n, hdf, hT, hTd⟩ := G.dflt
  refine wpAny_call (codeAny_call_def (binds := [("self", .ref e), ("message", m)]) hA ho hd GG.nolimit G.code rfl (BindsTo.of_defaults hdf hT hTd rfl rfl) (show ∀ x ∈ (scopeOf initS).names, x.2 ≠ .cell by decide +kernel) ?_ (fun h₀ hns hk => ?_) rfl rfl rfl)
  · intro x hx
    have : x.1 ∈ (["self", "message"] : List Str) := List.mem_map.mpr ⟨x, hx, rfl⟩
    exact (show ∀ x ∈ (["self", "message"] : List Str), (scopeOf initS).names.lookup x = some .local by decide +kernel) _ this
  have G2 := G.keeps hk
  have GG2 := GG.keeps hk
  refine init_body GG2 G2 (hk _ _ he) hns (by rfl) (by rfl) rfl rfl rfl rfl (by rfl) (by rfl) (by rfl) (by rfl) fun h' tk t1 hk' he' => ?_
  exact h h' tk t1 (fun b o hb hbo => hk' b o hb (hk b o hbo)) he'
end
def isExc (C : Addr) : OP := fun o => ∃ t, o = excObj C t
section
variable {prog : Program} {w : World} {A : Around} {E : Value → Shared → Prop} {c : Cx} {σ : St} {l : List (Str × Value)} {ν ν' : List (Addr × OP)} {g : Array GenState} {env : Env} {P : GP} {C fI : Addr} {fd : FuncData}
theorem weight_tc (C : Addr) (m : Value) : (Code.builtin "type.__call__" ⟨[.ref C, m], []⟩).weight = 1 := by kernel_rfl
theorem W_makeExc {msg : Value} {Q : Value → St → Prop} (GG : GL P c.h) (G : GE P C fI fd c.h) (hA : Room 1 A) (h : ∀ e, Q (.ref e) ⟨l, (e, isExc C) :: ν, g⟩) : W prog w A E c ⟨l, ν, g⟩ (call (.ref C) [msg] []) Q := W_any fun s r => by
  have G1 := G.keeps r.keep
  have GG1 := GG.keeps r.keep
  obtain ⟨N, mN, nm, q, bs, hdct, sn, sub, ab, col, dd, k0, k1, k2, k3, k5, hC, hN, hi⟩ := G1.obj
  obtain ⟨oI, hf, hfc, hfd⟩ := G1.fn
  obtain ⟨hp, gg, d, tk, os⟩ := s
  refine wpAny_call_exc_init PySem.F.excBase_Exception hC hN hi hf hfc fun h' e hm => ?_
  obtain ⟨t, he, ht, _⟩ := hm.there
  refine init_fn (s := ⟨h', gg, d, tk, os⟩) (GG1.keeps hm.keeps) (G1.keeps hm.keeps) he (by have := hA.2; have hw := weight_tc C msg; show A.depth + (Code.builtin "type.__call__" ⟨[.ref C, msg], []⟩).weight < recursionLimit; omega) fun h'' tk' t1 hk he' => ⟨rfl, _, ?_, h e⟩
  exact r.alloc (s' := ⟨h'', gg, d, tk', os⟩) (fun b o q => hk b o (fun z => by rw [z] at q; have := hm.new; dsimp only at q; rw [this] at q; cases q) (hm.keeps b o q)) he' ⟨t1, rfl⟩ hm.new rfl rfl

theorem raise_split (x : Sem Value) : raiseStmt env (some x) none = x >>= fun v => raiseStmt env (some (pure v)) none := by
  unfold raiseStmt
  simp only [pure_bind]
theorem W_Raise {value : Expr} {pos : Pos} {X : Value → St → Prop} {Q : Flow → St → Prop} (G : GE P C fI fd c.h) (hh : A.handled = none)
    (h : W prog w A (ofX c X) c σ (eval value env) (fun v σ' => ∃ e, v = .ref e ∧ (e, isExc C) ∈ σ'.ν ∧ X (.ref e) σ')) : W prog w A (ofX c X) c σ (exec (.Raise (some value) none pos) env) Q := by
  rw [arm_exec_Raise]
  refine W_bind (W_standAt ?_)
  show W prog w A (ofX c X) c σ (raiseStmt env (some (eval value env >>= fun v => standAt pos >>= fun _ => pure v)) none) Q
  rw [raise_split]
  refine W_bind (W_bind (W_mono h fun v σ' q => W_bind (W_standAt (W_pure ?_))))
  obtain ⟨e, rfl, hm, hX⟩ := q
  refine W_any fun s r => ?_
  obtain ⟨N, mN, nm, q, bs, hdct, sn, sub, ab, col, dd, k0, k1, k2, k3, k5, hC, _⟩ := (G.keeps r.keep).obj
  obtain ⟨o, he, t, rfl⟩ := r.ok _ hm
  exact wpAny_raiseStmt_made_sub (C := C) (bm := bmX) (newId := "Exception.__new__") PySem.F.excBase_Exception.hasBase hh (wpAny_pure ⟨e, t, rfl, hC, he, σ', r, hX⟩)

theorem W_callWith_exc {ts : List (Bool × Sem Value)} {pos : Pos} {Q : Value → St → Prop} (G : GE P C fI fd c.h) (h : W prog w A E c σ (spliced ts) (fun vs σ₁ => W prog w A E c σ₁ (call (.ref C) vs []) Q)) (hp : plainTrees ts = true := by rfl) :
    W prog w A E c σ (callWith pos (.ref C) [] ts []) Q :=
  W_callWith hp (fun _ s r => by
    obtain ⟨N, mN, nm, q, bs, hdct, sn, sub, ab, col, dd, k0, k1, k2, k3, k5, hC, _⟩ := (G.keeps r.keep).obj
    refine ⟨.machine, .inr (.inl rfl), ?_⟩
    exact fun _ _ _ s' k hq => by obtain ⟨h', g', d', t', os'⟩ := s'; exact wpAny_keeperOf_exc (k _ _ hC) hq) h
/-! ## f-strings of ints -/
theorem W_parts_nil {acc : Str} {Q : Value → St → Prop} (hz : acc.length ≤ sizeLine) (h : ∀ t, Q (.str acc t) σ) : W prog w A E c σ (joinParts acc []) Q := W_any fun s r => by
  show wpAny _ _ (mkStr acc) _ _ s
  exact wpAny_mkStr ⟨σ, r.toks _, h _⟩ hz
theorem W_parts_cons {x : Sem Value} {rest : List (Sem Value)} {acc : Str} {Q : Value → St → Prop} (h : W prog w A E c σ x (fun v σ₁ => ∃ y t, v = .str y t ∧ (acc ++ y).length ≤ sizeLine ∧ W prog w A E c σ₁ (joinParts (acc ++ y) rest) Q)) :
    W prog w A E c σ (joinParts acc (x :: rest)) Q := by
  rw [joinParts]
  refine W_bind (W_mono h fun v σ₁ q => ?_)
  obtain ⟨y, t, rfl, hz, q⟩ := q
  have hz' : ¬ (acc.length + y.length > sizeLine) := by rw [← strLen_append]; exact Nat.not_lt.mpr hz
  refine W_bind (W_pure ?_)
  show W prog w A E c σ₁ (if acc.length + y.length > sizeLine then _ else _) Q
  rw [if_neg hz']
  first
    | exact q
    | exact W_bind (W_pure q)
theorem W_JoinedStr {v₁ v₂ : Expr} {rest : List Expr} {pos : Pos} {Q : Value → St → Prop} (h : W prog w A E c σ (joinParts Str.empty (evalEach (v₁ :: v₂ :: rest) env)) Q) : W prog w A E c σ (eval (.JoinedStr (v₁ :: v₂ :: rest) pos) env) Q := by
  rw [arm_eval_JoinedStr]
  exact h
theorem W_Formatted {value : Expr} {pos : Pos} {Q : Value → St → Prop} (h : W prog w A E c σ (eval value env) (fun v σ₁ => ∃ (a : Int) (t : Tok), v = .int a t ∧ a.natAbs.log2 < 1920 ∧ ∀ t', Q (.str (toString a) t') σ₁)) :
    W prog w A E c σ (eval (.FormattedValue value (-1) none pos) env) Q := by
  rw [arm_eval_FormattedValue]
  refine W_bind (W_mono h fun v σ₁ q => ?_)
  obtain ⟨a, t, rfl, hd, q⟩ := q
  refine W_bind (W_standAt ?_)
  show W prog w A E c σ₁ (holding [.int a t] (pure (.int a t)) >>= fun v' => formatField v' Str.empty) Q
  refine W_bind (W_holding (W_pure ?_))
  exact W_any fun s r => wpAny_formatField_int hd ⟨σ₁, r.toks _, q _⟩
end
/-! ## an object of the state or of what lies behind it -/
def HasO (c : Cx) (σ : St) (a : Addr) (p : OP) : Prop := (∃ o, c.h.get? a = some o ∧ p o) ∨ (a, p) ∈ σ.ν
theorem HasO.at {c : Cx} {σ : St} {a : Addr} {p : OP} {s : Shared} (h : HasO c σ a p) (r : Rep c σ s) : ∃ o, s.heap.get? a = some o ∧ p o := by
  rcases h with ⟨o, e, q⟩ | h
  · exact ⟨o, r.keep _ _ e, q⟩
  · exact r.ok _ h
theorem HasO.frz {c c' : Cx} {l : List (Str × Value)} {ν : List (Addr × OP)} {g : Array GenState} {σ : St} {a : Addr} {p : OP} (h : HasO c ⟨l, ν, g⟩ a p) (z : Frz c ν c') : HasO c' σ a p := by
  rcases h with ⟨o, e, q⟩ | h
  · exact .inl ⟨o, z.keep _ _ e, q⟩
  · obtain ⟨o, e, q⟩ := z.ok _ h
    exact .inl ⟨o, e, q⟩
section
variable {prog : Program} {w : World} {A : Around} {E : Value → Shared → Prop} {c : Cx} {σ : St} {l : List (Str × Value)} {ν ν' : List (Addr × OP)} {g : Array GenState} {env : Env} {P : GP} {cc PT : Addr}
  {name qual : Str} {params : Arguments} {body : List Stmt} {scope : Scope} {clos : List (Str × Addr)} {pos : Pos} {ps : Array Value}
theorem W_makeHitO {line : Nat} {c' : Addr} {Q : Value → St → Prop} (G : GL P c.h) (G2 : GL2 P cc PT c.h) (hm : HasO c ⟨l, ν, g⟩ PT (isTab ps)) (hcl : closureFor scope env = pure clos) (hge : env.globals = mainGlobals) (hcode : env.code = .ref cc) (ht : TriplesOk ps.toList) (hf : codeAmong pos ps.toList = some (.ref c'))
    (h : ∀ f doc ctv, Q (.ref f) ⟨l, (f, isFn (fdNest P name qual params body scope clos doc c' ctv)) :: ν, g⟩) :
    W prog w A E c ⟨l, ν, g⟩ (makeFunction name qual params (.stmts body) scope env [] [] [] pos line) Q := W_any fun s r => by
  have G' := G.keeps r.keep
  have G2' := G2.keeps r.keep
  obtain ⟨o, eP, rfl⟩ := hm.at r
  refine makeFunction_hit (mg := P.mg) (c := cc) (P := PT) hcl hge G'.g hcode G2'.hd eP ht hf G2'.bm fun ctv doc h' tk hk hsz => ?_
  have r1 : Rep c ⟨l, ν, g⟩ { s with heap := h', toks := tk } := r.keeps (s' := { s with heap := h', toks := tk }) hk rfl rfl
  exact ⟨_, r1.push (P := isFn _) _ rfl, h h'.objs.size doc ctv⟩
theorem callee_nestO {f c' : Addr} {doc ctv : Value} (G : GL P c.h) (hf : (f, isFn (fdNest P name qual params body scope clos doc c' ctv)) ∈ σ.ν) (hc : HasO c σ c' (isCR qual)) : Callee c σ f (fdNest P name qual params body scope clos doc c' ctv) := fun s r => by
  obtain ⟨o, e, hd⟩ := r.ok _ hf
  obtain ⟨oc, ec, vs, t, hv, h1⟩ := hc.at r
  exact ⟨o, e, hd, ⟨c', oc, vs, t, rfl, ec, hv, h1⟩, (G.keeps r.keep).nolimit⟩
end
/-! ## calls that raise: out through the frames -/
/-- an exception of class C on its way through the frames envs, told against what the caller's context c holds -/
def FlyC (c : Cx) (envs : List Env) (C : Addr) (g : Array GenState) (e : Value) (s' : Shared) : Prop :=
  ∃ a base a0, e = .ref a ∧ Heap.FlyingW base envs a (.ref C) a0 s'.heap ∧ s'.gens = g ∧ s'.os = c.os ∧
    (∀ b o, c.h.get? b = some o → (∀ env ∈ envs, env.frame ≠ some b) → base.get? b = some o) ∧ c.h.UpToSlots s'.heap
/-- the frames on the stack stand in the context -/
def FramesIn (c : Cx) (envs : List Env) : Prop := ∀ env ∈ envs, env.scope.kind ≠ .module ∧ ∃ L, env.frame = some L ∧ (L = c.L ∨ ∃ o, c.h.get? L = some o ∧ ∀ vs, o.data ≠ .fields vs)
def Under (c : Cx) (σ : St) (base : Heap) : Prop := (∀ b o, c.h.get? b = some o → base.get? b = some o) ∧ ∀ p ∈ σ.ν, ∃ o, base.get? p.1 = some o ∧ p.2 o
def FlyR (c : Cx) (σ : St) (env : Env) (C : Addr) (e : Value) (s' : Shared) : Prop :=
  Rep c σ s' ∧ ∃ a base a0, e = .ref a ∧ Heap.FlyingW base [env] a (.ref C) a0 s'.heap ∧ Under c σ base
def XExc (C : Addr) (g : Array GenState) (e : Value) (σ' : St) : Prop := ∃ a, e = .ref a ∧ (a, isExc C) ∈ σ'.ν ∧ σ'.g = g

theorem Rep.slots {c : Cx} {σ : St} {s s' : Shared} {base : Heap} (r : Rep c σ s) (u : Under c σ base) (st : base.StaysIn s'.heap) (k : s.heap.UpToSlots s'.heap) (hg : s'.gens = s.gens) (ho : s'.os = s.os) : Rep c σ s' where
  ns := let ⟨m, hn, hm⟩ := r.ns; ⟨m, k.ns hn, hm⟩
  lnd := r.lnd
  keep := fun b o e => st b o (u.1 b o e)
  fr := r.fr
  ok := fun p hp => let ⟨o, e, q⟩ := u.2 p hp; ⟨o, st _ _ e, q⟩
  own := r.own
  nd := r.nd
  os := ho.trans r.os
  gens := hg.trans r.gens

section
variable {prog : Program} {w : World} {A : Around} {E : Value → Shared → Prop} {c : Cx} {σ : St} {l : List (Str × Value)} {ν : List (Addr × OP)} {g : Array GenState}
theorem codeN_bodyR {env : Env} {body : List Stmt} {bl : List (Str × Value)} {κ : List (Addr × OP)} {L' : Addr} {s₂ : Shared} {Q : Value → St → Prop} {E₂ : Value → Shared → Prop}
    (hnd : (bl.map (·.1)).Nodup) (r : Rep c ⟨l, (L', isNs bl) :: κ ++ ν, g⟩ s₂)
    (h : Frz c ν (inside s₂ c L' κ) → W prog w (A.deeper env) E₂ (inside s₂ c L' κ) ⟨bl, κ, g⟩ (execs body env) (liftQ l ν Q))
    (hX : ∀ e s', E₂ e s' → wpN (model prog w) (A.deeper env) (leaving env e) (fun _ s'' => E e s'') (fun _ _ => False) s') :
    codeN (model prog w) A (.func body env) (fun r s' => match r with | .ok (.ret v) => ∃ σ', Rep c σ' s' ∧ Q v σ' | .ok _ => False | .error e => E e s') s₂ := by
  obtain ⟨r1, z⟩ := r.enter hnd
  refine codeN_func (wpN_mono (h z _ r1) (fun f s' q => ?_) fun e s' q => ?_)
  · obtain ⟨σ', r', q⟩ := q
    obtain ⟨l'', ν'', g'⟩ := σ'
    have rl := (r.leave r').1
    have rl' : Rep c ⟨l, ν'' ++ ν, g'⟩ s' := Rep.tail rl
    exact ⟨_, rl', q⟩
  · exact wpN_mono (hX e s' q) (fun _ _ q => q) fun _ _ q => q.elim

theorem leave_first {env : Env} {envs : List Env} {κ : List (Addr × OP)} {bl : List (Str × Value)} {L' : Addr} {s₂ s' : Shared} {e : Value} (r : Rep c ⟨l, (L', isNs bl) :: κ ++ ν, g⟩ s₂) (z : Frz c ν (inside s₂ c L' κ))
    (hfr : A.frames = some envs) (hf : env.frame = some L') (hk : env.scope.kind ≠ .module) (F : FramesIn c envs) {C : Addr} (hX : ofX (inside s₂ c L' κ) (XExc C g) e s') :
    wpN (model prog w) (A.deeper env) (leaving env e) (fun _ s'' => FlyC c envs C g e s'') (fun _ _ => False) s' := wpN_any (by
  obtain ⟨σ', r', a, rfl, hm, hg⟩ := hX
  obtain ⟨o, he, t, rfl⟩ := r'.ok _ hm
  have hcL : ∃ o, (inside s₂ c L' κ).h.get? c.L = some o ∧ ∀ vs, o.data ≠ .fields vs := by
    obtain ⟨m, ⟨o, es, ep, e, hd, _⟩, _⟩ := r.ns
    refine ⟨o, hideAll_get _ e fun hm => ?_, fun vs q => by rw [hd] at q; cases q⟩
    have : c.L ∈ ((L', isNs bl) :: κ).map (·.1) := hm
    obtain ⟨p, hp, e⟩ := List.mem_map.mp this
    exact (r.own p (List.mem_append_left _ hp)).1 e
  have st : (hideAll (inside s₂ c L' κ).h (envs.filterMap (·.frame))).StaysIn s'.heap := fun b o q => r'.keep b o (of_hideAll _ q)
  have fresh : ∀ b, (inside s₂ c L' κ).h.get? b = none → (hideAll (inside s₂ c L' κ).h (envs.filterMap (·.frame))).get? b = none := fun b hb => by
    cases q : (hideAll (inside s₂ c L' κ).h (envs.filterMap (·.frame))).get? b with
    | none => rfl
    | some o => have := of_hideAll _ q; rw [hb] at this; cases this
  have frames : ∀ es : List Env, (∀ x ∈ es, x ∈ envs) → s'.heap.FunFrames (hideAll (inside s₂ c L' κ).h (envs.filterMap (·.frame))) es := by
    intro es
    induction es with
    | nil => intro _; exact trivial
    | cons x xs ih =>
      intro hin
      obtain ⟨h1, L, h2, h3⟩ := F x (hin x (.head _))
      have hmem : L ∈ envs.filterMap (·.frame) := List.mem_filterMap.mpr ⟨x, hin x (.head _), h2⟩
      refine ⟨h1, ⟨L, ?_⟩, ih fun y hy => hin y (.tail _ hy)⟩
      rcases h3 with rfl | ⟨o, ho, hd⟩
      · obtain ⟨o, ho, hd⟩ := hcL
        exact ⟨o, h2, hideAll_none _ hmem, r'.keep _ _ ho, hd⟩
      · exact ⟨o, h2, hideAll_none _ hmem, r'.keep _ _ (z.keep _ _ ho), hd⟩
  refine wpAny_leaving_firstW (base := hideAll (inside s₂ c L' κ).h (envs.filterMap (·.frame))) (outer := envs) (a0 := .ref t) (Around.frames_deeper hfr) ⟨hk, ⟨L', ?_⟩, frames envs fun _ h => h⟩ hf he st (fresh a (r'.own _ hm).2) rfl rfl rfl fun h' hL => ?_
  · obtain ⟨m, ⟨o, es, ep, e, hd, _⟩, _⟩ := r'.ns
    exact ⟨o, hf, fresh _ r'.fr, e, fun vs q => by rw [hd] at q; cases q⟩
  · obtain ⟨k1, ⟨_, _, k2⟩, k3, k4⟩ := hL
    refine ⟨a, _, .ref t, rfl, ⟨k1, fresh a (r'.own _ hm).2, k2, k3⟩, r'.gens.trans hg, r'.os, fun b o hb hnf => ?_, fun b o hb hn => k4 b o (r'.keep _ _ (z.keep _ _ hb)) hn⟩
    refine hideAll_get _ (z.keep _ _ hb) fun hm => ?_
    obtain ⟨x, hx, hf⟩ := List.mem_filterMap.mp hm
    exact hnf x hx hf)
end
section
variable {prog : Program} {w : World} {A : Around} {E : Value → Shared → Prop} {c : Cx} {σ : St} {l : List (Str × Value)} {ν : List (Addr × OP)} {g : Array GenState}
theorem W_callR {a : Addr} {fd : FuncData} {body : List Stmt} {vals : List Value} {binds : List (Str × Value)} {Q : Value → St → Prop}
    (hroom : A.depth < recursionLimit) (hF : Callee c ⟨l, ν, g⟩ a fd) (hbody : fd.body = .stmts body) (hbind : bindArgs fd ⟨vals, []⟩ = pure binds) (hnd : (binds.map (·.1)).Nodup)
    (h : ∀ s₂ L', Rep c ⟨l, (L', isNs binds) :: [] ++ ν, g⟩ s₂ → Frz c ν (inside s₂ c L' []) → ∃ E₂ : Value → Shared → Prop, W prog w (A.deeper (callEnv fd L' a)) E₂ (inside s₂ c L' []) ⟨binds, [], g⟩ (execs body (callEnv fd L' a)) (liftQ l ν Q) ∧
      ∀ e s', E₂ e s' → wpN (model prog w) (A.deeper (callEnv fd L' a)) (leaving (callEnv fd L' a) e) (fun _ s'' => E e s'') (fun _ _ => False) s')
    (hloc : ∀ x ∈ binds, fd.scope.names.lookup x.1 = some .local) (hcell : ∀ x ∈ fd.scope.names, x.2 ≠ .cell)
    (hco : fd.scope.isCoroutine = false := by rfl) (hgen : fd.scope.isGenerator = false := by rfl) (hk : fd.scope.kind = .function := by rfl) :
    W prog w A E c ⟨l, ν, g⟩ (call (.ref a) vals []) Q := fun s r => wpN_call (by
  obtain ⟨o, ho, hdata, hcd, hlim⟩ := hF s r
  refine codeN_call_function hroom ho hdata hco hgen hbody hcd ?_
  rw [hbind]
  refine wpN_pure (wpN_any (wpAny_newFunctionEnv hcell hloc (fun h₁ hns hsb => ⟨hlim.fresh _ hsb, ?_⟩) hk))
  have hk' : ∀ b o, s.heap.get? b = some o → h₁.get? b = some o := fun b o e => hsb.extBut b o (Nat.ne_of_lt (Heap.lt_size e)) (Heap.get?_push_of_some _ e)
  have r2 : Rep c ⟨l, (s.heap.objs.size, isNs binds) :: [] ++ ν, g⟩ { s with heap := h₁, toks := s.toks + binds.length } := by
    obtain ⟨o, es, ep, e, hd, hs, hf⟩ := hns
    exact r.alloc hk' e ⟨es, ep, hd, hs, fun p hp => (hf _).trans (lookup_rev hnd p hp)⟩ (size_none _) rfl rfl
  obtain ⟨E₂, h1, h2⟩ := h _ _ r2 (r2.enter hnd).2
  exact codeN_bodyR (Q := Q) hnd r2 (fun _ => h1) h2)
theorem W_callCR {a : Addr} {fd : FuncData} {body : List Stmt} {vals : List Value} {binds bl : List (Str × Value)} {Q : Value → St → Prop}
    (hroom : A.depth < recursionLimit) (hF : Callee c ⟨l, ν, g⟩ a fd) (hbody : fd.body = .stmts body) (hbind : bindArgs fd ⟨vals, []⟩ = pure binds) (hnd : (bl.map (·.1)).Nodup)
    (h : ∀ s₂ L', Rep c ⟨l, (L', isNs bl) :: cellsNu fd binds L' ++ ν, g⟩ s₂ → Frz c ν (inside s₂ c L' (cellsNu fd binds L')) → ∃ E₂ : Value → Shared → Prop,
      W prog w (A.deeper (callEnvC fd L' a)) E₂ (inside s₂ c L' (cellsNu fd binds L')) ⟨bl, cellsNu fd binds L', g⟩ (execs body (callEnvC fd L' a)) (liftQ l ν Q) ∧
      ∀ e s', E₂ e s' → wpN (model prog w) (A.deeper (callEnvC fd L' a)) (leaving (callEnvC fd L' a) e) (fun _ s'' => E e s'') (fun _ _ => False) s')
    (hbl : ∀ p ∈ bl, bindL (fun n => fd.scope.names.lookup n) binds (fun _ => none) p.1 = some p.2)
    (hkind : ∀ (s : Shared), ∀ x ∈ binds, fd.scope.names.lookup x.1 = some .local ∨ (fd.scope.names.lookup x.1 = some .cell ∧ ((cellsFrom (s.heap.objs.size + 1) fd.scope.names []).lookup x.1).isSome = true))
    (hclo : fd.closure = []) (hcn : ((fd.scope.names.filter (·.2 == .cell)).map (·.1)).Nodup) (hco : fd.scope.isCoroutine = false := by rfl) (hgen : fd.scope.isGenerator = false := by rfl) (hk : fd.scope.kind = .function := by rfl) :
    W prog w A E c ⟨l, ν, g⟩ (call (.ref a) vals []) Q := fun s r => wpN_call (by
  obtain ⟨o, ho, hdata, hcd, hlim⟩ := hF s r
  refine codeN_call_function hroom ho hdata hco hgen hbody hcd ?_
  rw [hbind, hclo]
  refine wpN_pure (wpN_any (wpAny_newFunctionEnv_cells hk (hkind s) ?_))
  intro env he s' x
  subst he
  obtain ⟨⟨h', tk, rfl⟩, ⟨o', es, ep, e', hd, hs, hf⟩, hk', hfr⟩ := x.toInCall
  refine ⟨hlim.keeps hk', ?_⟩
  let L' := s.heap.objs.size
  have ncell : ∀ n : Nat, s.heap.objs.size ≤ n → s.heap.get? n = none := fun n hn => by
    cases e : s.heap.get? n with
    | none => rfl
    | some o' => exact absurd (Heap.lt_size e) (Nat.not_lt.mpr hn)
  have r2 : Rep c ⟨l, ((L', isNs bl) :: cellsNu fd binds L') ++ ν, g⟩ { s with heap := h', toks := tk } := by
    refine r.allocs ((L', isNs bl) :: cellsNu fd binds L') hk' (fun p hp => ?_) ?_ rfl rfl
    · rcases List.mem_cons.mp hp with rfl | hp
      · exact ⟨⟨o', e', es, ep, hd, hs, fun p hp => (hf _).trans (hbl p hp)⟩, ncell _ (Nat.le_refl _)⟩
      · obtain ⟨y, hy, rfl⟩ := List.mem_map.mp hp
        obtain ⟨oc, eoc, hoc⟩ := x.cell y.1 y.2 (cellsFrom_lookup hcn _ y hy)
        exact ⟨⟨oc, eoc, hoc⟩, ncell _ (Nat.le_of_lt (x.above y.1 y.2 hy))⟩
    · rw [List.map_cons, List.nodup_cons]
      refine ⟨fun hm => ?_, ?_⟩
      · obtain ⟨p, hp, e⟩ := List.mem_map.mp hm
        obtain ⟨y, hy, rfl⟩ := List.mem_map.mp hp
        have h1 : L' < y.2 := x.above y.1 y.2 hy
        have h2 : y.2 = L' := e
        exact absurd h1 (by rw [h2]; exact Nat.lt_irrefl _)
      · have : (cellsNu fd binds L').map (·.1) = (cellsFrom (L' + 1) fd.scope.names []).map (·.2) := by simp [cellsNu]
        rw [this]
        exact List.pairwise_map.mpr x.apart
  have he : newEnv fd.scope s.heap.objs.size fd.globals (cellsFrom (s.heap.objs.size + 1) fd.scope.names []) (fd.qualname ++ ".<locals>.") (some a) fd.code none fd.builtins = callEnvC fd L' a := rfl
  rw [he]
  obtain ⟨E₂, h1, h2⟩ := h _ _ r2 (r2.enter hnd).2
  exact codeN_bodyR (Q := Q) hnd r2 (fun _ => h1) h2)
end
section
variable {prog : Program} {w : World} {A : Around} {E : Value → Shared → Prop} {c : Cx} {σ σ₁ : St} {env : Env} {P : GP} {C fI : Addr} {fd : FuncData}
theorem handled_here {e : Value} {s : Shared} {np p pos : Pos} {R : Flow → Shared → Prop} (G : GL P c.h) (GX : GE P C fI fd c.h) (hfr : A.frames = some [env]) (hf : env.frame = some c.L) (hgl : env.globals = mainGlobals) (hk : env.scope.kind = .function) (hx : env.kindOf "ApplyDeltaError" = some .globalImplicit)
    (hF : FlyR c σ₁ env C e s) (h : ∀ s', Rep c σ₁ s' → R .next s') :
    wpAny (model prog w) A (noteFrame e env) (fun _ s₂ => wpAny (model prog w) A (setFlight e none) (fun _ s₃ => wpAny (model prog w) A (handleBy e env [.ExceptHandler (some (.Name "ApplyDeltaError" np)) none [.Pass p] pos]) R (fun _ _ => False) s₃) (fun _ _ => False) s₂) (fun _ _ => False) s := by
  obtain ⟨r, a, base, a0, rfl, hfl, hu⟩ := hF
  have hkeep : ∀ s' : Shared, base.StaysIn s'.heap → ∀ b o, c.h.get? b = some o → s'.heap.get? b = some o := fun s' st b o e => st b o (hu.1 b o e)
  refine wpAny_looks_onW hfr hf hfl fun h₄ hheld₄ hsm₄ => ?_
  refine wpAny_landsW hheld₄ fun h₅ hheld hsm₅ => ?_
  refine wpAny_handleBy_cons (codeAny_handlers_test ?_) (by intro q; cases q)
  refine Name_function_global hk hx (loadGlobal_global (by rw [hgl]; exact (G.keeps (hkeep { s with heap := h₅ } hheld.1)).g) GX.name ?_)
  obtain ⟨N, mN, nm, q, bs, hdct, sn, sub, ab, col, dd, k0, k1, k2, k3, k5, hC, _⟩ := (GX.keeps (hkeep { s with heap := h₅ } hheld.1)).obj
  obtain ⟨oe, he, hcls⟩ := hheld.there
  obtain ⟨hh, g, d, tk, os⟩ := s
  refine wpAny_excMatches_sub_self hC he hcls PySem.F.excBase_Exception.hasBase (codeAny_handlers_suite ?_)
  refine lands_againW hheld fun h₆ hfl₆ hsm₆ => ?_
  rw [execs_cons]
  refine wpAny_bind (wpAny_Pass (wpAny_pure ?_))
  exact h _ (r.slots hu hfl₆.1 ((hsm₄.trans hsm₅).trans hsm₆) rfl rfl)
theorem W_Try {body : List Stmt} {np p pos hpos : Pos} {Q : Flow → St → Prop} (G : GL P c.h) (GX : GE P C fI fd c.h) (hfr : A.frames = some [env]) (hf : env.frame = some c.L) (hgl : env.globals = mainGlobals) (hk : env.scope.kind = .function) (hx : env.kindOf "ApplyDeltaError" = some .globalImplicit)
    (h : W prog w A (FlyR c σ₁ env C) c σ (execs body env) (fun f σ' => f ≠ .next ∧ Q f σ')) (hQ : Q .next σ₁) :
    W prog w A E c σ (exec (.Try body [.ExceptHandler (some (.Name "ApplyDeltaError" np)) none [.Pass p] hpos] [] [] pos) env) Q := by
  rw [arm_exec_Try]
  refine W_bind (W_standAt fun s r => ?_)
  unfold tryStmt
  simp only [List.isEmpty_nil, if_true, List.isEmpty_cons, Bool.false_and, Bool.false_eq_true, if_false]
  refine wpN_bind (wpN_attempt (wpN_mono (h s r) (fun f s₁ h₁ => ?_) fun e s₁ h₁ => ?_))
  · obtain ⟨σ', r', hn, q⟩ := h₁
    cases f <;> first | exact absurd rfl hn | exact wpN_pure ⟨σ', r', q⟩
  · have h2 := handled_here (prog := prog) (w := w) (np := np) (p := p) (pos := hpos) (R := fun a s' => ∃ σ', Rep c σ' s' ∧ Q a σ') G GX hfr hf hgl hk hx h₁ fun s' r' => ⟨σ₁, r', hQ⟩
    refine wpN_bind (wpN_mono (wpN_any h2) (fun _ s₂ h₃ => ?_) fun _ _ q => q.elim)
    exact wpN_bind (wpN_mono (wpN_any h₃) (fun _ s₃ h₄ => wpN_mono (wpN_any h₄) (fun _ _ q => q) fun _ _ q => q.elim) fun _ _ q => q.elim)
end
/-! ## for .. in a tuple -/
def isTIter (d : Addr) (i : Nat) : OP := fun o => o.cls = .type "tuple_iterator" ∧ o.data = .fields #[.ref d, .int i 0]
section
variable {prog : Program} {w : World} {A : Around} {E : Value → Shared → Prop} {c : Cx} {σ : St} {l : List (Str × Value)} {ν : List (Addr × OP)} {g : Array GenState} {env : Env}
theorem pyIter_tuple {d : Addr} {vs : List Value} {Q : Value → St → Prop} (hx : HasT c ⟨l, ν, g⟩ d vs) (h : ∀ it, Q (.ref it) ⟨l, (it, isTIter d 0) :: ν, g⟩) : W prog w A E c ⟨l, ν, g⟩ (pyIter (.ref d)) Q :=
  W_any fun s r => wpAny_pyIter_tuple (show s.heap.IsTuple d vs.toArray from hx.at r) ⟨_, r.push _ ⟨rfl, rfl⟩, h _⟩
theorem Iter.tuple (hh : A.handled = none) (it d : Addr) (vs : List Value) : Iter prog w A c it vs.length (isTIter d) (fun i v => vs[i]? = some v) (fun σ => HasT c σ d vs) := by
  have pre : ∀ i (σ : St) s, HasT c σ d vs → Rep c ⟨σ.l, (it, isTIter d i) :: σ.ν, σ.g⟩ s → s.heap.IsTupleIter it d i ∧ s.heap.IsTuple d vs.toArray ∧ d ≠ it := fun i σ s hx r => by
    have hL : s.heap.IsTuple d vs.toArray := hx.at (σ := ⟨σ.l, σ.ν, σ.g⟩) r.tail
    have hit : s.heap.IsTupleIter it d i := by obtain ⟨o, e, a, b⟩ := r.ok _ (.head _); exact ⟨o, e, a, b⟩
    refine ⟨hit, hL, ?_⟩
    rintro rfl
    obtain ⟨o, e, a, _⟩ := hL
    obtain ⟨o', e', a', _⟩ := hit
    rw [e] at e'; cases e'; rw [a] at a'
    exact absurd a' (by decide)
  refine ⟨fun i σ s Q hi hx r k => ?_, fun σ s Q hx r k => ?_⟩
  · obtain ⟨hit, hL, hne⟩ := pre i σ s hx r
    refine wpN_any ((Walks.tuple (prog := prog) (w := w) hh it d hne vs.toArray).item i s _ _ (by simpa using hi) ⟨hit, hL⟩ fun v h' tk hP hst hk => ?_)
    obtain ⟨o', e', a', b'⟩ := hst.1
    exact k v _ (by simpa using hP) (r.upd (s' := { s with heap := h', toks := tk }) (P' := isTIter d (i + 1)) .head (fun b o hb e => hk b o (by simpa using hb) e) e' ⟨a', b'⟩ rfl rfl)
  · obtain ⟨hit, hL, hne⟩ := pre _ σ s hx r
    exact wpN_any ((Walks.tuple (prog := prog) (w := w) hh it d hne vs.toArray).done s _ _ ⟨by simpa using hit, hL⟩ fun h' tk hk => k _ (r.dropIter fun b o hb e => hk b o (by simpa using hb) e))
/-- for .. in a tuple -/
theorem W_For_tuple {target iter : Expr} {body : List Stmt} {pos : Pos} {Q : Flow → St → Prop} (hh : A.handled = none)
    (h : W prog w A NoE c σ (eval iter env) (fun x σ₁ => ∃ (d : Addr) (vs : List Value) (I : Nat → St → Prop), x = .ref d ∧ (∀ i σ, I i σ → HasT c σ d vs) ∧ I 0 σ₁ ∧
      (∀ (i : Nat) v σ₂ it J, vs[i]? = some v → I i σ₂ → W prog w A NoE c ⟨σ₂.l, (it, J) :: σ₂.ν, σ₂.g⟩ (letOwnedTupleGo target (.ref it) v) (fun _ σ₃ => W prog w A NoE c σ₃ (assign target env v) (fun _ σ₄ => W prog w A NoE c σ₄ (execs body env)
        (TurnEnd c Q fun σ' => ∃ ν', σ'.ν = (it, J) :: ν' ∧ I (i + 1) ⟨σ'.l, ν', σ'.g⟩)))) ∧ (∀ σ₂, I vs.length σ₂ → Q .next σ₂)))
    (hs : ∀ x, foldedSetIterable iter env x = pure x := by intro _; rfl) : W prog w A E c σ (exec (.For target iter body [] pos) env) Q := by
  refine W_For (W_mono h fun x σ₁ q => ?_) hs
  obtain ⟨d, vs, I, rfl, hX, h0, turn, fin⟩ := q
  obtain ⟨l₁, ν₁, g₁⟩ := σ₁
  exact pyIter_tuple (hX _ _ h0) fun it => ⟨it, vs.length, isTIter d, _, _, ν₁, I, rfl, rfl, Iter.tuple hh it d vs, hX, h0, fun i v σ₂ _ hP hI => turn i v σ₂ it _ hP hI, fin⟩
end
local macro_rules | `(tactic| walk_at "notin") => `(tactic| with_reducible (repeat (first | exact NotIn.nil | refine NotIn.cons (by decide) ?_)))
local macro_rules | `(tactic| walk_at "in") => `(tactic| with_reducible (repeat (first | exact List.mem_cons_self | refine List.mem_cons_of_mem _ ?_)))
local macro_rules | `(tactic| walk_at "load") => `(tactic| ((with_reducible refine W_Name (W_load (v := ?v) ?hm ?h ?hL ?hk ?hl) ?hd); (case hm => walk_at "in"); (case hL => rfl); (case hk => rfl); (case hl => rfl); (case hd => decide)))
local macro_rules | `(tactic| walk_at "loadn") => `(tactic| ((with_reducible refine W_load (v := ?v) ?hm ?h ?hL ?hk ?hl); (case hm => walk_at "in"); (case hL => rfl); (case hk => rfl); (case hl => rfl)))
local macro_rules | `(tactic| walk_at "storeu") => `(tactic| ((first
  | (with_reducible refine W_store (Upd.head) ?h ?hL ?hl ?hk)
  | (with_reducible refine W_store (Upd.tail (Upd.head)) ?h ?hL ?hl ?hk)
  | (with_reducible refine W_store (Upd.tail (Upd.tail (Upd.head))) ?h ?hL ?hl ?hk)
  | (with_reducible refine W_store (Upd.tail (Upd.tail (Upd.tail (Upd.head)))) ?h ?hL ?hl ?hk)
  | (with_reducible refine W_store (Upd.tail (Upd.tail (Upd.tail (Upd.tail (Upd.head))))) ?h ?hL ?hl ?hk)
  | (with_reducible refine W_store (Upd.tail (Upd.tail (Upd.tail (Upd.tail (Upd.tail (Upd.head)))))) ?h ?hL ?hl ?hk)
  | (with_reducible refine W_store (Upd.tail (Upd.tail (Upd.tail (Upd.tail (Upd.tail (Upd.tail (Upd.head))))))) ?h ?hL ?hl ?hk)
  | (with_reducible refine W_store (Upd.tail (Upd.tail (Upd.tail (Upd.tail (Upd.tail (Upd.tail (Upd.tail (Upd.head)))))))) ?h ?hL ?hl ?hk)
  | (with_reducible refine W_store (Upd.tail (Upd.tail (Upd.tail (Upd.tail (Upd.tail (Upd.tail (Upd.tail (Upd.tail (Upd.head))))))))) ?h ?hL ?hl ?hk)
  | (with_reducible refine W_store (Upd.tail (Upd.tail (Upd.tail (Upd.tail (Upd.tail (Upd.tail (Upd.tail (Upd.tail (Upd.tail (Upd.head)))))))))) ?h ?hL ?hl ?hk)
  | (with_reducible refine W_store (Upd.tail (Upd.tail (Upd.tail (Upd.tail (Upd.tail (Upd.tail (Upd.tail (Upd.tail (Upd.tail (Upd.tail (Upd.head))))))))))) ?h ?hL ?hl ?hk)
  | (with_reducible refine W_store (Upd.tail (Upd.tail (Upd.tail (Upd.tail (Upd.tail (Upd.tail (Upd.tail (Upd.tail (Upd.tail (Upd.tail (Upd.tail (Upd.head)))))))))))) ?h ?hL ?hl ?hk)
  | (with_reducible refine W_store (Upd.tail (Upd.tail (Upd.tail (Upd.tail (Upd.tail (Upd.tail (Upd.tail (Upd.tail (Upd.tail (Upd.tail (Upd.tail (Upd.tail (Upd.head))))))))))))) ?h ?hL ?hl ?hk)
  | (with_reducible refine W_store (Upd.tail (Upd.tail (Upd.tail (Upd.tail (Upd.tail (Upd.tail (Upd.tail (Upd.tail (Upd.tail (Upd.tail (Upd.tail (Upd.tail (Upd.tail (Upd.head)))))))))))))) ?h ?hL ?hl ?hk)); (case hL => rfl); (case hl => rfl); (case hk => rfl)))
local macro_rules | `(tactic| walk_at "store") => `(tactic| first
  | walk_at "storeu"
  | ((with_reducible refine W_storeN ?hn ?h ?hL ?hl ?hk); (case hn => walk_at "notin"); (case hL => rfl); (case hl => rfl); (case hk => rfl)))
local macro_rules | `(tactic| walk_at "st") => `(tactic| first
  | (with_reducible refine W_execs_nil ?_)
  | (with_reducible refine W_execs_cons ?_)
  | ((with_reducible refine W_Assign ?_ ?_); rotate_left; rfl)
  | (with_reducible refine W_AugAssign ?_)
  | (with_reducible refine W_If ?_)
  | (with_reducible refine W_Return ?_)
  | (with_reducible refine W_Pass ?_)
  | (with_reducible refine W_Break ?_)
  | (with_reducible refine W_int fun _ => ?_)
  | (with_reducible refine W_bool ?_)
  | (with_reducible refine W_bytes fun _ => ?_)
  | (with_reducible refine W_str fun _ => ?_)
  | walk_at "load"
  | walk_at "loadn"
  | walk_at "store"
  | (with_reducible refine W_BinOp ?_)
  | ((with_reducible refine W_Compare1 ?_ ?_); rotate_left; (with_unfolding_all rfl))
  | ((with_reducible refine W_isTrue_Compare1 ?_ ?_); rotate_left; (with_unfolding_all rfl))
  | (with_reducible refine W_UnaryOp ?_)
  | (with_reducible refine W_IfExp ?_)
  | (with_reducible refine W_Subscript ?_)
  | (with_reducible refine W_Slice ?_)
  | (with_reducible refine W_part_none ?_)
  | (with_reducible refine W_part_some ?_)
  | (with_reducible refine W_add fun _ => ?_)
  | (with_reducible refine W_sub fun _ => ?_)
  | (with_reducible refine W_and fun _ => ?_)
  | (with_reducible refine W_or fun _ => ?_)
  | (with_reducible refine W_iadd fun _ => ?_)
  | (with_reducible refine W_isub fun _ => ?_)
  | (with_reducible refine W_ior fun _ => ?_)
  | (with_reducible refine W_neg fun _ => ?_)
  | (with_reducible refine W_invert fun _ => ?_)
  | (with_reducible refine W_lt ?_)
  | (with_reducible refine W_le' ?_)
  | (with_reducible refine W_gt ?_)
  | (with_reducible refine W_ge ?_)
  | (with_reducible refine W_eqI ?_)
  | (with_reducible refine W_neI ?_)
  | (with_reducible refine W_eqS ?_)
  | (with_reducible refine W_eqB ?_)
  | (with_reducible refine W_neB ?_)
  | (with_reducible refine W_truthy_bool ?_)
  | (with_reducible refine W_truthy_int ?_))
theorem fdiv_nat (a b : Nat) : (a : Int).fdiv b = ((a / b : Nat) : Int) := by
  rw [Int.fdiv_eq_ediv_of_nonneg _ (Int.natCast_nonneg b)]; rfl
theorem fmod_nat (a b : Nat) : (a : Int).fmod b = ((a % b : Nat) : Int) := by
  rw [Int.fmod_eq_emod_of_nonneg _ (Int.natCast_nonneg b)]; rfl

/-- an int's octets, low ones first, seven bits each -/
def sizeL (n : Nat) : List Int := if h : n ≤ 127 then [(n : Int)] else ((128 + n % 128 : Nat) : Int) :: sizeL (n / 128)
termination_by n
decreasing_by omega
theorem sizeL_small {n : Nat} (h : n ≤ 127) : sizeL n = [(n : Int)] := by rw [sizeL, dif_pos h]
theorem sizeL_big {n : Nat} (h : ¬ n ≤ 127) : sizeL n = ((128 + n % 128 : Nat) : Int) :: sizeL (n / 128) := by rw [sizeL, dif_neg h]
theorem sizeL_range : ∀ n : Nat, ∀ x ∈ sizeL n, 0 ≤ x ∧ x < 256 := by
  intro n
  induction n using Nat.strongRecOn with
  | ind n ih =>
    intro x hx
    by_cases h : n ≤ 127
    · rw [sizeL_small h] at hx
      rw [List.mem_singleton.mp hx]; omega
    · rw [sizeL_big h] at hx
      rcases List.mem_cons.mp hx with rfl | hx
      · omega
      · exact ih (n / 128) (by omega) x hx
theorem sizeL_len (n : Nat) : (sizeL n).length ≤ n + 1 := by
  induction n using Nat.strongRecOn with
  | ind n ih =>
    by_cases h : n ≤ 127
    · rw [sizeL_small h]; simp
    · rw [sizeL_big h]
      have := ih (n / 128) (by omega)
      simp only [List.length_cons]; omega
theorem IntsAre.snoc' {vs : List Value} {ns : List Int} (h : IntsAre vs ns) (n : Int) (t : Tok) : IntsAre (vs ++ [.int n t]) (ns ++ [n]) := by
  induction h with
  | nil => exact .cons n t .nil
  | cons m u h ih => exact .cons m u ih

section
variable {prog : Program} {w : World} {A : Around} {E : Value → Shared → Prop} {c : Cx} {σ : St} {l : List (Str × Value)} {ν ν' : List (Addr × OP)} {g : Array GenState} {env : Env} {P : GP}

theorem S_size {n : Nat} {t : Tok} {Q : Value → St → Prop} (G : GL P c.h) (hA : Room 1 A) (hn : n < 2 ^ 20) (h : ∀ t, Q (.bytes (toB (sizeL n)).toArray t) ⟨l, ν, g⟩) :
    W prog w A E c ⟨l, ν, g⟩ (call (.ref (P.fa 12)) [.int n t] []) Q := by
  refine W_fn (binds := [("size", .int n t)]) G hA.lt rfl (fun c' z => ?_) ["size"]
  have G' := G.frz z
  have hA' : Room 0 (A.deeper (callEnv (fdOf P 12) c'.L (P.fa 12))) := hA.deeper
  generalize A.deeper (callEnv (fdOf P 12) c'.L (P.fa 12)) = A' at hA' ⊢
  refine W_execs_cons ?_
  walk_at "st"
  refine W_List (W_args0 (W_newList (by simp) fun a => ?_))
  walk_at "st"
  dsimp only
  refine W_execs_cons ?_
  refine W_While (fun k σ => ∃ (m : Nat) (vs : List Value) (ns : List Int) (t : Tok), k = m ∧ σ = ⟨[("out", .ref a), ("size", .int m t)], [(a, isList vs)], g⟩ ∧ IntsAre vs ns ∧ sizeL n = ns ++ sizeL m ∧ vs.length + m ≤ n) n ⟨n, [], [], t, rfl, rfl, .nil, rfl, by simp⟩ ?_
  rintro k σ ⟨m, vs, ns, t, rfl, rfl, hi, hs, hl⟩
  walk_at "st"
  walk_at "st"
  walk_at "st"
  walk_at "st"
  walk_at "st"
  by_cases hm : (127 : Int) < k
  · simp only [hm, decide_true, if_true]
    refine W_execs_cons (W_Expr (W_append ?_))
    walk_at "st"
    refine ⟨a, vs, rfl, .head _, ?_⟩
    walk_at "st"
    walk_at "st"
    walk_at "st"
    walk_at "st"
    walk_at "st"
    refine W_mod (by decide) fun _ => ?_
    rw [show (k : Int).fmod 128 = ((k % 128 : Nat) : Int) from fmod_nat k 128]
    walk_at "st"
    refine W_append_call .head (by omega) ?_
    dsimp only
    refine W_execs_cons ?_
    walk_at "st"
    walk_at "st"
    walk_at "st"
    refine W_ifloordiv (by decide) (by decide) fun _ => ?_
    rw [show (k : Int).fdiv 128 = ((k / 128 : Nat) : Int) from fdiv_nat k 128]
    walk_at "st"
    dsimp only
    walk_at "st"
    refine ⟨_, Le_refl, k / 128, by omega, k / 128, _, _, _, rfl, rfl, IntsAre.snoc' hi _ _, ?_, ?_⟩
    · rw [hs, sizeL_big (by omega), List.append_assoc]; rfl
    · simp; omega
  · simp only [hm, decide_false, Bool.false_eq_true, if_false]
    have hk : k ≤ 127 := by omega
    walk_at "st"
    dsimp only
    refine W_execs_cons ?_
    walk_at "st"
    refine W_CallT bb_bytes G' (W_args1 ?_ rfl)
    walk_at "st"
    walk_at "st"
    refine W_List (W_args1 ?_ rfl)
    walk_at "st"
    refine W_args0 (W_newList (by simp) fun a' => ?_)
    refine W_addL (.inr (.tail _ (.head _))) (.inr (.head _)) (by simp; omega) fun d => ?_
    refine W_args0 ?_
    have hfin : IntsAre (vs ++ [.int k t]) (sizeL n) := by rw [hs, sizeL_small hk]; exact IntsAre.snoc' hi _ _
    refine W_bytesL hA'.1 (.inr (.head _)) hfin (sizeL_range n) (by have := sizeL_len n; omega) fun t' => ?_
    exact ⟨_, Le_drop, h t'⟩
end
/-! ## bits -/
theorem bitAnd_nat (a b : Nat) : Builtin.bitAnd (a : Int) (b : Int) = ((a &&& b : Nat) : Int) := by simp [Builtin.bitAnd]
theorem bitOr_nat (a b : Nat) : Builtin.bitOr (a : Int) (b : Int) = ((a ||| b : Nat) : Int) := by
  unfold Builtin.bitOr
  have h (x : Nat) : Builtin.bitNot (x : Int) = -(x : Int) - 1 := rfl
  have h1 : decide ((0 : Int) ≤ Builtin.bitNot (a : Int)) = false := by rw [h, decide_eq_false_iff_not]; omega
  have h2 : decide ((0 : Int) ≤ Builtin.bitNot (b : Int)) = false := by rw [h, decide_eq_false_iff_not]; omega
  have h3 (x : Int) : Builtin.bitNot (Builtin.bitNot x) = x := by unfold Builtin.bitNot; omega
  unfold Builtin.bitAnd
  rw [h1, h2]
  simp only [h3, Int.toNat_natCast]
theorem and127 (n : Nat) : Builtin.bitAnd (n : Int) 127 = ((n % 128 : Nat) : Int) := by rw [bitAnd_m7]; rfl
theorem and255 (n : Nat) : Builtin.bitAnd (n : Int) 255 = ((n % 256 : Nat) : Int) := by rw [bitAnd_m8]; rfl
theorem or_pow {m i : Nat} (h : m < 2 ^ i) : (m ||| 2 ^ i) = m + 2 ^ i := by
  have := Nat.two_pow_add_eq_or_of_lt h 1
  rw [Nat.mul_one] at this
  rw [Nat.or_comm, ← this, Nat.add_comm]
theorem or128 {m : Nat} (h : m < 128) : Builtin.bitOr (m : Int) 128 = ((128 + m : Nat) : Int) := by
  rw [show (128 : Int) = ((128 : Nat) : Int) from rfl, bitOr_nat, show 128 = 2 ^ 7 from rfl, or_pow h, Nat.add_comm]
theorem or_mask {m i : Nat} (hi : i < 7) (h : m < 2 ^ i) : Builtin.bitOr ((128 + m : Nat) : Int) (((2 ^ i : Nat)) : Int) = ((128 + (m + 2 ^ i) : Nat) : Int) := by
  have hp : 2 ^ i ≤ 2 ^ 6 := Nat.pow_le_pow_right (by decide) (by omega)
  have e1 : 128 + m = (m ||| 2 ^ 7) := by rw [or_pow (by omega)]; omega
  have e2 : 128 + (m + 2 ^ i) = ((m + 2 ^ i) ||| 2 ^ 7) := by rw [or_pow (by omega)]; omega
  rw [bitOr_nat, e1, e2, ← or_pow h, Nat.or_assoc, Nat.or_assoc, Nat.or_comm (2 ^ 7)]
theorem and_oct (s k : Nat) : (s &&& (255 * 2 ^ k)) = (s / 2 ^ k % 256) * 2 ^ k := by
  have e1 : 255 * 2 ^ k = 255 <<< k := by rw [Nat.shiftLeft_eq]
  have e2 : (s / 2 ^ k % 256) * 2 ^ k = ((s >>> k) &&& 255) <<< k := by
    rw [Nat.shiftLeft_eq, Nat.shiftRight_eq_div_pow, show 255 = 2 ^ 8 - 1 from rfl, Nat.and_two_pow_sub_one_eq_mod]
  rw [e1, e2]
  apply Nat.eq_of_testBit_eq
  intro j
  rw [Nat.testBit_and, Nat.testBit_shiftLeft, Nat.testBit_shiftLeft, Nat.testBit_and, Nat.testBit_shiftRight]
  by_cases h : k ≤ j
  · rw [show k + (j - k) = j by omega]
    simp [h]
  · simp [h]
theorem fdiv_pow (a k : Nat) : (a : Int).fdiv (2 ^ k) = ((a / 2 ^ k : Nat) : Int) := by
  have := fdiv_nat a (2 ^ k)
  rw [← this]; simp

theorem toB_snoc (ns : List Int) (n : Int) : toB (ns ++ [n]) = toB ns ++ [n.toNat.toUInt8] := by simp [toB]
theorem toB_cons (ns : List Int) (n : Int) : toB (n :: ns) = n.toNat.toUInt8 :: toB ns := rfl

section
variable {prog : Program} {w : World} {A : Around} {E : Value → Shared → Prop} {c : Cx} {σ : St} {l : List (Str × Value)} {ν ν' : List (Addr × OP)} {g : Array GenState} {env : Env} {P : GP}
theorem S_encsize {n : Nat} {t : Tok} {Q : Value → St → Prop} (G : GL P c.h) (hA : Room 1 A) (hn : n < 2 ^ 20) (h : ∀ t, Q (.bytes (toB (sizeL n)).toArray t) ⟨l, ν, g⟩) :
    W prog w A E c ⟨l, ν, g⟩ (call (.ref (P.fa 4)) [.int n t] []) Q := by
  refine W_fn (binds := [("size", .int n t)]) G hA.lt rfl (fun c' z => ?_) ["size"]
  have G' := G.frz z
  have hA' : Room 0 (A.deeper (callEnv (fdOf P 4) c'.L (P.fa 4))) := hA.deeper
  generalize A.deeper (callEnv (fdOf P 4) c'.L (P.fa 4)) = A' at hA' ⊢
  refine W_execs_cons ?_
  walk_at "st"
  refine W_CallT bb_bytearray G' (W_args0 (W_newBA0 fun a => ?_))
  walk_at "st"
  dsimp only
  refine W_execs_cons ?_
  walk_at "st"
  walk_at "st"
  walk_at "st"
  walk_at "st"
  walk_at "st"
  rw [show Builtin.bitAnd (n : Int) 127 = ((n % 128 : Nat) : Int) from and127 n]
  walk_at "st"
  dsimp only
  refine W_execs_cons ?_
  walk_at "st"
  walk_at "st"
  walk_at "st"
  refine W_irshift (by decide) fun _ => ?_
  rw [show (n : Int).fdiv (2 ^ (7 : Int).toNat) = ((n / 2 ^ 7 : Nat) : Int) from fdiv_pow n 7]
  walk_at "st"
  dsimp only
  refine W_execs_cons ?_
  refine W_While (fun k σ => ∃ (m : Nat) (b : Bs) (t u : Tok), k = m ∧ σ = ⟨[("c", .int ((m % 128 : Nat) : Int) u), ("ret", .ref a), ("size", .int ((m / 2 ^ 7 : Nat) : Int) t)], [(a, isBA b)], g⟩ ∧ toB (sizeL n) = b ++ toB (sizeL m) ∧ b.length + m ≤ n) n ⟨n, [], _, _, rfl, rfl, rfl, by simp⟩ ?_
  rintro k σ ⟨m, b, t, u, rfl, rfl, hs, hl⟩
  refine W_isTrue_value ?_ rfl
  walk_at "st"
  walk_at "st"
  by_cases hm : k ≤ 127
  · have e : ((((k / 2 ^ 7 : Nat) : Int)) != 0) = false := by
      have : k / 2 ^ 7 = 0 := by omega
      rw [this]; rfl
    simp only [e, Bool.false_eq_true, if_false]
    walk_at "st"
    dsimp only
    refine W_execs_cons (W_Expr (W_methodBA ?_))
    walk_at "st"
    refine ⟨a, b, rfl, .head _, ?_⟩
    walk_at "st"
    refine W_appendBA .head (by omega) (by omega) (by omega) ?_
    dsimp only
    refine W_execs_cons ?_
    walk_at "st"
    refine W_CallT bb_bytes G' (W_args1 ?_ rfl)
    walk_at "st"
    refine W_args0 ?_
    refine W_bytesBA (.head _) (by simp; omega) fun t' => ?_
    refine ⟨_, Le_drop, ?_⟩
    have : b ++ [((k % 128 : Nat) : Int).toNat.toUInt8] = toB (sizeL n) := by
      rw [hs, sizeL_small hm, Nat.mod_eq_of_lt (by omega)]; rfl
    rw [this]
    exact h t'
  · have e : ((((k / 2 ^ 7 : Nat) : Int)) != 0) = true := by
      have : k / 2 ^ 7 ≠ 0 := by omega
      simp only [bne_iff_ne, ne_eq]
      omega
    simp only [e, if_true]
    refine W_execs_cons (W_Expr (W_methodBA ?_))
    walk_at "st"
    refine ⟨a, b, rfl, .head _, ?_⟩
    walk_at "st"
    walk_at "st"
    walk_at "st"
    walk_at "st"
    rw [show Builtin.bitOr ((k % 128 : Nat) : Int) 128 = ((128 + k % 128 : Nat) : Int) from or128 (by omega)]
    refine W_appendBA .head (by omega) (by omega) (by omega) ?_
    dsimp only
    refine W_execs_cons ?_
    walk_at "st"
    walk_at "st"
    walk_at "st"
    walk_at "st"
    walk_at "st"
    rw [show Builtin.bitAnd ((k / 2 ^ 7 : Nat) : Int) 127 = ((k / 2 ^ 7 % 128 : Nat) : Int) from and127 _]
    walk_at "st"
    dsimp only
    refine W_execs_cons ?_
    walk_at "st"
    walk_at "st"
    walk_at "st"
    refine W_irshift (by decide) fun _ => ?_
    rw [show ((k / 2 ^ 7 : Nat) : Int).fdiv (2 ^ (7 : Int).toNat) = ((k / 2 ^ 7 / 2 ^ 7 : Nat) : Int) from fdiv_pow _ 7]
    walk_at "st"
    dsimp only
    walk_at "st"
    refine ⟨_, Le_refl, k / 2 ^ 7, by omega, k / 2 ^ 7, _, _, _, rfl, rfl, ?_, ?_⟩
    · rw [hs, sizeL_big hm, toB_cons, List.append_assoc]; rfl
    · simp; omega
end
/-- octet k of n -/
def oct (n k : Nat) : Nat := n / 256 ^ k % 256
def maskF (f : Nat → Nat) : Nat → Nat
  | 0 => 0
  | n + 1 => maskF f n + (if f n ≠ 0 then 2 ^ n else 0)
def tailF (f : Nat → Nat) : Nat → Bs
  | 0 => []
  | n + 1 => tailF f n ++ (if f n ≠ 0 then [(f n).toUInt8] else [])
theorem maskF_lt (f : Nat → Nat) : ∀ n, maskF f n < 2 ^ n
  | 0 => by simp [maskF]
  | n + 1 => by
    have := maskF_lt f n
    unfold maskF
    rw [Nat.pow_succ]
    split <;> omega
theorem tailF_len (f : Nat → Nat) : ∀ n, (tailF f n).length ≤ n
  | 0 => by simp [tailF]
  | n + 1 => by
    have := tailF_len f n
    unfold tailF
    rw [List.length_append]
    split <;> simp <;> omega
/-- the octets of a copy: where, how many -/
def octF (p n : Nat) (k : Nat) : Nat := if k < 4 then oct p k else oct n (k - 4)
theorem octF_lt (p n k : Nat) : octF p n k < 256 := by unfold octF oct; split <;> omega
def encCpy (p n : Nat) : Bs := (128 + maskF (octF p n) 6).toUInt8 :: tailF (octF p n) 6
theorem pow256 (k : Nat) : 256 ^ k = 2 ^ (k * 8) := by rw [show 256 = 2 ^ 8 from rfl, ← Nat.pow_mul, Nat.mul_comm]
theorem test_oct (s k : Nat) : ((Builtin.bitAnd (s : Int) ((255 : Int) * 2 ^ (k * 8))) != 0) = (oct s k != 0) := by
  have e : (255 : Int) * 2 ^ (k * 8) = ((255 * 2 ^ (k * 8) : Nat) : Int) := by simp
  rw [e, bitAnd_nat, and_oct]
  unfold oct
  rw [pow256]
  have hp : 0 < 2 ^ (k * 8) := Nat.two_pow_pos _
  rw [Bool.eq_iff_iff]
  simp only [bne_iff_ne, ne_eq, Int.natCast_eq_zero, Nat.mul_eq_zero]
  constructor
  · intro h e; exact h (.inl e)
  · rintro h (e | e)
    · exact h e
    · omega
theorem low_oct (s k : Nat) : Builtin.bitAnd ((s : Int).fdiv (2 ^ (k * 8))) 255 = ((oct s k : Nat) : Int) := by
  rw [fdiv_pow, and255]; unfold oct; rw [pow256]
theorem u8_toNat {n : Nat} (h : n < 256) : (n.toUInt8).toNat = n := by
  simp [Nat.toUInt8]; omega

section
variable {prog : Program} {w : World} {A : Around} {E : Value → Shared → Prop} {c : Cx} {σ : St} {l : List (Str × Value)} {ν ν' : List (Addr × OP)} {g : Array GenState} {env : Env} {P : GP}
theorem S_enccopy {p n : Nat} {t u : Tok} {Q : Value → St → Prop} (G : GL P c.h) (hA : Room 1 A) (h : ∀ t, Q (.bytes (encCpy p n).toArray t) ⟨l, ν, g⟩) :
    W prog w A E c ⟨l, ν, g⟩ (call (.ref (P.fa 6)) [.int p t, .int n u] []) Q := by
  refine W_fn (binds := [("start", .int p t), ("length", .int n u)]) G hA.lt rfl (fun c' z => ?_) ["start", "length"]
  have G' := G.frz z
  have hA' : Room 0 (A.deeper (callEnv (fdOf P 6) c'.L (P.fa 6))) := hA.deeper
  generalize A.deeper (callEnv (fdOf P 6) c'.L (P.fa 6)) = A' at hA' ⊢
  refine W_execs_cons ?_
  walk_at "st"
  refine W_CallT bb_bytearray G' (W_args1 (W_List (W_args1 ?_ rfl)) rfl)
  walk_at "st"
  refine W_args0 (W_newList (by simp) fun d => ?_)
  refine W_args0 (W_newBA1 (.inr (.head _)) fun a => ?_)
  walk_at "st"
  dsimp only
  refine W_execs_cons ?_
  refine W_For_range hA'.1 ?_
  refine W_CallT bb_range G' (W_args1 ?_ rfl)
  walk_at "st"
  refine W_args0 (W_range1 fun rg => ?_)
  refine ⟨rg, 0, 4, 4, _, fun i σ => ∃ ν', σ = ⟨[("scratch", .ref a), ("start", .int p t), ("length", .int n u)], (a, isBA ((128 + maskF (octF p n) i).toUInt8 :: tailF (octF p n) i)) :: ν', g⟩, rfl, by decide, by decide, rfl, ⟨_, rfl⟩, ?_, ?_⟩
  · rintro i t' σ it J hi ⟨ν', rfl⟩
    refine W_let_name (W_assign_name ?_)
    rw [Int.zero_add]
    walk_at "st"
    refine W_execs_cons ?_
    walk_at "st"
    refine W_isTrue_value ?_ rfl
    walk_at "st"
    walk_at "st"
    walk_at "st"
    walk_at "st"
    walk_at "st"
    walk_at "st"
    walk_at "st"
    refine W_mul (IntMulOk.of_right (by decide)) fun _ => ?_
    rw [show (i : Int) * 8 = ((i * 8 : Nat) : Int) from rfl]
    refine W_lshift (by omega) (by omega) (by decide) fun _ => ?_
    rw [Int.toNat_natCast]
    walk_at "st"
    walk_at "st"
    rw [test_oct]
    have hoct : octF p n i = oct p i := by unfold octF; rw [if_pos hi]
    by_cases ho : oct p i = 0
    · have e : (oct p i != 0) = false := by simp [ho]
      simp only [e, Bool.false_eq_true, if_false]
      walk_at "st"
      dsimp only
      walk_at "st"
      refine ⟨⟨[("scratch", .ref a), ("start", .int p t), ("length", .int n u)], (it, J) :: (a, isBA ((128 + maskF (octF p n) (i + 1)).toUInt8 :: tailF (octF p n) (i + 1))) :: ν', g⟩, ?_, _, rfl, ν', rfl⟩
      have e1 : maskF (octF p n) (i + 1) = maskF (octF p n) i := by simp [maskF, hoct, ho]
      have e2 : tailF (octF p n) (i + 1) = tailF (octF p n) i := by simp [tailF, hoct, ho]
      rw [e1, e2]
      exact Le_sub (fun p hp => .tail _ hp) (List.Sublist.refl _) ["scratch", "start", "length"]
    · have e : (oct p i != 0) = true := by simpa using ho
      simp only [e, if_true]
      refine W_execs_cons (W_Expr (W_methodBA ?_))
      walk_at "st"
      refine ⟨a, _, rfl, .tail _ (.head _), ?_⟩
      walk_at "st"
      walk_at "st"
      walk_at "st"
      walk_at "st"
      walk_at "st"
      walk_at "st"
      refine W_mul (IntMulOk.of_right (by decide)) fun _ => ?_
      rw [show (i : Int) * 8 = ((i * 8 : Nat) : Int) from rfl]
      refine W_rshift (by omega) fun _ => ?_
      rw [Int.toNat_natCast]
      walk_at "st"
      walk_at "st"
      rw [low_oct]
      have hlt : oct p i < 256 := by unfold oct; omega
      have hl2 := tailF_len (octF p n) i
      refine W_appendBA (.tail .head) (by simp; omega) (by omega) (by omega) ?_
      dsimp only
      refine W_execs_cons ?_
      refine W_AugSub ?_ (by intros; rfl)
      walk_at "st"
      walk_at "st"
      refine W_getBA (.tail _ (.head _)) fun _ => ?_
      walk_at "st"
      walk_at "st"
      walk_at "st"
      refine W_lshift (by omega) (by omega) (by decide) fun _ => ?_
      simp only [Int.toNat_natCast]
      rw [Int.one_mul, u8_toNat (by have := maskF_lt (octF p n) i; have : 2 ^ i ≤ 2 ^ 3 := Nat.pow_le_pow_right (by decide) (by omega); omega), show ((2 : Int) ^ i) = ((2 ^ i : Nat) : Int) by simp]
      walk_at "st"
      rw [or_mask (by omega) (maskF_lt _ i)]
      have h2 : maskF (octF p n) i + 2 ^ i < 128 := by have := maskF_lt (octF p n) i; have : 2 ^ i ≤ 2 ^ 3 := Nat.pow_le_pow_right (by decide) (by omega); omega
      refine W_setBA (.tail .head) (by simp; omega) (Int.natCast_nonneg _) (Int.ofNat_lt.mpr (show 128 + (maskF (octF p n) i + 2 ^ i) < 256 by omega)) ?_
      try dsimp only
      walk_at "st"
      try dsimp only
      walk_at "st"
      refine ⟨⟨[("scratch", .ref a), ("start", .int p t), ("length", .int n u)], (it, J) :: (a, isBA ((128 + maskF (octF p n) (i + 1)).toUInt8 :: tailF (octF p n) (i + 1))) :: ν', g⟩, ?_, _, rfl, ν', rfl⟩
      have e1 : maskF (octF p n) (i + 1) = maskF (octF p n) i + 2 ^ i := by simp [maskF, hoct, ho]
      have e2 : tailF (octF p n) (i + 1) = tailF (octF p n) i ++ [(oct p i).toUInt8] := by simp [tailF, hoct, ho]
      rw [e1, e2]
      exact Le_sub (fun p hp => .tail _ hp) (List.Sublist.refl _) ["scratch", "start", "length"]
  · rintro σ ⟨ν', rfl⟩
    dsimp only
    refine W_execs_cons ?_
    refine W_For_range hA'.1 ?_
    refine W_CallT bb_range G' (W_args1 ?_ rfl)
    walk_at "st"
    refine W_args0 (W_range1 fun rg => ?_)
    refine ⟨rg, 0, 2, 2, _, fun i σ => ∃ ν', σ = ⟨[("scratch", .ref a), ("start", .int p t), ("length", .int n u)], (a, isBA ((128 + maskF (octF p n) (4 + i)).toUInt8 :: tailF (octF p n) (4 + i))) :: ν', g⟩, rfl, by decide, by decide, rfl, ⟨_, rfl⟩, ?_, ?_⟩
    · rintro i t' σ it J hi ⟨ν', rfl⟩
      refine W_let_name (W_assign_name ?_)
      rw [Int.zero_add]
      walk_at "st"
      refine W_execs_cons ?_
      walk_at "st"
      refine W_isTrue_value ?_ rfl
      walk_at "st"
      walk_at "st"
      walk_at "st"
      walk_at "st"
      walk_at "st"
      walk_at "st"
      walk_at "st"
      refine W_mul (IntMulOk.of_right (by decide)) fun _ => ?_
      rw [show (i : Int) * 8 = ((i * 8 : Nat) : Int) from rfl]
      refine W_lshift (by omega) (by omega) (by decide) fun _ => ?_
      rw [Int.toNat_natCast]
      walk_at "st"
      walk_at "st"
      rw [test_oct]
      have hoct : octF p n (4 + i) = oct n i := by unfold octF; rw [if_neg (by omega), Nat.add_sub_cancel_left]
      by_cases ho : oct n i = 0
      · have e : (oct n i != 0) = false := by simp [ho]
        simp only [e, Bool.false_eq_true, if_false]
        walk_at "st"
        dsimp only
        walk_at "st"
        refine ⟨⟨[("scratch", .ref a), ("start", .int p t), ("length", .int n u)], (it, J) :: (a, isBA ((128 + maskF (octF p n) (4 + (i + 1))).toUInt8 :: tailF (octF p n) (4 + (i + 1)))) :: ν', g⟩, ?_, _, rfl, ν', rfl⟩
        have e1 : maskF (octF p n) (4 + (i + 1)) = maskF (octF p n) (4 + i) := by rw [← Nat.add_assoc]; simp [maskF, hoct, ho]
        have e2 : tailF (octF p n) (4 + (i + 1)) = tailF (octF p n) (4 + i) := by rw [← Nat.add_assoc]; simp [tailF, hoct, ho]
        rw [e1, e2]
        exact Le_sub (fun p hp => .tail _ hp) (List.Sublist.refl _) ["scratch", "start", "length"]
      · have e : (oct n i != 0) = true := by simpa using ho
        simp only [e, if_true]
        refine W_execs_cons (W_Expr (W_methodBA ?_))
        walk_at "st"
        refine ⟨a, _, rfl, .tail _ (.head _), ?_⟩
        walk_at "st"
        walk_at "st"
        walk_at "st"
        walk_at "st"
        walk_at "st"
        walk_at "st"
        refine W_mul (IntMulOk.of_right (by decide)) fun _ => ?_
        rw [show (i : Int) * 8 = ((i * 8 : Nat) : Int) from rfl]
        refine W_rshift (by omega) fun _ => ?_
        rw [Int.toNat_natCast]
        walk_at "st"
        walk_at "st"
        rw [low_oct]
        have hlt : oct n i < 256 := by unfold oct; omega
        have hl2 := tailF_len (octF p n) (4 + i)
        refine W_appendBA (.tail .head) (by simp; omega) (by omega) (by omega) ?_
        dsimp only
        refine W_execs_cons ?_
        refine W_AugSub ?_ (by intros; rfl)
        walk_at "st"
        walk_at "st"
        refine W_getBA (.tail _ (.head _)) fun _ => ?_
        walk_at "st"
        walk_at "st"
        walk_at "st"
        walk_at "st"
        walk_at "st"
        walk_at "st"
        rw [show (4 : Int) + (i : Int) = ((4 + i : Nat) : Int) from rfl]
        refine W_lshift (by omega) (by omega) (by decide) fun _ => ?_
        have h5 : 2 ^ (4 + i) ≤ 2 ^ 5 := Nat.pow_le_pow_right (by decide) (by omega)
        have h6 := maskF_lt (octF p n) (4 + i)
        simp only [Int.toNat_natCast]
        rw [Int.one_mul, u8_toNat (by omega), show ((2 : Int) ^ (4 + i)) = ((2 ^ (4 + i) : Nat) : Int) by simp]
        walk_at "st"
        rw [or_mask (by omega) (maskF_lt _ (4 + i))]
        refine W_setBA (.tail .head) (by simp; omega) (Int.natCast_nonneg _) (Int.ofNat_lt.mpr (show 128 + (maskF (octF p n) (4 + i) + 2 ^ (4 + i)) < 256 by omega)) ?_
        try dsimp only
        walk_at "st"
        try dsimp only
        walk_at "st"
        refine ⟨⟨[("scratch", .ref a), ("start", .int p t), ("length", .int n u)], (it, J) :: (a, isBA ((128 + maskF (octF p n) (4 + (i + 1))).toUInt8 :: tailF (octF p n) (4 + (i + 1)))) :: ν', g⟩, ?_, _, rfl, ν', rfl⟩
        have e1 : maskF (octF p n) (4 + (i + 1)) = maskF (octF p n) (4 + i) + 2 ^ (4 + i) := by rw [← Nat.add_assoc]; simp [maskF, hoct, ho]
        have e2 : tailF (octF p n) (4 + (i + 1)) = tailF (octF p n) (4 + i) ++ [(oct n i).toUInt8] := by rw [← Nat.add_assoc]; simp [tailF, hoct, ho]
        rw [e1, e2]
        exact Le_sub (fun p hp => .tail _ hp) (List.Sublist.refl _) ["scratch", "start", "length"]
    · rintro σ ⟨ν', rfl⟩
      dsimp only
      refine W_execs_cons ?_
      walk_at "st"
      refine W_CallT bb_bytes G' (W_args1 ?_ rfl)
      walk_at "st"
      refine W_args0 ?_
      have hl2 := tailF_len (octF p n) 6
      refine W_bytesBA (.head _) (by simp; omega) fun t' => ?_
      exact ⟨_, Le_drop, h t'⟩
end
section
variable {prog : Program} {w : World} {A : Around} {E : Value → Shared → Prop} {c : Cx} {σ : St} {l : List (Str × Value)} {ν ν' : List (Addr × OP)} {g : Array GenState} {env : Env} {P : GP}
theorem flatten_take_len (bs : List Bs) : ∀ i b, bs[i]? = some b → (bs.take (i + 1)).flatten.length = (bs.take i).flatten.length + b.length := fun i b h => by
  rw [List.take_add_one, h]; simp
theorem S_chunks {d : Addr} {vs : List Value} {bs : List Bs} {Q : Value → St → Prop} (G : GL P c.h) (hA : Room 1 A) (hx : HasL c ⟨l, ν, g⟩ d vs) (hb : BytesAre vs bs) (hz : bs.flatten.length ≤ 1048576) (hz2 : bs.length ≤ 1000) (h : ∀ t, Q (.int bs.flatten.length t) ⟨l, ν, g⟩) :
    W prog w A E c ⟨l, ν, g⟩ (call (.ref (P.fa 3)) [.ref d] []) Q := by
  refine W_fn (binds := [("chunks", .ref d)]) G hA.lt rfl (fun c' z => ?_) ["chunks"]
  have G' := G.frz z
  have hx' : ∀ σ, HasL c' σ d vs := fun σ => hx.frz z
  have hA' : Room 0 (A.deeper (callEnv (fdOf P 3) c'.L (P.fa 3))) := hA.deeper
  generalize A.deeper (callEnv (fdOf P 3) c'.L (P.fa 3)) = A' at hA' ⊢
  refine W_execs_cons ?_
  walk_at "st"
  refine W_isTrue_value ?_ rfl
  refine W_CallB bb_isinstance G' (W_args1 ?_ rfl)
  walk_at "st"
  refine W_args1 (W_bltn G' (by decide) bb_bytes ?_) rfl
  refine W_args0 (W_isiL (hx' _) ?_)
  walk_at "st"
  simp only [Bool.false_eq_true, if_false]
  refine W_execs_cons ?_
  walk_at "st"
  refine W_CallB bb_sum G' (W_args1 (W_LCl hA'.1 ?_ rfl ?_ rfl ?_ (fun _ => rfl)) rfl)
  · walk_at "st"
    refine ⟨d, vs, fun i ys => IntsAre ys ((bs.take i).map fun b => (b.length : Int)), rfl, hx' _, by rw [hb.length]; omega, .nil, ?_, ?_⟩
    · intro c2 z2 ia D J i ys v hv hi
      have G2 := G'.frz z2
      have hi' : i < vs.length := (List.getElem?_eq_some_iff.mp hv).1
      obtain ⟨b, t, e1, e2⟩ := hb.at hi'
      rw [hv] at e1; cases e1
      refine W_let_name (W_assign_name ?_)
      walk_at "st"
      refine W_tests_nil ?_
      simp only [if_true]
      refine W_CallB bb_len G2 (W_args1 ?_ rfl)
      walk_at "st"
      have hbl : b.length ≤ bs.flatten.length := by
        have := flatten_take_len bs i b e2
        have h2 : (bs.take (i + 1)).flatten.length ≤ bs.flatten.length := by
          have h3 : bs = bs.take (i + 1) ++ bs.drop (i + 1) := (List.take_append_drop _ _).symm
          have h4 : bs.flatten.length = (bs.take (i + 1)).flatten.length + (bs.drop (i + 1)).flatten.length := by
            rw [← List.length_append, ← List.flatten_append, ← h3]
          omega
        omega
      refine W_args0 (W_lenB (by omega) fun t' => ?_)
      refine ⟨?_, Le_sub (fun p hp => by cases hp) (List.Sublist.refl _) []⟩
      rw [List.take_add_one, e2, List.map_append]
      exact IntsAre.snoc' hi _ _
    · intro D ys hi
      refine W_args0 ?_
      rw [List.take_of_length_le (by rw [hb.length]; exact Nat.le_refl _)] at hi
      have hsum : (bs.map fun b => (b.length : Int)).sum = (bs.flatten.length : Int) := by
        clear hi hz hz2 hx' hb hx h
        induction bs with
        | nil => rfl
        | cons b r ih => rw [List.map_cons, List.sum_cons, ih, List.flatten_cons, List.length_append]; simp
      refine W_sumL hA'.1 (.inr (.head _)) hi (fun n hn => ?_) (by simp; omega) fun t' => ?_
      · obtain ⟨b, hb', rfl⟩ := List.mem_map.mp hn
        have : b.length ≤ bs.flatten.length := (List.sublist_flatten_of_mem hb').length_le
        omega
      · rw [hsum]
        exact ⟨_, Le_drop, h t'⟩
  · decide +kernel
  · decide +kernel
end
section
variable {c c' : Cx} {ν : List (Addr × OP)} {a : Addr}
theorem HasC.nu {v : Value} (h : (a, isCell (some v)) ∈ ν) (z : Frz c ν c') : ∀ σ, HasC c' σ a v := fun σ => HasC.frz (σ' := σ) (l := []) (g := #[]) (.inr h) z
theorem HasL.nu {vs : List Value} (h : (a, isList vs) ∈ ν) (z : Frz c ν c') : ∀ σ, HasL c' σ a vs := fun σ => HasL.frz (σ' := σ) (l := []) (g := #[]) (.inr h) z
theorem HasT.nu {vs : List Value} (h : (a, isTup vs) ∈ ν) (z : Frz c ν c') : ∀ σ, HasT c' σ a vs := fun σ => HasT.frz (σ' := σ) (l := []) (g := #[]) (.inr h) z
theorem HasC.kept {v : Value} (h : ∀ σ, HasC c σ a v) (z : Frz c ν c') : ∀ σ, HasC c' σ a v := fun σ => (h ⟨[], ν, #[]⟩).frz z
theorem HasL.kept {vs : List Value} (h : ∀ σ, HasL c σ a vs) (z : Frz c ν c') : ∀ σ, HasL c' σ a vs := fun σ => (h ⟨[], ν, #[]⟩).frz z
theorem HasT.kept {vs : List Value} (h : ∀ σ, HasT c σ a vs) (z : Frz c ν c') : ∀ σ, HasT c' σ a vs := fun σ => (h ⟨[], ν, #[]⟩).frz z
theorem cut_le (b : Bs) (i j : Nat) : (cut b i j).length ≤ b.length := by rw [cut_length]; omega
end
section
variable {prog : Program} {w : World} {A : Around} {E : Value → Shared → Prop} {c : Cx} {σ : St} {l : List (Str × Value)} {ν ν' : List (Addr × OP)} {g : Array GenState} {env : Env} {P : GP}
theorem RowVals.two {r : Row} {ws : List Value} (h : RowVals r ws) : ws.length = 2 := by
  cases r with
  | ins b => obtain ⟨_, _, rfl⟩ := h; rfl
  | cpy p n => obtain ⟨_, _, rfl⟩ := h; rfl
theorem S_made {before : Bs} {t : Tok} {d : Addr} {vs : List Value} {rows : List Row} {Q : Value → St → Prop} (G : GL P c.h) (hA : Room 1 A) (hx : HasL c ⟨l, ν, g⟩ d vs) (hr : RowsAre (HasT c ⟨l, ν, g⟩) vs rows)
    (hb : before.length ≤ 100000) (hm : (made before rows).length ≤ 1000000) (hn : rows.length ≤ 100000) (h : ∀ t, Q (.bytes (made before rows).toArray t) ⟨l, ν, g⟩) :
    W prog w A E c ⟨l, ν, g⟩ (call (.ref (P.fa 15)) [.bytes before.toArray t, .ref d] []) Q := by
  refine W_fnC (binds := [("before", .bytes before.toArray t), ("rows", .ref d)]) (bl := [("rows", .ref d)]) (κ := fun L => [(L + 1, isCell (some (.bytes before.toArray t)))]) G hA.lt rfl (fun L => rfl) (fun c' z => ?_) rfl ["rows"] ["before", "rows"]
  have G' := G.frz z
  have hx' : ∀ σ, HasL c' σ d vs := fun σ => hx.frz z
  have hr' : RowsAre (fun a ws => ∀ σ, HasT c' σ a ws) vs rows := hr.mono fun a ws hh σ => hh.frz z
  have hA' : Room 0 (A.deeper (callEnvC (fdOf P 15) c'.L (P.fa 15))) := hA.deeper
  generalize A.deeper (callEnvC (fdOf P 15) c'.L (P.fa 15)) = A' at hA' ⊢
  refine W_execs_cons ?_
  walk_at "st"
  refine W_join ?_
  refine W_LCl (cl := [("before", c'.L + 1)]) hA'.1 ?_ rfl ?_ rfl ?_ (fun _ => rfl)
  · walk_at "st"
    refine ⟨d, vs, fun i ys => BytesAre ys ((rows.take i).map (rowMade before)), rfl, hx' _, by rw [hr.length]; omega, .nil, ?_, ?_⟩
    · intro c2 z2 ia D J i ys v hv hi
      have G2 := G'.frz z2
      have hC : ∀ σ, HasC c2 σ (c'.L + 1) (.bytes before.toArray t) := HasC.nu (.head _) z2
      obtain ⟨a, ws, r, rfl, hrow, hvals, hT⟩ := hr'.at hv
      have hT2 : ∀ σ, HasT c2 σ a ws := HasT.kept hT z2
      refine W_let_tuple (.head _) ?_
      cases r with
      | ins b =>
        obtain ⟨t1, t2, rfl⟩ := hvals
        refine W_assign_tuple hA'.1 (hT2 _) rfl rfl ?_
        refine W_inOrder_cons (W_assign_name ?_)
        walk_at "st"
        refine W_inOrder_cons (W_assign_name ?_)
        walk_at "st"
        refine W_inOrder_nil ?_
        refine W_tests_nil ?_
        simp only [if_true]
        walk_at "st"
        walk_at "st"
        walk_at "st"
        walk_at "st"
        walk_at "st"
        walk_at "st"
        simp only [show decide ((-1 : Int) < 0) = true from rfl, if_true]
        walk_at "st"
        refine ⟨?_, Le_sub (fun p hp => by cases hp) (List.Sublist.refl _) []⟩
        rw [List.take_add_one, hrow, List.map_append]
        exact BytesAre.snoc hi _ _
      | cpy p n =>
        obtain ⟨t1, t2, rfl⟩ := hvals
        refine W_assign_tuple hA'.1 (hT2 _) rfl rfl ?_
        refine W_inOrder_cons (W_assign_name ?_)
        walk_at "st"
        refine W_inOrder_cons (W_assign_name ?_)
        walk_at "st"
        refine W_inOrder_nil ?_
        refine W_tests_nil ?_
        simp only [if_true]
        walk_at "st"
        walk_at "st"
        walk_at "st"
        walk_at "st"
        walk_at "st"
        walk_at "st"
        simp only [show decide ((p : Int) < 0) = false from decide_eq_false (by omega), Bool.false_eq_true, if_false]
        walk_at "st"
        refine W_Name (W_loadC (hC _) ?_)
        walk_at "st"
        walk_at "st"
        walk_at "st"
        walk_at "st"
        walk_at "st"
        walk_at "st"
        walk_at "st"
        walk_at "st"
        intro sl
        rw [show (p : Int) + (n : Int) = ((p + n : Nat) : Int) from rfl]
        refine W_cutB (Int.natCast_nonneg _) (Int.natCast_nonneg _) (by omega) fun t3 => ?_
        refine ⟨?_, Le_sub (fun p hp => by cases hp) (List.Sublist.refl _) []⟩
        rw [List.take_add_one, hrow, List.map_append]
        exact BytesAre.snoc hi _ _
    · intro D ys hi u
      rw [List.take_of_length_le (by rw [hr.length]; exact Nat.le_refl _)] at hi
      refine W_joinL (.inr (.head _)) hi (by have : (made before rows).length = ((rows.map (rowMade before)).flatten).length := rfl; omega) fun t' => ?_
      exact ⟨_, Le_drop, h t'⟩
  · decide +kernel
  · decide +kernel
end
structure Op where
  eq : Bool
  i1 : Nat
  i2 : Nat
  j1 : Nat
  j2 : Nat
def OpVals (o : Op) (ws : List Value) : Prop := ∃ t0 t1 t2 t3 t4, ws = [.str (if o.eq then "equal" else "insert") t0, .int o.i1 t1, .int o.i2 t2, .int o.j1 t3, .int o.j2 t4]
inductive OpsAre (T : Addr → List Value → Prop) : List Value → List Op → Prop
  | nil : OpsAre T [] []
  | cons {a : Addr} {ws : List Value} {r : Op} {vs : List Value} {rs : List Op} : OpVals r ws → T a ws → OpsAre T vs rs → OpsAre T (.ref a :: vs) (r :: rs)
theorem OpsAre.mono {T T' : Addr → List Value → Prop} {vs : List Value} {rs : List Op} (h : OpsAre T vs rs) (hT : ∀ a ws, T a ws → T' a ws) : OpsAre T' vs rs := by
  induction h with
  | nil => exact .nil
  | cons a b _ ih => exact .cons a (hT _ _ b) ih
theorem OpsAre.length {T : Addr → List Value → Prop} {vs : List Value} {rs : List Op} (h : OpsAre T vs rs) : vs.length = rs.length := by induction h <;> simp_all
theorem OpsAre.at {T : Addr → List Value → Prop} {vs : List Value} {rs : List Op} (h : OpsAre T vs rs) : ∀ {i : Nat} {v : Value}, vs[i]? = some v → ∃ a ws r, v = .ref a ∧ rs[i]? = some r ∧ OpVals r ws ∧ T a ws := by
  induction h with
  | nil => intro i v hv; simp at hv
  | cons hr ht _ ih =>
    intro i v hv
    cases i with
    | zero => simp at hv; exact ⟨_, _, _, hv.symm, rfl, hr, ht⟩
    | succ i => exact ih (by simpa using hv)
theorem OpsAre.snoc {T : Addr → List Value → Prop} {vs : List Value} {rs : List Op} (h : OpsAre T vs rs) {a : Addr} {ws : List Value} {r : Op} (hr : OpVals r ws) (ht : T a ws) : OpsAre T (vs ++ [.ref a]) (rs ++ [r]) := by
  induction h with
  | nil => exact .cons hr ht .nil
  | cons a b _ ih => exact .cons a b ih
def opOf (k : Nat) : Row → Op
  | .ins b => ⟨false, 0, 0, k, k + b.length⟩
  | .cpy p n => ⟨true, p, p + n, k, k + n⟩
/-- the rows' opcodes, one after the other -/
def opsOf (rows : List Row) : List Op := (rows.zipIdx.map fun x => opOf (total (rows.take x.2)) x.1)
theorem opsOf_take (rows : List Row) (i : Nat) (r : Row) (h : rows[i]? = some r) : opsOf (rows.take (i + 1)) = opsOf (rows.take i) ++ [opOf (total (rows.take i)) r] := by
  have hi : i < rows.length := (List.getElem?_eq_some_iff.mp h).1
  have e : rows.take (i + 1) = rows.take i ++ [r] := by rw [List.take_add_one, h]; rfl
  have hl : (rows.take i).length = i := by rw [List.length_take]; omega
  unfold opsOf
  rw [e, List.zipIdx_append, List.map_append, hl]
  congr 1
  · apply List.map_congr_left
    rintro ⟨x, k⟩ hx
    have hk : k < i := by
      have := List.snd_lt_of_mem_zipIdx hx
      rw [hl] at this; simpa using this
    simp only
    rw [List.take_append_of_le_length (by rw [hl]; omega)]
  · simp only [List.zipIdx_cons, List.zipIdx_nil, List.map_cons, List.map_nil, Nat.zero_add]
    rw [List.take_append_of_le_length (by rw [hl]; exact Nat.le_refl _), List.take_of_length_le (by rw [hl]; exact Nat.le_refl _)]

section
variable {prog : Program} {w : World} {A : Around} {E : Value → Shared → Prop} {c : Cx} {σ : St} {l l' : List (Str × Value)} {ν ν' : List (Addr × OP)} {g : Array GenState} {env : Env} {P : GP}
theorem Le_lp (hl : ∀ p ∈ l', p ∈ l) (hν : ν.Perm ν') (xs : List Str) (hx : l'.map (·.1) = xs := by rfl) (hn : xs.Nodup := by decide +kernel) : Le c ⟨l, ν, g⟩ ⟨l', ν', g⟩ :=
  Le_trans (Le_sub hl (List.Sublist.refl _) xs hx hn) (Le_perm hν)
theorem S_ranges {d : Addr} {vs : List Value} {rows : List Row} {Q : Value → St → Prop} (G : GL P c.h) (hA : Room 1 A) (hx : HasL c ⟨l, ν, g⟩ d vs) (hr : RowsAre (HasT c ⟨l, ν, g⟩) vs rows)
    (hn : rows.length ≤ 100000) (htot : total rows ≤ 1000000) (h : ∀ o vs' τ, OpsAre (fun a ws => (a, isTup ws) ∈ τ) vs' (opsOf rows) → Q (.ref o) ⟨l, (o, isList vs') :: (τ ++ ν), g⟩) :
    W prog w A E c ⟨l, ν, g⟩ (call (.ref (P.fa 14)) [.ref d] []) Q := by
  refine W_fn (binds := [("rows", .ref d)]) G hA.lt rfl (fun c' z => ?_) ["rows"]
  have G' := G.frz z
  have hx' : ∀ σ, HasL c' σ d vs := fun σ => hx.frz z
  have hr' : RowsAre (fun a ws => ∀ σ, HasT c' σ a ws) vs rows := hr.mono fun a ws hh σ => hh.frz z
  have hA' : Room 0 (A.deeper (callEnv (fdOf P 14) c'.L (P.fa 14))) := hA.deeper
  generalize A.deeper (callEnv (fdOf P 14) c'.L (P.fa 14)) = A' at hA' ⊢
  refine W_execs_cons ?_
  refine W_AssignSwap (names := ["out", "at"]) hA'.1 ?_ rfl (by kernel_rfl)
  refine W_Tuple (W_args1 (W_List (W_args0 (W_newList (by simp) fun o => ?_))) rfl)
  refine W_args1 ?_ rfl
  walk_at "st"
  refine W_args0 (W_newTuple (by simp) fun T => ?_)
  refine ⟨T, _, rfl, .inr (.head _), rfl, ?_⟩
  refine W_inOrder_cons (W_bindName ?_)
  walk_at "st"
  refine W_inOrder_cons (W_bindName ?_)
  walk_at "st"
  refine W_inOrder_nil ?_
  dsimp only
  refine W_execs_cons ?_
  refine W_le (Le_perm (List.Perm.swap (o, isList []) _ _)) ?_
  refine W_For_list hA'.1 ?_
  walk_at "st"
  refine ⟨d, vs, fun i σ => ∃ vs' τ ρ t, σ = ⟨[("out", .ref o), ("at", .int (total (rows.take i) : Nat) t), ("rows", .ref d)], (o, isList vs') :: (τ ++ ρ), g⟩ ∧ OpsAre (fun a ws => (a, isTup ws) ∈ τ) vs' (opsOf (rows.take i)), rfl, fun _ _ _ => hx' _, ?_, ?_, ?_⟩
  · exact ⟨[], [], [(T, _)], _, rfl, .nil⟩
  · rintro i v σ it hv ⟨vs', τ, ρ, t, rfl, hops⟩
    obtain ⟨a, ws, r, rfl, hrow, hvals, hT⟩ := hr'.at hv
    have hle := rowLen_le hrow
    have hlen := hops.length
    refine W_let_tuple (.head _) ?_
    cases r with
    | ins b =>
      obtain ⟨t1, t2, rfl⟩ := hvals
      have hbl : b.length ≤ 1000000 := by have : rowLen (.ins b) = b.length := rfl; omega
      refine W_assign_tuple hA'.1 (hT _) rfl rfl ?_
      refine W_inOrder_cons (W_assign_name ?_)
      walk_at "st"
      refine W_inOrder_cons (W_assign_name ?_)
      walk_at "st"
      refine W_inOrder_nil ?_
      refine W_execs_cons ?_
      walk_at "st"
      walk_at "st"
      walk_at "st"
      walk_at "st"
      walk_at "st"
      walk_at "st"
      simp only [show decide ((-1 : Int) < 0) = true from rfl, if_true]
      refine W_execs_cons (W_Expr (W_append ?_))
      walk_at "st"
      refine ⟨o, vs', rfl, .tail _ (.head _), ?_⟩
      refine W_Tuple (W_args1 ?_ rfl)
      walk_at "st"
      refine W_args1 ?_ rfl
      walk_at "st"
      refine W_args1 ?_ rfl
      walk_at "st"
      refine W_args1 ?_ rfl
      walk_at "st"
      refine W_args1 ?_ rfl
      walk_at "st"
      walk_at "st"
      refine W_CallB bb_len G' (W_args1 ?_ rfl)
      walk_at "st"
      refine W_args0 (W_lenB (by omega) fun _ => ?_)
      walk_at "st"
      refine W_args0 (W_newTuple (by simp) fun T2 => ?_)
      refine W_append_call (.tail (.tail .head)) (by rw [hlen]; unfold opsOf; simp; omega) ?_
      dsimp only
      refine W_execs_cons ?_
      walk_at "st"
      walk_at "st"
      refine W_CallB bb_len G' (W_args1 ?_ rfl)
      walk_at "st"
      refine W_args0 (W_lenB (by omega) fun _ => ?_)
      walk_at "st"
      walk_at "st"
      dsimp only
      walk_at "st"
      dsimp only
      walk_at "st"
      have etot : total (rows.take (i + 1)) = total (rows.take i) + b.length := by rw [List.take_add_one, hrow]; exact total_snoc _ _
      refine ⟨_, Le_lp (l' := [("out", .ref o), ("at", _), ("rows", .ref d)]) (fun p hp => .tail _ (.tail _ hp)) ((List.perm_middle (l₁ := [(it, isLIter d (i + 1)), (o, _)])).symm) ["out", "at", "rows"], _, rfl, ?_⟩
      refine ⟨vs' ++ [.ref T2], (T2, ?tup) :: τ, ρ, ?tk, ?e, ?o⟩
      case e =>
        rw [etot]
        rfl
      case o =>
        rw [opsOf_take rows i _ hrow]
        refine OpsAre.snoc (hops.mono fun a ws hm => .tail _ hm) ⟨_, _, _, _, _, rfl⟩ (.head _)
    | cpy p n =>
      obtain ⟨t1, t2, rfl⟩ := hvals
      refine W_assign_tuple hA'.1 (hT _) rfl rfl ?_
      refine W_inOrder_cons (W_assign_name ?_)
      walk_at "st"
      refine W_inOrder_cons (W_assign_name ?_)
      walk_at "st"
      refine W_inOrder_nil ?_
      refine W_execs_cons ?_
      walk_at "st"
      walk_at "st"
      walk_at "st"
      walk_at "st"
      walk_at "st"
      walk_at "st"
      simp only [show decide ((p : Int) < 0) = false from decide_eq_false (by omega), Bool.false_eq_true, if_false]
      refine W_execs_cons (W_Expr (W_append ?_))
      walk_at "st"
      refine ⟨o, vs', rfl, .tail _ (.head _), ?_⟩
      refine W_Tuple (W_args1 ?_ rfl)
      walk_at "st"
      refine W_args1 ?_ rfl
      walk_at "st"
      refine W_args1 ?_ rfl
      walk_at "st"
      walk_at "st"
      walk_at "st"
      walk_at "st"
      refine W_args1 ?_ rfl
      walk_at "st"
      refine W_args1 ?_ rfl
      walk_at "st"
      walk_at "st"
      walk_at "st"
      walk_at "st"
      refine W_args0 (W_newTuple (by simp) fun T2 => ?_)
      refine W_append_call (.tail (.tail .head)) (by rw [hlen]; unfold opsOf; simp; omega) ?_
      dsimp only
      refine W_execs_cons ?_
      walk_at "st"
      walk_at "st"
      walk_at "st"
      walk_at "st"
      walk_at "st"
      dsimp only
      walk_at "st"
      dsimp only
      walk_at "st"
      have etot : total (rows.take (i + 1)) = total (rows.take i) + n := by rw [List.take_add_one, hrow]; exact total_snoc _ _
      refine ⟨_, Le_lp (l' := [("out", .ref o), ("at", _), ("rows", .ref d)]) (fun p hp => .tail _ (.tail _ hp)) ((List.perm_middle (l₁ := [(it, isLIter d (i + 1)), (o, _)])).symm) ["out", "at", "rows"], _, rfl, ?_⟩
      refine ⟨vs' ++ [.ref T2], (T2, ?tup2) :: τ, ρ, ?tk2, ?e2, ?o2⟩
      case e2 =>
        rw [etot]
        rfl
      case o2 =>
        rw [opsOf_take rows i _ hrow]
        refine OpsAre.snoc (hops.mono fun a ws hm => .tail _ hm) ⟨_, _, _, _, _, rfl⟩ (.head _)
  · rintro σ ⟨vs', τ, ρ, t, rfl, hops⟩
    rw [List.take_of_length_le (by rw [hr'.length]; exact Nat.le_refl _)] at hops
    dsimp only
    refine W_execs_cons ?_
    walk_at "st"
    walk_at "st"
    refine ⟨⟨l, (o, isList vs') :: (τ ++ ν), g⟩, ?_, h o vs' τ hops⟩
    refine Le_nu ?_
    simp only [List.cons_append, List.append_assoc]
    exact ((List.sublist_append_right ρ ν).append_left τ).cons_cons _
end
def nChunks (b : Bs) : Nat := (b.length + 126) / 127
def chunkAt (b : Bs) (j : Nat) : Bs := cut b (127 * j) (127 * j + 127)
def encChunk (ch : Bs) : Bs := ch.length.toUInt8 :: ch
def encInsTo (b : Bs) : Nat → Bs
  | 0 => []
  | j + 1 => encInsTo b j ++ encChunk (chunkAt b j)
def encIns (b : Bs) : Bs := encInsTo b (nChunks b)
def encRow : Row → Bs
  | .ins b => encIns b
  | .cpy p n => encCpy p n
def encRows (rows : List Row) : Bs := (rows.map encRow).flatten
def deltaB (before : Bs) (rows : List Row) : Bs := toB (sizeL before.length) ++ toB (sizeL (total rows)) ++ encRows rows
theorem chunkAt_len (b : Bs) (j : Nat) : (chunkAt b j).length = min 127 (b.length - 127 * j) := by unfold chunkAt; rw [cut_length, Nat.add_sub_cancel_left]
theorem encInsTo_len (b : Bs) : ∀ j, (encInsTo b j).length ≤ 128 * j
  | 0 => by simp [encInsTo]
  | j + 1 => by
    have := encInsTo_len b j
    have h2 := chunkAt_len b j
    unfold encInsTo encChunk
    rw [List.length_append, List.length_cons]
    omega
theorem encIns_len (b : Bs) : (encIns b).length ≤ 2 * b.length + 128 := by
  have := encInsTo_len b (nChunks b)
  unfold encIns
  unfold nChunks at this ⊢
  omega
theorem encCpy_len (p n : Nat) : (encCpy p n).length ≤ 7 := by
  have := tailF_len (octF p n) 6
  unfold encCpy
  rw [List.length_cons]; omega
theorem encRow_len (r : Row) : (encRow r).length ≤ 2 * rowLen r + 128 := by
  cases r with
  | ins b => exact encIns_len b
  | cpy p n => have := encCpy_len p n; show (encCpy p n).length ≤ _; omega
theorem encRows_snoc (rows : List Row) (r : Row) : encRows (rows ++ [r]) = encRows rows ++ encRow r := by simp [encRows]
theorem encRows_len (rows : List Row) : (encRows rows).length ≤ 2 * total rows + 128 * rows.length := by
  induction rows with
  | nil => simp [encRows, total]
  | cons r rest ih =>
    have := encRow_len r
    have e : encRows (r :: rest) = encRow r ++ encRows rest := by simp [encRows]
    rw [e, List.length_append, total_cons, List.length_cons]
    omega
theorem toB_len (ns : List Int) : (toB ns).length = ns.length := by simp [toB]
theorem total_int (rows : List Row) : (rows.map fun r => (rowLen r : Int)).sum = ((total rows : Nat) : Int) := by
  induction rows with
  | nil => rfl
  | cons b r ih => rw [List.map_cons, List.sum_cons, ih, total_cons]; rfl
theorem fitsLong {x : Int} (h0 : -1000000 ≤ x) (h1 : x ≤ 2000000) : Builtin.Range.rangeFitsLong x = true := by
  unfold Builtin.Range.rangeFitsLong
  rw [Bool.and_eq_true, decide_eq_true_eq, decide_eq_true_eq]
  constructor <;> omega
theorem range127 (n : Nat) (hn : n ≤ 1000000) : Builtin.Range.small 0 (n : Int) 127 = true ∧ Builtin.Range.rangeSize 0 (n : Int) 127 = (((n + 126) / 127 : Nat) : Int) := by
  have hs : Builtin.Range.rangeSize 0 (n : Int) 127 = (((n + 126) / 127 : Nat) : Int) := by
    unfold Builtin.Range.rangeSize
    rw [if_pos (by decide)]
    split <;> omega
  refine ⟨?_, hs⟩
  unfold Builtin.Range.small
  rw [hs, fitsLong (by omega) (by omega), fitsLong (by omega) (by omega), fitsLong (by omega) (by omega), fitsLong (by omega) (by omega), if_pos (by decide), fitsLong (by omega) (by omega)]
  simp
theorem IntsAre.append {vs ws : List Value} {ns ms : List Int} (h : IntsAre vs ns) (h' : IntsAre ws ms) : IntsAre (vs ++ ws) (ns ++ ms) := by
  induction h with
  | nil => exact h'
  | cons m u h ih => exact .cons m u ih
theorem IntsAre.nth {vs : List Value} {ns : List Int} (h : IntsAre vs ns) {i : Nat} {n : Int} (hn : ns[i]? = some n) : ∃ t, vs[i]? = some (.int n t) := by
  induction h generalizing i with
  | nil => simp at hn
  | cons m u h ih =>
    cases i with
    | zero => simp at hn; subst hn; exact ⟨u, rfl⟩
    | succ i => simpa using ih (by simpa using hn)
def octs (p n : Nat) : List Int := (List.range 6).map fun k => ((octF p n k : Nat) : Int)
theorem octs_eq (p n : Nat) : ((List.range 4).map fun k => ((oct p k : Nat) : Int)) ++ ((List.range 2).map fun k => ((oct n k : Nat) : Int)) = octs p n := rfl
theorem octs_get (p n i : Nat) (hi : i < 6) : (octs p n)[i]? = some ((octF p n i : Nat) : Int) := by
  unfold octs
  rw [List.getElem?_map, List.getElem?_range hi]; rfl
theorem pow_nat (a k : Nat) : (a : Int) ^ ((k : Int)).toNat = ((a ^ k : Nat) : Int) := by rw [Int.toNat_natCast, Int.natCast_pow]

section
variable {prog : Program} {w : World} {A : Around} {E : Value → Shared → Prop} {c : Cx} {σ : St} {l l' : List (Str × Value)} {ν ν' : List (Addr × OP)} {g : Array GenState} {env : Env} {P : GP}
theorem S_delta {before : Bs} {t : Tok} {d : Addr} {vs : List Value} {rows : List Row} {Q : Value → St → Prop} (G : GL P c.h) (hA : Room 2 A) (hx : HasL c ⟨l, ν, g⟩ d vs) (hr : RowsAre (HasT c ⟨l, ν, g⟩) vs rows)
    (hb : before.length ≤ 100000) (htot : total rows ≤ 1000000) (hn : rows.length ≤ 10000) (h : ∀ t, Q (.bytes (deltaB before rows).toArray t) ⟨l, ν, g⟩) :
    W prog w A E c ⟨l, ν, g⟩ (call (.ref (P.fa 13)) [.bytes before.toArray t, .ref d] []) Q := by
  refine W_fnC (binds := [("before", .bytes before.toArray t), ("rows", .ref d)]) (bl := [("before", .bytes before.toArray t), ("rows", .ref d)]) (κ := fun L => [(L + 3, isCell none), (L + 2, isCell none), (L + 1, isCell none)]) G hA.lt rfl (fun L => rfl) (fun c' z => ?_) rfl ["before", "rows"] ["before", "rows"]
  have G' := G.frz z
  have hx' : ∀ σ, HasL c' σ d vs := fun σ => hx.frz z
  have hr' : RowsAre (fun a ws => ∀ σ, HasT c' σ a ws) vs rows := hr.mono fun a ws hh σ => hh.frz z
  have hlen := hr.length
  have hA' : Room 1 (A.deeper (callEnvC (fdOf P 13) c'.L (P.fa 13))) := hA.deeper
  generalize A.deeper (callEnvC (fdOf P 13) c'.L (P.fa 13)) = A' at hA' ⊢
  refine W_execs_cons ?_
  walk_at "st"
  refine W_CallB bb_sum G' (W_args1 (W_LCl (cl := []) hA'.1 ?_ rfl ?_ rfl ?_ (fun _ => rfl)) rfl)
  case refine_2 => decide +kernel
  case refine_3 => decide +kernel
  walk_at "st"
  refine ⟨d, vs, fun i ys => IntsAre ys ((rows.take i).map fun r => (rowLen r : Int)), rfl, hx' _, by omega, .nil, ?_, ?_⟩
  · intro c2 z2 ia D J i ys v hv hi
    have G2 := G'.frz z2
    obtain ⟨a, ws, r, rfl, hrow, hvals, hT⟩ := hr'.at hv
    have hT2 : ∀ σ, HasT c2 σ a ws := HasT.kept hT z2
    have hle := rowLen_le hrow
    refine W_let_name (W_assign_name ?_)
    walk_at "st"
    refine W_tests_nil ?_
    simp only [if_true]
    walk_at "st"
    walk_at "st"
    walk_at "st"
    walk_at "st"
    walk_at "st"
    cases r with
    | ins b =>
      obtain ⟨t1, t2, rfl⟩ := hvals
      have hbl : b.length ≤ 1000000 := by have : rowLen (.ins b) = b.length := rfl; omega
      refine W_itemT (hT2 _) (by decide) (by decide) (j := 0) rfl rfl ?_
      walk_at "st"
      walk_at "st"
      walk_at "st"
      simp only [show decide ((0 : Int) ≤ -1) = false from rfl, Bool.false_eq_true, if_false]
      refine W_CallB bb_len G2 (W_args1 ?_ rfl)
      walk_at "st"
      walk_at "st"
      walk_at "st"
      refine W_itemT (hT2 _) (by decide) (by decide) (j := 1) rfl rfl ?_
      refine W_args0 (W_lenB (by omega) fun t' => ?_)
      refine ⟨?_, Le_sub (fun p hp => by cases hp) (List.Sublist.refl _) []⟩
      rw [List.take_add_one, hrow, List.map_append]
      exact IntsAre.snoc' hi _ _
    | cpy p n =>
      obtain ⟨t1, t2, rfl⟩ := hvals
      refine W_itemT (hT2 _) (by decide) (by decide) (j := 0) rfl rfl ?_
      walk_at "st"
      walk_at "st"
      walk_at "st"
      simp only [show decide ((0 : Int) ≤ p) = true from decide_eq_true (by omega), if_true]
      walk_at "st"
      walk_at "st"
      walk_at "st"
      refine W_itemT (hT2 _) (by decide) (by decide) (j := 1) rfl rfl ?_
      refine ⟨?_, Le_sub (fun p hp => by cases hp) (List.Sublist.refl _) []⟩
      rw [List.take_add_one, hrow, List.map_append]
      exact IntsAre.snoc' hi _ _
  intro D ys hi
  refine W_args0 ?_
  rw [List.take_of_length_le (by rw [hlen]; exact Nat.le_refl _)] at hi
  have hsum := total_int rows
  refine W_sumL hA'.1 (.inr (.head _)) hi (fun n hn => ?_) (by simp; omega) fun tw => ?_
  · obtain ⟨r, hr', rfl⟩ := List.mem_map.mp hn
    obtain ⟨i, hi'⟩ := List.getElem?_of_mem hr'
    have := rowLen_le hi'
    omega
  rw [hsum]
  refine W_le (Le_nu (List.sublist_cons_self _ _)) ?_
  walk_at "st"
  dsimp only
  refine W_execs_cons ?_
  walk_at "st"
  walk_at "st"
  refine W_CallF (i := 12) (by decide) nm12 G' (W_args1 ?_ rfl)
  refine W_CallB bb_len G' (W_args1 ?_ rfl)
  walk_at "st"
  refine W_args0 (W_lenB (by omega) fun _ => ?_)
  refine W_args0 (S_size G' hA' (by omega) fun _ => ?_)
  refine W_CallF (i := 12) (by decide) nm12 G' (W_args1 ?_ rfl)
  walk_at "st"
  refine W_args0 (S_size G' hA' (by omega) fun _ => ?_)
  have hs1 := sizeL_len before.length
  have hs2 := sizeL_len (total rows)
  refine W_addB (by rw [toB_len, toB_len]; omega) fun t0 => ?_
  walk_at "st"
  dsimp only
  refine W_execs_cons ?_
  refine W_For_list hA'.1 ?_
  walk_at "st"
  refine ⟨d, vs, fun i σ => ∃ o1 o2 o3 ρ t1 t2, σ = ⟨[("out", .bytes (toB (sizeL before.length) ++ toB (sizeL (total rows)) ++ encRows (rows.take i)).toArray t1), ("whole", .int (total rows : Nat) t2), ("before", .bytes before.toArray t), ("rows", .ref d)], (c'.L + 3, isCell o3) :: (c'.L + 2, isCell o2) :: (c'.L + 1, isCell o1) :: ρ, g⟩, rfl, fun _ _ _ => hx' _, ?_, ?_, ?_⟩
  · refine ⟨none, none, none, [], t0, tw, ?_⟩
    rw [show encRows (rows.take 0) = [] from rfl, List.append_nil]
  · rintro i v σ it hv ⟨o1, o2, o3, ρ, t1, t2, rfl⟩
    obtain ⟨a, ws, r, rfl, hrow, hvals, hT⟩ := hr'.at hv
    have hle := rowLen_le hrow
    have hi : i < rows.length := (List.getElem?_eq_some_iff.mp hrow).1
    have hel := encRows_len (rows.take i)
    have htk : (rows.take i).length = i := by rw [List.length_take]; omega
    have esn : encRows (rows.take (i + 1)) = encRows (rows.take i) ++ encRow r := by rw [List.take_add_one, hrow]; exact encRows_snoc _ _
    refine W_let_tuple (.head _) ?_
    cases r with
    | ins b =>
      obtain ⟨u1, u2, rfl⟩ := hvals
      have hbl : b.length ≤ 1000000 := by have : rowLen (.ins b) = b.length := rfl; omega
      refine W_assign_tuple hA'.1 (hT _) rfl rfl ?_
      refine W_inOrder_cons (W_assign_name (W_storeC (.tail (.tail (.tail .head))) ?_))
      refine W_inOrder_cons (W_assign_name (W_storeC (.tail (.tail .head)) ?_))
      refine W_inOrder_nil ?_
      refine W_execs_cons ?_
      walk_at "st"
      walk_at "st"
      refine W_Name (W_loadC (.inr (.tail _ (.tail _ (.tail _ (.head _))))) ?_)
      walk_at "st"
      walk_at "st"
      walk_at "st"
      simp only [show decide ((-1 : Int) < 0) = true from rfl, if_true]
      refine W_execs_cons ?_
      refine W_For_rangeS hA'.1 ?_
      refine W_CallT bb_range G' (W_args1 ?_ rfl)
      walk_at "st"
      refine W_args1 ?_ rfl
      refine W_CallB bb_len G' (W_args1 ?_ rfl)
      refine W_Name (W_loadC (.inr (.tail _ (.tail _ (.head _)))) ?_)
      refine W_args0 (W_lenB (by omega) fun _ => ?_)
      refine W_args1 ?_ rfl
      walk_at "st"
      refine W_args0 (W_range3 (by decide) (by decide) fun rg => ?_)
      obtain ⟨hsm, hsz⟩ := range127 b.length hbl
      refine ⟨rg, 0, b.length, 127, nChunks b, _, fun j σ => ∃ t1, σ = ⟨[("out", .bytes (toB (sizeL before.length) ++ toB (sizeL (total rows)) ++ encRows (rows.take i) ++ encInsTo b j).toArray t1), ("whole", .int (total rows : Nat) t2), ("before", .bytes before.toArray t), ("rows", .ref d)], (it, isLIter d (i + 1)) :: (c'.L + 3, isCell o3) :: (c'.L + 2, isCell (some (.bytes b.toArray u2))) :: (c'.L + 1, isCell (some (.int (-1) u1))) :: ρ, g⟩, rfl, hsm, hsz, rfl, ⟨t1, by rw [show encInsTo b 0 = [] from rfl, List.append_nil]⟩, ?_, ?_⟩
      · rintro j tk σ it2 J2 hj ⟨t1, rfl⟩
        have hch := chunkAt_len b j
        have hil := encInsTo_len b j
        have hjb : j < (b.length + 126) / 127 := hj
        refine W_let_name (W_assign_name ?_)
        rw [show (0 : Int) + (j : Int) * 127 = ((127 * j : Nat) : Int) by omega]
        walk_at "st"
        refine W_execs_cons ?_
        walk_at "st"
        walk_at "st"
        walk_at "st"
        refine W_CallT bb_bytes G' (W_args1 (W_List (W_args1 (W_CallB bb_len G' (W_args1 ?_ rfl)) rfl)) rfl)
        walk_at "st"
        refine W_Name (W_loadC (.inr (.tail _ (.tail _ (.tail _ (.head _))))) ?_)
        walk_at "st"
        walk_at "st"
        walk_at "st"
        walk_at "st"
        walk_at "st"
        walk_at "st"
        walk_at "st"
        walk_at "st"
        intro sl
        rw [show ((127 * j : Nat) : Int) + 127 = ((127 * j + 127 : Nat) : Int) from rfl]
        refine W_cutB (Int.natCast_nonneg _) (Int.natCast_nonneg _) (by omega) fun _ => ?_
        rw [Int.toNat_natCast, Int.toNat_natCast, show cut b (127 * j) (127 * j + 127) = chunkAt b j from rfl]
        refine W_args0 (W_lenB (by omega) fun _ => ?_)
        refine W_args0 (W_newList (by simp) fun d1 => ?_)
        refine W_args0 (W_bytesL hA'.1 (.inr (.head _)) (.cons _ _ .nil) (fun n hn => ?_) (by simp) fun _ => ?_)
        · rw [List.mem_singleton.mp hn]; omega
        walk_at "st"
        refine W_Name (W_loadC (.inr (.tail _ (.tail _ (.tail _ (.tail _ (.head _)))))) ?_)
        walk_at "st"
        walk_at "st"
        walk_at "st"
        walk_at "st"
        walk_at "st"
        walk_at "st"
        walk_at "st"
        walk_at "st"
        intro sl2
        rw [show ((127 * j : Nat) : Int) + 127 = ((127 * j + 127 : Nat) : Int) from rfl]
        refine W_cutB (Int.natCast_nonneg _) (Int.natCast_nonneg _) (by omega) fun _ => ?_
        rw [Int.toNat_natCast, Int.toNat_natCast, show cut b (127 * j) (127 * j + 127) = chunkAt b j from rfl]
        refine W_addB (by rw [toB_len]; simp only [List.length_singleton]; omega) fun _ => ?_
        have e1 : toB [((chunkAt b j).length : Int)] ++ chunkAt b j = encChunk (chunkAt b j) := rfl
        rw [e1]
        refine W_iaddB ?_ fun t3 => ?_
        · simp only [List.length_append, toB_len]
          have : (encChunk (chunkAt b j)).length ≤ 128 := by unfold encChunk; rw [List.length_cons]; omega
          omega
        walk_at "st"
        dsimp only
        walk_at "st"
        refine ⟨⟨[("out", .bytes (toB (sizeL before.length) ++ toB (sizeL (total rows)) ++ encRows (rows.take i) ++ encInsTo b (j + 1)).toArray t3), ("whole", .int (total rows : Nat) t2), ("before", .bytes before.toArray t), ("rows", .ref d)], (it2, J2) :: (it, isLIter d (i + 1)) :: (c'.L + 3, isCell o3) :: (c'.L + 2, isCell (some (.bytes b.toArray u2))) :: (c'.L + 1, isCell (some (.int (-1) u1))) :: ρ, g⟩, ?_, _, rfl, _, rfl⟩
        rw [show encInsTo b (j + 1) = encInsTo b j ++ encChunk (chunkAt b j) from rfl, ← List.append_assoc]
        exact Le_sub (fun p hp => .tail _ hp) (List.sublist_cons_self _ _) ["out", "whole", "before", "rows"]
      · rintro σ ⟨t1, rfl⟩
        dsimp only
        walk_at "st"
        dsimp only
        walk_at "st"
        refine ⟨_, Le_refl, _, rfl, some (.int (-1) u1), some (.bytes b.toArray u2), o3, ρ, t1, t2, ?_⟩
        rw [esn, ← List.append_assoc]
        rfl
    | cpy p n =>
      obtain ⟨u1, u2, rfl⟩ := hvals
      refine W_assign_tuple hA'.1 (hT _) rfl rfl ?_
      refine W_inOrder_cons (W_assign_name (W_storeC (.tail (.tail (.tail .head))) ?_))
      refine W_inOrder_cons (W_assign_name (W_storeC (.tail (.tail .head)) ?_))
      refine W_inOrder_nil ?_
      refine W_execs_cons ?_
      walk_at "st"
      walk_at "st"
      refine W_Name (W_loadC (.inr (.tail _ (.tail _ (.tail _ (.head _))))) ?_)
      walk_at "st"
      walk_at "st"
      walk_at "st"
      simp only [show decide ((p : Int) < 0) = false from decide_eq_false (by omega), Bool.false_eq_true, if_false]
      refine W_execs_cons ?_
      walk_at "st"
      walk_at "st"
      refine W_LCr (cl := [("place", c'.L + 1)]) hA'.1 ?_ rfl ?_ rfl ?_ (fun _ => rfl)
      case refine_2 => decide +kernel
      case refine_3 => decide +kernel
      refine W_CallT bb_range G' (W_args1 ?_ rfl)
      walk_at "st"
      refine W_args0 (W_range1 fun rg => ?_)
      refine ⟨rg, 0, 4, 4, _, fun i ys => IntsAre ys ((List.range i).map fun k => ((oct p k : Nat) : Int)), rfl, by decide, by decide, rfl, by decide, .nil, ?_, ?_⟩
      · intro c2 z2 ia D J i ys tk hi hys
        have hC : ∀ σ, HasC c2 σ (c'.L + 1) (.int p u1) := HasC.nu (.tail _ (.tail _ (.tail _ (.head _)))) z2
        have hp : 256 ^ i ≤ 256 ^ 3 := Nat.pow_le_pow_right (by decide) (by omega)
        have hp0 : 0 < 256 ^ i := Nat.pow_pos (by decide)
        refine W_let_name (W_assign_name ?_)
        rw [Int.zero_add]
        walk_at "st"
        refine W_tests_nil ?_
        simp only [if_true]
        walk_at "st"
        walk_at "st"
        refine W_Name (W_loadC (hC _) ?_)
        walk_at "st"
        walk_at "st"
        walk_at "st"
        refine W_pow (by omega) (by omega) (by decide) fun _ => ?_
        rw [show (256 : Int) ^ ((i : Int)).toNat = ((256 ^ i : Nat) : Int) from pow_nat 256 i]
        refine W_floordiv (by omega) (by rw [Int.natAbs_natCast]; omega) fun _ => ?_
        rw [fdiv_nat p (256 ^ i)]
        walk_at "st"
        refine W_mod (by decide) fun _ => ?_
        rw [show ((p / 256 ^ i : Nat) : Int).fmod 256 = ((oct p i : Nat) : Int) from fmod_nat (p / 256 ^ i) 256]
        refine ⟨?_, Le_sub (fun p hp => by cases hp) (List.Sublist.refl _) []⟩
        rw [List.range_succ, List.map_append]
        exact IntsAre.snoc' hys _ _
      intro D1 ys1 hys1
      refine W_LCr (cl := [("what", c'.L + 2)]) hA'.1 ?_ rfl ?_ rfl ?_ (fun _ => rfl)
      case refine_2 => decide +kernel
      case refine_3 => decide +kernel
      refine W_CallT bb_range G' (W_args1 ?_ rfl)
      walk_at "st"
      refine W_args0 (W_range1 fun rg2 => ?_)
      refine ⟨rg2, 0, 2, 2, _, fun i ys => IntsAre ys ((List.range i).map fun k => ((oct n k : Nat) : Int)), rfl, by decide, by decide, rfl, by decide, .nil, ?_, ?_⟩
      · intro c2 z2 ia D J i ys tk hi hys
        have hC : ∀ σ, HasC c2 σ (c'.L + 2) (.int n u2) := HasC.nu (.tail _ (.tail _ (.tail _ (.head _)))) z2
        have hp : 256 ^ i ≤ 256 ^ 3 := Nat.pow_le_pow_right (by decide) (by omega)
        have hp0 : 0 < 256 ^ i := Nat.pow_pos (by decide)
        refine W_let_name (W_assign_name ?_)
        rw [Int.zero_add]
        walk_at "st"
        refine W_tests_nil ?_
        simp only [if_true]
        walk_at "st"
        walk_at "st"
        refine W_Name (W_loadC (hC _) ?_)
        walk_at "st"
        walk_at "st"
        walk_at "st"
        refine W_pow (by omega) (by omega) (by decide) fun _ => ?_
        rw [show (256 : Int) ^ ((i : Int)).toNat = ((256 ^ i : Nat) : Int) from pow_nat 256 i]
        refine W_floordiv (by omega) (by rw [Int.natAbs_natCast]; omega) fun _ => ?_
        rw [fdiv_nat n (256 ^ i)]
        walk_at "st"
        refine W_mod (by decide) fun _ => ?_
        rw [show ((n / 256 ^ i : Nat) : Int).fmod 256 = ((oct n i : Nat) : Int) from fmod_nat (n / 256 ^ i) 256]
        refine ⟨?_, Le_sub (fun p hp => by cases hp) (List.Sublist.refl _) []⟩
        rw [List.range_succ, List.map_append]
        exact IntsAre.snoc' hys _ _
      intro D2 ys2 hys2
      have hoct : IntsAre (ys1 ++ ys2) (octs p n) := octs_eq p n ▸ IntsAre.append hys1 hys2
      have holen : (ys1 ++ ys2).length = 6 := hoct.length
      refine W_addL (.inr (.tail _ (.head _))) (.inr (.head _)) (by rw [← List.length_append, holen]; decide) fun D3 => ?_
      generalize ys1 ++ ys2 = os at hoct holen ⊢
      refine W_storeC (.tail (.tail (.tail (.tail .head)))) ?_
      refine W_le (Le_perm (ν' := (it, isLIter d (i + 1)) :: (c'.L + 3, isCell (some (.ref D3))) :: (c'.L + 2, isCell (some (.int n u2))) :: (c'.L + 1, isCell (some (.int p u1))) :: (D3, isList os) :: (D2, isList ys2) :: (D1, isList ys1) :: ρ) ?_) ?_
      · exact (List.perm_append_comm (l₁ := [(D3, isList os), (D2, isList ys2), (D1, isList ys1)]) (l₂ := [(it, isLIter d (i + 1)), (c'.L + 3, isCell (some (.ref D3))), (c'.L + 2, isCell (some (.int n u2))), (c'.L + 1, isCell (some (.int p u1)))])).append_right ρ
      dsimp only
      refine W_execs_cons ?_
      walk_at "st"
      walk_at "st"
      refine W_CallT bb_bytes G' (W_args1 ?_ rfl)
      walk_at "st"
      refine W_List (W_args1 ?_ rfl)
      walk_at "st"
      walk_at "st"
      refine W_CallB bb_sum G' (W_args1 (W_LCr (cl := [("octets", c'.L + 3)]) hA'.1 ?_ rfl ?_ rfl ?_ (fun _ => rfl)) rfl)
      case refine_2 => decide +kernel
      case refine_3 => decide +kernel
      refine W_CallT bb_range G' (W_args1 ?_ rfl)
      walk_at "st"
      refine W_args0 (W_range1 fun rg3 => ?_)
      refine ⟨rg3, 0, 6, 6, _, fun i ys => ∃ ns, IntsAre ys ns ∧ ns.sum = ((maskF (octF p n) i : Nat) : Int) ∧ (∀ m ∈ ns, 0 ≤ m ∧ m ≤ 64) ∧ ns.length ≤ i, rfl, by decide, by decide, rfl, by decide, ⟨[], .nil, rfl, (fun m hm => nomatch hm), Nat.le_refl _⟩, ?_, ?_⟩
      · rintro c2 z2 ia D J k ys tk hk ⟨ns, hi1, hi2, hi3, hi4⟩
        have hO : ∀ σ, HasC c2 σ (c'.L + 3) (.ref D3) := HasC.nu (.tail _ (.head _)) z2
        have hOL : ∀ σ, HasL c2 σ D3 os := HasL.nu (.tail _ (.tail _ (.tail _ (.tail _ (.head _))))) z2
        obtain ⟨to, hto⟩ := IntsAre.nth hoct (octs_get p n k hk)
        refine W_let_name (W_assign_name ?_)
        rw [Int.zero_add]
        walk_at "st"
        refine W_tests_one ?_
        walk_at "st"
        walk_at "st"
        refine W_Name (W_loadC (hO _) ?_)
        walk_at "st"
        refine W_itemL (hOL _) (by omega) (by omega) hto ?_
        walk_at "st"
        walk_at "st"
        walk_at "st"
        by_cases ho : octF p n k = 0
        · have e : (((octF p n k : Nat) : Int) != 0) = false := by simp [ho]
          simp only [e, Bool.false_eq_true, if_false]
          refine ⟨⟨ns, hi1, ?_, hi3, by omega⟩, Le_sub (fun p hp => by cases hp) (List.Sublist.refl _) []⟩
          rw [hi2]; simp [maskF, ho]
        · have e : (((octF p n k : Nat) : Int) != 0) = true := by simpa using ho
          simp only [e, if_true]
          walk_at "st"
          walk_at "st"
          walk_at "st"
          refine W_pow (by omega) (by omega) (by decide) fun _ => ?_
          rw [show (2 : Int) ^ ((k : Int)).toNat = ((2 ^ k : Nat) : Int) from pow_nat 2 k]
          have hp2 : 2 ^ k ≤ 2 ^ 5 := Nat.pow_le_pow_right (by decide) (by omega)
          refine ⟨⟨ns ++ [((2 ^ k : Nat) : Int)], IntsAre.snoc' hi1 _ _, ?_, fun m hm => ?_, by simp; omega⟩, Le_sub (fun p hp => by cases hp) (List.Sublist.refl _) []⟩
          · rw [List.sum_append, hi2]; simp [maskF, ho]
          · rcases List.mem_append.mp hm with hm | hm
            · exact hi3 m hm
            · rw [List.mem_singleton.mp hm]
              exact ⟨Int.natCast_nonneg _, Int.ofNat_le.mpr (show 2 ^ k ≤ 64 by omega)⟩
      rintro D4 ys4 ⟨ns4, hi1, hi2, hi3, hi4⟩
      refine W_args0 (W_sumL hA'.1 (.inr (.head _)) hi1 (fun m hm => by have := hi3 m hm; omega) (by omega) fun _ => ?_)
      rw [hi2]
      walk_at "st"
      rw [show (128 : Int) + ((maskF (octF p n) 6 : Nat) : Int) = ((128 + maskF (octF p n) 6 : Nat) : Int) from rfl]
      refine W_args0 (W_newList (by simp) fun D5 => ?_)
      refine W_LCl (cl := []) hA'.1 ?_ rfl ?_ rfl ?_ (fun _ => rfl)
      case refine_2 => decide +kernel
      case refine_3 => decide +kernel
      refine W_Name (W_loadC (.inr (.tail _ (.tail _ (.tail _ (.head _))))) ?_)
      refine ⟨D3, os, fun i ys => ∃ ns, IntsAre ys ns ∧ toB ns = tailF (octF p n) i ∧ (∀ m ∈ ns, 0 ≤ m ∧ m < 256) ∧ ns.length ≤ i, rfl, .inr (.tail _ (.tail _ (.tail _ (.tail _ (.tail _ (.tail _ (.head _))))))), by rw [holen]; decide, ⟨[], .nil, rfl, (fun m hm => nomatch hm), Nat.le_refl _⟩, ?_, ?_⟩
      · rintro c2 z2 ia D J k ys v hv ⟨ns, hj1, hj2, hj3, hj4⟩
        have hk : k < 6 := by rw [← holen]; exact (List.getElem?_eq_some_iff.mp hv).1
        obtain ⟨to, hto⟩ := IntsAre.nth hoct (octs_get p n k hk)
        rw [hv] at hto
        cases hto
        refine W_let_name (W_assign_name ?_)
        walk_at "st"
        refine W_tests_one ?_
        walk_at "st"
        walk_at "st"
        walk_at "st"
        walk_at "st"
        walk_at "st"
        by_cases ho : octF p n k = 0
        · have e : (((octF p n k : Nat) : Int) != 0) = false := by simp [ho]
          simp only [e, Bool.false_eq_true, if_false]
          refine ⟨⟨ns, hj1, ?_, hj3, by omega⟩, Le_sub (fun p hp => by cases hp) (List.Sublist.refl _) []⟩
          rw [hj2]; simp [tailF, ho]
        · have e : (((octF p n k : Nat) : Int) != 0) = true := by simpa using ho
          simp only [e, if_true]
          walk_at "st"
          have hlt := octF_lt p n k
          refine ⟨⟨ns ++ [((octF p n k : Nat) : Int)], IntsAre.snoc' hj1 _ _, ?_, fun m hm => ?_, by simp; omega⟩, Le_sub (fun p hp => by cases hp) (List.Sublist.refl _) []⟩
          · rw [toB_snoc, hj2]; simp [tailF, ho]
          · rcases List.mem_append.mp hm with hm | hm
            · exact hj3 m hm
            · rw [List.mem_singleton.mp hm]; omega
      rintro D6 ys6 ⟨ns6, hj1, hj2, hj3, hj4⟩
      rw [holen] at hj2 hj4
      have hl6 := hj1.length
      refine W_addL (.inr (.tail _ (.head _))) (.inr (.head _)) (by simp; omega) fun D7 => ?_
      have hm6 := maskF_lt (octF p n) 6
      refine W_args0 (W_bytesL (ns := ((128 + maskF (octF p n) 6 : Nat) : Int) :: ns6) hA'.1 (.inr (.head _)) (.cons _ _ hj1) (fun m hm => ?_) (by simp; omega) fun _ => ?_)
      · rcases List.mem_cons.mp hm with rfl | hm
        · omega
        · exact hj3 m hm
      have e1 : toB (((128 + maskF (octF p n) 6 : Nat) : Int) :: ns6) = encRow (.cpy p n) := by rw [toB_cons, hj2]; rfl
      rw [e1]
      have hcl := encCpy_len p n
      refine W_iaddB ?_ fun t3 => ?_
      · simp only [List.length_append, toB_len]
        have : (encRow (.cpy p n)).length = (encCpy p n).length := rfl
        omega
      walk_at "st"
      dsimp only
      walk_at "st"
      dsimp only
      walk_at "st"
      refine ⟨⟨[("out", .bytes (toB (sizeL before.length) ++ toB (sizeL (total rows)) ++ encRows (rows.take (i + 1))).toArray t3), ("whole", .int (total rows : Nat) t2), ("before", .bytes before.toArray t), ("rows", .ref d)], (it, isLIter d (i + 1)) :: (c'.L + 3, isCell (some (.ref D3))) :: (c'.L + 2, isCell (some (.int n u2))) :: (c'.L + 1, isCell (some (.int p u1))) :: (D3, isList os) :: (D2, isList ys2) :: (D1, isList ys1) :: ρ, g⟩, ?_, _, rfl, some (.int p u1), some (.int n u2), some (.ref D3), _, t3, t2, rfl⟩
      rw [esn, ← List.append_assoc]
      exact Le_nu (.cons _ (.cons _ (.cons _ (.cons _ (List.Sublist.refl _)))))
  · rintro σ ⟨o1, o2, o3, ρ, t1, t2, rfl⟩
    rw [List.take_of_length_le (by rw [hlen]; exact Nat.le_refl _)]
    dsimp only
    refine W_execs_cons ?_
    walk_at "st"
    walk_at "st"
    exact ⟨_, Le_drop, h _⟩
end
def piece (k p n : Nat) (r : Row) : List Row :=
  if max p k < min (p + n) (k + rowLen r) then
    [match r with
      | .ins b => .ins (cut b (max p k - k) (min (p + n) (k + b.length) - k))
      | .cpy q m => .cpy (q + max p k - k) (min (p + n) (k + m) - max p k)]
  else []
def piecesTo (first : List Row) (p n : Nat) : Nat → List Row
  | 0 => []
  | k + 1 => piecesTo first p n k ++ (match first[k]? with | some r => piece (total (first.take k)) p n r | none => [])
def laidRow (first : List Row) : Row → List Row
  | .ins b => [.ins b]
  | .cpy p n => piecesTo first p n first.length
def laid (first second : List Row) : List Row := (second.map (laidRow first)).flatten
theorem piecesTo_succ {first : List Row} {p n k : Nat} {r : Row} (h : first[k]? = some r) : piecesTo first p n (k + 1) = piecesTo first p n k ++ piece (total (first.take k)) p n r := by rw [piecesTo, h]
theorem piece_len (k p n : Nat) (r : Row) : (piece k p n r).length ≤ 1 := by unfold piece; split <;> simp
theorem piecesTo_len (first : List Row) (p n : Nat) : ∀ k, (piecesTo first p n k).length ≤ k
  | 0 => by simp [piecesTo]
  | k + 1 => by
    have := piecesTo_len first p n k
    rw [piecesTo, List.length_append]
    split
    · rename_i r _
      have := piece_len (total (first.take k)) p n r
      omega
    · simp; omega
theorem laidRow_len (first : List Row) (r : Row) : (laidRow first r).length ≤ first.length + 1 := by
  cases r with
  | ins b => simp [laidRow]
  | cpy p n => have := piecesTo_len first p n first.length; show (piecesTo first p n first.length).length ≤ _; omega
theorem laid_len (first second : List Row) : (laid first second).length ≤ second.length * (first.length + 1) := by
  induction second with
  | nil => simp [laid]
  | cons r rest ih =>
    have := laidRow_len first r
    have e : laid first (r :: rest) = laidRow first r ++ laid first rest := by simp [laid]
    rw [e, List.length_append, List.length_cons, Nat.succ_mul]
    omega
theorem laid_snoc (first rows : List Row) (r : Row) : laid first (rows ++ [r]) = laid first rows ++ laidRow first r := by simp [laid]

section
variable {prog : Program} {w : World} {A : Around} {E : Value → Shared → Prop} {c : Cx} {σ : St} {l l' : List (Str × Value)} {ν ν' : List (Addr × OP)} {g : Array GenState} {env : Env} {P : GP}
theorem S_laid {d1 d2 : Addr} {vs1 vs2 : List Value} {first second : List Row} {Q : Value → St → Prop} (G : GL P c.h) (hA : Room 1 A) (hx1 : HasL c ⟨l, ν, g⟩ d1 vs1) (hr1 : RowsAre (HasT c ⟨l, ν, g⟩) vs1 first)
    (hx2 : HasL c ⟨l, ν, g⟩ d2 vs2) (hr2 : RowsAre (HasT c ⟨l, ν, g⟩) vs2 second)
    (hn1 : first.length ≤ 1000) (hn2 : second.length ≤ 1000) (htot1 : total first ≤ 1000000) (h : ∀ o vs' τ, RowsAre (fun a ws => (a, isTup ws) ∈ τ) vs' (laid first second) → Q (.ref o) ⟨l, (o, isList vs') :: (τ ++ ν), g⟩) :
    W prog w A E c ⟨l, ν, g⟩ (call (.ref (P.fa 16)) [.ref d1, .ref d2] []) Q := by
  refine W_fn (binds := [("first", .ref d1), ("second", .ref d2)]) G hA.lt rfl (fun c' z => ?_) ["first", "second"]
  have G' := G.frz z
  have hx1' : ∀ σ, HasL c' σ d1 vs1 := fun σ => hx1.frz z
  have hr1' : RowsAre (fun a ws => ∀ σ, HasT c' σ a ws) vs1 first := hr1.mono fun a ws hh σ => hh.frz z
  have hx2' : ∀ σ, HasL c' σ d2 vs2 := fun σ => hx2.frz z
  have hr2' : RowsAre (fun a ws => ∀ σ, HasT c' σ a ws) vs2 second := hr2.mono fun a ws hh σ => hh.frz z
  have hA' : Room 0 (A.deeper (callEnv (fdOf P 16) c'.L (P.fa 16))) := hA.deeper
  generalize A.deeper (callEnv (fdOf P 16) c'.L (P.fa 16)) = A' at hA' ⊢
  refine W_execs_cons ?_
  walk_at "st"
  refine W_List (W_args0 (W_newList (by simp) fun o => ?_))
  walk_at "st"
  dsimp only
  refine W_execs_cons ?_
  refine W_For_list hA'.1 ?_
  walk_at "st"
  refine ⟨d2, vs2, fun i σ => ∃ vs' τ ρ, σ = ⟨[("out", .ref o), ("first", .ref d1), ("second", .ref d2)], (o, isList vs') :: (τ ++ ρ), g⟩ ∧ RowsAre (fun a ws => (a, isTup ws) ∈ τ) vs' (laid first (second.take i)), rfl, fun _ _ _ => hx2' _, ⟨[], [], [], rfl, .nil⟩, ?_, ?_⟩
  · rintro i v σ it hv ⟨vs', τ, ρ, rfl, hrows⟩
    obtain ⟨a, ws, r, rfl, hrow, hvals, hT⟩ := hr2'.at hv
    have hi : i < second.length := (List.getElem?_eq_some_iff.mp hrow).1
    have htk : (second.take i).length = i := by rw [List.length_take]; omega
    have hlen := hrows.length
    have hll := laid_len first (second.take i)
    have hmul : i * (first.length + 1) ≤ 1000 * 1001 := Nat.mul_le_mul (by omega) (by omega)
    rw [htk] at hll
    have esn : laid first (second.take (i + 1)) = laid first (second.take i) ++ laidRow first r := by rw [List.take_add_one, hrow]; exact laid_snoc _ _ _
    refine W_let_tuple (.head _) ?_
    cases r with
    | ins b =>
      obtain ⟨u1, u2, rfl⟩ := hvals
      refine W_assign_tuple hA'.1 (hT _) rfl rfl ?_
      refine W_inOrder_cons (W_assign_name ?_)
      walk_at "st"
      refine W_inOrder_cons (W_assign_name ?_)
      walk_at "st"
      refine W_inOrder_nil ?_
      refine W_execs_cons ?_
      walk_at "st"
      walk_at "st"
      walk_at "st"
      walk_at "st"
      walk_at "st"
      walk_at "st"
      simp only [show decide ((-1 : Int) < 0) = true from rfl, if_true]
      refine W_execs_cons (W_Expr (W_append ?_))
      walk_at "st"
      refine ⟨o, vs', rfl, .tail _ (.head _), ?_⟩
      refine W_Tuple (W_args1 ?_ rfl)
      walk_at "st"
      refine W_args1 ?_ rfl
      walk_at "st"
      refine W_args0 (W_newTuple (by simp) fun T2 => ?_)
      refine W_append_call (.tail (.tail .head)) (by omega) ?_
      dsimp only
      walk_at "st"
      dsimp only
      walk_at "st"
      refine ⟨⟨[("out", .ref o), ("first", .ref d1), ("second", .ref d2)], (it, isLIter d2 (i + 1)) :: (o, isList (vs' ++ [.ref T2])) :: (((T2, isTup [.int (-1) u1, .bytes b.toArray u2]) :: τ) ++ ρ), g⟩, ?_, _, rfl, _, _, ρ, rfl, ?_⟩
      · exact Le_lp (fun p hp => .tail _ (.tail _ hp)) ((List.perm_middle (l₁ := [(it, isLIter d2 (i + 1)), (o, _)])).symm) ["out", "first", "second"]
      · rw [esn]
        exact RowsAre.snoc (hrows.mono fun a ws hm => .tail _ hm) ⟨_, _, rfl⟩ (.head _)
    | cpy p n =>
      obtain ⟨u1, u2, rfl⟩ := hvals
      refine W_assign_tuple hA'.1 (hT _) rfl rfl ?_
      refine W_inOrder_cons (W_assign_name ?_)
      walk_at "st"
      refine W_inOrder_cons (W_assign_name ?_)
      walk_at "st"
      refine W_inOrder_nil ?_
      refine W_execs_cons ?_
      walk_at "st"
      walk_at "st"
      walk_at "st"
      walk_at "st"
      walk_at "st"
      walk_at "st"
      simp only [show decide ((p : Int) < 0) = false from decide_eq_false (by omega), Bool.false_eq_true, if_false]
      refine W_execs_cons ?_
      walk_at "st"
      refine W_int fun t0 => ?_
      walk_at "st"
      dsimp only
      refine W_execs_cons ?_
      refine W_For_list hA'.1 ?_
      walk_at "st"
      refine ⟨d1, vs1, fun k σ => ∃ vs' τ ρ t, σ = ⟨[("at", .int (total (first.take k) : Nat) t), ("what", .int n u2), ("place", .int p u1), ("out", .ref o), ("first", .ref d1), ("second", .ref d2)], (it, isLIter d2 (i + 1)) :: (o, isList vs') :: (τ ++ ρ), g⟩ ∧ RowsAre (fun a ws => (a, isTup ws) ∈ τ) vs' (laid first (second.take i) ++ piecesTo first p n k), rfl, fun _ _ _ => hx1' _, ?_, ?_, ?_⟩
      · exact ⟨vs', τ, ρ, t0, rfl, by rw [show piecesTo first p n 0 = [] from rfl, List.append_nil]; exact hrows⟩
      · clear hrows hlen
        rintro k v σ it2 hv2 ⟨vs2', τ2, ρ2, t, rfl, hrows⟩
        obtain ⟨a2, ws2, r2, rfl, hrow2, hvals2, hT2⟩ := hr1'.at hv2
        have hlen := hrows.length
        have hpl := piecesTo_len first p n k
        have hk : k < first.length := (List.getElem?_eq_some_iff.mp hrow2).1
        have hle2 := rowLen_le hrow2
        have epc := piecesTo_succ (p := p) (n := n) hrow2
        have etk : total (first.take (k + 1)) = total (first.take k) + rowLen r2 := by rw [List.take_add_one, hrow2]; exact total_snoc _ _
        generalize hat : total (first.take k) = at' at *
        rw [List.length_append] at hlen
        refine W_let_tuple (.head _) ?_
        cases r2 with
        | ins b =>
          obtain ⟨v1, v2, rfl⟩ := hvals2
          have hrl : rowLen (.ins b) = b.length := rfl
          refine W_assign_tuple hA'.1 (hT2 _) rfl rfl ?_
          refine W_inOrder_cons (W_assign_name ?_)
          walk_at "st"
          refine W_inOrder_cons (W_assign_name ?_)
          walk_at "st"
          refine W_inOrder_nil ?_
          refine W_execs_cons ?_
          walk_at "st"
          walk_at "st"
          walk_at "st"
          walk_at "st"
          walk_at "st"
          walk_at "st"
          walk_at "st"
          simp only [show decide ((-1 : Int) < 0) = true from rfl, if_true]
          refine W_CallB bb_len G' (W_args1 ?_ rfl)
          walk_at "st"
          refine W_args0 (W_lenB (by omega) fun _ => ?_)
          walk_at "st"
          try dsimp only
          refine W_execs_cons ?_
          refine W_AssignSwap (names := ["low", "high"]) hA'.1 ?_ rfl (by kernel_rfl)
          refine W_Tuple (W_args1 ?_ rfl)
          refine W_CallB bb_max G' (W_args1 ?_ rfl)
          walk_at "st"
          refine W_args1 ?_ rfl
          walk_at "st"
          refine W_args0 (W_max2 hA'.1 fun _ => ?_)
          refine W_args1 ?_ rfl
          refine W_CallB bb_min G' (W_args1 ?_ rfl)
          walk_at "st"
          walk_at "st"
          walk_at "st"
          walk_at "st"
          refine W_args1 ?_ rfl
          walk_at "st"
          walk_at "st"
          walk_at "st"
          walk_at "st"
          refine W_args0 (W_min2 hA'.1 fun _ => ?_)
          rw [show max (p : Int) (at' : Int) = ((max p at' : Nat) : Int) by omega, show min ((p : Int) + (n : Int)) ((at' : Int) + (b.length : Int)) = ((min (p + n) (at' + b.length) : Nat) : Int) by omega]
          refine W_args0 (W_newTuple (by simp) fun T3 => ?_)
          refine ⟨T3, _, rfl, .inr (.head _), rfl, ?_⟩
          refine W_inOrder_cons (W_bindName ?_)
          walk_at "st"
          refine W_inOrder_cons (W_bindName ?_)
          walk_at "st"
          refine W_inOrder_nil ?_
          refine W_execs_cons ?_
          walk_at "st"
          walk_at "st"
          walk_at "st"
          walk_at "st"
          walk_at "st"
          walk_at "st"
          by_cases hlt : max p at' < min (p + n) (at' + b.length)
          · simp only [show decide (((max p at' : Nat) : Int) < ((min (p + n) (at' + b.length) : Nat) : Int)) = true from decide_eq_true (by omega), if_true]
            refine W_execs_cons (W_Expr (W_append ?_))
            walk_at "st"
            refine ⟨o, vs2', rfl, .tail _ (.tail _ (.tail _ (.head _))), ?_⟩
            walk_at "st"
            walk_at "st"
            walk_at "st"
            walk_at "st"
            walk_at "st"
            walk_at "st"
            simp only [show decide ((-1 : Int) < 0) = true from rfl, if_true]
            refine W_Tuple (W_args1 ?_ rfl)
            walk_at "st"
            walk_at "st"
            refine W_neg fun tn => ?_
            refine W_args1 ?_ rfl
            walk_at "st"
            walk_at "st"
            walk_at "st"
            walk_at "st"
            walk_at "st"
            walk_at "st"
            walk_at "st"
            walk_at "st"
            walk_at "st"
            walk_at "st"
            walk_at "st"
            walk_at "st"
            walk_at "st"
            intro sl
            rw [show ((max p at' : Nat) : Int) - (at' : Int) = ((max p at' - at' : Nat) : Int) by omega, show ((min (p + n) (at' + b.length) : Nat) : Int) - (at' : Int) = ((min (p + n) (at' + b.length) - at' : Nat) : Int) by omega]
            refine W_cutB (Int.natCast_nonneg _) (Int.natCast_nonneg _) (by omega) fun tb => ?_
            rw [Int.toNat_natCast, Int.toNat_natCast]
            refine W_args0 (W_newTuple (by simp) fun T2 => ?_)
            refine W_append_call (.tail (.tail (.tail (.tail .head)))) (by omega) ?_
            dsimp only
            walk_at "st"
            dsimp only
            refine W_execs_cons ?_
            walk_at "st"
            walk_at "st"
            walk_at "st"
            refine W_iadd fun ta => ?_
            rw [show (at' : Int) + (b.length : Int) = ((at' + b.length : Nat) : Int) from rfl]
            walk_at "st"
            dsimp only
            walk_at "st"
            refine ⟨⟨[("at", .int (total (first.take (k + 1)) : Nat) ta), ("what", .int n u2), ("place", .int p u1), ("out", .ref o), ("first", .ref d1), ("second", .ref d2)], (it2, isLIter d1 (k + 1)) :: (it, isLIter d2 (i + 1)) :: (o, isList (vs2' ++ [.ref T2])) :: (((T2, isTup [.int (-1) tn, .bytes (cut b (max p at' - at') (min (p + n) (at' + b.length) - at')).toArray tb]) :: τ2) ++ ρ2), g⟩, ?_, _, rfl, _, _, ρ2, _, rfl, ?_⟩
            · rw [etk]
              exact Le_trans (Le_nu (.cons_cons _ (.cons _ (List.Sublist.refl _)))) (Le_lp (fun p hp => .tail _ (.tail _ (.tail _ (.tail _ (.tail _ hp))))) ((List.perm_middle (l₁ := [(it2, isLIter d1 (k + 1)), (it, isLIter d2 (i + 1)), (o, _)])).symm) ["at", "what", "place", "out", "first", "second"])
            · rw [epc, ← List.append_assoc]
              rw [show piece at' p n (.ins b) = [.ins (cut b (max p at' - at') (min (p + n) (at' + b.length) - at'))] from if_pos hlt]
              exact RowsAre.snoc (hrows.mono fun a ws hm => .tail _ hm) ⟨_, _, rfl⟩ (.head _)
          · simp only [show decide (((max p at' : Nat) : Int) < ((min (p + n) (at' + b.length) : Nat) : Int)) = false from decide_eq_false (by omega), Bool.false_eq_true, if_false]
            walk_at "st"
            dsimp only
            refine W_execs_cons ?_
            walk_at "st"
            walk_at "st"
            walk_at "st"
            refine W_iadd fun ta => ?_
            rw [show (at' : Int) + (b.length : Int) = ((at' + b.length : Nat) : Int) from rfl]
            walk_at "st"
            dsimp only
            walk_at "st"
            refine ⟨⟨[("at", .int (total (first.take (k + 1)) : Nat) ta), ("what", .int n u2), ("place", .int p u1), ("out", .ref o), ("first", .ref d1), ("second", .ref d2)], (it2, isLIter d1 (k + 1)) :: (it, isLIter d2 (i + 1)) :: (o, isList vs2') :: (τ2 ++ ρ2), g⟩, ?_, _, rfl, _, τ2, ρ2, _, rfl, ?_⟩
            · rw [etk]
              exact Le_trans (Le_nu (.cons _ (List.Sublist.refl _))) (Le_sub (fun p hp => .tail _ (.tail _ (.tail _ (.tail _ (.tail _ hp))))) (List.Sublist.refl _) ["at", "what", "place", "out", "first", "second"])
            · rw [epc, show piece at' p n (.ins b) = [] from if_neg hlt, List.append_nil]
              exact hrows
        | cpy q m =>
          obtain ⟨v1, v2, rfl⟩ := hvals2
          have hrl : rowLen (.cpy q m) = m := rfl
          refine W_assign_tuple hA'.1 (hT2 _) rfl rfl ?_
          refine W_inOrder_cons (W_assign_name ?_)
          walk_at "st"
          refine W_inOrder_cons (W_assign_name ?_)
          walk_at "st"
          refine W_inOrder_nil ?_
          refine W_execs_cons ?_
          walk_at "st"
          walk_at "st"
          walk_at "st"
          walk_at "st"
          walk_at "st"
          walk_at "st"
          walk_at "st"
          simp only [show decide ((q : Int) < 0) = false from decide_eq_false (by omega), Bool.false_eq_true, if_false]
          walk_at "st"
          walk_at "st"
          try dsimp only
          refine W_execs_cons ?_
          refine W_AssignSwap (names := ["low", "high"]) hA'.1 ?_ rfl (by kernel_rfl)
          refine W_Tuple (W_args1 ?_ rfl)
          refine W_CallB bb_max G' (W_args1 ?_ rfl)
          walk_at "st"
          refine W_args1 ?_ rfl
          walk_at "st"
          refine W_args0 (W_max2 hA'.1 fun _ => ?_)
          refine W_args1 ?_ rfl
          refine W_CallB bb_min G' (W_args1 ?_ rfl)
          walk_at "st"
          walk_at "st"
          walk_at "st"
          walk_at "st"
          refine W_args1 ?_ rfl
          walk_at "st"
          walk_at "st"
          walk_at "st"
          walk_at "st"
          refine W_args0 (W_min2 hA'.1 fun _ => ?_)
          rw [show max (p : Int) (at' : Int) = ((max p at' : Nat) : Int) by omega, show min ((p : Int) + (n : Int)) ((at' : Int) + (m : Int)) = ((min (p + n) (at' + m) : Nat) : Int) by omega]
          refine W_args0 (W_newTuple (by simp) fun T3 => ?_)
          refine ⟨T3, _, rfl, .inr (.head _), rfl, ?_⟩
          refine W_inOrder_cons (W_bindName ?_)
          walk_at "st"
          refine W_inOrder_cons (W_bindName ?_)
          walk_at "st"
          refine W_inOrder_nil ?_
          refine W_execs_cons ?_
          walk_at "st"
          walk_at "st"
          walk_at "st"
          walk_at "st"
          walk_at "st"
          walk_at "st"
          by_cases hlt : max p at' < min (p + n) (at' + m)
          · simp only [show decide (((max p at' : Nat) : Int) < ((min (p + n) (at' + m) : Nat) : Int)) = true from decide_eq_true (by omega), if_true]
            refine W_execs_cons (W_Expr (W_append ?_))
            walk_at "st"
            refine ⟨o, vs2', rfl, .tail _ (.tail _ (.tail _ (.head _))), ?_⟩
            walk_at "st"
            walk_at "st"
            walk_at "st"
            walk_at "st"
            walk_at "st"
            walk_at "st"
            simp only [show decide ((q : Int) < 0) = false from decide_eq_false (by omega), Bool.false_eq_true, if_false]
            refine W_Tuple (W_args1 ?_ rfl)
            walk_at "st"
            walk_at "st"
            walk_at "st"
            walk_at "st"
            walk_at "st"
            walk_at "st"
            refine W_sub fun tp => ?_
            refine W_args1 ?_ rfl
            walk_at "st"
            walk_at "st"
            walk_at "st"
            refine W_sub fun tq => ?_
            rw [show (q : Int) + ((max p at' : Nat) : Int) - (at' : Int) = ((q + max p at' - at' : Nat) : Int) by omega, show ((min (p + n) (at' + m) : Nat) : Int) - ((max p at' : Nat) : Int) = ((min (p + n) (at' + m) - max p at' : Nat) : Int) by omega]
            refine W_args0 (W_newTuple (by simp) fun T2 => ?_)
            refine W_append_call (.tail (.tail (.tail (.tail .head)))) (by omega) ?_
            dsimp only
            walk_at "st"
            dsimp only
            refine W_execs_cons ?_
            walk_at "st"
            walk_at "st"
            walk_at "st"
            refine W_iadd fun ta => ?_
            rw [show (at' : Int) + (m : Int) = ((at' + m : Nat) : Int) from rfl]
            walk_at "st"
            dsimp only
            walk_at "st"
            refine ⟨⟨[("at", .int (total (first.take (k + 1)) : Nat) ta), ("what", .int n u2), ("place", .int p u1), ("out", .ref o), ("first", .ref d1), ("second", .ref d2)], (it2, isLIter d1 (k + 1)) :: (it, isLIter d2 (i + 1)) :: (o, isList (vs2' ++ [.ref T2])) :: (((T2, isTup [.int ((q + max p at' - at' : Nat) : Int) tp, .int ((min (p + n) (at' + m) - max p at' : Nat) : Int) tq]) :: τ2) ++ ρ2), g⟩, ?_, _, rfl, _, _, ρ2, _, rfl, ?_⟩
            · rw [etk]
              exact Le_trans (Le_nu (.cons_cons _ (.cons _ (List.Sublist.refl _)))) (Le_lp (fun p hp => .tail _ (.tail _ (.tail _ (.tail _ (.tail _ hp))))) ((List.perm_middle (l₁ := [(it2, isLIter d1 (k + 1)), (it, isLIter d2 (i + 1)), (o, _)])).symm) ["at", "what", "place", "out", "first", "second"])
            · rw [epc, ← List.append_assoc]
              rw [show piece at' p n (.cpy q m) = [.cpy (q + max p at' - at') (min (p + n) (at' + m) - max p at')] from if_pos hlt]
              exact RowsAre.snoc (hrows.mono fun a ws hm => .tail _ hm) ⟨_, _, rfl⟩ (.head _)
          · simp only [show decide (((max p at' : Nat) : Int) < ((min (p + n) (at' + m) : Nat) : Int)) = false from decide_eq_false (by omega), Bool.false_eq_true, if_false]
            walk_at "st"
            dsimp only
            refine W_execs_cons ?_
            walk_at "st"
            walk_at "st"
            walk_at "st"
            refine W_iadd fun ta => ?_
            rw [show (at' : Int) + (m : Int) = ((at' + m : Nat) : Int) from rfl]
            walk_at "st"
            dsimp only
            walk_at "st"
            refine ⟨⟨[("at", .int (total (first.take (k + 1)) : Nat) ta), ("what", .int n u2), ("place", .int p u1), ("out", .ref o), ("first", .ref d1), ("second", .ref d2)], (it2, isLIter d1 (k + 1)) :: (it, isLIter d2 (i + 1)) :: (o, isList vs2') :: (τ2 ++ ρ2), g⟩, ?_, _, rfl, _, τ2, ρ2, _, rfl, ?_⟩
            · rw [etk]
              exact Le_trans (Le_nu (.cons _ (List.Sublist.refl _))) (Le_sub (fun p hp => .tail _ (.tail _ (.tail _ (.tail _ (.tail _ hp))))) (List.Sublist.refl _) ["at", "what", "place", "out", "first", "second"])
            · rw [epc, show piece at' p n (.cpy q m) = [] from if_neg hlt, List.append_nil]
              exact hrows
      · clear hrows hlen
        rintro σ ⟨vs2', τ2, ρ2, t, rfl, hrows⟩
        rw [hr1'.length] at hrows
        dsimp only
        walk_at "st"
        dsimp only
        walk_at "st"
        refine ⟨⟨[("out", .ref o), ("first", .ref d1), ("second", .ref d2)], (it, isLIter d2 (i + 1)) :: (o, isList vs2') :: (τ2 ++ ρ2), g⟩, ?_, _, rfl, _, τ2, ρ2, rfl, ?_⟩
        · exact Le_sub (fun p hp => .tail _ (.tail _ (.tail _ hp))) (List.Sublist.refl _) ["out", "first", "second"]
        · rw [esn]; exact hrows
  · rintro σ ⟨vs', τ, ρ, rfl, hrows⟩
    rw [List.take_of_length_le (by rw [hr2'.length]; exact Nat.le_refl _)] at hrows
    dsimp only
    refine W_execs_cons ?_
    walk_at "st"
    walk_at "st"
    refine ⟨⟨l, (o, isList vs') :: (τ ++ ν), g⟩, ?_, h o vs' τ hrows⟩
    refine Le_nu ?_
    simp only [List.cons_append, List.append_assoc]
    exact ((List.sublist_append_right ρ ν).append_left τ).cons_cons _
end
/-- what the generator yields for an insert of s octets of T at o -/
def insY (T : Bs) (o s : Nat) : List Bs := if h : s ≤ 127 then [toB [(s : Int)], cut T o (o + s)] else toB [127] :: cut T o (o + 127) :: insY T (o + 127) (s - 127)
termination_by s
decreasing_by omega
theorem insY_small {T : Bs} {o s : Nat} (h : s ≤ 127) : insY T o s = [toB [(s : Int)], cut T o (o + s)] := by rw [insY, dif_pos h]
theorem insY_big {T : Bs} {o s : Nat} (h : ¬ s ≤ 127) : insY T o s = toB [127] :: cut T o (o + 127) :: insY T (o + 127) (s - 127) := by rw [insY, dif_neg h]
def opY (T : Bs) (op : Op) : List Bs := if op.eq then (if op.i1 < op.i2 then [encCpy op.i1 (op.i2 - op.i1)] else []) else insY T op.j1 (op.j2 - op.j1)
def opsY (T : Bs) (ops : List Op) : List Bs := (ops.map (opY T)).flatten
def createY (base T : Bs) (ops : List Op) : List Bs := toB (sizeL base.length) :: toB (sizeL T.length) :: opsY T ops
theorem opsY_drop {T : Bs} {ops : List Op} {i : Nat} {op : Op} (h : ops[i]? = some op) : opsY T (ops.drop i) = opY T op ++ opsY T (ops.drop (i + 1)) := by
  obtain ⟨hi, e⟩ := List.getElem?_eq_some_iff.mp h
  rw [List.drop_eq_getElem_cons hi, e]
  simp [opsY]
structure OpOk (op : Op) : Prop where
  i : op.i1 ≤ op.i2
  d : op.i2 - op.i1 ≤ 65535
  j : op.j1 ≤ op.j2

section
variable {prog : Program} {w : World} {A : Around} {E : Value → Shared → Prop} {c : Cx} {σ : St} {l l' : List (Str × Value)} {ν ν' : List (Addr × OP)} {g : Array GenState} {env : Env} {P : GP}
/-- what the generator leans on -/
structure GK (P : GP) (d : Addr) (vs : List Value) (ops : List Op) (cx : Cx) : Prop where
  gl : GL P cx.h
  ol : ∀ σ, HasL cx σ d vs
  oa : OpsAre (fun a ws => ∀ σ, HasT cx σ a ws) vs ops
theorem goes_create {base T : Bs} {t1 t2 : Tok} {d : Addr} {vs : List Value} {ops : List Op} {L' : Addr} (hA : Room 2 A) (hb : base.length ≤ 1000000) (hT : T.length ≤ 1000000) (hops : ∀ op ∈ ops, OpOk op) :
    Goes (model prog w) A (GK P d vs ops) (.fresh (.func (bodyOf (stmtAt 7)) (callEnv (fdOf P 7) L' (P.fa 7)))) (createY base T ops) L' [("base_buf", .bytes base.toArray t1), ("target_buf", .bytes T.toArray t2), ("opcodes", .ref d)] [] := by
  refine goes_fresh fun cx hk hL g => ?_
  obtain ⟨h1, L1, os1⟩ := cx
  dsimp only at hL
  subst hL
  have F : Fine A 1 (.func (bodyOf (stmtAt 7)) (callEnv (fdOf P 7) L1 (P.fa 7))) [] := fine_func hA
  refine GW_execs_cons (GW_If ?_)
  refine W_isTrue_value ?_ rfl
  refine W_CallB bb_isinstance hk.gl (W_args1 ?_ rfl)
  walk_at "st"
  refine W_args1 (W_bltn hk.gl (by decide) bb_list ?_) rfl
  refine W_args0 (W_isiBL ?_)
  walk_at "st"
  refine ⟨rfl, ?_⟩
  simp only [Bool.false_eq_true, if_false]
  refine GW_execs_nil ?_
  dsimp only
  refine GW_execs_cons (GW_If ?_)
  refine W_isTrue_value ?_ rfl
  refine W_CallB bb_isinstance hk.gl (W_args1 ?_ rfl)
  walk_at "st"
  refine W_args1 (W_bltn hk.gl (by decide) bb_list ?_) rfl
  refine W_args0 (W_isiBL ?_)
  walk_at "st"
  refine ⟨rfl, ?_⟩
  simp only [Bool.false_eq_true, if_false]
  refine GW_execs_nil ?_
  dsimp only
  refine GW_execs_cons (GW_yield F ?_)
  refine W_CallF (i := 4) (by decide) nm4 hk.gl (W_args1 ?_ rfl)
  refine W_CallB bb_len hk.gl (W_args1 ?_ rfl)
  walk_at "st"
  refine W_args0 (W_lenB (by omega) fun _ => ?_)
  refine W_args0 (S_encsize hk.gl F.room (by omega) fun _ => ?_)
  refine ⟨rfl, _, _, _, rfl, rfl, fun cx2 hk2 hL2 g2 => ?_⟩
  obtain ⟨h2, L2, os2⟩ := cx2
  dsimp only at hL2
  subst hL2
  dsimp only
  refine GW_execs_cons (GW_yield F ?_)
  refine W_CallF (i := 4) (by decide) nm4 hk2.gl (W_args1 ?_ rfl)
  refine W_CallB bb_len hk2.gl (W_args1 ?_ rfl)
  walk_at "st"
  refine W_args0 (W_lenB (by omega) fun _ => ?_)
  refine W_args0 (S_encsize hk2.gl F.room (by omega) fun _ => ?_)
  refine ⟨rfl, _, _, _, rfl, rfl, fun cx3 hk3 hL3 g3 => ?_⟩
  obtain ⟨h3, L3, os3⟩ := cx3
  dsimp only at hL3
  subst hL3
  dsimp only
  clear hk hk2
  refine GW_execs_cons (GW_For_list F ?_)
  walk_at "st"
  refine ⟨rfl, d, vs, fun i ys cx σ => GK P d vs ops cx ∧ cx.L = L3 ∧ ys = opsY T (ops.drop i) ∧ ∃ ρ g, σ = ⟨[("base_buf", .bytes base.toArray t1), ("target_buf", .bytes T.toArray t2), ("opcodes", .ref d)], ρ, g⟩, rfl, fun i ys cx σ h => h.1.ol σ, ⟨hk3, rfl, rfl, [], g3, rfl⟩, ?_, ?_⟩
  · rintro i v ys cx σ it fs' hv ⟨hk, hL, rfl, ρ, g, rfl⟩ F'
    obtain ⟨h4, L4, os4⟩ := cx
    dsimp only at hL
    subst hL
    obtain ⟨a, ws, op, rfl, hop, hvals, hT'⟩ := hk.oa.at hv
    have hok := hops op (List.mem_of_getElem? hop)
    have hdr := opsY_drop (T := T) hop
    obtain ⟨e, i1, i2, j1, j2⟩ := op
    obtain ⟨u0, u1, u2, u3, u4, hws⟩ := hvals
    have h1 := hok.i
    have h2 := hok.d
    have h3 := hok.j
    dsimp only at h1 h2 h3
    rw [hdr]
    generalize hrest : opsY T (ops.drop (i + 1)) = rest
    refine W_let_tuple (.head _) ?_
    cases e with
    | true =>
      simp only [if_true] at hws
      subst hws
      refine W_assign_tuple F'.room.1 (hT' _) rfl rfl ?_
      refine W_inOrder_cons (W_assign_name ?_)
      walk_at "st"
      refine W_inOrder_cons (W_assign_name ?_)
      walk_at "st"
      refine W_inOrder_cons (W_assign_name ?_)
      walk_at "st"
      refine W_inOrder_cons (W_assign_name ?_)
      walk_at "st"
      refine W_inOrder_cons (W_assign_name ?_)
      walk_at "st"
      refine W_inOrder_nil ⟨rfl, ?_⟩
      refine GW_execs_cons (GW_If ?_)
      walk_at "st"
      walk_at "st"
      walk_at "st"
      walk_at "st"
      walk_at "st"
      refine ⟨rfl, ?_⟩
      rw [if_pos (by decide)]
      refine GW_execs_cons (GW_W ?_)
      walk_at "st"
      walk_at "st"
      walk_at "st"
      refine ⟨rfl, ?_⟩
      dsimp only
      refine GW_execs_cons (GW_W ?_)
      walk_at "st"
      walk_at "st"
      walk_at "st"
      walk_at "st"
      walk_at "st"
      rw [show (i2 : Int) - (i1 : Int) = ((i2 - i1 : Nat) : Int) by omega]
      walk_at "st"
      refine ⟨rfl, ?_⟩
      dsimp only
      refine GW_execs_cons ?_
      refine GW_While F' (fun m ys cx σ => GK P d vs ops cx ∧ cx.L = L4 ∧ ∃ (st : Nat) (t u : Tok) (ρ : List (Addr × OP)) (g : Array GenState), σ = ⟨[("copy_len", .int m t), ("copy_start", .int st u), ("j2", .int j2 u4), ("j1", .int j1 u3), ("i2", .int i2 u2), ("i1", .int i1 u1), ("opcode", .str "equal" u0), ("base_buf", .bytes base.toArray t1), ("target_buf", .bytes T.toArray t2), ("opcodes", .ref d)], (it, isLIter d (i + 1)) :: ρ, g⟩ ∧ m ≤ 65535 ∧ ys = (if 0 < m then [encCpy st m] else []) ++ rest) (i2 - i1)
        ⟨hk, rfl, i1, _, _, ρ, g, rfl, h2, ?_⟩ ?_
      · show (if i1 < i2 then [encCpy i1 (i2 - i1)] else []) ++ rest = _
        by_cases hlt : i1 < i2
        · rw [if_pos hlt, if_pos (by omega)]
        · rw [if_neg hlt, if_neg (by omega)]
      · rintro m ys cx σ fs2 F2 ⟨hk5, hL, st, t, u, ρ, g, rfl, hm, rfl⟩
        obtain ⟨h5, L5, os5⟩ := cx
        dsimp only at hL
        subst hL
        walk_at "st"
        walk_at "st"
        walk_at "st"
        walk_at "st"
        walk_at "st"
        refine ⟨rfl, ?_⟩
        by_cases h0 : 0 < m
        · rw [if_pos (by simpa using h0), if_pos h0]
          obtain ⟨tm, hmax⟩ := hk5.gl.maxc
          refine GW_execs_cons (GW_W ?_)
          walk_at "st"
          refine W_CallB bb_min hk5.gl (W_args1 ?_ rfl)
          walk_at "st"
          refine W_args1 (W_Name (W_global hk5.gl hmax ?_)) rfl
          refine W_args0 (W_min2 F2.room.1 fun _ => ?_)
          rw [show min (m : Int) 65535 = (m : Int) by omega]
          walk_at "st"
          refine ⟨rfl, ?_⟩
          dsimp only
          refine GW_execs_cons (GW_yield F2 ?_)
          refine W_CallF (i := 6) (by decide) nm6 hk5.gl (W_args1 ?_ rfl)
          walk_at "st"
          refine W_args1 ?_ rfl
          walk_at "st"
          refine W_args0 (S_enccopy hk5.gl F2.room fun _ => ?_)
          refine ⟨rfl, _, _, _, rfl, rfl, fun cx6 hk6 hL6 g6 => ?_⟩
          obtain ⟨h6, L6, os6⟩ := cx6
          dsimp only at hL6
          subst hL6
          dsimp only
          refine GW_execs_cons (GW_W ?_)
          walk_at "st"
          walk_at "st"
          walk_at "st"
          walk_at "st"
          rw [show (st : Int) + (m : Int) = ((st + m : Nat) : Int) from rfl]
          walk_at "st"
          refine ⟨rfl, ?_⟩
          dsimp only
          refine GW_execs_cons (GW_W ?_)
          walk_at "st"
          walk_at "st"
          walk_at "st"
          refine W_isub fun tz => ?_
          rw [show (m : Int) - (m : Int) = ((0 : Nat) : Int) by omega]
          walk_at "st"
          refine ⟨rfl, ?_⟩
          dsimp only
          refine GW_execs_nil ⟨.inl rfl, _, Le_sub (l' := [("copy_len", .int ((0 : Nat) : Int) tz), ("copy_start", _), ("j2", .int j2 u4), ("j1", .int j1 u3), ("i2", .int i2 u2), ("i1", .int i1 u1), ("opcode", .str "equal" u0), ("base_buf", .bytes base.toArray t1), ("target_buf", .bytes T.toArray t2), ("opcodes", .ref d)]) (fun p hp => .tail _ hp) (List.Sublist.refl _) ["copy_len", "copy_start", "j2", "j1", "i2", "i1", "opcode", "base_buf", "target_buf", "opcodes"], rfl, 0, h0, hk6, rfl, st + m, _, _, ρ, g6, rfl, by omega, rfl⟩
        · rw [if_neg (by simpa using h0), if_neg h0]
          dsimp only
          refine GW_execs_nil ?_
          dsimp only
          refine GW_execs_cons (GW_If ?_)
          refine W_isTrue_BoolOp (W_allTrue_Or ?_)
          walk_at "st"
          walk_at "st"
          walk_at "st"
          walk_at "st"
          walk_at "st"
          rw [if_neg (by decide)]
          refine W_allTrue_Or ?_
          walk_at "st"
          walk_at "st"
          walk_at "st"
          walk_at "st"
          walk_at "st"
          rw [if_neg (by decide)]
          refine W_allTrue_Or_nil ⟨rfl, ?_⟩
          rw [if_neg (by decide)]
          refine GW_execs_nil ?_
          dsimp only
          refine GW_execs_nil ⟨.inl rfl, ⟨[("base_buf", .bytes base.toArray t1), ("target_buf", .bytes T.toArray t2), ("opcodes", .ref d)], (it, isLIter d (i + 1)) :: ρ, g⟩, Le_sub (fun p hp => ?_) (List.Sublist.refl _) ["base_buf", "target_buf", "opcodes"], rfl, ρ, rfl, hk5, rfl, ?_, ρ, g, rfl⟩
          · exact .tail _ (.tail _ (.tail _ (.tail _ (.tail _ (.tail _ (.tail _ hp))))))
          · rw [← hrest]; rfl
    | false =>
      simp only [Bool.false_eq_true, if_false] at hws
      subst hws
      refine W_assign_tuple F'.room.1 (hT' _) rfl rfl ?_
      refine W_inOrder_cons (W_assign_name ?_)
      walk_at "st"
      refine W_inOrder_cons (W_assign_name ?_)
      walk_at "st"
      refine W_inOrder_cons (W_assign_name ?_)
      walk_at "st"
      refine W_inOrder_cons (W_assign_name ?_)
      walk_at "st"
      refine W_inOrder_cons (W_assign_name ?_)
      walk_at "st"
      refine W_inOrder_nil ⟨rfl, ?_⟩
      refine GW_execs_cons (GW_If ?_)
      walk_at "st"
      walk_at "st"
      walk_at "st"
      walk_at "st"
      walk_at "st"
      refine ⟨rfl, ?_⟩
      rw [if_neg (by decide)]
      refine GW_execs_nil ?_
      dsimp only
      refine GW_execs_cons (GW_If ?_)
      refine W_isTrue_BoolOp (W_allTrue_Or ?_)
      walk_at "st"
      walk_at "st"
      walk_at "st"
      walk_at "st"
      walk_at "st"
      rw [if_neg (by decide)]
      refine W_allTrue_Or ?_
      walk_at "st"
      walk_at "st"
      walk_at "st"
      walk_at "st"
      walk_at "st"
      rw [if_pos (by decide)]
      refine ⟨rfl, ?_⟩
      rw [if_pos (by decide)]
      refine GW_execs_cons (GW_W ?_)
      walk_at "st"
      walk_at "st"
      walk_at "st"
      walk_at "st"
      walk_at "st"
      rw [show (j2 : Int) - (j1 : Int) = ((j2 - j1 : Nat) : Int) by omega]
      walk_at "st"
      refine ⟨rfl, ?_⟩
      dsimp only
      refine GW_execs_cons (GW_W ?_)
      walk_at "st"
      walk_at "st"
      walk_at "st"
      refine ⟨rfl, ?_⟩
      dsimp only
      refine GW_execs_cons ?_
      refine GW_While F' (fun m ys cx σ => GK P d vs ops cx ∧ cx.L = L4 ∧ ∃ (st : Nat) (t u : Tok) (ρ : List (Addr × OP)) (g : Array GenState), σ = ⟨[("o", .int st u), ("s", .int m t), ("j2", .int j2 u4), ("j1", .int j1 u3), ("i2", .int i2 u2), ("i1", .int i1 u1), ("opcode", .str "insert" u0), ("base_buf", .bytes base.toArray t1), ("target_buf", .bytes T.toArray t2), ("opcodes", .ref d)], (it, isLIter d (i + 1)) :: ρ, g⟩ ∧ ys = insY T st m ++ rest) (j2 - j1)
        ⟨hk, rfl, j1, _, _, ρ, g, rfl, rfl⟩ ?_
      rintro m ys cx σ fs2 F2 ⟨hk5, hL, st, t, u, ρ, g, rfl, rfl⟩
      obtain ⟨h5, L5, os5⟩ := cx
      dsimp only at hL
      subst hL
      walk_at "st"
      walk_at "st"
      walk_at "st"
      walk_at "st"
      walk_at "st"
      refine ⟨rfl, ?_⟩
      by_cases h0 : m ≤ 127
      · rw [if_neg (by simp; omega)]
        dsimp only
        rw [insY_small h0]
        refine GW_execs_cons (GW_yield F' ?_)
        refine W_CallT bb_bytes hk5.gl (W_args1 (W_List (W_args1 ?_ rfl)) rfl)
        walk_at "st"
        refine W_args0 (W_newList (by simp) fun dl => ?_)
        refine W_args0 (W_bytesL F'.room.1 (.inr (.head _)) (.cons _ _ .nil) (fun n hn => ?_) (by simp) fun _ => ?_)
        · rw [List.mem_singleton.mp hn]; omega
        refine ⟨rfl, _, _, _, rfl, rfl, fun cx6 hk6 hL6 g6 => ?_⟩
        obtain ⟨h6, L6, os6⟩ := cx6
        dsimp only at hL6
        subst hL6
        dsimp only
        refine GW_execs_cons (GW_yield F' ?_)
        walk_at "st"
        walk_at "st"
        walk_at "st"
        walk_at "st"
        walk_at "st"
        walk_at "st"
        walk_at "st"
        walk_at "st"
        walk_at "st"
        walk_at "st"
        intro sl
        rw [show (st : Int) + (m : Int) = ((st + m : Nat) : Int) from rfl]
        refine W_cutB (Int.natCast_nonneg _) (Int.natCast_nonneg _) (by omega) fun _ => ?_
        refine ⟨rfl, _, _, _, rfl, rfl, fun cx7 hk7 hL7 g7 => ?_⟩
        obtain ⟨h7, L7, os7⟩ := cx7
        dsimp only at hL7
        subst hL7
        dsimp only
        refine GW_execs_nil ?_
        dsimp only
        refine GW_execs_nil ⟨.inl rfl, ⟨[("base_buf", .bytes base.toArray t1), ("target_buf", .bytes T.toArray t2), ("opcodes", .ref d)], (it, isLIter d (i + 1)) :: ρ, g7⟩, Le_sub (fun p hp => ?_) (.cons _ (List.Sublist.refl _)) ["base_buf", "target_buf", "opcodes"], rfl, ρ, rfl, hk7, rfl, ?_, ρ, g7, rfl⟩
        · exact .tail _ (.tail _ (.tail _ (.tail _ (.tail _ (.tail _ (.tail _ hp))))))
        · rw [← hrest]; rfl
      · rw [if_pos (by simp; omega), insY_big h0]
        refine GW_execs_cons (GW_yield F2 ?_)
        refine W_CallT bb_bytes hk5.gl (W_args1 (W_List (W_args1 ?_ rfl)) rfl)
        walk_at "st"
        refine W_args0 (W_newList (by simp) fun dl => ?_)
        refine W_args0 (W_bytesL F2.room.1 (.inr (.head _)) (.cons _ _ .nil) (fun n hn => ?_) (by simp) fun _ => ?_)
        · rw [List.mem_singleton.mp hn]; omega
        refine ⟨rfl, _, _, _, rfl, rfl, fun cx6 hk6 hL6 g6 => ?_⟩
        obtain ⟨h6, L6, os6⟩ := cx6
        dsimp only at hL6
        subst hL6
        dsimp only
        refine GW_execs_cons (GW_yield F2 ?_)
        walk_at "st"
        walk_at "st"
        walk_at "st"
        walk_at "st"
        walk_at "st"
        walk_at "st"
        walk_at "st"
        walk_at "st"
        walk_at "st"
        walk_at "st"
        intro sl
        rw [show (st : Int) + 127 = ((st + 127 : Nat) : Int) from rfl]
        refine W_cutB (Int.natCast_nonneg _) (Int.natCast_nonneg _) (by omega) fun _ => ?_
        refine ⟨rfl, _, _, _, rfl, rfl, fun cx7 hk7 hL7 g7 => ?_⟩
        obtain ⟨h7, L7, os7⟩ := cx7
        dsimp only at hL7
        subst hL7
        dsimp only
        refine GW_execs_cons (GW_W ?_)
        walk_at "st"
        walk_at "st"
        walk_at "st"
        walk_at "st"
        rw [show (m : Int) - 127 = ((m - 127 : Nat) : Int) by omega]
        walk_at "st"
        refine ⟨rfl, ?_⟩
        dsimp only
        refine GW_execs_cons (GW_W ?_)
        walk_at "st"
        walk_at "st"
        walk_at "st"
        walk_at "st"
        rw [show (st : Int) + 127 = ((st + 127 : Nat) : Int) from rfl]
        walk_at "st"
        refine ⟨rfl, ?_⟩
        dsimp only
        refine GW_execs_nil ⟨.inl rfl, _, Le_nu (.cons _ (List.Sublist.refl _)), rfl, m - 127, by omega, hk7, rfl, st + 127, _, _, ρ, g7, rfl, rfl⟩
  · rintro ys cx σ ⟨hk, hL, rfl, ρ, g, rfl⟩
    dsimp only
    refine GW_execs_nil ⟨?_, rfl⟩
    rw [hk.oa.length, List.drop_length]; rfl

/-- create_delta(base, target, opcodes): the generator, fresh -/
theorem S_create {base T : Bs} {t1 t2 : Tok} {d : Addr} {Q : Value → St → Prop} (G : GL P c.h) (hA : Room 1 A)
    (h : ∀ G' L', Q (.ref G') ⟨l, (L', isNs [("base_buf", .bytes base.toArray t1), ("target_buf", .bytes T.toArray t2), ("opcodes", .ref d)]) :: (G', isGenO g.size) :: ν, g.push (.fresh (.func (bodyOf (stmtAt 7)) (callEnv (fdOf P 7) L' (P.fa 7))))⟩) :
    W prog w A E c ⟨l, ν, g⟩ (call (.ref (P.fa 9)) [.bytes base.toArray t1, .bytes T.toArray t2, .ref d] []) Q := by
  refine W_fn (binds := [("base_buf", .bytes base.toArray t1), ("target_buf", .bytes T.toArray t2), ("opcodes", .ref d)]) G hA.lt rfl (fun c' z => ?_) ["base_buf", "target_buf", "opcodes"]
  have G' := G.frz z
  have hA' : Room 0 (A.deeper (callEnv (fdOf P 9) c'.L (P.fa 9))) := hA.deeper
  generalize A.deeper (callEnv (fdOf P 9) c'.L (P.fa 9)) = A' at hA' ⊢
  refine W_execs_cons ?_
  walk_at "st"
  refine W_CallF (i := 7) (by decide) nm7 G' (W_args1 ?_ rfl)
  walk_at "st"
  refine W_args1 ?_ rfl
  walk_at "st"
  refine W_args1 ?_ rfl
  walk_at "st"
  refine W_args0 ?_
  refine W_callGen (binds := [("base_buf", .bytes base.toArray t1), ("target_buf", .bytes T.toArray t2), ("opcodes", .ref d)]) hA'.lt (callee_of G' (by decide)) rfl rfl (show (["base_buf", "target_buf", "opcodes"] : List Str).Nodup by decide +kernel) (fun G2 L2 => ?_) (fun x hx => ?_) (show ∀ x ∈ (scopeOf (stmtAt 7)).names, x.2 ≠ .cell by decide +kernel) rfl rfl rfl
  · exact ⟨_, Le_refl, h G2 L2⟩
  · have : x.1 ∈ (["base_buf", "target_buf", "opcodes"] : List Str) := List.mem_map.mpr ⟨x, hx, rfl⟩
    exact (show ∀ x ∈ (["base_buf", "target_buf", "opcodes"] : List Str), (scopeOf (stmtAt 7)).names.lookup x = some .local by decide +kernel) _ this
end
def nst (j : Nat) : Stmt := (bodyOf (stmtAt 8)).getD j (.Pass default)
abbrev fdHdr (P : GP) (qual : Str) (clos : List (Str × Addr)) (doc : Value) (c' : Addr) (ctv : Value) : FuncData := fdNest P "get_delta_header_size" qual (paramsOf (nst 5)) (bodyOf (nst 5)) (scopeOf (nst 5)) clos doc c' ctv
abbrev fdRd (P : GP) (qual : Str) (clos : List (Str × Addr)) (doc : Value) (c' : Addr) (ctv : Value) : FuncData := fdNest P "read_byte" qual (paramsOf (nst 6)) (bodyOf (nst 6)) (scopeOf (nst 6)) clos doc c' ctv
/-! ## more bits -/
theorem and_pow_nat (x k : Nat) : (x &&& 2 ^ k) = x / 2 ^ k % 2 * 2 ^ k := by
  have h := kbt_bit (x : Int) k
  rw [show (2 : Int) ^ k = ((2 ^ k : Nat) : Int) by simp, bitAnd_nat] at h
  exact Int.ofNat_inj.mp (h.trans rfl)
theorem and_m129 {x : Nat} (h : x < 256) : Builtin.bitAnd (x : Int) (Builtin.bitNot 128) = ((x % 128 : Nat) : Int) := by
  have e : Builtin.bitAnd (x : Int) (Builtin.bitNot 128) = (x : Int) - ((x &&& 2 ^ 7 : Nat) : Int) := by
    unfold Builtin.bitAnd
    rw [show decide ((0 : Int) ≤ x) = true from decide_eq_true (by omega), show decide ((0 : Int) ≤ Builtin.bitNot 128) = false from rfl]
    rfl
  rw [e, and_pow_nat]
  omega
theorem and128 {x : Nat} (h : x < 256) : (Builtin.bitAnd (x : Int) 128 != 0) = decide (128 ≤ x) := by
  have e : Builtin.bitAnd (x : Int) 128 = ((x &&& 2 ^ 7 : Nat) : Int) := bitAnd_nat x 128
  rw [e, and_pow_nat, Bool.eq_iff_iff]
  simp only [bne_iff_ne, ne_eq, decide_eq_true_eq]
  omega
theorem sizeL_len3 {n : Nat} (h : n < 2 ^ 20) : (sizeL n).length ≤ 3 := by
  by_cases h1 : n ≤ 127
  · rw [sizeL_small h1]; simp
  · rw [sizeL_big h1]
    by_cases h2 : n / 128 ≤ 127
    · rw [sizeL_small h2]; simp
    · rw [sizeL_big h2, sizeL_small (by omega)]; simp
theorem mod_step (n j : Nat) : n % 2 ^ (7 * j) + n / 2 ^ (7 * j) % 128 * 2 ^ (7 * j) = n % 2 ^ (7 * (j + 1)) := by
  have e : 2 ^ (7 * (j + 1)) = 2 ^ (7 * j) * 128 := by rw [Nat.mul_add, Nat.pow_add]
  rw [e, Nat.mod_mul, Nat.mul_comm (n / _ % 128)]
theorem or_shift {a x k : Nat} (h : a < 2 ^ k) : Builtin.bitOr (a : Int) ((x : Int) * 2 ^ k) = ((a + x * 2 ^ k : Nat) : Int) := by
  rw [show (x : Int) * 2 ^ k = ((x * 2 ^ k : Nat) : Int) by simp, bitOr_nat]
  have := Nat.two_pow_add_eq_or_of_lt h x
  rw [Nat.or_comm, Nat.mul_comm x, ← this, Nat.add_comm]
theorem drop_get {D : Bs} {i : Nat} {x : UInt8} {r : Bs} (h : D.drop i = x :: r) : i < D.length ∧ D[i]? = some x ∧ D.drop (i + 1) = r ∧ cut D i (i + 1) = [x] := by
  have hi : i < D.length := by
    rcases Nat.lt_or_ge i D.length with h' | h'
    · exact h'
    · rw [List.drop_of_length_le h'] at h; cases h
  have e := List.drop_eq_getElem_cons hi
  rw [e] at h
  injection h with h1 h2
  refine ⟨hi, by rw [List.getElem?_eq_getElem hi, h1], h2, ?_⟩
  unfold cut
  rw [e, Nat.add_sub_cancel_left, h1]; rfl
section
variable {prog : Program} {w : World} {A : Around} {E : Value → Shared → Prop} {c : Cx} {σ : St} {l l' : List (Str × Value)} {ν ν' : List (Addr × OP)} {g : Array GenState} {env : Env} {P : GP}
theorem S_hdr {D rest : Bs} {i0 n : Nat} {tD ti td : Tok} {f c' ad : Addr} {doc ctv : Value} {qual : Str} {Q : Value → St → Prop} (G : GL P c.h) (hA : Room 1 A) (hF : Callee c ⟨l, ν, g⟩ f (fdHdr P qual [("delta_length", ad)] doc c' ctv))
    (hDL : HasC c ⟨l, ν, g⟩ ad (.int D.length td)) (hD : D.drop i0 = toB (sizeL n) ++ rest) (hn : n < 2 ^ 20) (hz : D.length ≤ 16777216) (h : ∀ T t1 t2, Q (.ref T) ⟨l, (T, isTup [.int n t1, .int ((i0 + (sizeL n).length : Nat) : Int) t2]) :: ν, g⟩) :
    W prog w A E c ⟨l, ν, g⟩ (call (.ref f) [.bytes D.toArray tD, .int i0 ti] []) Q := by
  refine W_forget (W_call_ (ρ := []) (binds := [("delta", .bytes D.toArray tD), ("index", .int i0 ti)]) hA.lt hF rfl rfl (show (["delta", "index"] : List Str).Nodup by decide +kernel) (fun c2 z => ?_) (fun x hx => ?_) (show ∀ x ∈ (scopeOf (nst 5)).names, x.2 ≠ .cell by decide +kernel))
  case refine_2 =>
    have : x.1 ∈ (["delta", "index"] : List Str) := List.mem_map.mpr ⟨x, hx, rfl⟩
    exact (show ∀ x ∈ (["delta", "index"] : List Str), (scopeOf (nst 5)).names.lookup x = some .local by decide +kernel) _ this
  have G' := G.frz z
  have hDL' : ∀ σ, HasC c2 σ ad (.int D.length td) := fun σ => hDL.frz z
  have hA' : Room 0 (A.deeper (callEnv (fdHdr P qual [("delta_length", ad)] doc c' ctv) c2.L f)) := hA.deeper
  generalize A.deeper (callEnv (fdHdr P qual [("delta_length", ad)] doc c' ctv) c2.L f) = A' at hA' ⊢
  refine W_execs_cons ?_
  walk_at "st"
  walk_at "st"
  walk_at "st"
  dsimp only
  refine W_execs_cons ?_
  walk_at "st"
  walk_at "st"
  walk_at "st"
  dsimp only
  refine W_execs_cons ?_
  have hn3 := sizeL_len3 hn
  refine W_le (σ' := ⟨[("i", .int ((7 * 0 : Nat) : Int) _), ("size", .int ((n % 2 ^ (7 * 0) : Nat) : Int) _), ("delta", .bytes D.toArray tD), ("index", .int i0 ti)], [], g⟩) (by rw [show n % 2 ^ (7 * 0) = 0 from Nat.mod_one n]; exact Le_refl) ?_
  refine W_While (fun k σ => ∃ (m j idx : Nat) (t1 t2 t3 : Tok), k = m ∧ σ = ⟨[("i", .int ((7 * j : Nat) : Int) t1), ("size", .int ((n % 2 ^ (7 * j) : Nat) : Int) t2), ("delta", .bytes D.toArray tD), ("index", .int idx t3)], [], g⟩ ∧ m = n / 2 ^ (7 * j) ∧ D.drop idx = toB (sizeL m) ++ rest ∧ idx + (sizeL m).length = i0 + (sizeL n).length ∧ j + (sizeL m).length = (sizeL n).length) n
    ⟨n, 0, i0, _, _, _, rfl, rfl, by simp, hD, rfl, by simp⟩ ?_
  rintro k σ ⟨m, j, idx, t1, t2, t3, rfl, rfl, hm, hdr, hidx, hj⟩
  refine W_isTrue_value ?_ rfl
  walk_at "st"
  walk_at "st"
  rw [if_pos rfl]
  have key : ∃ (x : UInt8) (r : Bs), D.drop idx = x :: r ∧ x.toNat = (if k ≤ 127 then k else 128 + k % 128) ∧ (¬ k ≤ 127 → r = toB (sizeL (k / 128)) ++ rest) := by
    by_cases h1 : k ≤ 127
    · rw [sizeL_small h1] at hdr
      exact ⟨_, _, hdr, by rw [if_pos h1]; exact u8_toNat (n := k) (by omega), fun h => absurd h1 h⟩
    · rw [sizeL_big h1] at hdr
      exact ⟨_, _, hdr, by rw [if_neg h1]; exact u8_toNat (n := 128 + k % 128) (by omega), fun _ => rfl⟩
  obtain ⟨x, r, hx, hxn, hr⟩ := key
  obtain ⟨hlt, _, hdr2, hcut⟩ := drop_get hx
  have hx256 : x.toNat < 256 := x.toNat_lt
  have hjl : j ≤ 3 := by omega
  have hpj : n % 2 ^ (7 * j) < 2 ^ (7 * j) := Nat.mod_lt _ (Nat.two_pow_pos _)
  refine W_execs_cons ?_
  walk_at "st"
  walk_at "st"
  walk_at "st"
  refine W_Name (W_loadF (hDL' _) ?_)
  walk_at "st"
  walk_at "st"
  rw [show decide ((D.length : Int) ≤ (idx : Int)) = false from decide_eq_false (by omega), if_neg (by decide)]
  walk_at "st"
  dsimp only
  refine W_execs_cons ?_
  walk_at "st"
  refine W_CallB bb_ord G' (W_args1 ?_ rfl)
  walk_at "st"
  walk_at "st"
  walk_at "st"
  walk_at "st"
  walk_at "st"
  walk_at "st"
  walk_at "st"
  walk_at "st"
  walk_at "st"
  walk_at "st"
  intro sl
  rw [show (idx : Int) + 1 = ((idx + 1 : Nat) : Int) from rfl]
  refine W_cutB (Int.natCast_nonneg _) (Int.natCast_nonneg _) hz fun _ => ?_
  refine W_args0 (W_ordB (x := x) hcut fun _ => ?_)
  walk_at "st"
  dsimp only
  refine W_execs_cons ?_
  walk_at "st"
  walk_at "st"
  walk_at "st"
  refine W_iadd fun ti2 => ?_
  rw [show (idx : Int) + 1 = ((idx + 1 : Nat) : Int) from rfl]
  walk_at "st"
  dsimp only
  refine W_execs_cons ?_
  walk_at "st"
  walk_at "st"
  walk_at "st"
  walk_at "st"
  walk_at "st"
  walk_at "st"
  walk_at "st"
  walk_at "st"
  walk_at "st"
  rw [and_m129 hx256]
  walk_at "st"
  refine W_lshift (Int.natCast_nonneg _) (by omega) (by rw [Int.natAbs_natCast]; omega) fun _ => ?_
  rw [Int.toNat_natCast]
  refine W_ior fun ts2 => ?_
  rw [or_shift hpj]
  walk_at "st"
  dsimp only
  refine W_execs_cons ?_
  walk_at "st"
  walk_at "st"
  walk_at "st"
  refine W_iadd fun ti3 => ?_
  rw [show ((7 * j : Nat) : Int) + 7 = ((7 * (j + 1) : Nat) : Int) by omega]
  walk_at "st"
  dsimp only
  refine W_execs_cons ?_
  walk_at "st"
  refine W_isTrue_Not ?_
  refine W_isTrue_value ?_ rfl
  walk_at "st"
  walk_at "st"
  walk_at "st"
  walk_at "st"
  walk_at "st"
  rw [and128 hx256]
  by_cases h1 : k ≤ 127
  · rw [if_pos h1] at hxn
    rw [show decide (128 ≤ x.toNat) = false from decide_eq_false (by omega)]
    rw [if_pos (by rfl)]
    refine W_execs_cons ?_
    walk_at "st"
    dsimp only
    have hl1 : (sizeL k).length = 1 := by rw [sizeL_small h1]; rfl
    have hsz : n % 2 ^ (7 * j) + x.toNat % 128 * 2 ^ (7 * j) = n := by
      rw [show x.toNat % 128 = n / 2 ^ (7 * j) by omega, Nat.mul_comm (n / 2 ^ (7 * j))]
      exact Nat.mod_add_div n _
    rw [hsz, show idx + 1 = i0 + (sizeL n).length by omega]
    refine W_execs_cons ?_
    walk_at "st"
    refine W_Tuple (W_args1 ?_ rfl)
    walk_at "st"
    refine W_args1 ?_ rfl
    walk_at "st"
    refine W_args0 (W_newTuple (by simp) fun T => ?_)
    exact ⟨_, Le_refl, h T _ _⟩
  · rw [if_neg h1] at hxn
    rw [show decide (128 ≤ x.toNat) = true from decide_eq_true (by omega)]
    rw [if_neg (by simp)]
    walk_at "st"
    dsimp only
    walk_at "st"
    have hl2 : (sizeL k).length = (sizeL (k / 128)).length + 1 := by rw [sizeL_big h1]; rfl
    refine ⟨⟨[("i", .int ((7 * (j + 1) : Nat) : Int) ti3), ("size", .int ((n % 2 ^ (7 * (j + 1)) : Nat) : Int) ts2), ("delta", .bytes D.toArray tD), ("index", .int ((idx + 1 : Nat) : Int) ti2)], [], g⟩, ?_, k / 128, by omega, k / 128, j + 1, idx + 1, _, _, _, rfl, rfl, ?_, ?_, by omega, by omega⟩
    · rw [← mod_step, ← hm, show x.toNat % 128 = k % 128 by omega]
      exact Le_sub (fun p hp => .tail _ hp) (List.Sublist.refl _) ["i", "size", "delta", "index"]
    · rw [Nat.mul_add, Nat.pow_add, ← Nat.div_div_eq_div_mul, ← hm]
    · rw [hdr2, hr h1]

theorem S_rd {D : Bs} {i0 : Nat} {x : UInt8} {r : Bs} {tD ti td : Tok} {f c' ad ai : Addr} {doc ctv : Value} {qual : Str} {Q : Value → St → Prop} (G : GL P c.h) (hA : Room 1 A) (hF : Callee c ⟨l, [(ai, isCell (some (.int i0 ti)))] ++ ν, g⟩ f (fdRd P qual [("index", ai), ("delta_length", ad)] doc c' ctv))
    (hDL : HasC c ⟨l, ν, g⟩ ad (.int D.length td)) (hD : D.drop i0 = x :: r) (hz : D.length ≤ 16777216) (h : ∀ t1 t2, Q (.int x.toNat t1) ⟨l, (ai, isCell (some (.int ((i0 + 1 : Nat) : Int) t2))) :: ν, g⟩) :
    W prog w A E c ⟨l, [(ai, isCell (some (.int i0 ti)))] ++ ν, g⟩ (call (.ref f) [.bytes D.toArray tD] []) Q := by
  refine W_forget (W_call_ (ρ := [(ai, isCell (some (.int i0 ti)))]) (binds := [("delta", .bytes D.toArray tD)]) hA.lt hF rfl rfl (show (["delta"] : List Str).Nodup by decide +kernel) (fun c2 z => ?_) (fun x hx => ?_) (show ∀ x ∈ (scopeOf (nst 6)).names, x.2 ≠ .cell by decide +kernel))
  case refine_2 =>
    have : x.1 ∈ (["delta"] : List Str) := List.mem_map.mpr ⟨x, hx, rfl⟩
    exact (show ∀ x ∈ (["delta"] : List Str), (scopeOf (nst 6)).names.lookup x = some .local by decide +kernel) _ this
  have G' := G.frz z
  have hDL' : ∀ σ, HasC c2 σ ad (.int D.length td) := fun σ => hDL.frz z
  have hA' : Room 0 (A.deeper (callEnv (fdRd P qual [("index", ai), ("delta_length", ad)] doc c' ctv) c2.L f)) := hA.deeper
  generalize A.deeper (callEnv (fdRd P qual [("index", ai), ("delta_length", ad)] doc c' ctv) c2.L f) = A' at hA' ⊢
  obtain ⟨hlt, _, _, hcut⟩ := drop_get hD
  refine W_execs_cons (W_Nonlocal ?_)
  dsimp only
  refine W_execs_cons ?_
  walk_at "st"
  walk_at "st"
  refine W_Name (W_loadF (.inr (.head _)) ?_)
  refine W_Name (W_loadF (hDL' _) ?_)
  walk_at "st"
  walk_at "st"
  rw [show decide ((D.length : Int) ≤ (i0 : Int)) = false from decide_eq_false (by omega), if_neg (by decide)]
  walk_at "st"
  dsimp only
  refine W_execs_cons ?_
  walk_at "st"
  refine W_loadF (.inr (.head _)) ?_
  walk_at "st"
  refine W_iadd fun t2 => ?_
  rw [show (i0 : Int) + 1 = ((i0 + 1 : Nat) : Int) from rfl]
  refine W_storeF .head ?_
  dsimp only
  refine W_execs_cons ?_
  walk_at "st"
  refine W_CallB bb_ord G' (W_args1 ?_ rfl)
  walk_at "st"
  walk_at "st"
  walk_at "st"
  walk_at "st"
  walk_at "st"
  refine W_Name (W_loadF (.inr (.head _)) ?_)
  walk_at "st"
  walk_at "st"
  walk_at "st"
  refine W_Name (W_loadF (.inr (.head _)) ?_)
  intro sl
  rw [show ((i0 + 1 : Nat) : Int) - 1 = ((i0 : Nat) : Int) by omega]
  refine W_cutB (Int.natCast_nonneg _) (Int.natCast_nonneg _) hz fun _ => ?_
  refine W_args0 (W_ordB (x := x) hcut fun t1 => ?_)
  exact ⟨_, Le_refl, h t1 t2⟩
end
/-! ## what a delta is made of -/
inductive Atom
  | ch (b : Bs)
  | cp (p n : Nat)
def encA : Atom → Bs
  | .ch b => encChunk b
  | .cp p n => encCpy p n
def outA (src : Bs) : Atom → Bs
  | .ch b => b
  | .cp p n => cut src p (p + n)
def lenA : Atom → Nat
  | .ch b => b.length
  | .cp _ n => n
def AtomOk (n0 : Nat) : Atom → Prop
  | .ch b => 1 ≤ b.length ∧ b.length ≤ 127
  | .cp p n => 1 ≤ n ∧ n < 65536 ∧ p + n ≤ n0 ∧ p < 16777216
def encAs (as : List Atom) : Bs := (as.map encA).flatten
def lenAs (as : List Atom) : Nat := (as.map lenA).sum
theorem drop_atoms {as : List Atom} {j : Nat} (h : j < as.length) : ∃ a, as[j]? = some a ∧ a ∈ as ∧ encAs (as.drop j) = encA a ++ encAs (as.drop (j + 1)) ∧ lenAs (as.drop j) = lenA a + lenAs (as.drop (j + 1)) := by
  refine ⟨as[j], List.getElem?_eq_getElem h, List.getElem_mem h, ?_, ?_⟩
  · unfold encAs; rw [List.drop_eq_getElem_cons h, List.map_cons, List.flatten_cons]
  · unfold lenAs; rw [List.drop_eq_getElem_cons h, List.map_cons, List.sum_cons]
theorem mask_bit (f : Nat → Nat) (i : Nat) : ∀ n, maskF f n / 2 ^ i % 2 = if i < n ∧ f i ≠ 0 then 1 else 0
  | 0 => by simp [maskF]
  | n + 1 => by
    have ih := mask_bit f i n
    have hm := maskF_lt f n
    unfold maskF
    by_cases h0 : f n = 0
    · rw [if_neg (by simpa using h0), Nat.add_zero, ih]
      by_cases hin : i = n
      · subst hin; simp [h0]
      · by_cases h1 : i < n
        · simp [h1, Nat.lt_succ_of_lt h1]
        · rw [if_neg (by omega), if_neg (by omega)]
    · rw [if_pos h0]
      rcases Nat.lt_trichotomy i n with h1 | h1 | h1
      · have e : 2 ^ n = 2 ^ i * (2 ^ (n - i - 1) * 2) := by
          rw [← Nat.pow_succ, ← Nat.pow_add]; congr 1; omega
        rw [e, Nat.add_mul_div_left _ _ (Nat.two_pow_pos i), Nat.add_mul_mod_self_right, ih]
        simp [h1, Nat.lt_succ_of_lt h1]
      · subst h1
        have e : (maskF f i + 2 ^ i) / 2 ^ i = 1 := by
          rw [Nat.add_div_right _ (Nat.two_pow_pos i), Nat.div_eq_of_lt hm]
        rw [e, if_pos ⟨Nat.lt_succ_self _, h0⟩]
      · have h2 : 2 ^ (n + 1) ≤ 2 ^ i := Nat.pow_le_pow_right (by decide) h1
        rw [Nat.pow_succ] at h2
        rw [Nat.div_eq_of_lt (by omega), if_neg (by omega)]
theorem cmd_bit (f : Nat → Nat) {i : Nat} (hi : i < 7) : (Builtin.bitAnd ((128 + maskF f 6 : Nat) : Int) ((1 : Int) * 2 ^ i) != 0) = decide (i < 6 ∧ f i ≠ 0) := by
  have e1 : (1 : Int) * 2 ^ i = ((2 ^ i : Nat) : Int) := by simp
  have e2 : (128 + maskF f 6) / 2 ^ i % 2 = maskF f 6 / 2 ^ i % 2 := by
    have e : 128 = 2 ^ i * (2 ^ (7 - i - 1) * 2) := by
      rw [← Nat.pow_succ, ← Nat.pow_add, show i + (7 - i - 1 + 1) = 7 by omega]
    rw [Nat.add_comm, e, Nat.add_mul_div_left _ _ (Nat.two_pow_pos i), Nat.add_mul_mod_self_right]
  rw [e1, bitAnd_nat, and_pow_nat, e2, mask_bit, Bool.eq_iff_iff]
  by_cases h : i < 6 ∧ f i ≠ 0
  · rw [if_pos h]
    have := Nat.two_pow_pos i
    simp only [bne_iff_ne, ne_eq, decide_eq_true_eq, h, not_false_eq_true, and_self, iff_true, Nat.one_mul]
    omega
  · rw [if_neg h]
    simp [h]
/-- the octets read back -/
theorem oct_step (p i : Nat) : p % 256 ^ i + oct p i * 256 ^ i = p % 256 ^ (i + 1) := by
  unfold oct
  rw [Nat.pow_succ, Nat.mod_mul, Nat.mul_comm (p / _ % 256)]
theorem tailF_split (f : Nat → Nat) : ∀ {i n : Nat}, i < n → ∃ r, tailF f n = tailF f i ++ (if f i ≠ 0 then [(f i).toUInt8] else []) ++ r
  | i, n + 1, h => by
    by_cases e : i = n
    · subst e; exact ⟨[], by rw [List.append_nil]; rfl⟩
    · obtain ⟨r, hr⟩ := tailF_split f (show i < n by omega)
      exact ⟨r ++ (if f n ≠ 0 then [(f n).toUInt8] else []), by rw [tailF, hr, List.append_assoc]⟩

def posOf : Stmt → Pos
  | .FunctionDef _ _ _ _ _ _ _ _ _ p => p
  | _ => default
def tab3 (c1 : Addr) : Array Value := #[] ++ #[rawInt (posOf (nst 5)).line, rawInt (posOf (nst 5)).col, .ref c1]
def tab6 (c1 c2 : Addr) : Array Value := tab3 c1 ++ #[rawInt (posOf (nst 6)).line, rawInt (posOf (nst 6)).col, .ref c2]
def qHdr : Str := nameOf (stmtAt 8) ++ ".<locals>." ++ "get_delta_header_size"
def qRd : Str := nameOf (stmtAt 8) ++ ".<locals>." ++ "read_byte"
def TabForm (PT : Addr) (τ : List (Addr × OP)) : Prop := τ = [(PT, isTab #[])] ∨ ∃ c1 c2, τ = [(PT, isTab (tab6 c1 c2)), (c1, isCR qHdr), (c2, isCR qRd)]
theorem tab3_ok (c1 : Addr) : TriplesOk (tab3 c1).toList := by simp [tab3, TriplesOk, rawInt]
theorem tab3_no (c1 : Addr) : codeAmong (posOf (nst 6)) (tab3 c1).toList = none := by rfl
theorem tab6_ok (c1 c2 : Addr) : TriplesOk (tab6 c1 c2).toList := by simp [tab6, tab3, TriplesOk, rawInt]
theorem tab6_1 (c1 c2 : Addr) : codeAmong (posOf (nst 5)) (tab6 c1 c2).toList = some (.ref c1) := by rfl
theorem tab6_2 (c1 c2 : Addr) : codeAmong (posOf (nst 6)) (tab6 c1 c2).toList = some (.ref c2) := by rfl

/-- bytes, or a list of them -/
def BytesArg (c : Cx) (σ : St) (v : Value) (b : Bs) : Prop := (∃ t, v = .bytes b.toArray t) ∨ (∃ d xs bs, v = .ref d ∧ HasL c σ d xs ∧ BytesAre xs bs ∧ bs.flatten = b)

section
variable {prog : Program} {w : World} {A : Around} {E : Value → Shared → Prop} {c : Cx} {σ : St} {l l' : List (Str × Value)} {ν ν' τ : List (Addr × OP)} {g : Array GenState} {env : Env} {P : GP} {cc PT : Addr}
abbrev envA (P : GP) (L : Addr) : Env := callEnvC (fdOf P 8) L (P.fa 8)
def StP (D src : Bs) (L : Addr) (tD tS t0 t1 : Tok) (o : Addr) (τ : List (Addr × OP)) (g : Array GenState) : St :=
  ⟨[("out", .ref o), ("src_buf", .bytes src.toArray tS), ("delta", .bytes D.toArray tD)], (o, isList []) :: (L + 2, isCell (some (.int 0 t0))) :: (L + 1, isCell (some (.int D.length t1))) :: τ, g⟩
theorem S_pre {D src : Bs} {v1 v2 : Value} {Q : Flow → St → Prop} (G : GL P c.h) (hA : Room 0 A) (h1 : ∀ σ, BytesArg c σ v1 src) (h2 : ∀ σ, BytesArg c σ v2 D) (hz1 : src.length ≤ 16777216) (hz2 : D.length ≤ 16777216)
    (h : ∀ tD tS t0 t1 o, W prog w A E c (StP D src c.L tD tS t0 t1 o τ g) (execs ((bodyOf (stmtAt 8)).drop 5) (envA P c.L)) Q) :
    W prog w A E c ⟨[("src_buf", v1), ("delta", v2)], [(c.L + 2, isCell none), (c.L + 1, isCell none)] ++ τ, g⟩ (execs (bodyOf (stmtAt 8)) (envA P c.L)) Q := by
  refine W_execs_cons (W_mono (Q := fun f σ' => f = .next ∧ ∃ t, σ' = ⟨[("src_buf", .bytes src.toArray t), ("delta", v2)], [(c.L + 2, isCell none), (c.L + 1, isCell none)] ++ τ, g⟩) ?_ ?_)
  · walk_at "st"
    refine W_isTrue_Not (W_isTrue_value ?_ rfl)
    refine W_CallB bb_isinstance G (W_args1 ?_ rfl)
    walk_at "st"
    refine W_args1 (W_bltn G (by decide) bb_bytes ?_) rfl
    rcases h1 ⟨[], [], g⟩ with ⟨t, rfl⟩ | ⟨d, xs, bs, rfl, hx, hb, rfl⟩
    · refine W_args0 (W_isiB ?_)
      walk_at "st"
      rw [if_neg (by decide)]
      walk_at "st"
      exact ⟨rfl, t, rfl⟩
    · have hx : ∀ σ, HasL c σ d xs := fun σ => hx.elim (fun q => .inl q) (fun q => nomatch q)
      refine W_args0 (W_isiL (hx _) ?_)
      walk_at "st"
      rw [if_pos (by decide)]
      refine W_execs_cons ?_
      walk_at "st"
      refine W_join ?_
      walk_at "st"
      intro u
      refine W_joinL (hx _) hb hz1 fun t => ?_
      walk_at "st"
      dsimp only
      walk_at "st"
      exact ⟨rfl, t, rfl⟩
  rintro _ _ ⟨rfl, tS, rfl⟩
  dsimp only
  refine W_execs_cons (W_mono (Q := fun f σ' => f = .next ∧ ∃ t, σ' = ⟨[("src_buf", .bytes src.toArray tS), ("delta", .bytes D.toArray t)], [(c.L + 2, isCell none), (c.L + 1, isCell none)] ++ τ, g⟩) ?_ ?_)
  · walk_at "st"
    refine W_isTrue_Not (W_isTrue_value ?_ rfl)
    refine W_CallB bb_isinstance G (W_args1 ?_ rfl)
    walk_at "st"
    refine W_args1 (W_bltn G (by decide) bb_bytes ?_) rfl
    rcases h2 ⟨[], [], g⟩ with ⟨t, rfl⟩ | ⟨d, xs, bs, rfl, hx, hb, rfl⟩
    · refine W_args0 (W_isiB ?_)
      walk_at "st"
      rw [if_neg (by decide)]
      walk_at "st"
      exact ⟨rfl, t, rfl⟩
    · have hx : ∀ σ, HasL c σ d xs := fun σ => hx.elim (fun q => .inl q) (fun q => nomatch q)
      refine W_args0 (W_isiL (hx _) ?_)
      walk_at "st"
      rw [if_pos (by decide)]
      refine W_execs_cons ?_
      walk_at "st"
      refine W_join ?_
      walk_at "st"
      intro u
      refine W_joinL (hx _) hb hz2 fun t => ?_
      walk_at "st"
      dsimp only
      walk_at "st"
      exact ⟨rfl, t, rfl⟩
  rintro _ _ ⟨rfl, tD, rfl⟩
  dsimp only
  refine W_execs_cons ?_
  walk_at "st"
  refine W_List (W_args0 (W_newList (by simp) fun o => ?_))
  walk_at "st"
  dsimp only
  refine W_execs_cons ?_
  walk_at "st"
  refine W_int fun t0 => ?_
  refine W_storeC (.tail .head) ?_
  dsimp only
  refine W_execs_cons ?_
  walk_at "st"
  refine W_CallB bb_len G (W_args1 ?_ rfl)
  walk_at "st"
  refine W_args0 (W_lenB hz2 fun t1 => ?_)
  refine W_storeC (.tail (.tail .head)) ?_
  dsimp only
  exact h tD tS t0 t1 o
end
section
variable {prog : Program} {w : World} {A : Around} {E : Value → Shared → Prop} {c : Cx} {σ : St} {l l' : List (Str × Value)} {ν ν' τ : List (Addr × OP)} {g : Array GenState} {env : Env} {P : GP} {cc PT : Addr}
/-- the state behind _apply_delta_py's two defs -/
def StA (P : GP) (PT : Addr) (D src : Bs) (L : Addr) (tD tS t0 t1 : Tok) (o f1 f2 c1 c2 : Addr) (doc1 ctv1 doc2 ctv2 : Value) (g : Array GenState) : St :=
  ⟨[("read_byte", .ref f2), ("get_delta_header_size", .ref f1), ("out", .ref o), ("src_buf", .bytes src.toArray tS), ("delta", .bytes D.toArray tD)],
   [(o, isList []), (L + 2, isCell (some (.int 0 t0))), (L + 1, isCell (some (.int D.length t1))), (f2, isFn (fdRd P qRd [("index", L + 2), ("delta_length", L + 1)] doc2 c2 ctv2)), (f1, isFn (fdHdr P qHdr [("delta_length", L + 1)] doc1 c1 ctv1)),
    (PT, isTab (tab6 c1 c2)), (c1, isCR qHdr), (c2, isCR qRd)], g⟩
theorem kind5 (P : GP) (L : Addr) : (envA P L).kindOf "get_delta_header_size" = some .local := by rfl
theorem kind6 (P : GP) (L : Addr) : (envA P L).kindOf "read_byte" = some .local := by rfl
theorem qual8 (P : GP) (L : Addr) : (envA P L).qual = nameOf (stmtAt 8) ++ ".<locals>." := by unfold envA callEnvC newEnv fdOf docDef; with_reducible rfl
theorem qn5 (P : GP) (L : Addr) : qualnameIn (envA P L) "get_delta_header_size" "get_delta_header_size" = qHdr := by
  unfold qualnameIn
  rw [kind5, qual8, if_neg (by decide)]
  unfold qHdr
  with_reducible rfl
theorem qn6 (P : GP) (L : Addr) : qualnameIn (envA P L) "read_byte" "read_byte" = qRd := by
  unfold qualnameIn
  rw [kind6, qual8, if_neg (by decide)]
  unfold qRd
  with_reducible rfl
theorem clos5 (P : GP) (L : Addr) : closureFor (scopeOf (nst 5)) (envA P L) = pure ([("delta_length", L + 1)] : List (Str × Addr)) := by rfl
theorem clos6 (P : GP) (L : Addr) : closureFor (scopeOf (nst 6)) (envA P L) = pure ([("index", L + 2), ("delta_length", L + 1)] : List (Str × Addr)) := by rfl
theorem permA {α : Type} (a b c d e f g h : α) : [a, b, c, d, e, f, g, h].Perm [f, g, h, a, d, c, e, b] :=
  (show ([0, 1, 2, 3, 4, 5, 6, 7] : List Nat).Perm [5, 6, 7, 0, 3, 2, 4, 1] by decide).map fun i => [a, b, c, d, e, f, g, h].getD i a
theorem permB {α : Type} (a b c d e f g h : α) : [a, b, c, d, e, f, g, h].Perm [c, d, e, a, b, f, g, h] :=
  (show ([0, 1, 2, 3, 4, 5, 6, 7] : List Nat).Perm [2, 3, 4, 0, 1, 5, 6, 7] by decide).map fun i => [a, b, c, d, e, f, g, h].getD i a
theorem drop5 : (bodyOf (stmtAt 8)).drop 5 = nst 5 :: nst 6 :: (bodyOf (stmtAt 8)).drop 7 := by rfl
theorem nst5 : nst 5 = .FunctionDef "get_delta_header_size" (paramsOf (nst 5)) (bodyOf (nst 5)) [] none [] (scopeOf (nst 5)) none "get_delta_header_size" (posOf (nst 5)) := by rfl
theorem nst6 : nst 6 = .FunctionDef "read_byte" (paramsOf (nst 6)) (bodyOf (nst 6)) [] none [] (scopeOf (nst 6)) none "read_byte" (posOf (nst 6)) := by rfl
theorem ann5 (P : GP) (L : Addr) : annTrees (paramsOf (nst 5)) none (envA P L) = [] := by rfl
theorem ann6 (P : GP) (L : Addr) : annTrees (paramsOf (nst 6)) none (envA P L) = [] := by rfl
theorem scK (P : GP) (L : Addr) : (envA P L).scope.kind = .function := by rfl
theorem S_defs {D src : Bs} {tD tS t0 t1 : Tok} {o : Addr} {Q : Flow → St → Prop} (G : GL P c.h) (G2 : GL2 P cc PT c.h) (hτ : TabForm PT τ)
    (h : ∀ f1 f2 c1 c2 doc1 ctv1 doc2 ctv2, W prog w A E c (StA P PT D src c.L tD tS t0 t1 o f1 f2 c1 c2 doc1 ctv1 doc2 ctv2 g) (execs ((bodyOf (stmtAt 8)).drop 7) (envA P c.L)) Q) :
    W prog w A E c (StP D src c.L tD tS t0 t1 o τ g) (execs ((bodyOf (stmtAt 8)).drop 5) (envA P c.L)) Q := by
  rw [drop5]
  refine W_execs_cons ?_
  rw [nst5]
  refine W_Def rfl rfl (ann5 P c.L) ?_
  rw [qn5]
  rcases hτ with rfl | ⟨c1, c2, rfl⟩
  · unfold StP
    refine W_le (σ' := ⟨[("out", .ref o), ("src_buf", .bytes src.toArray tS), ("delta", .bytes D.toArray tD)], (PT, isTab #[]) :: [(o, isList []), (c.L + 2, isCell (some (.int 0 t0))), (c.L + 1, isCell (some (.int D.length t1)))], g⟩) (Le_perm (List.perm_middle (l₁ := [_, _, _]) (l₂ := []))) ?_
    refine W_makeNew G G2 (clos5 P c.L) rfl G2.code (by simp [TriplesOk]) rfl fun f1 c1 doc1 ctv1 => ?_
    refine W_storeN (by walk_at "notin") ?_ rfl (kind5 P c.L) (scK P c.L)
    dsimp only
    refine W_execs_cons ?_
    rw [nst6]
    refine W_Def rfl rfl (ann6 P c.L) ?_
    rw [qn6]
    refine W_le (σ' := ⟨[("get_delta_header_size", .ref f1), ("out", .ref o), ("src_buf", .bytes src.toArray tS), ("delta", .bytes D.toArray tD)], (PT, isTab (tab3 c1)) :: [(f1, isFn (fdHdr P qHdr [("delta_length", c.L + 1)] doc1 c1 ctv1)), (c1, isCR qHdr), (o, isList []), (c.L + 2, isCell (some (.int 0 t0))), (c.L + 1, isCell (some (.int D.length t1)))], g⟩) (Le_perm (List.perm_middle (l₁ := [_, _]))) ?_
    refine W_makeNew G G2 (clos6 P c.L) rfl G2.code (tab3_ok c1) (tab3_no c1) fun f2 c2 doc2 ctv2 => ?_
    refine W_storeN (by walk_at "notin") ?_ rfl (kind6 P c.L) (scK P c.L)
    dsimp only
    refine W_le (Le_perm ?_) (h f1 f2 c1 c2 doc1 ctv1 doc2 ctv2)
    exact permA _ _ _ _ _ _ _ _
  · refine W_makeHit (ps := tab6 c1 c2) G G2 (by simp) (clos5 P c.L) rfl G2.code (tab6_ok c1 c2) (tab6_1 c1 c2) fun f1 doc1 ctv1 => ?_
    refine W_storeN (by walk_at "notin") ?_ rfl (kind5 P c.L) (scK P c.L)
    dsimp only
    refine W_execs_cons ?_
    rw [nst6]
    refine W_Def rfl rfl (ann6 P c.L) ?_
    rw [qn6]
    refine W_makeHit (ps := tab6 c1 c2) G G2 (by simp) (clos6 P c.L) rfl G2.code (tab6_ok c1 c2) (tab6_2 c1 c2) fun f2 doc2 ctv2 => ?_
    refine W_storeN (by walk_at "notin") ?_ rfl (kind6 P c.L) (scK P c.L)
    dsimp only
    refine W_le (Le_perm ?_) (h f1 f2 c1 c2 doc1 ctv1 doc2 ctv2)
    exact permB _ _ _ _ _ _ _ _
end
section
variable {prog : Program} {w : World} {A : Around} {E : Value → Shared → Prop} {c : Cx} {σ : St} {l l' : List (Str × Value)} {ν ν' τ : List (Addr × OP)} {g : Array GenState} {env : Env} {P : GP} {cc PT : Addr}
/-- what stays in _apply_delta_py's state from the defs on -/
structure AX where
  (o f1 f2 c1 c2 : Addr) (doc1 ctv1 doc2 ctv2 : Value) (tD tS t1 : Tok)
abbrev AX.locs (X : AX) (D src : Bs) : List (Str × Value) := [("read_byte", .ref X.f2), ("get_delta_header_size", .ref X.f1), ("out", .ref X.o), ("src_buf", .bytes src.toArray X.tS), ("delta", .bytes D.toArray X.tD)]
abbrev AX.fix (X : AX) (P : GP) (PT L : Addr) (D : Bs) : List (Addr × OP) := [(L + 1, isCell (some (.int D.length X.t1))), (X.f2, isFn (fdRd P qRd [("index", L + 2), ("delta_length", L + 1)] X.doc2 X.c2 X.ctv2)), (X.f1, isFn (fdHdr P qHdr [("delta_length", L + 1)] X.doc1 X.c1 X.ctv1)),
    (PT, isTab (tab6 X.c1 X.c2)), (X.c1, isCR qHdr), (X.c2, isCR qRd)]
abbrev AX.nu (X : AX) (P : GP) (PT L : Addr) (D : Bs) (vs : List Value) (idx : Int) (t0 : Tok) : List (Addr × OP) := (X.o, isList vs) :: (L + 2, isCell (some (.int idx t0))) :: X.fix P PT L D
/-- the state at the loop's head -/
def StW (P : GP) (PT : Addr) (D src : Bs) (L : Addr) (X : AX) (vs : List Value) (idx n0 n1 rem : Nat) (t0 ta tb tr : Tok) (g : Array GenState) : St :=
  ⟨("remaining", .int rem tr) :: ("dest_size", .int n1 tb) :: ("src_size", .int n0 ta) :: X.locs D src, X.nu P PT L D vs idx t0, g⟩
theorem W_namef {x : Str} {f : Addr} (hm : (x, .ref f) ∈ σ.l) (hL : env.locals = c.L) (hk : env.kindOf x = some .local) (hl : env.scope.kind = .function) : W prog w A E c σ (loadName env x) (fun v σ' => v = .ref f ∧ σ' = σ) := W_load hm ⟨rfl, rfl⟩ hL hl hk
theorem S_heads {D src rest : Bs} {n1 : Nat} {tD tS t0 t1 : Tok} {o f1 f2 c1 c2 : Addr} {doc1 ctv1 doc2 ctv2 : Value} {Q : Flow → St → Prop} (G : GL P c.h) (hA : Room 1 A)
    (hD : D = toB (sizeL src.length) ++ (toB (sizeL n1) ++ rest)) (hs : src.length < 2 ^ 20) (hn : n1 < 2 ^ 20) (hz : D.length ≤ 16777216)
    (h : ∀ X t0 ta tb tr, X.o = o → W prog w A E c (StW P PT D src c.L X [] ((sizeL src.length).length + (sizeL n1).length) src.length n1 n1 t0 ta tb tr g) (execs ((bodyOf (stmtAt 8)).drop 11) (envA P c.L)) Q) :
    W prog w A E c (StA P PT D src c.L tD tS t0 t1 o f1 f2 c1 c2 doc1 ctv1 doc2 ctv2 g) (execs ((bodyOf (stmtAt 8)).drop 7) (envA P c.L)) Q := by
  unfold StA
  refine W_execs_cons (W_AssignTup hA.1 ?_ rfl rfl)
  refine W_CallN (W_namef (by walk_at "in") rfl rfl rfl) (W_args1 ?_ rfl)
  walk_at "st"
  refine W_args1 (W_Name (W_loadC (.inr (.tail _ (.head _))) ?_)) rfl
  refine W_args0 ⟨⟨_, .tail _ (.tail _ (.tail _ (.tail _ (.head _))))⟩, ?_⟩
  refine S_hdr (i0 := 0) (rest := toB (sizeL n1) ++ rest) G hA (callee_nest G (.tail _ (.tail _ (.tail _ (.tail _ (.head _))))) (.tail _ (.tail _ (.tail _ (.tail _ (.tail _ (.tail _ (.head _)))))))) (.inr (.tail _ (.tail _ (.head _)))) (by rw [List.drop_zero]; exact hD) hs hz fun T ta ti => ?_
  refine ⟨T, _, rfl, .inr (.head _), rfl, rfl, ?_⟩
  refine W_inOrder_cons (W_assign_name ?_)
  walk_at "st"
  refine W_inOrder_cons (W_assign_name ?_)
  refine W_storeC (.tail (.tail .head)) ?_
  refine W_inOrder_nil ?_
  dsimp only
  rw [Nat.zero_add]
  refine W_le (Le_nu (List.sublist_cons_self _ _)) ?_
  refine W_execs_cons (W_AssignTup hA.1 ?_ rfl rfl)
  refine W_CallN (W_namef (by walk_at "in") rfl rfl rfl) (W_args1 ?_ rfl)
  walk_at "st"
  refine W_args1 (W_Name (W_loadC (.inr (.tail _ (.head _))) ?_)) rfl
  refine W_args0 ⟨⟨_, .tail _ (.tail _ (.tail _ (.tail _ (.head _))))⟩, ?_⟩
  refine S_hdr (i0 := (sizeL src.length).length) (rest := rest) G hA (callee_nest G (.tail _ (.tail _ (.tail _ (.tail _ (.head _))))) (.tail _ (.tail _ (.tail _ (.tail _ (.tail _ (.tail _ (.head _)))))))) (.inr (.tail _ (.tail _ (.head _)))) ?_ hn hz fun T2 tb ti2 => ?_
  · rw [hD]
    have : (toB (sizeL src.length)).length = (sizeL src.length).length := by simp [toB]
    rw [← this, List.drop_left]
  refine ⟨T2, _, rfl, .inr (.head _), rfl, rfl, ?_⟩
  refine W_inOrder_cons (W_assign_name ?_)
  walk_at "st"
  refine W_inOrder_cons (W_assign_name ?_)
  refine W_storeC (.tail (.tail .head)) ?_
  refine W_inOrder_nil ?_
  dsimp only
  refine W_le (Le_nu (List.sublist_cons_self _ _)) ?_
  refine W_execs_cons ?_
  walk_at "st"
  walk_at "st"
  walk_at "st"
  refine W_CallB bb_len G (W_args1 ?_ rfl)
  walk_at "st"
  refine W_args0 (W_lenB (by omega) fun t2 => ?_)
  walk_at "st"
  rw [show ((src.length : Int) != (src.length : Int)) = false by simp]
  walk_at "st"
  rw [if_neg (by decide)]
  walk_at "st"
  dsimp only
  refine W_execs_cons ?_
  walk_at "st"
  walk_at "st"
  walk_at "st"
  dsimp only
  exact h ⟨o, f1, f2, c1, c2, doc1, ctv1, doc2, ctv2, tD, tS, t1⟩ _ _ _ _ rfl
end
def wBody : List Stmt := match (bodyOf (stmtAt 8)).getD 11 (.Pass default) with
  | .While _ b _ _ => b
  | _ => []
def cpyB : List Stmt := match wBody.getD 2 (.Pass default) with
  | .If _ b _ _ => b
  | _ => []
section
variable {prog : Program} {w : World} {A : Around} {E : Value → Shared → Prop} {c : Cx} {σ : St} {l l' : List (Str × Value)} {ν ν' τ : List (Addr × OP)} {g : Array GenState} {env : Env} {P : GP} {cc PT : Addr}
abbrev bsL (X : AX) (D src : Bs) (n1 rem : Nat) (ta tb tr : Tok) : List (Str × Value) := ("remaining", .int rem tr) :: ("dest_size", .int n1 tb) :: ("src_size", .int src.length ta) :: X.locs D src
theorem drop_pre {D a b r : Bs} {i : Nat} (h : D.drop i = (a ++ b) ++ r) : D.drop (i + a.length) = b ++ r := by
  rw [← List.drop_drop, h, List.append_assoc, List.drop_left]
theorem S_off {D src rest : Bs} {X : AX} {vs : List Value} {idx p n n1 rem : Nat} {t0 ta tb tr tc tz : Tok} {Q : Flow → St → Prop} (G : GL P c.h) (hA : Room 1 A)
    (hD : D.drop idx = tailF (octF p n) 6 ++ rest) (hp : p < 16777216) (hz : D.length ≤ 16777216)
    (h : ∀ t0 tz, W prog w A E c ⟨("cp_off", .int p tz) :: ("cmd", .int ((128 + maskF (octF p n) 6 : Nat) : Int) tc) :: bsL X D src n1 rem ta tb tr, X.nu P PT c.L D vs ((idx + (tailF (octF p n) 4).length : Nat) : Int) t0, g⟩ (execs (cpyB.drop 2) (envA P c.L)) Q) :
    W prog w A E c ⟨("cp_off", .int 0 tz) :: ("cmd", .int ((128 + maskF (octF p n) 6 : Nat) : Int) tc) :: bsL X D src n1 rem ta tb tr, X.nu P PT c.L D vs idx t0, g⟩ (execs (cpyB.drop 1) (envA P c.L)) Q := by
  refine W_execs_cons ?_
  refine W_For_range hA.1 ?_
  refine W_CallT bb_range G (W_args1 ?_ rfl)
  walk_at "st"
  refine W_args0 (W_range1 fun rg => ?_)
  refine ⟨rg, 0, 4, 4, _, fun i σ => ∃ t0 tz, σ = ⟨("cp_off", .int ((p % 256 ^ i : Nat) : Int) tz) :: ("cmd", .int ((128 + maskF (octF p n) 6 : Nat) : Int) tc) :: bsL X D src n1 rem ta tb tr, X.nu P PT c.L D vs ((idx + (tailF (octF p n) i).length : Nat) : Int) t0, g⟩, rfl, by decide, by decide, rfl, ⟨t0, tz, ?_⟩, ?_, ?_⟩
  · rw [show p % 256 ^ 0 = 0 from Nat.mod_one p]; rfl
  · rintro i t' σ it J hi ⟨t0, tz, rfl⟩
    refine W_let_name (W_assign_name ?_)
    rw [Int.zero_add]
    walk_at "st"
    dsimp only
    refine W_le (σ' := ⟨("i", .int i t') :: ("cp_off", .int ((p % 256 ^ i : Nat) : Int) tz) :: ("cmd", .int ((128 + maskF (octF p n) 6 : Nat) : Int) tc) :: bsL X D src n1 rem ta tb tr, [(c.L + 2, isCell (some (.int ((idx + (tailF (octF p n) i).length : Nat) : Int) t0)))] ++ ((it, J) :: (X.o, isList vs) :: X.fix P PT c.L D), g⟩) (Le_perm (List.perm_middle (l₁ := [_, _]))) ?_
    refine W_execs_cons ?_
    walk_at "st"
    refine W_isTrue_value ?_ rfl
    walk_at "st"
    walk_at "st"
    walk_at "st"
    walk_at "st"
    walk_at "st"
    refine W_lshift (by omega) (by omega) (by decide) fun _ => ?_
    rw [Int.toNat_natCast]
    walk_at "st"
    walk_at "st"
    rw [cmd_bit _ (by omega)]
    have hoct : octF p n i = oct p i := by unfold octF; rw [if_pos hi]
    have hst := oct_step p i
    by_cases ho : octF p n i = 0
    · rw [show decide (i < 6 ∧ octF p n i ≠ 0) = false from decide_eq_false (by simp [ho]), if_neg (by decide)]
      walk_at "st"
      dsimp only
      walk_at "st"
      refine ⟨⟨("cp_off", .int ((p % 256 ^ (i + 1) : Nat) : Int) tz) :: ("cmd", .int ((128 + maskF (octF p n) 6 : Nat) : Int) tc) :: bsL X D src n1 rem ta tb tr, (it, J) :: X.nu P PT c.L D vs ((idx + (tailF (octF p n) (i + 1)).length : Nat) : Int) t0, g⟩, ?_, _, rfl, t0, tz, rfl⟩
      have e2 : tailF (octF p n) (i + 1) = tailF (octF p n) i := by simp [tailF, ho]
      rw [← hst, ← hoct, ho, e2, Nat.zero_mul, Nat.add_zero]
      exact Le_trans (Le_sub (fun p hp => .tail _ hp) (List.Sublist.refl _) ["cp_off", "cmd", "remaining", "dest_size", "src_size", "read_byte", "get_delta_header_size", "out", "src_buf", "delta"]) (Le_perm (List.perm_middle (l₁ := [_, _])).symm)
    · rw [show decide (i < 6 ∧ octF p n i ≠ 0) = true from decide_eq_true ⟨by omega, ho⟩, if_pos rfl]
      obtain ⟨r, hr⟩ := tailF_split (octF p n) (show i < 6 by omega)
      rw [if_pos ho] at hr
      rw [hr, List.append_assoc] at hD
      have hD' := drop_pre hD
      have hu : ((octF p n i).toUInt8).toNat = octF p n i := u8_toNat (octF_lt p n i)
      refine W_execs_cons ?_
      walk_at "st"
      refine W_CallN (f := X.f2) (W_namef (by walk_at "in") rfl rfl rfl) (W_args1 ?_ rfl)
      walk_at "st"
      refine W_args0 ⟨⟨_, .tail _ (.tail _ (.tail _ (.tail _ (.head _))))⟩, ?_⟩
      refine S_rd (i0 := idx + (tailF (octF p n) i).length) (x := (octF p n i).toUInt8) (r := r ++ rest) G hA (callee_nest G (.tail _ (.tail _ (.tail _ (.tail _ (.head _))))) (.tail _ (.tail _ (.tail _ (.tail _ (.tail _ (.tail _ (.tail _ (.tail _ (.head _)))))))))) (.inr (.tail _ (.tail _ (.head _)))) hD' hz fun tx t0' => ?_
      rw [hu]
      walk_at "st"
      dsimp only
      refine W_execs_cons ?_
      walk_at "st"
      walk_at "st"
      walk_at "st"
      walk_at "st"
      walk_at "st"
      walk_at "st"
      walk_at "st"
      refine W_mul (IntMulOk.of_right (by decide)) fun _ => ?_
      rw [show (i : Int) * 8 = ((i * 8 : Nat) : Int) from rfl]
      refine W_lshift (by omega) (by omega) (by have := octF_lt p n i; omega) fun _ => ?_
      rw [Int.toNat_natCast]
      refine W_ior fun tz' => ?_
      rw [or_shift (by rw [← pow256]; exact Nat.mod_lt _ (Nat.pow_pos (by decide))), ← pow256, hoct, hst]
      walk_at "st"
      dsimp only
      walk_at "st"
      dsimp only
      walk_at "st"
      refine ⟨⟨("cp_off", .int ((p % 256 ^ (i + 1) : Nat) : Int) tz') :: ("cmd", .int ((128 + maskF (octF p n) 6 : Nat) : Int) tc) :: bsL X D src n1 rem ta tb tr, (it, J) :: X.nu P PT c.L D vs ((idx + (tailF (octF p n) (i + 1)).length : Nat) : Int) t0', g⟩, ?_, _, rfl, t0', tz', rfl⟩
      have e2 : (tailF (octF p n) (i + 1)).length = (tailF (octF p n) i).length + 1 := by simp [tailF, ho]
      rw [e2]
      exact Le_trans (Le_sub (fun p hp => .tail _ (.tail _ hp)) (List.Sublist.refl _) ["cp_off", "cmd", "remaining", "dest_size", "src_size", "read_byte", "get_delta_header_size", "out", "src_buf", "delta"]) (Le_perm (List.perm_middle (l₁ := [_, _])).symm)
  · rintro σ ⟨t0, tz, rfl⟩
    rw [Nat.mod_eq_of_lt (show p < 256 ^ 4 by omega)]
    exact h _ _
end
section
variable {prog : Program} {w : World} {A : Around} {E : Value → Shared → Prop} {c : Cx} {σ : St} {l l' : List (Str × Value)} {ν ν' τ : List (Addr × OP)} {g : Array GenState} {env : Env} {P : GP} {cc PT : Addr}
/-- where the octets 4.. stand -/
def szAt (p n i : Nat) : Nat := (tailF (octF p n) (4 + min i 2)).length
theorem S_sz {D src rest : Bs} {X : AX} {vs : List Value} {idx p n n1 rem : Nat} {t0 ta tb tr tc tz to : Tok} {Q : Flow → St → Prop} (G : GL P c.h) (hA : Room 1 A)
    (hD : D.drop idx = tailF (octF p n) 6 ++ rest) (hn : n < 65536) (hz : D.length ≤ 16777216)
    (h : ∀ t0 tz, W prog w A E c ⟨("cp_size", .int n tz) :: ("cp_off", .int p to) :: ("cmd", .int ((128 + maskF (octF p n) 6 : Nat) : Int) tc) :: bsL X D src n1 rem ta tb tr, X.nu P PT c.L D vs ((idx + (tailF (octF p n) 6).length : Nat) : Int) t0, g⟩ (execs (cpyB.drop 4) (envA P c.L)) Q) :
    W prog w A E c ⟨("cp_size", .int 0 tz) :: ("cp_off", .int p to) :: ("cmd", .int ((128 + maskF (octF p n) 6 : Nat) : Int) tc) :: bsL X D src n1 rem ta tb tr, X.nu P PT c.L D vs ((idx + (tailF (octF p n) 4).length : Nat) : Int) t0, g⟩ (execs (cpyB.drop 3) (envA P c.L)) Q := by
  refine W_execs_cons ?_
  refine W_For_range hA.1 ?_
  refine W_CallT bb_range G (W_args1 ?_ rfl)
  walk_at "st"
  refine W_args0 (W_range1 fun rg => ?_)
  refine ⟨rg, 0, 3, 3, _, fun i σ => ∃ t0 tz, σ = ⟨("cp_size", .int ((n % 256 ^ i : Nat) : Int) tz) :: ("cp_off", .int p to) :: ("cmd", .int ((128 + maskF (octF p n) 6 : Nat) : Int) tc) :: bsL X D src n1 rem ta tb tr, X.nu P PT c.L D vs ((idx + szAt p n i : Nat) : Int) t0, g⟩, rfl, by decide, by decide, rfl, ⟨t0, tz, ?_⟩, ?_, ?_⟩
  · rw [show n % 256 ^ 0 = 0 from Nat.mod_one n]; rfl
  · rintro i t' σ it J hi ⟨t0, tz, rfl⟩
    refine W_let_name (W_assign_name ?_)
    rw [Int.zero_add]
    walk_at "st"
    dsimp only
    refine W_le (σ' := ⟨("i", .int i t') :: ("cp_size", .int ((n % 256 ^ i : Nat) : Int) tz) :: ("cp_off", .int p to) :: ("cmd", .int ((128 + maskF (octF p n) 6 : Nat) : Int) tc) :: bsL X D src n1 rem ta tb tr, [(c.L + 2, isCell (some (.int ((idx + szAt p n i : Nat) : Int) t0)))] ++ ((it, J) :: (X.o, isList vs) :: X.fix P PT c.L D), g⟩) (Le_perm (List.perm_middle (l₁ := [_, _]))) ?_
    refine W_execs_cons ?_
    walk_at "st"
    refine W_isTrue_value ?_ rfl
    walk_at "st"
    walk_at "st"
    walk_at "st"
    walk_at "st"
    walk_at "st"
    walk_at "st"
    walk_at "st"
    walk_at "st"
    rw [show (4 : Int) + (i : Int) = ((4 + i : Nat) : Int) from rfl]
    refine W_lshift (by omega) (by omega) (by decide) fun _ => ?_
    rw [Int.toNat_natCast]
    walk_at "st"
    walk_at "st"
    rw [cmd_bit _ (by omega)]
    have hoct : octF p n (4 + i) = oct n i := by unfold octF; rw [if_neg (by omega), Nat.add_sub_cancel_left]
    have hst := oct_step n i
    by_cases ho : 4 + i < 6 ∧ octF p n (4 + i) ≠ 0
    · rw [show decide (4 + i < 6 ∧ octF p n (4 + i) ≠ 0) = true from decide_eq_true ho, if_pos rfl]
      obtain ⟨ho1, ho⟩ := ho
      have hm : min i 2 = i := by omega
      have hm1 : min (i + 1) 2 = i + 1 := by omega
      obtain ⟨r, hr⟩ := tailF_split (octF p n) ho1
      rw [if_pos ho] at hr
      rw [hr, List.append_assoc] at hD
      have hD' := drop_pre hD
      have hu : ((octF p n (4 + i)).toUInt8).toNat = octF p n (4 + i) := u8_toNat (octF_lt p n (4 + i))
      have es : szAt p n i = (tailF (octF p n) (4 + i)).length := by unfold szAt; rw [hm]
      rw [es]
      refine W_execs_cons ?_
      walk_at "st"
      refine W_CallN (f := X.f2) (W_namef (by walk_at "in") rfl rfl rfl) (W_args1 ?_ rfl)
      walk_at "st"
      refine W_args0 ⟨⟨_, .tail _ (.tail _ (.tail _ (.tail _ (.head _))))⟩, ?_⟩
      refine S_rd (i0 := idx + (tailF (octF p n) (4 + i)).length) (x := (octF p n (4 + i)).toUInt8) (r := r ++ rest) G hA (callee_nest G (.tail _ (.tail _ (.tail _ (.tail _ (.head _))))) (.tail _ (.tail _ (.tail _ (.tail _ (.tail _ (.tail _ (.tail _ (.tail _ (.head _)))))))))) (.inr (.tail _ (.tail _ (.head _)))) hD' hz fun tx t0' => ?_
      rw [hu]
      walk_at "st"
      dsimp only
      refine W_execs_cons ?_
      walk_at "st"
      walk_at "st"
      walk_at "st"
      walk_at "st"
      walk_at "st"
      walk_at "st"
      walk_at "st"
      refine W_mul (IntMulOk.of_right (by decide)) fun _ => ?_
      rw [show (i : Int) * 8 = ((i * 8 : Nat) : Int) from rfl]
      refine W_lshift (by omega) (by omega) (by have := octF_lt p n (4 + i); omega) fun _ => ?_
      rw [Int.toNat_natCast]
      refine W_ior fun tz' => ?_
      rw [or_shift (by rw [← pow256]; exact Nat.mod_lt _ (Nat.pow_pos (by decide))), ← pow256, hoct, hst]
      walk_at "st"
      dsimp only
      walk_at "st"
      dsimp only
      walk_at "st"
      refine ⟨⟨("cp_size", .int ((n % 256 ^ (i + 1) : Nat) : Int) tz') :: ("cp_off", .int p to) :: ("cmd", .int ((128 + maskF (octF p n) 6 : Nat) : Int) tc) :: bsL X D src n1 rem ta tb tr, (it, J) :: X.nu P PT c.L D vs ((idx + szAt p n (i + 1) : Nat) : Int) t0', g⟩, ?_, _, rfl, t0', tz', rfl⟩
      have e2 : szAt p n (i + 1) = (tailF (octF p n) (4 + i)).length + 1 := by unfold szAt; rw [hm1, ← Nat.add_assoc]; simp [tailF, ho]
      rw [e2]
      exact Le_trans (Le_sub (fun p hp => .tail _ (.tail _ hp)) (List.Sublist.refl _) ["cp_size", "cp_off", "cmd", "remaining", "dest_size", "src_size", "read_byte", "get_delta_header_size", "out", "src_buf", "delta"]) (Le_perm (List.perm_middle (l₁ := [_, _])).symm)
    · rw [show decide (4 + i < 6 ∧ octF p n (4 + i) ≠ 0) = false from decide_eq_false ho, if_neg (by decide)]
      walk_at "st"
      dsimp only
      walk_at "st"
      refine ⟨⟨("cp_size", .int ((n % 256 ^ (i + 1) : Nat) : Int) tz) :: ("cp_off", .int p to) :: ("cmd", .int ((128 + maskF (octF p n) 6 : Nat) : Int) tc) :: bsL X D src n1 rem ta tb tr, (it, J) :: X.nu P PT c.L D vs ((idx + szAt p n (i + 1) : Nat) : Int) t0, g⟩, ?_, _, rfl, t0, tz, rfl⟩
      have e1 : n % 256 ^ (i + 1) = n % 256 ^ i := by
        by_cases h6 : 4 + i < 6
        · have h0 : octF p n (4 + i) = 0 := Decidable.not_not.mp fun h => ho ⟨h6, h⟩
          rw [← hst, ← hoct, h0, Nat.zero_mul, Nat.add_zero]
        · have : i = 2 := by omega
          subst this
          rw [Nat.mod_eq_of_lt (by omega), Nat.mod_eq_of_lt (by omega)]
      have e2 : szAt p n (i + 1) = szAt p n i := by
        unfold szAt
        by_cases h6 : 4 + i < 6
        · have h0 : octF p n (4 + i) = 0 := Decidable.not_not.mp fun h => ho ⟨h6, h⟩
          rw [show min (i + 1) 2 = i + 1 by omega, show min i 2 = i by omega, ← Nat.add_assoc]; simp [tailF, h0]
        · rw [show min (i + 1) 2 = min i 2 by omega]
      rw [e1, e2]
      exact Le_trans (Le_sub (fun p hp => .tail _ hp) (List.Sublist.refl _) ["cp_size", "cp_off", "cmd", "remaining", "dest_size", "src_size", "read_byte", "get_delta_header_size", "out", "src_buf", "delta"]) (Le_perm (List.perm_middle (l₁ := [_, _])).symm)
  · rintro σ ⟨t0, tz, rfl⟩
    rw [Nat.mod_eq_of_lt (show n < 256 ^ 3 by omega)]
    exact h _ _
end
section
variable {prog : Program} {w : World} {A : Around} {E : Value → Shared → Prop} {c : Cx} {σ : St} {l l' : List (Str × Value)} {ν ν' τ : List (Addr × OP)} {g : Array GenState} {env : Env} {P : GP} {cc PT : Addr}
theorem encA_cons (a : Atom) : ∃ x r, encA a = x :: r := by cases a <;> exact ⟨_, _, rfl⟩
theorem S_turnC {D src rest : Bs} {X : AX} {vs : List Value} {idx p n n1 rem : Nat} {t0 ta tb tr : Tok} {Q : Flow → St → Prop} (G : GL P c.h) (hA : Room 1 A)
    (hD : D.drop idx = encA (.cp p n) ++ rest) (ha : AtomOk src.length (.cp p n)) (hs : src.length ≤ 16777216) (hz : D.length ≤ 16777216) (hv : vs.length ≤ 16777216) (hr : n ≤ rem)
    (h : ∀ t t0 tr l', (∀ q ∈ bsL X D src n1 (rem - n) ta tb tr, q ∈ l') → Q .next ⟨l', X.nu P PT c.L D (vs ++ [.bytes (cut src p (p + n)).toArray t]) ((idx + (encA (.cp p n)).length : Nat) : Int) t0, g⟩) :
    W prog w A E c ⟨bsL X D src n1 rem ta tb tr, X.nu P PT c.L D vs idx t0, g⟩ (execs wBody (envA P c.L)) Q := by
  obtain ⟨h1, h2, h3, h4⟩ := ha
  obtain ⟨hlt, _, hdr, hcut⟩ := drop_get (i := idx) (x := (128 + maskF (octF p n) 6).toUInt8) (r := tailF (octF p n) 6 ++ rest) hD
  have hx : ((128 + maskF (octF p n) 6).toUInt8).toNat = 128 + maskF (octF p n) 6 := u8_toNat (by have := maskF_lt (octF p n) 6; omega)
  have hx2 : 128 + maskF (octF p n) 6 < 256 := by have := maskF_lt (octF p n) 6; omega
  refine W_execs_cons ?_
  walk_at "st"
  refine W_CallB bb_ord G (W_args1 ?_ rfl)
  walk_at "st"
  walk_at "st"
  walk_at "st"
  walk_at "st"
  refine W_Name (W_loadC (.inr (.tail _ (.head _))) ?_)
  walk_at "st"
  walk_at "st"
  refine W_Name (W_loadC (.inr (.tail _ (.head _))) ?_)
  walk_at "st"
  walk_at "st"
  intro sl
  rw [show (idx : Int) + 1 = ((idx + 1 : Nat) : Int) from rfl]
  refine W_cutB (Int.natCast_nonneg _) (Int.natCast_nonneg _) hz fun _ => ?_
  refine W_args0 (W_ordB (x := (128 + maskF (octF p n) 6).toUInt8) hcut fun _ => ?_)
  rw [hx]
  walk_at "st"
  dsimp only
  refine W_execs_cons ?_
  walk_at "st"
  refine W_loadC (.inr (.tail _ (.head _))) ?_
  walk_at "st"
  refine W_iadd fun t2 => ?_
  rw [show (idx : Int) + 1 = ((idx + 1 : Nat) : Int) from rfl]
  refine W_storeC (.tail .head) ?_
  dsimp only
  refine W_execs_cons ?_
  walk_at "st"
  refine W_isTrue_value ?_ rfl
  walk_at "st"
  walk_at "st"
  walk_at "st"
  walk_at "st"
  walk_at "st"
  rw [and128 hx2, show decide (128 ≤ 128 + maskF (octF p n) 6) = true from decide_eq_true (by omega), if_pos rfl]
  refine W_execs_cons ?_
  walk_at "st"
  walk_at "st"
  walk_at "st"
  dsimp only
  refine S_off (X := X) G hA hdr (by omega) hz fun t0 tz => ?_
  refine W_execs_cons ?_
  walk_at "st"
  walk_at "st"
  walk_at "st"
  dsimp only
  refine S_sz (X := X) G hA hdr h2 hz fun t0 tz2 => ?_
  refine W_execs_cons ?_
  walk_at "st"
  walk_at "st"
  walk_at "st"
  walk_at "st"
  walk_at "st"
  rw [show ((n : Int) == 0) = false by simp; omega]
  walk_at "st"
  rw [if_neg (by decide)]
  walk_at "st"
  dsimp only
  refine W_execs_cons ?_
  walk_at "st"
  refine W_isTrue_BoolOp (W_allTrue_Or ?_)
  walk_at "st"
  walk_at "st"
  walk_at "st"
  walk_at "st"
  walk_at "st"
  walk_at "st"
  walk_at "st"
  rw [show decide ((p : Int) + (n : Int) < (n : Int)) = false from decide_eq_false (by omega)]
  walk_at "st"
  rw [if_neg (by decide)]
  refine W_allTrue_Or ?_
  walk_at "st"
  walk_at "st"
  walk_at "st"
  walk_at "st"
  walk_at "st"
  walk_at "st"
  walk_at "st"
  rw [show decide ((src.length : Int) < (p : Int) + (n : Int)) = false from decide_eq_false (by omega)]
  walk_at "st"
  rw [if_neg (by decide)]
  refine W_allTrue_Or ?_
  walk_at "st"
  walk_at "st"
  walk_at "st"
  walk_at "st"
  walk_at "st"
  rw [show decide ((rem : Int) < (n : Int)) = false from decide_eq_false (by omega)]
  rw [if_neg (by decide)]
  refine W_allTrue_Or_nil ?_
  rw [if_neg (by decide)]
  walk_at "st"
  dsimp only
  refine W_execs_cons (W_Expr (W_append ?_))
  walk_at "st"
  refine ⟨X.o, vs, rfl, .head _, ?_⟩
  walk_at "st"
  walk_at "st"
  walk_at "st"
  walk_at "st"
  walk_at "st"
  walk_at "st"
  walk_at "st"
  walk_at "st"
  walk_at "st"
  walk_at "st"
  intro sl2
  rw [show (p : Int) + (n : Int) = ((p + n : Nat) : Int) from rfl]
  refine W_cutB (Int.natCast_nonneg _) (Int.natCast_nonneg _) hs fun tb1 => ?_
  refine W_append_call .head hv ?_
  dsimp only
  refine W_execs_cons ?_
  walk_at "st"
  walk_at "st"
  walk_at "st"
  refine W_isub fun tr2 => ?_
  rw [show (rem : Int) - (n : Int) = ((rem - n : Nat) : Int) by omega]
  walk_at "st"
  dsimp only
  walk_at "st"
  have hl : idx + 1 + (tailF (octF p n) 6).length = idx + (encA (.cp p n)).length := by show _ = idx + ((tailF (octF p n) 6).length + 1); omega
  rw [hl]
  try dsimp only
  walk_at "st"
  exact h tb1 t0 tr2 _ (fun q hq => .tail _ (.tail _ (.tail _ hq)))
theorem S_turnI {D src rest b : Bs} {X : AX} {vs : List Value} {idx n1 rem : Nat} {t0 ta tb tr : Tok} {Q : Flow → St → Prop} (G : GL P c.h) (hA : Room 1 A)
    (hD : D.drop idx = encA (.ch b) ++ rest) (ha : AtomOk src.length (.ch b)) (hs : src.length ≤ 16777216) (hz : D.length ≤ 16777216) (hv : vs.length ≤ 16777216) (hr : b.length ≤ rem)
    (h : ∀ t t0 tr l', (∀ q ∈ bsL X D src n1 (rem - b.length) ta tb tr, q ∈ l') → Q .next ⟨l', X.nu P PT c.L D (vs ++ [.bytes b.toArray t]) ((idx + (encA (.ch b)).length : Nat) : Int) t0, g⟩) :
    W prog w A E c ⟨bsL X D src n1 rem ta tb tr, X.nu P PT c.L D vs idx t0, g⟩ (execs wBody (envA P c.L)) Q := by
  obtain ⟨h1, h2⟩ := ha
  obtain ⟨hlt, _, hdr, hcut⟩ := drop_get (i := idx) (x := b.length.toUInt8) (r := b ++ rest) hD
  have hx : (b.length.toUInt8).toNat = b.length := u8_toNat (by omega)
  have hle : idx + 1 + b.length ≤ D.length := by
    have := congrArg List.length hdr
    rw [List.length_drop, List.length_append] at this
    omega
  have hc2 : cut D (idx + 1) (idx + 1 + b.length) = b := by
    unfold cut
    rw [hdr, Nat.add_sub_cancel_left, List.take_left]
  refine W_execs_cons ?_
  walk_at "st"
  refine W_CallB bb_ord G (W_args1 ?_ rfl)
  walk_at "st"
  walk_at "st"
  walk_at "st"
  walk_at "st"
  refine W_Name (W_loadC (.inr (.tail _ (.head _))) ?_)
  walk_at "st"
  walk_at "st"
  refine W_Name (W_loadC (.inr (.tail _ (.head _))) ?_)
  walk_at "st"
  walk_at "st"
  intro sl
  rw [show (idx : Int) + 1 = ((idx + 1 : Nat) : Int) from rfl]
  refine W_cutB (Int.natCast_nonneg _) (Int.natCast_nonneg _) hz fun _ => ?_
  refine W_args0 (W_ordB (x := b.length.toUInt8) hcut fun _ => ?_)
  rw [hx]
  walk_at "st"
  dsimp only
  refine W_execs_cons ?_
  walk_at "st"
  refine W_loadC (.inr (.tail _ (.head _))) ?_
  walk_at "st"
  refine W_iadd fun t2 => ?_
  rw [show (idx : Int) + 1 = ((idx + 1 : Nat) : Int) from rfl]
  refine W_storeC (.tail .head) ?_
  dsimp only
  refine W_execs_cons ?_
  walk_at "st"
  refine W_isTrue_value ?_ rfl
  walk_at "st"
  walk_at "st"
  walk_at "st"
  walk_at "st"
  walk_at "st"
  rw [and128 (by omega), show decide (128 ≤ b.length) = false from decide_eq_false (by omega), if_neg (by decide)]
  refine W_execs_cons ?_
  walk_at "st"
  walk_at "st"
  walk_at "st"
  walk_at "st"
  walk_at "st"
  rw [show ((b.length : Int) != 0) = true by simp; intro e; rw [e] at h1; simp at h1]
  walk_at "st"
  rw [if_pos rfl]
  refine W_execs_cons ?_
  walk_at "st"
  walk_at "st"
  walk_at "st"
  walk_at "st"
  walk_at "st"
  rw [show decide ((rem : Int) < (b.length : Int)) = false from decide_eq_false (by omega)]
  walk_at "st"
  rw [if_neg (by decide)]
  walk_at "st"
  dsimp only
  refine W_execs_cons ?_
  walk_at "st"
  walk_at "st"
  walk_at "st"
  refine W_Name (W_loadC (.inr (.tail _ (.head _))) ?_)
  walk_at "st"
  walk_at "st"
  refine W_Name (W_loadC (.inr (.tail _ (.tail _ (.head _)))) ?_)
  walk_at "st"
  rw [show decide ((D.length : Int) < ((idx + 1 : Nat) : Int) + (b.length : Int)) = false from decide_eq_false (by omega)]
  walk_at "st"
  rw [if_neg (by decide)]
  walk_at "st"
  dsimp only
  refine W_execs_cons (W_Expr (W_append ?_))
  walk_at "st"
  refine ⟨X.o, vs, rfl, .head _, ?_⟩
  walk_at "st"
  walk_at "st"
  walk_at "st"
  walk_at "st"
  refine W_Name (W_loadC (.inr (.tail _ (.head _))) ?_)
  walk_at "st"
  walk_at "st"
  refine W_Name (W_loadC (.inr (.tail _ (.head _))) ?_)
  walk_at "st"
  walk_at "st"
  intro sl2
  rw [show ((idx + 1 : Nat) : Int) + (b.length : Int) = ((idx + 1 + b.length : Nat) : Int) from rfl]
  refine W_cutB (Int.natCast_nonneg _) (Int.natCast_nonneg _) hz fun tb1 => ?_
  simp only [Int.toNat_natCast]
  rw [hc2]
  refine W_append_call .head hv ?_
  dsimp only
  refine W_execs_cons ?_
  walk_at "st"
  refine W_loadC (.inr (.tail _ (.head _))) ?_
  walk_at "st"
  refine W_iadd fun t3 => ?_
  rw [show ((idx + 1 : Nat) : Int) + (b.length : Int) = ((idx + 1 + b.length : Nat) : Int) from rfl]
  refine W_storeC (.tail .head) ?_
  dsimp only
  refine W_execs_cons ?_
  walk_at "st"
  walk_at "st"
  walk_at "st"
  refine W_isub fun tr2 => ?_
  rw [show (rem : Int) - (b.length : Int) = ((rem - b.length : Nat) : Int) by omega]
  walk_at "st"
  dsimp only
  walk_at "st"
  have hl : idx + 1 + b.length = idx + (encA (.ch b)).length := by show _ = idx + (b.length + 1); omega
  rw [hl]
  try dsimp only
  walk_at "st"
  try dsimp only
  walk_at "st"
  exact h tb1 t3 tr2 _ (fun q hq => .tail _ hq)
end
section
variable {prog : Program} {w : World} {A : Around} {E : Value → Shared → Prop} {c : Cx} {σ : St} {l l' : List (Str × Value)} {ν ν' τ : List (Addr × OP)} {g : Array GenState} {env : Env} {P : GP} {cc PT : Addr}
def outAs (src : Bs) (as : List Atom) : Bs := (as.map (outA src)).flatten
theorem outA_len {src : Bs} {a : Atom} (h : AtomOk src.length a) : (outA src a).length = lenA a := by
  cases a with
  | ch b => rfl
  | cp p n =>
    obtain ⟨h1, h2, h3, h4⟩ := h
    show (cut src p (p + n)).length = n
    unfold cut
    rw [List.length_take, List.length_drop]; omega
theorem outAs_len {src : Bs} : ∀ {as : List Atom}, (∀ a ∈ as, AtomOk src.length a) → (outAs src as).length = lenAs as
  | [], _ => rfl
  | a :: as, h => by
    have ih := outAs_len (as := as) fun a ha => h a (.tail _ ha)
    unfold outAs lenAs at ih ⊢
    rw [List.map_cons, List.flatten_cons, List.length_append, ih, outA_len (h a (.head _)), List.map_cons, List.sum_cons]
theorem S_loop {D src : Bs} {as : List Atom} {X : AX} {idx : Nat} {t0 ta tb tr : Tok} {Q : Flow → St → Prop} (G : GL P c.h) (hA : Room 1 A)
    (hD : D.drop idx = encAs as) (hi : idx ≤ D.length) (ha : ∀ a ∈ as, AtomOk src.length a) (hs : src.length ≤ 16777216) (hz : D.length ≤ 16777216) (hv : as.length ≤ 1000) (hz2 : lenAs as ≤ 1048576)
    (h : ∀ vs l' ν', BytesAre vs (as.map (outA src)) → Q (.ret (.ref X.o)) ⟨l', (X.o, isList vs) :: (c.L + 2, ν') :: X.fix P PT c.L D, g⟩) :
    W prog w A E c (StW P PT D src c.L X [] idx src.length (lenAs as) (lenAs as) t0 ta tb tr g) (execs ((bodyOf (stmtAt 8)).drop 11) (envA P c.L)) Q := by
  unfold StW
  refine W_execs_cons ?_
  refine W_While (fun m σ => ∃ j vs idx rem t0 tr, m = as.length - j ∧ j ≤ as.length ∧ σ = ⟨bsL X D src (lenAs as) rem ta tb tr, X.nu P PT c.L D vs ((idx : Nat) : Int) t0, g⟩ ∧ D.drop idx = encAs (as.drop j) ∧ idx ≤ D.length ∧ rem = lenAs (as.drop j) ∧ BytesAre vs ((as.take j).map (outA src))) as.length
    ⟨0, [], idx, lenAs as, t0, tr, rfl, Nat.zero_le _, rfl, by simpa using hD, hi, by simp, .nil⟩ ?_
  rintro m σ ⟨j, vs, idx, rem, t0, tr, rfl, hj, rfl, hD, hi, hrem, hb⟩
  walk_at "st"
  refine W_Name (W_loadC (.inr (.tail _ (.head _))) ?_)
  refine W_Name (W_loadC (.inr (.tail _ (.tail _ (.head _)))) ?_)
  walk_at "st"
  walk_at "st"
  have hvl : vs.length = j := by rw [hb.length, List.length_map, List.length_take]; omega
  rcases Nat.lt_or_ge j as.length with hlt | hge
  · obtain ⟨a, e1, hm, e2, e3⟩ := drop_atoms hlt
    obtain ⟨x, r, e4⟩ := encA_cons a
    have hlt2 : idx < D.length := (drop_get (x := x) (r := r ++ encAs (as.drop (j + 1))) (by rw [hD, e2, e4]; rfl)).1
    rw [show decide ((idx : Int) < (D.length : Int)) = true from decide_eq_true (by omega), if_pos rfl]
    have hok := ha a hm
    have hD2 : D.drop idx = encA a ++ encAs (as.drop (j + 1)) := by rw [hD, e2]
    have hdr2 : D.drop (idx + (encA a).length) = encAs (as.drop (j + 1)) := by rw [← List.drop_drop, hD2, List.drop_left]
    have hle2 : idx + (encA a).length ≤ D.length := by
      have := congrArg List.length hD2
      rw [List.length_drop, List.length_append] at this
      omega
    have hbn : ∀ t, BytesAre (vs ++ [.bytes (outA src a).toArray t]) ((as.take (j + 1)).map (outA src)) := fun t => by
      rw [List.take_add_one, e1, List.map_append]
      exact BytesAre.snoc hb _ _
    have fin : ∀ t t0 tr l', (∀ q ∈ bsL X D src (lenAs as) (rem - lenA a) ta tb tr, q ∈ l') →
        TurnEnd c (fun f σ' => match f with | .next => W prog w A E c σ' (execs ((bodyOf (stmtAt 8)).drop 12) (envA P c.L)) Q | f => Q f σ') (fun σ' => ∃ m, m < as.length - j ∧ ∃ j vs idx rem t0 tr, m = as.length - j ∧ j ≤ as.length ∧ σ' = ⟨bsL X D src (lenAs as) rem ta tb tr, X.nu P PT c.L D vs ((idx : Nat) : Int) t0, g⟩ ∧ D.drop idx = encAs (as.drop j) ∧ idx ≤ D.length ∧ rem = lenAs (as.drop j) ∧ BytesAre vs ((as.take j).map (outA src)))
          .next ⟨l', X.nu P PT c.L D (vs ++ [.bytes (outA src a).toArray t]) ((idx + (encA a).length : Nat) : Int) t0, g⟩ := by
      intro t t0 tr l' hl'
      refine ⟨⟨bsL X D src (lenAs as) (rem - lenA a) ta tb tr, X.nu P PT c.L D (vs ++ [.bytes (outA src a).toArray t]) ((idx + (encA a).length : Nat) : Int) t0, g⟩, Le_sub hl' (List.Sublist.refl _) ["remaining", "dest_size", "src_size", "read_byte", "get_delta_header_size", "out", "src_buf", "delta"], as.length - (j + 1), by omega, j + 1, _, idx + (encA a).length, rem - lenA a, t0, tr, rfl, hlt, rfl, hdr2, hle2, by omega, hbn t⟩
    cases a with
    | ch b => exact S_turnI G hA hD2 hok hs hz (by omega) (by show lenA (.ch b) ≤ rem; omega) fin
    | cp p n => exact S_turnC G hA hD2 hok hs hz (by omega) (by show lenA (.cp p n) ≤ rem; omega) fin
  · have hje : j = as.length := by omega
    subst hje
    rw [List.drop_length] at hD hrem
    rw [List.take_length] at hb
    have hie : idx = D.length := by
      have := congrArg List.length hD
      rw [List.length_drop] at this
      have h0 : (encAs []).length = 0 := rfl
      omega
    rw [show decide ((idx : Int) < (D.length : Int)) = false from decide_eq_false (by omega), if_neg (by decide)]
    walk_at "st"
    dsimp only
    refine W_execs_cons ?_
    walk_at "st"
    walk_at "st"
    refine W_Name (W_loadC (.inr (.tail _ (.head _))) ?_)
    refine W_Name (W_loadC (.inr (.tail _ (.tail _ (.head _)))) ?_)
    walk_at "st"
    rw [show ((idx : Int) != (D.length : Int)) = false by simp [hie]]
    walk_at "st"
    rw [if_neg (by decide)]
    walk_at "st"
    dsimp only
    refine W_execs_cons ?_
    walk_at "st"
    walk_at "st"
    walk_at "st"
    refine W_CallF (i := 3) (by decide) nm3 G (W_args1 ?_ rfl)
    walk_at "st"
    have hlen : (as.map (outA src)).flatten.length = lenAs as := outAs_len ha
    refine W_args0 (S_chunks G hA (.inr (.head _)) hb (by omega) (by rw [List.length_map]; exact hv) fun tc => ?_)
    rw [hlen]
    walk_at "st"
    rw [show ((lenAs as : Int) != (lenAs as : Int)) = false by simp]
    walk_at "st"
    rw [if_neg (by decide)]
    walk_at "st"
    dsimp only
    refine W_execs_cons ?_
    walk_at "st"
    walk_at "st"
    exact h vs _ _ hb
end
section
variable {prog : Program} {w : World} {A : Around} {E : Value → Shared → Prop} {c : Cx} {σ : St} {l l' : List (Str × Value)} {ν ν' τ : List (Addr × OP)} {g : Array GenState} {env : Env} {P : GP} {cc PT : Addr}
theorem BytesArg.frz {c' : Cx} {v : Value} {b : Bs} (h : BytesArg c ⟨l, ν, g⟩ v b) (z : Frz c ν c') : ∀ σ, BytesArg c' σ v b := fun σ => by
  rcases h with h | ⟨d, xs, bs, e, hx, hb, hf⟩
  · exact .inl h
  · exact .inr ⟨d, xs, bs, e, hx.frz z, hb, hf⟩
/-- what a delta must be for apply_delta to give it back -/
structure DeltaOk (src D : Bs) (as : List Atom) : Prop where
  eq : D = toB (sizeL src.length) ++ (toB (sizeL (lenAs as)) ++ encAs as)
  ok : ∀ a ∈ as, AtomOk src.length a
  hs : src.length < 2 ^ 20
  hn : lenAs as < 2 ^ 20
  hz : D.length ≤ 16777216
  hv : as.length ≤ 1000
/-- the table behind the first call -/
def Tab6 (PT : Addr) (τ : List (Addr × OP)) : Prop := ∃ c1 c2, τ = [(PT, isTab (tab6 c1 c2)), (c1, isCR qHdr), (c2, isCR qRd)]
theorem Tab6.form {PT : Addr} {τ : List (Addr × OP)} (h : Tab6 PT τ) : TabForm PT τ := .inr h
theorem S_applyPy {src D : Bs} {as : List Atom} {v1 v2 : Value} {Q : Value → St → Prop} (G : GL P c.h) (G2 : GL2 P cc PT c.h) (hA : Room 2 A) (K : DeltaOk src D as) (h1 : BytesArg c ⟨l, ν, g⟩ v1 src) (h2 : BytesArg c ⟨l, ν, g⟩ v2 D) (hτ : TabForm PT τ)
    (h : ∀ o vs τ', Tab6 PT τ' → BytesAre vs (as.map (outA src)) → Q (.ref o) ⟨l, (o, isList vs) :: (τ' ++ ν), g⟩) : W prog w A E c ⟨l, τ ++ ν, g⟩ (call (.ref (P.fa 8)) [v1, v2] []) Q := by
  refine W_forget (W_callC (ρ := τ) (binds := [("src_buf", v1), ("delta", v2)]) (bl := [("src_buf", v1), ("delta", v2)]) hA.lt (callee_of G (by decide)) rfl rfl (show (["src_buf", "delta"] : List Str).Nodup by decide +kernel) (fun c2 z => ?_) ?_ (fun s x hx => ?_) rfl (show (((scopeOf (stmtAt 8)).names.filter (·.2 == .cell)).map (·.1)).Nodup by decide +kernel) (by rfl) (by rfl) (by rfl))
  case refine_2 =>
    exact List.map_inj_left.mp (by rfl : ([("src_buf", v1), ("delta", v2)] : List (Str × Value)).map (fun p : Str × Value => bindL (fun n => (fdOf P 8).scope.names.lookup n) [("src_buf", v1), ("delta", v2)] (fun _ => none) p.1) = ([("src_buf", v1), ("delta", v2)] : List (Str × Value)).map fun p => some p.2)
  case refine_3 =>
    have : x.1 ∈ (["src_buf", "delta"] : List Str) := List.mem_map.mpr ⟨x, hx, rfl⟩
    exact .inl ((show ∀ x ∈ (["src_buf", "delta"] : List Str), (scopeOf (stmtAt 8)).names.lookup x = some .local by decide +kernel) _ this)
  have G' := G.frz z
  have G2' := G2.frz z
  have hA' : Room 1 (A.deeper (envA P c2.L)) := hA.deeper
  show W prog w (A.deeper (envA P c2.L)) NoE c2 _ (execs (bodyOf (stmtAt 8)) (envA P c2.L)) _
  generalize A.deeper (envA P c2.L) = A' at hA' ⊢
  have hκ : cellsNu (fdOf P 8) [("src_buf", v1), ("delta", v2)] c2.L = [(c2.L + 2, isCell none), (c2.L + 1, isCell none)] := by rfl
  rw [hκ]
  have hs := K.hs
  refine S_pre G' (hA'.less (by decide)) (h1.frz z) (h2.frz z) (by omega) K.hz fun tD tS t0 t1 o => ?_
  refine S_defs G' G2' hτ fun f1 f2 c1 c2' doc1 ctv1 doc2 ctv2 => ?_
  refine S_heads (rest := encAs as) G' hA' K.eq K.hs K.hn K.hz fun X t0 ta tb tr hX => ?_
  have hn := K.hn
  have hdr : D.drop ((sizeL src.length).length + (sizeL (lenAs as)).length) = encAs as := by
    have e1 : (toB (sizeL src.length)).length = (sizeL src.length).length := by simp [toB]
    have e2 : (toB (sizeL (lenAs as))).length = (sizeL (lenAs as)).length := by simp [toB]
    rw [K.eq, ← List.drop_drop, ← e1, List.drop_left, ← e2, List.drop_left]
  have hle : (sizeL src.length).length + (sizeL (lenAs as)).length ≤ D.length := by
    have := congrArg List.length K.eq
    simp only [List.length_append, toB, List.length_map] at this
    omega
  refine S_loop (as := as) G' hA' hdr hle K.ok (by omega) K.hz K.hv (by omega) fun vs l' ν' hb => ?_
  refine ⟨_, ?_, h X.o vs [(PT, isTab (tab6 X.c1 X.c2)), (X.c1, isCR qHdr), (X.c2, isCR qRd)] ⟨_, _, rfl⟩ hb⟩
  exact Le_nu (.cons_cons _ (.cons _ (.cons _ (.cons _ (.cons _ (List.Sublist.refl _))))))
theorem S_apply {src D : Bs} {as : List Atom} {v1 v2 : Value} {Q : Value → St → Prop} (G : GL P c.h) (G2 : GL2 P cc PT c.h) (hA : Room 3 A) (K : DeltaOk src D as) (h1 : BytesArg c ⟨l, ν, g⟩ v1 src) (h2 : BytesArg c ⟨l, ν, g⟩ v2 D) (hτ : TabForm PT τ)
    (h : ∀ o vs τ', Tab6 PT τ' → BytesAre vs (as.map (outA src)) → Q (.ref o) ⟨l, (o, isList vs) :: (τ' ++ ν), g⟩) : W prog w A E c ⟨l, τ ++ ν, g⟩ (call (.ref (P.fa 10)) [v1, v2] []) Q := by
  refine W_call_ (ρ := τ) (binds := [("src_buf", v1), ("delta", v2)]) hA.lt (callee_of G (by decide)) rfl rfl (show (["src_buf", "delta"] : List Str).Nodup by decide +kernel) (fun c2 z => ?_) (fun x hx => ?_) (show ∀ x ∈ (scopeOf (stmtAt 10)).names, x.2 ≠ .cell by decide +kernel) (by rfl) (by rfl) (by rfl)
  case refine_2 =>
    have : x.1 ∈ (["src_buf", "delta"] : List Str) := List.mem_map.mpr ⟨x, hx, rfl⟩
    exact (show ∀ x ∈ (["src_buf", "delta"] : List Str), (scopeOf (stmtAt 10)).names.lookup x = some .local by decide +kernel) _ this
  have G' := G.frz z
  have G2' := G2.frz z
  have hA' : Room 2 (A.deeper (callEnv (fdOf P 10) c2.L (P.fa 10))) := hA.deeper
  generalize A.deeper (callEnv (fdOf P 10) c2.L (P.fa 10)) = A' at hA' ⊢
  refine W_execs_cons ?_
  walk_at "st"
  refine W_CallF (i := 8) (by decide) nm8 G' (W_args1 ?_ rfl)
  walk_at "st"
  refine W_args1 ?_ rfl
  walk_at "st"
  refine W_args0 ?_
  refine W_le (σ' := ⟨[("src_buf", v1), ("delta", v2)], τ ++ [], g⟩) (Le_perm (by rw [List.append_nil])) ?_
  refine S_applyPy G' G2' hA' K (h1.frz z _) (h2.frz z _) hτ fun o vs τ' hτ' hb => ?_
  have := h o vs τ' hτ' hb
  show Q (.ref o) ⟨l, ((o, isList vs) :: (τ' ++ [])) ++ ν, g⟩
  rw [List.append_nil]
  exact this
end
section
variable {prog : Program} {w : World} {A : Around} {E : Value → Shared → Prop} {c : Cx} {σ : St} {l l' : List (Str × Value)} {ν ν' τ : List (Addr × OP)} {g : Array GenState} {env : Env} {P : GP} {cc PT C fI : Addr} {fd : FuncData}
/-- the state behind the two defs, the table's records lying behind it -/
def StF (P : GP) (D src : Bs) (L : Addr) (tD tS t0 t1 : Tok) (o f1 f2 c1 c2 : Addr) (doc1 ctv1 doc2 ctv2 : Value) (g : Array GenState) : St :=
  ⟨[("read_byte", .ref f2), ("get_delta_header_size", .ref f1), ("out", .ref o), ("src_buf", .bytes src.toArray tS), ("delta", .bytes D.toArray tD)],
   [(o, isList []), (L + 2, isCell (some (.int 0 t0))), (L + 1, isCell (some (.int D.length t1))), (f2, isFn (fdRd P qRd [("index", L + 2), ("delta_length", L + 1)] doc2 c2 ctv2)), (f1, isFn (fdHdr P qHdr [("delta_length", L + 1)] doc1 c1 ctv1))], g⟩
theorem permF {α : Type} (a b c d e : α) : [a, b, c, d, e].Perm [c, d, e, a, b] :=
  (show ([0, 1, 2, 3, 4] : List Nat).Perm [2, 3, 4, 0, 1] by decide).map fun i => [a, b, c, d, e].getD i a
theorem S_defsF {D src : Bs} {tD tS t0 t1 : Tok} {o c1 c2 : Addr} {Q : Flow → St → Prop} (G : GL P c.h) (G2 : GL2 P cc PT c.h) (hτ : ∀ σ, HasO c σ PT (isTab (tab6 c1 c2)))
    (h : ∀ f1 f2 doc1 ctv1 doc2 ctv2, W prog w A E c (StF P D src c.L tD tS t0 t1 o f1 f2 c1 c2 doc1 ctv1 doc2 ctv2 g) (execs ((bodyOf (stmtAt 8)).drop 7) (envA P c.L)) Q) :
    W prog w A E c (StP D src c.L tD tS t0 t1 o [] g) (execs ((bodyOf (stmtAt 8)).drop 5) (envA P c.L)) Q := by
  rw [drop5]
  refine W_execs_cons ?_
  rw [nst5]
  refine W_Def rfl rfl (ann5 P c.L) ?_
  rw [qn5]
  refine W_makeHitO (ps := tab6 c1 c2) G G2 (hτ _) (clos5 P c.L) rfl G2.code (tab6_ok c1 c2) (tab6_1 c1 c2) fun f1 doc1 ctv1 => ?_
  refine W_storeN (by walk_at "notin") ?_ rfl (kind5 P c.L) (scK P c.L)
  dsimp only
  refine W_execs_cons ?_
  rw [nst6]
  refine W_Def rfl rfl (ann6 P c.L) ?_
  rw [qn6]
  refine W_makeHitO (ps := tab6 c1 c2) G G2 (hτ _) (clos6 P c.L) rfl G2.code (tab6_ok c1 c2) (tab6_2 c1 c2) fun f2 doc2 ctv2 => ?_
  refine W_storeN (by walk_at "notin") ?_ rfl (kind6 P c.L) (scK P c.L)
  dsimp only
  exact W_le (Le_perm (permF _ _ _ _ _)) (h f1 f2 doc1 ctv1 doc2 ctv2)
theorem log_small {n : Nat} (h : n < 2 ^ 20) : (n : Int).natAbs.log2 < 1920 := by
  rw [Int.natAbs_natCast]
  by_cases h0 : n = 0
  · subst h0; decide
  · exact Nat.lt_of_lt_of_le ((Nat.log2_lt h0).mpr h) (by decide)
theorem S_bad {D src rest : Bs} {n0 n1 : Nat} {tD tS t0 t1 : Tok} {o f1 f2 c1 c2 : Addr} {doc1 ctv1 doc2 ctv2 : Value} {Q : Flow → St → Prop} (G : GL P c.h) (hA : Room 1 A)
    (hD : D = toB (sizeL n0) ++ (toB (sizeL n1) ++ rest)) (h0 : n0 < 2 ^ 20) (hne : n0 ≠ src.length) (hs : src.length < 2 ^ 20) (hn : n1 < 2 ^ 20) (hz : D.length ≤ 16777216) (GX : GE P C fI fd c.h) (hc1 : ∀ σ, HasO c σ c1 (isCR qHdr)) :
    W prog w A (ofX c (fun e σ' => ∃ a, e = .ref a ∧ (a, isExc C) ∈ σ'.ν ∧ σ'.g = g)) c (StF P D src c.L tD tS t0 t1 o f1 f2 c1 c2 doc1 ctv1 doc2 ctv2 g) (execs ((bodyOf (stmtAt 8)).drop 7) (envA P c.L)) Q := by
  unfold StF
  refine W_execs_cons (W_AssignTup hA.1 ?_ rfl rfl)
  refine W_CallN (W_namef (by walk_at "in") rfl rfl rfl) (W_args1 ?_ rfl)
  walk_at "st"
  refine W_args1 (W_Name (W_loadC (.inr (.tail _ (.head _))) ?_)) rfl
  refine W_args0 ⟨⟨_, .tail _ (.tail _ (.tail _ (.tail _ (.head _))))⟩, ?_⟩
  refine S_hdr (i0 := 0) (rest := toB (sizeL n1) ++ rest) G hA (callee_nestO G (.tail _ (.tail _ (.tail _ (.tail _ (.head _))))) (hc1 _)) (.inr (.tail _ (.tail _ (.head _)))) (by rw [List.drop_zero]; exact hD) h0 hz fun T ta ti => ?_
  refine ⟨T, _, rfl, .inr (.head _), rfl, rfl, ?_⟩
  refine W_inOrder_cons (W_assign_name ?_)
  walk_at "st"
  refine W_inOrder_cons (W_assign_name ?_)
  refine W_storeC (.tail (.tail .head)) ?_
  refine W_inOrder_nil ?_
  dsimp only
  rw [Nat.zero_add]
  refine W_le (Le_nu (List.sublist_cons_self _ _)) ?_
  refine W_execs_cons (W_AssignTup hA.1 ?_ rfl rfl)
  refine W_CallN (W_namef (by walk_at "in") rfl rfl rfl) (W_args1 ?_ rfl)
  walk_at "st"
  refine W_args1 (W_Name (W_loadC (.inr (.tail _ (.head _))) ?_)) rfl
  refine W_args0 ⟨⟨_, .tail _ (.tail _ (.tail _ (.tail _ (.head _))))⟩, ?_⟩
  refine S_hdr (i0 := (sizeL n0).length) (rest := rest) G hA (callee_nestO G (.tail _ (.tail _ (.tail _ (.tail _ (.head _))))) (hc1 _)) (.inr (.tail _ (.tail _ (.head _)))) ?_ hn hz fun T2 tb ti2 => ?_
  · rw [hD]
    have : (toB (sizeL n0)).length = (sizeL n0).length := by simp [toB]
    rw [← this, List.drop_left]
  refine ⟨T2, _, rfl, .inr (.head _), rfl, rfl, ?_⟩
  refine W_inOrder_cons (W_assign_name ?_)
  walk_at "st"
  refine W_inOrder_cons (W_assign_name ?_)
  refine W_storeC (.tail (.tail .head)) ?_
  refine W_inOrder_nil ?_
  dsimp only
  refine W_le (Le_nu (List.sublist_cons_self _ _)) ?_
  refine W_execs_cons ?_
  walk_at "st"
  walk_at "st"
  walk_at "st"
  refine W_CallB bb_len G (W_args1 ?_ rfl)
  walk_at "st"
  refine W_args0 (W_lenB (by omega) fun t2 => ?_)
  walk_at "st"
  rw [show ((n0 : Int) != (src.length : Int)) = true by simp; omega]
  walk_at "st"
  rw [if_pos rfl]
  refine W_execs_cons ?_
  refine W_Raise GX hA.1 ?_
  refine W_Call (W_Name (W_global G GX.name ?_ rfl rfl rfl) (by decide))
  refine W_callWith_exc GX (W_args1 ?_ rfl)
  refine W_JoinedStr ?_
  refine W_parts_cons (W_str fun _ => ⟨_, _, rfl, by decide +kernel, ?_⟩)
  have L0 : (Str.empty ++ Str.ofString "Unexpected source buffer size: ").length ≤ 100 := by decide +kernel
  generalize Str.empty ++ Str.ofString "Unexpected source buffer size: " = a0 at L0 ⊢
  refine W_parts_cons (W_Formatted ?_)
  walk_at "st"
  refine ⟨_, _, rfl, log_small h0, fun _ => ?_⟩
  have L1 : (a0 ++ Str.ofString (toString (n0 : Int))).length ≤ 2100 := by
    have := int_text_len_1921 (log_small h0)
    rw [strLen_append]; omega
  refine ⟨_, _, rfl, by rw [PySem.sizeLine_eq]; exact Nat.le_trans L1 (by decide), ?_⟩
  generalize a0 ++ Str.ofString (toString (n0 : Int)) = a1 at L1 ⊢
  refine W_parts_cons (W_str fun _ => ?_)
  have L2 : (a1 ++ Str.ofString " vs ").length ≤ 2200 := by
    have : (Str.ofString " vs ").length = 4 := by decide +kernel
    rw [strLen_append]; omega
  refine ⟨_, _, rfl, by rw [PySem.sizeLine_eq]; exact Nat.le_trans L2 (by decide), ?_⟩
  generalize a1 ++ Str.ofString " vs " = a2 at L2 ⊢
  refine W_parts_cons (W_Formatted ?_)
  refine W_CallB bb_len G (W_args1 ?_ rfl)
  walk_at "st"
  refine W_args0 (W_lenB (by omega) fun t2 => ?_)
  refine ⟨_, _, rfl, log_small hs, fun _ => ?_⟩
  have L3 : (a2 ++ Str.ofString (toString (src.length : Int))).length ≤ 4500 := by
    have := int_text_len_1921 (log_small hs)
    rw [strLen_append]; omega
  refine ⟨_, _, rfl, by rw [PySem.sizeLine_eq]; exact Nat.le_trans L3 (by decide), ?_⟩
  refine W_parts_nil (by rw [PySem.sizeLine_eq]; exact Nat.le_trans L3 (by decide)) fun _ => ?_
  refine W_args0 (W_makeExc G GX hA fun e => ?_)
  exact ⟨e, rfl, .head _, e, rfl, .head _, rfl⟩
end
section
variable {prog : Program} {w : World} {A : Around} {E : Value → Shared → Prop} {c : Cx} {σ : St} {l l' : List (Str × Value)} {ν ν' τ : List (Addr × OP)} {g : Array GenState} {env : Env} {P : GP} {cc PT C fI : Addr} {fd : FuncData}
/-- a delta whose first size isn't the source's -/
structure DeltaBad (src D : Bs) : Prop where
  eq : ∃ n0 n1 rest, D = toB (sizeL n0) ++ (toB (sizeL n1) ++ rest) ∧ n0 < 2 ^ 20 ∧ n0 ≠ src.length ∧ n1 < 2 ^ 20
  hs : src.length < 2 ^ 20
  hz : D.length ≤ 16777216
theorem R_applyPy {src D : Bs} {v1 v2 : Value} {c1 c2 : Addr} {envs : List Env} {Q : Value → St → Prop} (G : GL P c.h) (G2 : GL2 P cc PT c.h) (GX : GE P C fI fd c.h) (hA : Room 2 A) (K : DeltaBad src D) (h1 : BytesArg c ⟨l, ν, g⟩ v1 src) (h2 : BytesArg c ⟨l, ν, g⟩ v2 D)
    (hT : HasO c ⟨l, ν, g⟩ PT (isTab (tab6 c1 c2))) (hc1 : HasO c ⟨l, ν, g⟩ c1 (isCR qHdr)) (hfr : A.frames = some envs) (F : FramesIn c envs) :
    W prog w A (FlyC c envs C g) c ⟨l, ν, g⟩ (call (.ref (P.fa 8)) [v1, v2] []) Q := by
  refine W_callCR (binds := [("src_buf", v1), ("delta", v2)]) (bl := [("src_buf", v1), ("delta", v2)]) hA.lt (callee_of G (by decide)) rfl rfl (show (["src_buf", "delta"] : List Str).Nodup by decide +kernel) (fun s₂ L' r2 z => ?_) ?_ (fun s x hx => ?_) rfl (show (((scopeOf (stmtAt 8)).names.filter (·.2 == .cell)).map (·.1)).Nodup by decide +kernel) (by rfl) (by rfl) (by rfl)
  case refine_2 =>
    exact List.map_inj_left.mp (by rfl : ([("src_buf", v1), ("delta", v2)] : List (Str × Value)).map (fun p : Str × Value => bindL (fun n => (fdOf P 8).scope.names.lookup n) [("src_buf", v1), ("delta", v2)] (fun _ => none) p.1) = ([("src_buf", v1), ("delta", v2)] : List (Str × Value)).map fun p => some p.2)
  case refine_3 =>
    have : x.1 ∈ (["src_buf", "delta"] : List Str) := List.mem_map.mpr ⟨x, hx, rfl⟩
    exact .inl ((show ∀ x ∈ (["src_buf", "delta"] : List Str), (scopeOf (stmtAt 8)).names.lookup x = some .local by decide +kernel) _ this)
  refine ⟨ofX (inside s₂ c L' (cellsNu (fdOf P 8) [("src_buf", v1), ("delta", v2)] L')) (XExc C g), ?_, fun e s' hX => leave_first r2 z hfr (by rfl) (by show (scopeOf (stmtAt 8)).kind ≠ .module; decide +kernel) F hX⟩
  have G' := G.frz z
  have G2' := G2.frz z
  have GX' := GX.frz z
  have hA' : Room 1 (A.deeper (envA P L')) := hA.deeper
  have hL : (inside s₂ c L' (cellsNu (fdOf P 8) [("src_buf", v1), ("delta", v2)] L')).L = L' := rfl
  have hκ : cellsNu (fdOf P 8) [("src_buf", v1), ("delta", v2)] L' = [(L' + 2, isCell none), (L' + 1, isCell none)] := by rfl
  generalize hc : inside s₂ c L' (cellsNu (fdOf P 8) [("src_buf", v1), ("delta", v2)] L') = c' at *
  subst hL
  show W prog w (A.deeper (envA P c'.L)) _ c' _ (execs (bodyOf (stmtAt 8)) (envA P c'.L)) _
  generalize A.deeper (envA P c'.L) = A' at hA' ⊢
  rw [hκ]
  obtain ⟨n0, n1, rest, hD, hn0, hne, hn1⟩ := K.eq
  have hs := K.hs
  refine S_pre (τ := []) G' (hA'.less (by decide)) (h1.frz z) (h2.frz z) (by omega) K.hz fun tD tS t0 t1 o => ?_
  refine S_defsF G' G2' (c1 := c1) (c2 := c2) (fun σ => hT.frz z) fun f1 f2 doc1 ctv1 doc2 ctv2 => ?_
  exact S_bad G' hA' hD hn0 hne K.hs hn1 K.hz GX' (fun σ => hc1.frz z)
theorem R_apply {src D : Bs} {v1 v2 : Value} {c1 c2 : Addr} {env0 : Env} {Q : Value → St → Prop} (G : GL P c.h) (G2 : GL2 P cc PT c.h) (GX : GE P C fI fd c.h) (hA : Room 3 A) (K : DeltaBad src D) (h1 : BytesArg c ⟨l, ν, g⟩ v1 src) (h2 : BytesArg c ⟨l, ν, g⟩ v2 D)
    (hT : HasO c ⟨l, ν, g⟩ PT (isTab (tab6 c1 c2))) (hc1 : HasO c ⟨l, ν, g⟩ c1 (isCR qHdr)) (hfr : A.frames = some [env0]) (hf : env0.frame = some c.L) (hk : env0.scope.kind ≠ .module) (hl : (l.map (·.1)).Nodup) :
    W prog w A (FlyR c ⟨l, ν, g⟩ env0 C) c ⟨l, ν, g⟩ (call (.ref (P.fa 10)) [v1, v2] []) Q := by
  refine W_callR (binds := [("src_buf", v1), ("delta", v2)]) hA.lt (callee_of G (by decide)) rfl rfl (show (["src_buf", "delta"] : List Str).Nodup by decide +kernel) (fun s₂ L' r2 z => ?_) (fun x hx => ?_) (show ∀ x ∈ (scopeOf (stmtAt 10)).names, x.2 ≠ .cell by decide +kernel) (by rfl) (by rfl) (by rfl)
  case refine_2 =>
    have : x.1 ∈ (["src_buf", "delta"] : List Str) := List.mem_map.mpr ⟨x, hx, rfl⟩
    exact (show ∀ x ∈ (["src_buf", "delta"] : List Str), (scopeOf (stmtAt 10)).names.lookup x = some .local by decide +kernel) _ this
  have G' := G.frz z
  have G2' := G2.frz z
  have GX' := GX.frz z
  have hA' : Room 2 (A.deeper (callEnv (fdOf P 10) L' (P.fa 10))) := hA.deeper
  have hfr' : (A.deeper (callEnv (fdOf P 10) L' (P.fa 10))).frames = some [callEnv (fdOf P 10) L' (P.fa 10), env0] := Around.frames_deeper hfr
  have hne : c.L ≠ L' := fun e => (r2.own _ (.head _)).1 e.symm
  have hcL : ∃ o, (inside s₂ c L' []).h.get? c.L = some o ∧ s₂.heap.get? c.L = some o ∧ ∀ vs, o.data ≠ .fields vs := by
    obtain ⟨m, ⟨o, es, ep, e, hd, _⟩, _⟩ := r2.ns
    refine ⟨o, hideAll_get _ e fun hm => ?_, e, fun vs q => by rw [hd] at q; cases q⟩
    have : c.L ∈ [L'] := hm
    exact hne (List.mem_singleton.mp this)
  refine ⟨FlyC (inside s₂ c L' []) [callEnv (fdOf P 10) L' (P.fa 10), env0] C g, ?_, fun e s' hX => ?_⟩
  · have hL : (inside s₂ c L' []).L = L' := rfl
    have hF : FramesIn (inside s₂ c L' []) [callEnv (fdOf P 10) L' (P.fa 10), env0] := by
      intro x hx
      rcases List.mem_cons.mp hx with rfl | hx
      · exact ⟨by show (scopeOf (stmtAt 10)).kind ≠ .module; decide +kernel, L', rfl, .inl rfl⟩
      · rw [List.mem_singleton.mp hx]
        obtain ⟨o, ho, _, hd⟩ := hcL
        exact ⟨hk, c.L, hf, .inr ⟨o, ho, hd⟩⟩
    have hT' : ∀ σ, HasO (inside s₂ c L' []) σ PT (isTab (tab6 c1 c2)) := fun σ => hT.frz z
    have hc1' : ∀ σ, HasO (inside s₂ c L' []) σ c1 (isCR qHdr) := fun σ => hc1.frz z
    have h1' := fun σ => h1.frz z σ
    have h2' := fun σ => h2.frz z σ
    clear hcL r2 z
    generalize hc : inside s₂ c L' [] = c' at *
    subst hL
    generalize hAA : A.deeper (callEnv (fdOf P 10) c'.L (P.fa 10)) = A' at hA' hfr' ⊢
    refine W_execs_cons ?_
    walk_at "st"
    refine W_CallF (i := 8) (by decide) nm8 G' (W_args1 ?_ rfl)
    walk_at "st"
    refine W_args1 ?_ rfl
    walk_at "st"
    refine W_args0 ?_
    exact R_applyPy G' G2' GX' hA' K (h1' _) (h2' _) (hT' _) (hc1' _) hfr' hF
  · obtain ⟨a, base, a0, rfl, hfl, hg, hos, hb, hup⟩ := hX
    refine wpN_any (wpAny_leaves_onW hfr' rfl hfl fun h' hfl' hup' => ?_)
    have hu : Under c ⟨l, ν, g⟩ base := by
      have fresh : ∀ b o, (inside s₂ c L' []).h.get? b = some o → b ≠ c.L → base.get? b = some o := fun b o e hbl => hb b o e fun x hx => by
        rcases List.mem_cons.mp hx with rfl | hx
        · intro q
          have q : L' = b := Option.some.inj q
          have h0 : (inside s₂ c L' []).h.get? L' = none := hideAll_none _ (.head _)
          rw [← q, h0] at e; cases e
        · rw [List.mem_singleton.mp hx, hf]
          exact fun q => hbl (Option.some.inj q).symm
      refine ⟨fun b o e => fresh b o (z.keep _ _ e) (fun q => by rw [q, r2.fr] at e; cases e), fun p hp => ?_⟩
      obtain ⟨o, e, q⟩ := z.ok p hp
      exact ⟨o, fresh _ _ e (r2.own p (List.mem_append_right _ hp)).1, q⟩
    have rt : Rep c ⟨l, ν, g⟩ s₂ := Rep.tail r2
    refine ⟨?_, a, base, a0, rfl, hfl', hu⟩
    have st : base.StaysIn h' := hfl'.1
    obtain ⟨m, hn, hm⟩ := rt.ns
    obtain ⟨o, ho, ho2, hd⟩ := hcL
    have hns : h'.Ns c.L m := by
      obtain ⟨o2, es, ep, e2, hd2, hr⟩ := hn
      rw [ho2] at e2
      cases e2
      obtain ⟨sl, e3⟩ := hup c.L o ho hd
      obtain ⟨sl', e4⟩ := hup' c.L _ e3 hd
      exact ⟨_, es, ep, e4, hd2, hr⟩
    exact ⟨⟨m, hns, hm⟩, rt.lnd, fun b o e => st b o (hu.1 b o e), rt.fr, fun p hp => let ⟨o, e, q⟩ := hu.2 p hp; ⟨o, st _ _ e, q⟩, rt.own, rt.nd, hos, hg⟩
end
/-! # The plain law: rows, atoms, and what they make -/
theorem cut_get (l : Bs) (a b i : Nat) : (cut l a b)[i]? = if a + i < b then l[a + i]? else none := by
  unfold cut
  rw [List.getElem?_take, List.getElem?_drop]
  by_cases h : a + i < b
  · rw [if_pos (by omega), if_pos h]
  · rw [if_neg (by omega), if_neg h]
def RowOk (n0 : Nat) : Row → Prop
  | .ins b => 1 ≤ b.length
  | .cpy p n => 1 ≤ n ∧ p + n ≤ n0
def atomsOf : Row → List Atom
  | .ins b => (List.range (nChunks b)).map fun j => .ch (chunkAt b j)
  | .cpy p n => [.cp p n]
def atomsOfs (rows : List Row) : List Atom := (rows.map atomsOf).flatten
theorem encAs_append (as bs : List Atom) : encAs (as ++ bs) = encAs as ++ encAs bs := by simp [encAs]
theorem outAs_append (src : Bs) (as bs : List Atom) : outAs src (as ++ bs) = outAs src as ++ outAs src bs := by simp [outAs]
theorem lenAs_append (as bs : List Atom) : lenAs (as ++ bs) = lenAs as + lenAs bs := by simp [lenAs]
theorem enc_row (r : Row) : encRow r = encAs (atomsOf r) := by
  cases r with
  | ins b =>
    show encInsTo b (nChunks b) = encAs ((List.range (nChunks b)).map fun j => .ch (chunkAt b j))
    generalize nChunks b = k
    induction k with
    | zero => rfl
    | succ k ih => rw [List.range_succ, List.map_append, encAs_append, ← ih]; simp [encInsTo, encAs, encA]
  | cpy p n => simp [encRow, atomsOf, encAs, encA]
theorem chunks_take (b : Bs) (k : Nat) : outAs [] ((List.range k).map fun j => .ch (chunkAt b j)) = b.take (127 * k) := by
  induction k with
  | zero => rfl
  | succ k ih =>
    rw [List.range_succ, List.map_append, outAs_append, ih, Nat.mul_succ, List.take_add]
    simp [outAs, outA, chunkAt, cut]
theorem outAs_ch (src : Bs) (b : Bs) (k : Nat) : outAs src ((List.range k).map fun j => .ch (chunkAt b j)) = outAs [] ((List.range k).map fun j => .ch (chunkAt b j)) := by
  simp [outAs, outA, List.map_map, Function.comp_def]
theorem nChunks_ge (b : Bs) : b.length ≤ 127 * nChunks b := by unfold nChunks; omega
theorem out_row (src : Bs) (r : Row) : rowMade src r = outAs src (atomsOf r) := by
  cases r with
  | ins b =>
    show b = outAs src ((List.range (nChunks b)).map fun j => .ch (chunkAt b j))
    rw [outAs_ch, chunks_take, List.take_of_length_le (nChunks_ge b)]
  | cpy p n => simp [rowMade, atomsOf, outAs, outA]
theorem atom_ok {n0 : Nat} {r : Row} (h : RowOk n0 r) (hn : n0 ≤ 65535) : ∀ a ∈ atomsOf r, AtomOk n0 a := by
  cases r with
  | ins b =>
    intro a ha
    obtain ⟨j, hj, rfl⟩ := List.mem_map.mp ha
    have hj := List.mem_range.mp hj
    have h1 := chunkAt_len b j
    unfold nChunks at hj
    refine ⟨?_, ?_⟩ <;> omega
  | cpy p n =>
    intro a ha
    rw [List.mem_singleton.mp ha]
    obtain ⟨h1, h2⟩ := h
    exact ⟨h1, by omega, h2, by omega⟩
theorem len_row {r : Row} : rowLen r = lenAs (atomsOf r) := by
  cases r with
  | ins b =>
    have h1 := out_row [] (.ins b)
    have h2 := congrArg List.length h1
    show b.length = _
    rw [show b.length = (rowMade [] (.ins b)).length from rfl, h2]
    unfold outAs lenAs atomsOf
    rw [List.length_flatten, List.map_map, List.map_map, List.map_map]
    rfl
  | cpy p n => simp [rowLen, atomsOf, lenAs, lenA]
theorem atoms_cons (r : Row) (rows : List Row) : atomsOfs (r :: rows) = atomsOf r ++ atomsOfs rows := by simp [atomsOfs]
theorem enc_rows (rows : List Row) : encRows rows = encAs (atomsOfs rows) := by
  induction rows with
  | nil => rfl
  | cons r rest ih => rw [atoms_cons, encAs_append, ← ih, ← enc_row]; simp [encRows]
theorem out_rows (src : Bs) (rows : List Row) : made src rows = outAs src (atomsOfs rows) := by
  induction rows with
  | nil => rfl
  | cons r rest ih => rw [atoms_cons, outAs_append, ← ih, ← out_row]; simp [made]
theorem len_rows (rows : List Row) : total rows = lenAs (atomsOfs rows) := by
  induction rows with
  | nil => rfl
  | cons r rest ih => rw [atoms_cons, lenAs_append, ← ih, ← len_row, total_cons]
theorem atoms_ok {n0 : Nat} {rows : List Row} (h : ∀ r ∈ rows, RowOk n0 r) (hn : n0 ≤ 65535) : ∀ a ∈ atomsOfs rows, AtomOk n0 a := fun a ha => by
  obtain ⟨l, hl, ha⟩ := List.mem_flatten.mp ha
  obtain ⟨r, hr, rfl⟩ := List.mem_map.mp hl
  exact atom_ok (h r hr) hn a ha
theorem made_len {src : Bs} {rows : List Row} (h : ∀ r ∈ rows, RowOk src.length r) (hn : src.length ≤ 65535) : (made src rows).length = total rows := by
  rw [out_rows, len_rows]; exact outAs_len (atoms_ok h hn)
theorem atoms_count {n0 : Nat} {rows : List Row} (h : ∀ r ∈ rows, RowOk n0 r) : 127 * (atomsOfs rows).length ≤ total rows + 126 * rows.length := by
  induction rows with
  | nil => simp [atomsOfs]
  | cons r rest ih =>
    have ih := ih fun x hx => h x (.tail _ hx)
    rw [atoms_cons, List.length_append, total_cons, List.length_cons]
    have : 127 * (atomsOf r).length ≤ rowLen r + 126 := by
      cases r with
      | ins b => show 127 * ((List.range (nChunks b)).map _).length ≤ b.length + 126; rw [List.length_map, List.length_range]; unfold nChunks; omega
      | cpy p n => have := (h (.cpy p n) (.head _)).1; show 127 * 1 ≤ n + 126; omega
    omega
theorem delta_ok {src : Bs} {rows : List Row} (h : ∀ r ∈ rows, RowOk src.length r) (hn : src.length ≤ 65535) (ht : total rows ≤ 10000) (hr : rows.length ≤ 100) : DeltaOk src (deltaB src rows) (atomsOfs rows) where
  eq := by rw [← len_rows, ← enc_rows]; unfold deltaB; rw [List.append_assoc]
  ok := atoms_ok h hn
  hs := by omega
  hn := by rw [← len_rows]; omega
  hz := by
    have h1 := encRows_len rows
    have h2 := sizeL_len3 (n := src.length) (by omega)
    have h3 := sizeL_len3 (n := total rows) (by omega)
    unfold deltaB
    rw [List.length_append, List.length_append, toB_len, toB_len]
    omega
  hv := by have := atoms_count h; omega
theorem out_made {src : Bs} {rows : List Row} : ((atomsOfs rows).map (outA src)).flatten = made src rows := (out_rows src rows).symm
theorem chunk_shift (b : Bs) (j : Nat) : chunkAt b (j + 1) = chunkAt (b.drop 127) j := by
  unfold chunkAt cut
  rw [List.drop_drop]
  congr 1
  · omega
  · congr 1; omega
theorem encIns_front (b : Bs) (j : Nat) : encInsTo b (j + 1) = encChunk (chunkAt b 0) ++ encInsTo (b.drop 127) j := by
  induction j with
  | zero => simp [encInsTo]
  | succ j ih => rw [encInsTo, ih, encInsTo, chunk_shift, List.append_assoc]
theorem chunk0_small {b : Bs} (h : b.length ≤ 127) : chunkAt b 0 = b := by
  unfold chunkAt cut
  simp [List.take_of_length_le h]
theorem encIns_small {b : Bs} (h1 : 1 ≤ b.length) (h : b.length ≤ 127) : encIns b = encChunk b := by
  unfold encIns
  rw [show nChunks b = 1 by unfold nChunks; omega]
  simp [encInsTo, chunk0_small h]
theorem encIns_big {b : Bs} (h : ¬ b.length ≤ 127) : encIns b = encChunk (b.take 127) ++ encIns (b.drop 127) := by
  unfold encIns
  have : nChunks b = nChunks (b.drop 127) + 1 := by unfold nChunks; rw [List.length_drop]; omega
  rw [this, encIns_front]
  congr 2
theorem cut_len {T : Bs} {o s : Nat} (h : o + s ≤ T.length) : (cut T o (o + s)).length = s := by unfold cut; rw [List.length_take, List.length_drop]; omega
theorem insY_flat (T : Bs) (s : Nat) : ∀ o, 1 ≤ s → o + s ≤ T.length → (insY T o s).flatten = encIns (cut T o (o + s)) := by
  induction s using Nat.strongRecOn with
  | ind s ih =>
    intro o h1 h2
    have hl := cut_len h2
    by_cases h : s ≤ 127
    · rw [insY_small h, encIns_small (by omega) (by omega)]
      simp [encChunk, hl, toB]
    · rw [insY_big h, encIns_big (by omega)]
      have e1 : (cut T o (o + s)).take 127 = cut T o (o + 127) := by
        unfold cut; rw [List.take_take]; congr 1; omega
      have e2 : (cut T o (o + s)).drop 127 = cut T (o + 127) (o + 127 + (s - 127)) := by
        unfold cut; rw [List.drop_take, List.drop_drop]; congr 1; omega
      have hl2 : (cut T o (o + 127)).length = 127 := cut_len (by omega)
      rw [e1, e2, ← ih (s - 127) (by omega) (o + 127) (by omega) (by omega)]
      simp [encChunk, hl2, toB]
theorem made_append (src : Bs) (a b : List Row) : made src (a ++ b) = made src a ++ made src b := by simp [made]
theorem total_append (a b : List Row) : total (a ++ b) = total a + total b := by simp [total]
theorem cut_mid (a m r : Bs) : cut (a ++ (m ++ r)) a.length (a.length + m.length) = m := by
  unfold cut
  rw [List.drop_left, Nat.add_sub_cancel_left, List.take_left]
theorem opsY_append (T : Bs) (a b : List Op) : opsY T (a ++ b) = opsY T a ++ opsY T b := by simp [opsY]
theorem ops_flat {src : Bs} {rows : List Row} (h : ∀ r ∈ rows, RowOk src.length r) (hn : src.length ≤ 65535) : ∀ i ≤ rows.length, (opsY (made src rows) (opsOf (rows.take i))).flatten = encRows (rows.take i) := by
  intro i
  induction i with
  | zero => intro _; rfl
  | succ i ih =>
    intro hi
    obtain ⟨r, hr⟩ : ∃ r, rows[i]? = some r := ⟨rows[i], List.getElem?_eq_getElem (by omega)⟩
    have hm : r ∈ rows := List.mem_of_getElem? hr
    have hok := h r hm
    rw [opsOf_take rows i r hr, opsY_append, List.flatten_append, ih (by omega), List.take_add_one, hr, show (some r).toList = [r] from rfl, encRows_snoc]
    congr 1
    have hsub : ∀ x ∈ rows.take i, RowOk src.length x := fun x hx => h x (List.mem_of_mem_take hx)
    have hl := made_len hsub hn
    have hd : rows = rows.take i ++ (r :: rows.drop (i + 1)) := by
      have := List.drop_eq_getElem_cons (l := rows) (i := i) (by omega)
      rw [show rows[i] = r by have := List.getElem?_eq_some_iff.mp hr; exact this.2] at this
      rw [← this, List.take_append_drop]
    cases r with
    | ins b =>
      have e1 : made src rows = made src (rows.take i) ++ (b ++ made src (rows.drop (i + 1))) := by
        conv => lhs; rw [hd]
        rw [made_append]; simp [made, rowMade]
      have e2 : cut (made src rows) (total (rows.take i)) (total (rows.take i) + b.length) = b := by rw [e1, ← hl, cut_mid]
      have hle : total (rows.take i) + b.length ≤ (made src rows).length := by rw [e1, List.length_append, List.length_append, hl]; omega
      show (opsY (made src rows) [opOf (total (rows.take i)) (.ins b)]).flatten = encIns b
      have := insY_flat (made src rows) b.length (total (rows.take i)) hok hle
      rw [e2] at this
      simp [opsY, opY, opOf, this]
    | cpy p n =>
      obtain ⟨h1, h2⟩ := hok
      show (opsY (made src rows) [opOf (total (rows.take i)) (.cpy p n)]).flatten = encCpy p n
      have h0 : 0 < n := h1
      simp [opsY, opY, opOf, h0]
theorem create_flat {src : Bs} {rows : List Row} (h : ∀ r ∈ rows, RowOk src.length r) (hn : src.length ≤ 65535) : (createY src (made src rows) (opsOf rows)).flatten = deltaB src rows := by
  have := ops_flat h hn rows.length (Nat.le_refl _)
  rw [List.take_length] at this
  unfold createY deltaB
  rw [List.flatten_cons, List.flatten_cons, this, made_len h hn, List.append_assoc]
theorem ops_ok {n0 : Nat} {rows : List Row} (h : ∀ r ∈ rows, RowOk n0 r) (hn : n0 ≤ 65535) : ∀ op ∈ opsOf rows, OpOk op := by
  intro op hop
  unfold opsOf at hop
  obtain ⟨⟨r, k⟩, hx, rfl⟩ := List.mem_map.mp hop
  have hr : r ∈ rows := by
    have := List.mem_zipIdx_iff_getElem?.mp hx
    exact List.mem_of_getElem? this
  have := h r hr
  cases r with
  | ins b => exact ⟨Nat.le_refl _, by show 0 - 0 ≤ 65535; omega, by show total (rows.take k) ≤ total (rows.take k) + b.length; omega⟩
  | cpy p n => obtain ⟨h1, h2⟩ := this; exact ⟨by show p ≤ p + n; omega, by show p + n - p ≤ 65535; omega, by show total (rows.take k) ≤ total (rows.take k) + n; omega⟩
theorem cut_append (M R : Bs) (p n : Nat) : cut (M ++ R) p (p + n) = cut M p (p + n) ++ cut R (p - M.length) (p + n - M.length) := by
  unfold cut
  rw [List.drop_append, List.take_append, List.length_drop]
  congr 1
  congr 1
  omega
theorem cut_nil {l : Bs} {a b : Nat} (h : b ≤ a ∨ l.length ≤ a) : cut l a b = [] := by
  unfold cut
  rcases h with h | h
  · rw [Nat.sub_eq_zero_of_le h, List.take_zero]
  · rw [List.drop_of_length_le h, List.take_nil]
theorem piece_made {src : Bs} {t p n : Nat} {r : Row} (h : RowOk src.length r) : made src (piece t p n r) = cut (rowMade src r) (p - t) (p + n - t) := by
  have hlen : (rowMade src r).length = rowLen r := by
    cases r with
    | ins b => rfl
    | cpy q m => exact cut_len h.2
  unfold piece
  by_cases hlt : max p t < min (p + n) (t + rowLen r)
  · rw [if_pos hlt]
    cases r with
    | ins b =>
      show ([cut b (max p t - t) (min (p + n) (t + b.length) - t)] : List Bs).flatten = cut b (p - t) (p + n - t)
      have hlt : max p t < min (p + n) (t + b.length) := hlt
      rw [List.flatten_cons, List.flatten_nil, List.append_nil]
      refine List.ext_getElem? fun i => ?_
      rw [cut_get, cut_get, show max p t - t = p - t by omega]
      by_cases hi : p - t + i < b.length
      · by_cases h2 : p - t + i < p + n - t
        · rw [if_pos (by omega), if_pos h2]
        · rw [if_neg (by omega), if_neg h2]
      · rw [List.getElem?_eq_none (by omega)]
        split <;> split <;> rfl
    | cpy q m =>
      obtain ⟨h1, h2⟩ := h
      have hlt : max p t < min (p + n) (t + m) := hlt
      show ([cut src (q + max p t - t) (q + max p t - t + (min (p + n) (t + m) - max p t))] : List Bs).flatten = cut (cut src q (q + m)) (p - t) (p + n - t)
      rw [List.flatten_cons, List.flatten_nil, List.append_nil]
      refine List.ext_getElem? fun i => ?_
      rw [cut_get, cut_get, cut_get]
      by_cases hi : i < min (p + n) (t + m) - max p t
      · rw [if_pos (by omega), if_pos (by omega), if_pos (by omega)]
        congr 1; omega
      · rw [if_neg (by omega)]
        by_cases h3 : p - t + i < p + n - t
        · rw [if_pos h3, if_neg (by omega)]
        · rw [if_neg h3]
  · rw [if_neg hlt]
    rw [cut_nil]
    · rfl
    · rw [hlen]; omega
theorem pieces_made {src : Bs} {first : List Row} {p n : Nat} (h : ∀ r ∈ first, RowOk src.length r) (hn : src.length ≤ 65535) : ∀ k ≤ first.length, made src (piecesTo first p n k) = cut (made src (first.take k)) p (p + n) := by
  intro k
  induction k with
  | zero => intro _; rw [cut_nil (.inr (Nat.zero_le _))]; rfl
  | succ k ih =>
    intro hk
    obtain ⟨r, hr⟩ : ∃ r, first[k]? = some r := ⟨first[k], List.getElem?_eq_getElem (by omega)⟩
    have hl := made_len (rows := first.take k) (fun x hx => h x (List.mem_of_mem_take hx)) hn
    rw [piecesTo_succ hr, made_append, ih (by omega), piece_made (h r (List.mem_of_getElem? hr)), List.take_add_one, hr, show (some r).toList = [r] from rfl, made_append, show made src [r] = rowMade src r by simp [made], cut_append, hl]
theorem laid_made {src : Bs} {first second : List Row} (h1 : ∀ r ∈ first, RowOk src.length r) (hn : src.length ≤ 65535) : made src (laid first second) = made (made src first) second := by
  induction second with
  | nil => rfl
  | cons r rest ih =>
    have e1 : laid first (r :: rest) = laidRow first r ++ laid first rest := by simp [laid]
    have e2 : made (made src first) (r :: rest) = rowMade (made src first) r ++ made (made src first) rest := by simp [made]
    rw [e1, made_append, ih, e2]
    congr 1
    cases r with
    | ins b => simp [laidRow, made, rowMade]
    | cpy p n =>
      have := pieces_made (p := p) (n := n) h1 hn first.length (Nat.le_refl _)
      rw [List.take_length] at this
      exact this
theorem piece_ok {n0 t p n : Nat} {r : Row} (h : RowOk n0 r) : ∀ x ∈ piece t p n r, RowOk n0 x := by
  intro x hx
  unfold piece at hx
  by_cases hlt : max p t < min (p + n) (t + rowLen r)
  · rw [if_pos hlt] at hx
    cases r with
    | ins b =>
      have hlt : max p t < min (p + n) (t + b.length) := hlt
      rw [List.mem_singleton.mp hx]
      show 1 ≤ (cut b (max p t - t) (min (p + n) (t + b.length) - t)).length
      unfold cut
      rw [List.length_take, List.length_drop]; omega
    | cpy q m =>
      obtain ⟨h1, h2⟩ := h
      have hlt : max p t < min (p + n) (t + m) := hlt
      rw [List.mem_singleton.mp hx]
      show 1 ≤ min (p + n) (t + m) - max p t ∧ q + max p t - t + (min (p + n) (t + m) - max p t) ≤ n0
      omega
  · rw [if_neg hlt] at hx; cases hx
theorem pieces_ok {n0 p n : Nat} {first : List Row} (h : ∀ r ∈ first, RowOk n0 r) : ∀ k, ∀ x ∈ piecesTo first p n k, RowOk n0 x
  | 0, x, hx => by cases hx
  | k + 1, x, hx => by
    rw [piecesTo] at hx
    rcases List.mem_append.mp hx with hx | hx
    · exact pieces_ok h k x hx
    · cases hr : first[k]? with
      | none => rw [hr] at hx; cases hx
      | some r => rw [hr] at hx; exact piece_ok (h r (List.mem_of_getElem? hr)) x hx
theorem laid_ok {n0 n1 : Nat} {first second : List Row} (h1 : ∀ r ∈ first, RowOk n0 r) (h2 : ∀ r ∈ second, RowOk n1 r) : ∀ x ∈ laid first second, RowOk n0 x := by
  intro x hx
  obtain ⟨l, hl, hx⟩ := List.mem_flatten.mp hx
  obtain ⟨r, hr, rfl⟩ := List.mem_map.mp hl
  cases r with
  | ins b => rw [List.mem_singleton.mp hx]; exact h2 _ hr
  | cpy p n => exact pieces_ok h1 _ x hx
theorem laid_len2 (first second : List Row) : (laid first second).length ≤ second.length * (first.length + 1) := by
  induction second with
  | nil => simp [laid]
  | cons r rest ih =>
    have e1 : laid first (r :: rest) = laidRow first r ++ laid first rest := by simp [laid]
    rw [e1, List.length_append, List.length_cons, Nat.succ_mul]
    have : (laidRow first r).length ≤ first.length + 1 := by
      cases r with
      | ins b => show 1 ≤ _; omega
      | cpy p n => have := piecesTo_len first p n first.length; show (piecesTo first p n first.length).length ≤ _; omega
    omega
theorem laid_total {src : Bs} {first second : List Row} (h1 : ∀ r ∈ first, RowOk src.length r) (h2 : ∀ r ∈ second, RowOk (made src first).length r) (hn : src.length ≤ 65535) (hn2 : (made src first).length ≤ 65535) : total (laid first second) = total second := by
  rw [← made_len (laid_ok h1 h2) hn, laid_made h1 hn, made_len h2 hn2]
abbrev envL (P : GP) (L : Addr) : Env := callEnvC (fdOf P 17) L (P.fa 17)
section
variable {prog : Program} {w : World} {A : Around} {E : Value → Shared → Prop} {c : Cx} {σ : St} {l l' : List (Str × Value)} {ν ν' τ : List (Addr × OP)} {g : Array GenState} {env : Env} {P : GP} {cc PT C fI : Addr} {fd : FuncData}
theorem S_law0 {d : Addr} {Q : Flow → St → Prop}
    (h : ∀ rd rs, IntsAre rs [40, 6, 13, 20, 31, 44, 57, 9, 86, 101, 7] → W prog w A E c ⟨[("rest", .ref rd), ("script", .ref d)], (rd, isList rs) :: ν, g⟩ (execs ((bodyOf (stmtAt 17)).drop 1) (envL P c.L)) Q) :
    W prog w A E c ⟨[("script", .ref d)], ν, g⟩ (execs (bodyOf (stmtAt 17)) (envL P c.L)) Q := by
  refine W_execs_cons ?_
  walk_at "st"
  refine W_List ?_
  iterate 11 (refine W_args1 ?_ rfl; walk_at "st")
  refine W_args0 (W_newList (by simp) fun rd => ?_)
  walk_at "st"
  dsimp only
  refine h rd _ ?_
  iterate 11 refine .cons _ _ ?_
  exact .nil
end
section
variable {prog : Program} {w : World} {A : Around} {E : Value → Shared → Prop} {c : Cx} {σ : St} {l l' : List (Str × Value)} {ν ν' τ : List (Addr × OP)} {g : Array GenState} {env : Env} {P : GP} {cc PT C fI : Addr} {fd : FuncData}
theorem IntsAre.take {vs : List Value} {ns : List Int} (h : IntsAre vs ns) : ∀ k, IntsAre (vs.take k) (ns.take k) := by
  induction h with
  | nil => intro k; rw [List.take_nil, List.take_nil]; exact .nil
  | cons m u h ih =>
    intro k
    cases k with
    | zero => exact .nil
    | succ k => exact .cons m u (ih k)
theorem IntsAre.drop {vs : List Value} {ns : List Int} (h : IntsAre vs ns) : ∀ k, IntsAre (vs.drop k) (ns.drop k) := by
  induction h with
  | nil => intro k; rw [List.drop_nil, List.drop_nil]; exact .nil
  | cons m u h ih =>
    intro k
    cases k with
    | zero => exact .cons m u h
    | succ k => exact ih k
/-- the law's cells -/
theorem S_law1 {d rd : Addr} {vs rs : List Value} {ns : List Int} {Q : Flow → St → Prop} (G : GL P c.h) (hx : ∀ σ, HasL c σ d vs) (hi : IntsAre vs ns) (hz : vs.length ≤ 1000) (hr : IntsAre rs [40, 6, 13, 20, 31, 44, 57, 9, 86, 101, 7])
    (h : ∀ cd ws ms ρ, IntsAre ws ms → ms.length = 11 → W prog w A E c ⟨[("rest", .ref rd), ("script", .ref d)], (cd, isList ws) :: (ρ ++ (c.L + 2, isCell none) :: (c.L + 1, isCell (some (.ref cd))) :: ν), g⟩ (execs ((bodyOf (stmtAt 17)).drop 2) (envL P c.L)) Q) :
    W prog w A E c ⟨[("rest", .ref rd), ("script", .ref d)], (rd, isList rs) :: (c.L + 2, isCell none) :: (c.L + 1, isCell none) :: ν, g⟩ (execs ((bodyOf (stmtAt 17)).drop 1) (envL P c.L)) Q := by
  have hrl : rs.length = 11 := hr.length
  refine W_execs_cons ?_
  walk_at "st"
  walk_at "st"
  walk_at "st"
  walk_at "st"
  walk_at "st"
  walk_at "st"
  walk_at "st"
  walk_at "st"
  intro sl
  refine W_takeL (show (0 : Int) ≤ 11 by decide) (hx _) (by omega) fun a1 => ?_
  walk_at "st"
  walk_at "st"
  walk_at "st"
  walk_at "st"
  refine W_CallB bb_len G (W_args1 ?_ rfl)
  walk_at "st"
  walk_at "st"
  walk_at "st"
  walk_at "st"
  walk_at "st"
  walk_at "st"
  intro sl2
  refine W_takeL (show (0 : Int) ≤ 11 by decide) (hx _) (by omega) fun a2 => ?_
  refine W_args0 (W_lenL (.inr (.head _)) (by rw [List.length_take]; omega) fun t => ?_)
  walk_at "st"
  intro sl3
  refine W_dropL (Int.natCast_nonneg _) (.inr (.tail _ (.tail _ (.head _)))) (by omega) fun a3 => ?_
  refine W_addL (.inr (.tail _ (.tail _ (.head _)))) (.inr (.head _)) (by rw [List.length_drop, List.length_take]; omega) fun cd => ?_
  refine W_storeC (.tail (.tail (.tail (.tail (.tail (.tail .head)))))) ?_
  dsimp only
  refine h cd _ (ns.take 11 ++ [40, 6, 13, 20, 31, 44, 57, 9, 86, 101, 7].drop (vs.take 11).length) [(a3, _), (a2, _), (a1, _), (rd, _)] ?_ ?_
  · exact (hi.take 11).append (hr.drop _)
  · have := hi.length
    rw [List.length_append, List.length_take, List.length_drop, List.length_take]
    simp only [List.length_cons, List.length_nil]
    omega
end
section
variable {prog : Program} {w : World} {A : Around} {E : Value → Shared → Prop} {c : Cx} {σ : St} {l l' : List (Str × Value)} {ν ν' τ : List (Addr × OP)} {g : Array GenState} {env : Env} {P : GP} {cc PT C fI : Addr} {fd : FuncData}
theorem range1n (n : Nat) (hn : n ≤ 1000000) : Builtin.Range.small 0 (n : Int) 1 = true ∧ Builtin.Range.rangeSize 0 (n : Int) 1 = (n : Int) := by
  have hs : Builtin.Range.rangeSize 0 (n : Int) 1 = (n : Int) := by
    unfold Builtin.Range.rangeSize
    rw [if_pos (by decide)]
    split <;> omega
  refine ⟨?_, hs⟩
  unfold Builtin.Range.small
  rw [hs, fitsLong (by omega) (by omega), fitsLong (by omega) (by omega), fitsLong (by omega) (by omega), if_pos (by decide), fitsLong (by omega) (by omega)]
  simp
theorem fmod_bd (a : Int) {n : Nat} (hn : 0 < n) : 0 ≤ a.fmod (n : Int) ∧ a.fmod (n : Int) < (n : Int) := ⟨Int.fmod_nonneg_of_pos _ (by omega), Int.fmod_lt_of_pos _ (by omega)⟩
/-- the law's first text -/
theorem S_law2 {cd : Addr} {ws : List Value} {ms : List Int} {Q : Flow → St → Prop} (G : GL P c.h) (hA : Room 4 A) (hi : IntsAre ws ms) (hm : ms.length = 11)
    (h : ∀ td sd (T0 : Bs) t, 1 ≤ T0.length → T0.length ≤ 99 → W prog w A E c ⟨[("steps", .ref sd), ("texts", .ref td)], (sd, isList []) :: (td, isList [.bytes T0.toArray t]) :: (c.L + 2, isCell none) :: (c.L + 1, isCell (some (.ref cd))) :: (cd, isList ws) :: ν, g⟩ (execs ((bodyOf (stmtAt 17)).drop 4) (envL P c.L)) Q) :
    W prog w A E c ⟨[], (c.L + 2, isCell none) :: (c.L + 1, isCell (some (.ref cd))) :: (cd, isList ws) :: ν, g⟩ (execs ((bodyOf (stmtAt 17)).drop 2) (envL P c.L)) Q := by
  have hwl : ws.length = 11 := hi.length.trans hm
  obtain ⟨m0, hm0⟩ : ∃ m0, ms[0]? = some m0 := ⟨ms[0], List.getElem?_eq_getElem (by omega)⟩
  obtain ⟨u0, hw0⟩ := IntsAre.nth hi hm0
  have hmod : 0 ≤ m0.fmod 99 ∧ m0.fmod 99 < 99 := ⟨Int.fmod_nonneg_of_pos _ (by decide), Int.fmod_lt_of_pos _ (by decide)⟩
  obtain ⟨q, hq⟩ : ∃ q : Nat, m0.fmod 99 = q := ⟨(m0.fmod 99).toNat, by omega⟩
  refine W_execs_cons ?_
  walk_at "st"
  refine W_List (W_args1 ?_ rfl)
  refine W_CallT bb_bytes G (W_args1 ?_ rfl)
  refine W_LCr (cl := [("cells", c.L + 1)]) hA.1 ?_ rfl ?_ rfl ?_ (fun _ => rfl)
  case refine_2 => decide +kernel
  case refine_3 => decide +kernel
  refine W_CallT bb_range G (W_args1 ?_ rfl)
  walk_at "st"
  walk_at "st"
  walk_at "st"
  walk_at "st"
  refine W_Name (W_loadC (.inr (.tail _ (.head _))) ?_)
  walk_at "st"
  refine W_itemL (.inr (.tail _ (.tail _ (.head _)))) (by decide) (by decide) (v := .int m0 u0) hw0 ?_
  walk_at "st"
  refine W_mod (by decide) fun _ => ?_
  walk_at "st"
  rw [hq, show (1 : Int) + (q : Int) = ((1 + q : Nat) : Int) from rfl]
  refine W_args0 (W_range1 fun rg => ?_)
  refine ⟨rg, 0, ((1 + q : Nat) : Int), 1 + q, _, fun i ys => ∃ ns, IntsAre ys ns ∧ ns.length = i ∧ ∀ n ∈ ns, 0 ≤ n ∧ n < 256, rfl, (range1n _ (by omega)).1, (range1n _ (by omega)).2, rfl, by omega, ⟨[], .nil, rfl, by simp⟩, ?_, ?_⟩
  · rintro c2 z2 ia D J i ys tk hi2 ⟨ns, hys, hnl, hnr⟩
    have hC : ∀ σ, HasC c2 σ (c.L + 1) (.ref cd) := HasC.nu (.tail _ (.head _)) z2
    have hL : ∀ σ, HasL c2 σ cd ws := HasL.nu (.tail _ (.tail _ (.head _))) z2
    refine W_let_name (W_assign_name ?_)
    rw [Int.zero_add]
    walk_at "st"
    refine W_tests_nil ?_
    simp only [if_true]
    walk_at "st"
    walk_at "st"
    walk_at "st"
    refine W_Name (W_loadC (hC _) ?_)
    walk_at "st"
    refine W_itemL (hL _) (by decide) (by decide) (v := .int m0 u0) hw0 ?_
    walk_at "st"
    walk_at "st"
    walk_at "st"
    refine W_mul (IntMulOk.of_left (intBits_cast_le (by rw [PySem.sizeLine_eq]; omega))) fun _ => ?_
    walk_at "st"
    walk_at "st"
    refine W_mod (by decide) fun u => ?_
    have hb := fmod_bd (m0 + (i : Int) * (i : Int)) (n := 256) (by decide)
    refine ⟨⟨ns ++ [(m0 + (i : Int) * (i : Int)).fmod 256], IntsAre.snoc' hys _ _, by simp [hnl], fun n hn => ?_⟩, Le_sub (fun p hp => by cases hp) (List.Sublist.refl _) []⟩
    rcases List.mem_append.mp hn with hn | hn
    · exact hnr n hn
    · rw [List.mem_singleton.mp hn]; exact hb
  · rintro D ys ⟨ns, hys, hnl, hnr⟩
    refine W_args0 (W_bytesL hA.1 (.inr (.head _)) hys hnr (by omega) fun t => ?_)
    refine W_args0 (W_newList (by simp) fun td => ?_)
    walk_at "st"
    dsimp only
    refine W_execs_cons ?_
    walk_at "st"
    refine W_List (W_args0 (W_newList (by simp) fun sd => ?_))
    walk_at "st"
    dsimp only
    refine W_le (Le_nu ?_) (h td sd (toB ns) t (by rw [toB_len]; omega) (by rw [toB_len]; omega))
    exact .cons_cons _ (.cons_cons _ (.cons _ (List.Sublist.refl _)))
end
def lwBody (j : Nat) : List Stmt := match (bodyOf (stmtAt 17)).getD j (.Pass default) with
  | .For _ _ b _ _ => b
  | _ => []
section
variable {prog : Program} {w : World} {A : Around} {E : Value → Shared → Prop} {c : Cx} {σ : St} {l l' : List (Str × Value)} {ν ν' τ : List (Addr × OP)} {g : Array GenState} {env : Env} {P : GP} {cc PT C fI : Addr} {fd : FuncData}
theorem RowsAre.memo {τ τ' : List (Addr × OP)} {vs : List Value} {rs : List Row} (h : RowsAre (fun a ws => (a, isTup ws) ∈ τ) vs rs) (hs : ∀ x ∈ τ, x ∈ τ') : RowsAre (fun a ws => (a, isTup ws) ∈ τ') vs rs := h.mono fun _ _ hm => hs _ hm
theorem W_same {α : Type} {t : Sem α} {P : α → Prop} {Q : α → St → Prop} (h : W prog w A E c σ t (fun a σ' => P a ∧ σ' = σ)) (k : ∀ a, P a → Q a σ) : W prog w A E c σ t Q :=
  W_mono h fun a σ' ⟨hp, e⟩ => by subst e; exact k a hp
theorem last_at {vs : List Value} {bs : List Bs} {T : Bs} (h : BytesAre vs bs) (hT : bs.getLast? = some T) : 1 ≤ vs.length ∧ ∃ t, vs[((-1 : Int) + vs.length).toNat]? = some (.bytes T.toArray t) := by
  have hl := h.length
  cases hbs : bs with
  | nil => rw [hbs] at hT; cases hT
  | cons b r =>
    have h1 : 1 ≤ vs.length := by rw [hl, hbs]; exact Nat.succ_pos _
    refine ⟨h1, ?_⟩
    obtain ⟨b', t, e1, e2⟩ := h.at (i := vs.length - 1) (by omega)
    rw [show ((-1 : Int) + vs.length).toNat = vs.length - 1 by omega]
    rw [List.getLast?_eq_getElem?, ← hl, e2] at hT
    cases hT
    exact ⟨t, e1⟩
/-- one step's rows -/
theorem S_rows {cd td sd rd : Addr} {ws vsT ss : List Value} {ms : List Int} {bsT : List Bs} {T : Bs} {k : Nat} {tk : Tok} {v0 : Option Value} {base : List (Addr × OP)} {Q : Flow → St → Prop} (G : GL P c.h) (hA : Room 4 A) (hi : IntsAre ws ms) (hm : ms.length = 11)
    (hcells : (c.L + 1, isCell (some (.ref cd))) ∈ base) (hcd : (cd, isList ws) ∈ base) (htd : (td, isList vsT) ∈ base) (hb : BytesAre vsT bsT) (hT : bsT.getLast? = some T) (h1 : 1 ≤ T.length) (h2 : T.length ≤ 6000) (hk : k < 3) (hbl : bsT.length ≤ 10)
    (h : ∀ vr rows τ v0', RowsAre (fun a ws => (a, isTup ws) ∈ τ) vr rows → rows.length = 3 → (∀ r ∈ rows, RowOk T.length r) → total rows ≤ 3 * max T.length 200 →
      W prog w A E c ⟨[("rows", .ref rd), ("k", .int k tk), ("steps", .ref sd), ("texts", .ref td)], (rd, isList vr) :: (c.L + 2, isCell v0') :: (τ ++ base), g⟩ (execs ((lwBody 4).drop 2) (envL P c.L)) Q) :
    W prog w A E c ⟨[("rows", .ref rd), ("k", .int k tk), ("steps", .ref sd), ("texts", .ref td)], (rd, isList []) :: (c.L + 2, isCell v0) :: base, g⟩ (execs ((lwBody 4).drop 1) (envL P c.L)) Q := by
  have hwl : ws.length = 11 := hi.length.trans hm
  obtain ⟨hl1, tl, hl2⟩ := last_at hb hT
  have hvl : vsT.length ≤ 10 := hb.length ▸ hbl
  refine W_execs_cons ?_
  refine W_For_list hA.1 (W_forget ?_)
  walk_at "st"
  refine W_Name (W_loadC (.inr (.tail _ (.tail _ hcells))) ?_)
  walk_at "st"
  walk_at "st"
  walk_at "st"
  walk_at "st"
  walk_at "st"
  walk_at "st"
  walk_at "st"
  refine W_mul (IntMulOk.of_left (by decide)) fun _ => ?_
  walk_at "st"
  rw [show (1 : Int) + 3 * (k : Int) = ((1 + 3 * k : Nat) : Int) by omega]
  walk_at "st"
  walk_at "st"
  walk_at "st"
  walk_at "st"
  walk_at "st"
  walk_at "st"
  refine W_mul (IntMulOk.of_left (by decide)) fun _ => ?_
  walk_at "st"
  rw [show (4 : Int) + 3 * (k : Int) = ((4 + 3 * k : Nat) : Int) by omega]
  intro sl
  refine W_cutL (Int.natCast_nonneg _) (Int.natCast_nonneg _) (.inr (.tail _ (.tail _ hcd))) (by omega) fun cw => ?_
  simp only [Int.toNat_natCast]
  have hIc : IntsAre (cut ws (1 + 3 * k) (4 + 3 * k)) (cut ms (1 + 3 * k) (4 + 3 * k)) := by unfold cut; exact (hi.drop _).take _
  have hcl : (cut ws (1 + 3 * k) (4 + 3 * k)).length = 3 := by unfold cut; rw [List.length_take, List.length_drop]; omega
  refine ⟨⟨[("rows", .ref rd), ("k", .int k tk), ("steps", .ref sd), ("texts", .ref td)], [(rd, isList []), (c.L + 2, isCell v0)] ++ (cw, isList (cut ws (1 + 3 * k) (4 + 3 * k))) :: base, g⟩, Le_perm (List.perm_middle (l₁ := [_, _])).symm, cw, cut ws (1 + 3 * k) (4 + 3 * k), fun i σ => ∃ vr rows τ v0, σ = ⟨[("rows", .ref rd), ("k", .int k tk), ("steps", .ref sd), ("texts", .ref td)], (rd, isList vr) :: (c.L + 2, isCell v0) :: (τ ++ (cw, isList (cut ws (1 + 3 * k) (4 + 3 * k))) :: base), g⟩ ∧
    RowsAre (fun a ws => (a, isTup ws) ∈ τ) vr rows ∧ rows.length = i ∧ (∀ r ∈ rows, RowOk T.length r) ∧ total rows ≤ i * max T.length 200, rfl, ?_, ?_, ?_, ?_⟩
  · rintro i σ ⟨vr, rows, τ, v0, rfl, _⟩
    exact .inr (.tail _ (.tail _ (List.mem_append_right _ (.head _))))
  · exact ⟨[], [], [], v0, rfl, .nil, rfl, by simp, by simp [total]⟩
  · rintro i v σ it hv ⟨vr, rows, τ, v0, rfl, hr, hrl, hok, htot⟩
    obtain ⟨hi3, _⟩ := List.getElem?_eq_some_iff.mp hv
    rw [hcl] at hi3
    obtain ⟨m, hm1⟩ : ∃ m, (cut ms (1 + 3 * k) (4 + 3 * k))[i]? = some m := ⟨_, List.getElem?_eq_getElem (by have := hIc.length; omega)⟩
    obtain ⟨u, hu⟩ := IntsAre.nth hIc hm1
    rw [hv] at hu
    cases hu
    refine W_let_name (W_assign_name ?_)
    refine W_storeC (.tail (.tail .head)) ?_
    dsimp only
    refine W_execs_cons ?_
    walk_at "st"
    walk_at "st"
    walk_at "st"
    refine W_Name (W_loadC (.inr (.tail _ (.tail _ (.head _)))) ?_)
    walk_at "st"
    refine W_mod (by decide) fun _ => ?_
    walk_at "st"
    walk_at "st"
    by_cases hz : m.fmod 3 = 0
    · rw [show (m.fmod 3 == 0) = true by simp [hz]]
      walk_at "st"
      rw [if_pos rfl]
      refine W_execs_cons (W_Expr (W_append ?_))
      walk_at "st"
      refine ⟨rd, vr, rfl, .tail _ (.head _), ?_⟩
      refine W_Tuple (W_args1 ?_ rfl)
      walk_at "st"
      walk_at "st"
      walk_at "st"
      refine W_args1 ?_ rfl
      refine W_CallT bb_bytes G (W_args1 ?_ rfl)
      refine W_LCr (cl := [("cell", c.L + 2)]) hA.1 ?_ rfl ?_ rfl ?_ (fun _ => rfl)
      case refine_2 => decide +kernel
      case refine_3 => decide +kernel
      refine W_CallT bb_range G (W_args1 ?_ rfl)
      walk_at "st"
      walk_at "st"
      walk_at "st"
      walk_at "st"
      refine W_Name (W_loadC (.inr (.tail _ (.tail _ (.head _)))) ?_)
      walk_at "st"
      refine W_floordiv (by decide) (by decide) fun _ => ?_
      refine W_same (P := fun v => ∃ (q : Nat) (t : Tok), (q = 9 ∨ q = 200) ∧ v = .int q t) ?_ ?_
      · walk_at "st"
        walk_at "st"
        walk_at "st"
        walk_at "st"
        walk_at "st"
        walk_at "st"
        split
        · walk_at "st"
          exact ⟨⟨9, _, .inl rfl, rfl⟩, rfl⟩
        · walk_at "st"
          exact ⟨⟨200, _, .inr rfl, rfl⟩, rfl⟩
      rintro _ ⟨q, tq, hq9, rfl⟩
      refine W_mod (by omega) fun _ => ?_
      walk_at "st"
      obtain ⟨q', hq', hq2⟩ : ∃ q' : Nat, (m.fdiv 3).fmod q = q' ∧ q' < 200 := by
        have := fmod_bd (m.fdiv 3) (n := q) (by omega)
        exact ⟨((m.fdiv 3).fmod q).toNat, by omega, by omega⟩
      rw [hq', show (1 : Int) + (q' : Int) = ((1 + q' : Nat) : Int) from rfl]
      refine W_args0 (W_range1 fun rg => ?_)
      refine ⟨rg, 0, ((1 + q' : Nat) : Int), 1 + q', _, fun i ys => ∃ ns, IntsAre ys ns ∧ ns.length = i ∧ ∀ n ∈ ns, 0 ≤ n ∧ n < 256, rfl, (range1n _ (by omega)).1, (range1n _ (by omega)).2, rfl, by omega, ⟨[], .nil, rfl, by simp⟩, ?_, ?_⟩
      · rintro c2 z2 ia D J i2 ys tk hi2 ⟨ns, hys, hnl, hnr⟩
        have hC : ∀ σ, HasC c2 σ (c.L + 2) (.int m u) := HasC.nu (.tail _ (.tail _ (.head _))) z2
        refine W_let_name (W_assign_name ?_)
        rw [Int.zero_add]
        walk_at "st"
        refine W_tests_nil ?_
        simp only [if_true]
        walk_at "st"
        walk_at "st"
        refine W_Name (W_loadC (hC _) ?_)
        walk_at "st"
        walk_at "st"
        walk_at "st"
        refine W_mod (by decide) fun u => ?_
        have hb := fmod_bd (m + (i2 : Int)) (n := 256) (by decide)
        refine ⟨⟨ns ++ [(m + (i2 : Int)).fmod 256], IntsAre.snoc' hys _ _, by simp [hnl], fun n hn => ?_⟩, Le_sub (fun p hp => by cases hp) (List.Sublist.refl _) []⟩
        rcases List.mem_append.mp hn with hn | hn
        · exact hnr n hn
        · rw [List.mem_singleton.mp hn]; exact hb
      · rintro D ys ⟨ns, hys, hnl, hnr⟩
        refine W_args0 (W_bytesL hA.1 (.inr (.head _)) hys hnr (by omega) fun t => ?_)
        refine W_args0 (W_newTuple (by simp) fun T2 => ?_)
        refine W_append_call (.tail (.tail (.tail .head))) (by have := hr.length; omega) ?_
        dsimp only
        refine W_execs_nil (W_execs_nil ?_)
        refine ⟨⟨_, (it, isLIter cw (i + 1)) :: (rd, isList (vr ++ [.ref T2])) :: (c.L + 2, isCell (some (Value.int m u))) :: (T2, _) :: (τ ++ (cw, isList (cut ws (1 + 3 * k) (4 + 3 * k))) :: base), g⟩,
          Le_trans (Le_nu (.cons_cons _ (.cons _ (List.Sublist.refl _)))) (Le_perm (List.perm_middle (l₁ := [_, _, _])).symm), _, rfl, vr ++ [.ref T2], rows ++ [.ins (toB ns)], (T2, _) :: τ, _, rfl,
          (RowsAre.memo hr fun x hx => .tail _ hx).snoc (r := .ins (toB ns)) ⟨_, _, rfl⟩ (.head _), by rw [List.length_append, hrl]; rfl, ?_, ?_⟩
        · intro r hr
          rcases List.mem_append.mp hr with hr | hr
          · exact hok r hr
          · rw [List.mem_singleton.mp hr]
            show 1 ≤ (toB ns).length
            rw [toB_len]; omega
        · rw [total_snoc]
          have : rowLen (.ins (toB ns)) = ns.length := toB_len ns
          have hM : 200 ≤ max T.length 200 := Nat.le_max_right _ _
          rw [this, Nat.add_mul, Nat.one_mul]
          generalize max T.length 200 = M at *
          omega
    · rw [show (m.fmod 3 == 0) = false by simp [hz]]
      walk_at "st"
      rw [if_neg (by decide)]
      refine W_execs_cons ?_
      walk_at "st"
      walk_at "st"
      walk_at "st"
      refine W_Name (W_loadC (.inr (.tail _ (.tail _ (.head _)))) ?_)
      walk_at "st"
      refine W_floordiv (by decide) (by decide) fun _ => ?_
      refine W_CallB bb_len G (W_args1 ?_ rfl)
      walk_at "st"
      walk_at "st"
      walk_at "st"
      walk_at "st"
      walk_at "st"
      refine W_itemLneg (.inr (.tail _ (.tail _ (.tail _ (List.mem_append_right _ (.tail _ htd)))))) (by decide) (by omega) (by decide) hl2 ?_
      refine W_args0 (W_lenB (by omega) fun _ => ?_)
      refine W_mod (by omega) fun _ => ?_
      obtain ⟨pl, hpl, hpl2⟩ : ∃ pl : Nat, (m.fdiv 3).fmod T.length = pl ∧ pl < T.length := by
        have := fmod_bd (m.fdiv 3) (n := T.length) (by omega)
        exact ⟨((m.fdiv 3).fmod T.length).toNat, by omega, by omega⟩
      rw [hpl]
      walk_at "st"
      dsimp only
      refine W_execs_cons (W_Expr (W_append ?_))
      walk_at "st"
      refine ⟨rd, vr, rfl, .tail _ (.head _), ?_⟩
      refine W_Tuple (W_args1 ?_ rfl)
      walk_at "st"
      refine W_args1 ?_ rfl
      refine W_same (P := fun v => ∃ (n : Nat) (t : Tok), (1 ≤ n ∧ pl + n ≤ T.length) ∧ v = .int n t) ?_ ?_
      · walk_at "st"
        walk_at "st"
        walk_at "st"
        refine W_Name (W_loadC (.inr (.tail _ (.tail _ (.head _)))) ?_)
        walk_at "st"
        refine W_mod (by decide) fun _ => ?_
        walk_at "st"
        walk_at "st"
        walk_at "st"
        split
        · walk_at "st"
          walk_at "st"
          walk_at "st"
          walk_at "st"
          refine W_Name (W_loadC (.inr (.tail _ (.tail _ (.head _)))) ?_)
          walk_at "st"
          refine W_floordiv (by decide) (by decide) fun _ => ?_
          walk_at "st"
          refine W_CallB bb_len G (W_args1 ?_ rfl)
          walk_at "st"
          walk_at "st"
          walk_at "st"
          walk_at "st"
          walk_at "st"
          refine W_itemLneg (.inr (.tail _ (.tail _ (.tail _ (List.mem_append_right _ (.tail _ htd)))))) (by decide) (by omega) (by decide) hl2 ?_
          refine W_args0 (W_lenB (by omega) fun _ => ?_)
          walk_at "st"
          walk_at "st"
          rw [show (T.length : Int) - (pl : Int) = ((T.length - pl : Nat) : Int) by omega]
          refine W_mod (by omega) fun _ => ?_
          obtain ⟨q, hq, hq2⟩ : ∃ q : Nat, (m.fdiv 297).fmod ((T.length - pl : Nat) : Int) = q ∧ q < T.length - pl := by
            have := fmod_bd (m.fdiv 297) (n := T.length - pl) (by omega)
            exact ⟨((m.fdiv 297).fmod ((T.length - pl : Nat) : Int)).toNat, by omega, by omega⟩
          rw [hq]
          walk_at "st"
          exact ⟨⟨1 + q, _, ⟨by omega, by omega⟩, rfl⟩, rfl⟩
        · walk_at "st"
          refine W_CallB bb_len G (W_args1 ?_ rfl)
          walk_at "st"
          walk_at "st"
          walk_at "st"
          walk_at "st"
          walk_at "st"
          refine W_itemLneg (.inr (.tail _ (.tail _ (.tail _ (List.mem_append_right _ (.tail _ htd)))))) (by decide) (by omega) (by decide) hl2 ?_
          refine W_args0 (W_lenB (by omega) fun _ => ?_)
          walk_at "st"
          walk_at "st"
          rw [show (T.length : Int) - (pl : Int) = ((T.length - pl : Nat) : Int) by omega]
          exact ⟨⟨T.length - pl, _, ⟨by omega, by omega⟩, rfl⟩, rfl⟩
      rintro _ ⟨n, tn, hn, rfl⟩
      refine W_args0 (W_newTuple (by simp) fun T2 => ?_)
      refine W_append_call (.tail (.tail .head)) (by have := hr.length; omega) ?_
      dsimp only
      refine W_execs_nil (W_execs_nil ?_)
      refine ⟨⟨[("rows", .ref rd), ("k", .int k tk), ("steps", .ref sd), ("texts", .ref td)], (it, isLIter cw (i + 1)) :: (rd, isList (vr ++ [.ref T2])) :: (c.L + 2, isCell (some (Value.int m u))) :: (T2, _) :: (τ ++ (cw, isList (cut ws (1 + 3 * k) (4 + 3 * k))) :: base), g⟩,
        Le_lp (fun p hp => .tail _ hp) (List.perm_middle (l₁ := [_, _, _])).symm ["rows", "k", "steps", "texts"], _, rfl, vr ++ [.ref T2], rows ++ [.cpy pl n], (T2, _) :: τ, _, rfl,
        (RowsAre.memo hr fun x hx => .tail _ hx).snoc (r := .cpy pl n) ⟨_, _, rfl⟩ (.head _), by rw [List.length_append, hrl]; rfl, ?_, ?_⟩
      · intro r hr
        rcases List.mem_append.mp hr with hr | hr
        · exact hok r hr
        · rw [List.mem_singleton.mp hr]
          exact hn
      · rw [total_snoc]
        have : rowLen (.cpy pl n) = n := rfl
        have hM : T.length ≤ max T.length 200 := Nat.le_max_left _ _
        rw [this, Nat.add_mul, Nat.one_mul]
        generalize max T.length 200 = M at *
        omega
  · rw [hcl]
    rintro σ ⟨vr, rows, τ, v0, rfl, hr, hrl, hok, htot⟩
    have := h vr rows (τ ++ [(cw, isList (cut ws (1 + 3 * k) (4 + 3 * k)))]) v0 (RowsAre.memo hr fun x hx => List.mem_append_left _ hx) hrl hok htot
    rw [List.append_assoc] at this
    exact this
end
/-- the steps made so far: the last text, all texts, the steps' lists, the steps -/
inductive Made (τ : List (Addr × OP)) : Nat → Bs → List Bs → List Value → List (List Row) → Prop
  | zero {T : Bs} (h1 : 1 ≤ T.length) (h2 : T.length ≤ 99) : Made τ 0 T [T] [] []
  | succ {i : Nat} {T : Bs} {bs : List Bs} {vs : List Value} {rs : List (List Row)} {a : Addr} {vr : List Value} {rows : List Row} (h : Made τ i T bs vs rs) (ha : (a, isList vr) ∈ τ) (hr : RowsAre (fun a ws => (a, isTup ws) ∈ τ) vr rows)
      (hl : rows.length = 3) (ho : ∀ r ∈ rows, RowOk T.length r) (ht : total rows ≤ 3 * max T.length 200) : Made τ (i + 1) (made T rows) (bs ++ [made T rows]) (vs ++ [.ref a]) (rs ++ [rows])
theorem Made.mono {τ τ' : List (Addr × OP)} {i : Nat} {T : Bs} {bs : List Bs} {vs : List Value} {rs : List (List Row)} (h : Made τ i T bs vs rs) (hs : ∀ x ∈ τ, x ∈ τ') : Made τ' i T bs vs rs := by
  induction h with
  | zero h1 h2 => exact .zero h1 h2
  | succ h ha hr hl ho ht ih => exact .succ ih (hs _ ha) (RowsAre.memo hr hs) hl ho ht
theorem Made.counts {τ : List (Addr × OP)} {i : Nat} {T : Bs} {bs : List Bs} {vs : List Value} {rs : List (List Row)} (h : Made τ i T bs vs rs) : bs.length = i + 1 ∧ vs.length = i ∧ bs.getLast? = some T := by
  induction h with
  | zero h1 h2 => exact ⟨rfl, rfl, rfl⟩
  | succ h ha hr hl ho ht ih => exact ⟨by simp [ih.1], by simp [ih.2.1], by simp⟩
theorem total_pos {n0 : Nat} : ∀ {rows : List Row}, (∀ r ∈ rows, RowOk n0 r) → rows.length ≤ total rows
  | [], _ => Nat.zero_le _
  | r :: rows, h => by
    have h1 := total_pos (rows := rows) fun x hx => h x (.tail _ hx)
    have h2 : 1 ≤ rowLen r := by
      have := h r (.head _)
      cases r with
      | ins b => exact this
      | cpy p n => exact this.1
    rw [total_cons, List.length_cons]
    omega
theorem Made.len {τ : List (Addr × OP)} {i : Nat} {T : Bs} {bs : List Bs} {vs : List Value} {rs : List (List Row)} (h : Made τ i T bs vs rs) : i ≤ 3 → 1 ≤ T.length ∧ T.length ≤ 200 * 3 ^ i := by
  induction h with
  | zero h1 h2 => intro _; exact ⟨h1, by omega⟩
  | @succ i T bs vs rs a vr rows h ha hr hl ho ht ih =>
    intro hi
    obtain ⟨e1, e2⟩ := ih (by omega)
    have hp : 3 ^ i ≤ 3 ^ 3 := Nat.pow_le_pow_right (by decide) (by omega)
    have hp1 : 1 ≤ 3 ^ i := Nat.one_le_pow _ _ (by decide)
    rw [made_len ho (by omega)]
    have := total_pos ho
    refine ⟨by omega, ?_⟩
    rw [Nat.pow_succ]
    have : max T.length 200 ≤ 200 * 3 ^ i := by omega
    omega
section
variable {prog : Program} {w : World} {A : Around} {E : Value → Shared → Prop} {c : Cx} {σ : St} {l l' : List (Str × Value)} {ν ν' τ : List (Addr × OP)} {g : Array GenState} {env : Env} {P : GP} {cc PT C fI : Addr} {fd : FuncData}
/-- the law's texts and steps -/
theorem S_law3 {cd td sd : Addr} {ws : List Value} {ms : List Int} {T0 : Bs} {t : Tok} {Q : Flow → St → Prop} (G : GL P c.h) (hA : Room 4 A) (hi : IntsAre ws ms) (hm : ms.length = 11) (h1 : 1 ≤ T0.length) (h2 : T0.length ≤ 99)
    (h : ∀ vsT vsS bsT T rs τ v0, Made τ 3 T bsT vsS rs → BytesAre vsT bsT →
      W prog w A E c ⟨[("steps", .ref sd), ("texts", .ref td)], (sd, isList vsS) :: (td, isList vsT) :: (c.L + 2, isCell v0) :: (τ ++ (c.L + 1, isCell (some (.ref cd))) :: (cd, isList ws) :: ν), g⟩ (execs ((bodyOf (stmtAt 17)).drop 5) (envL P c.L)) Q) :
    W prog w A E c ⟨[("steps", .ref sd), ("texts", .ref td)], (sd, isList []) :: (td, isList [.bytes T0.toArray t]) :: (c.L + 2, isCell none) :: (c.L + 1, isCell (some (.ref cd))) :: (cd, isList ws) :: ν, g⟩ (execs ((bodyOf (stmtAt 17)).drop 4) (envL P c.L)) Q := by
  refine W_execs_cons ?_
  refine W_For_range hA.1 ?_
  refine W_CallT bb_range G (W_args1 ?_ rfl)
  walk_at "st"
  refine W_args0 (W_range1 fun rg => ?_)
  refine ⟨rg, 0, 3, 3, _, fun i σ => ∃ vsT vsS bsT T rs τ v0, σ = ⟨[("steps", .ref sd), ("texts", .ref td)], (sd, isList vsS) :: (td, isList vsT) :: (c.L + 2, isCell v0) :: (τ ++ (c.L + 1, isCell (some (.ref cd))) :: (cd, isList ws) :: ν), g⟩ ∧
    Made τ i T bsT vsS rs ∧ BytesAre vsT bsT, rfl, by decide, by decide, rfl, ⟨_, _, _, T0, [], [], none, rfl, .zero h1 h2, .cons T0 t .nil⟩, ?_, ?_⟩
  · rintro i t' σ it J hi3 ⟨vsT, vsS, bsT, T, rs, τ, v0, rfl, hM, hB⟩
    obtain ⟨c1, c2, c3⟩ := hM.counts
    obtain ⟨l1, l2⟩ := hM.len (by omega)
    have hp : 3 ^ i ≤ 3 ^ 2 := Nat.pow_le_pow_right (by decide) (by omega)
    refine W_let_name (W_assign_name ?_)
    rw [Int.zero_add]
    walk_at "st"
    refine W_execs_cons ?_
    walk_at "st"
    refine W_List (W_args0 (W_newList (by simp) fun rd => ?_))
    walk_at "st"
    dsimp only
    refine W_le (σ' := ⟨[("rows", .ref rd), ("k", .int i t'), ("steps", .ref sd), ("texts", .ref td)], (rd, isList []) :: (c.L + 2, isCell v0) :: (it, J) :: (sd, isList vsS) :: (td, isList vsT) :: (τ ++ (c.L + 1, isCell (some (.ref cd))) :: (cd, isList ws) :: ν), g⟩)
      (Le_perm (.cons _ (List.perm_middle (l₁ := [_, _, _])))) ?_
    refine S_rows (ss := []) (k := i) (T := T) (bsT := bsT) (vsT := vsT) (cd := cd) (ws := ws) (ms := ms) G hA hi hm (.tail _ (.tail _ (.tail _ (List.mem_append_right _ (.head _))))) (.tail _ (.tail _ (.tail _ (List.mem_append_right _ (.tail _ (.head _)))))) (.tail _ (.tail _ (.head _)))
      hB c3 l1 (by omega) hi3 (by omega) fun vr rows τ' v0' hr hrl hok htot => ?_
    have hvl := hr.length
    obtain ⟨hl1, tl, hl2⟩ := last_at hB c3
    have hTL : vsT.length = bsT.length := hB.length
    have hml := made_len hok (by omega)
    refine W_execs_cons (W_Expr (W_append ?_))
    walk_at "st"
    refine ⟨sd, vsS, rfl, .tail _ (.tail _ (List.mem_append_right _ (.tail _ (.head _)))), ?_⟩
    walk_at "st"
    refine W_append_call (.tail (.tail (Upd.app (.tail .head) τ'))) (by omega) ?_
    dsimp only
    refine W_execs_cons (W_Expr (W_append ?_))
    walk_at "st"
    refine ⟨td, vsT, rfl, .tail _ (.tail _ (List.mem_append_right _ (.tail _ (.tail _ (.head _))))), ?_⟩
    refine W_CallF (i := 15) (by decide) nm15 G (W_args1 ?_ rfl)
    walk_at "st"
    walk_at "st"
    walk_at "st"
    walk_at "st"
    walk_at "st"
    refine W_itemLneg (.inr (.tail _ (.tail _ (List.mem_append_right _ (.tail _ (.tail _ (.head _))))))) (by decide) (by omega) (by decide) hl2 ?_
    refine W_args1 ?_ rfl
    walk_at "st"
    refine W_args0 (S_made G (hA.less (by decide)) (.inr (.head _)) (hr.mono fun a ws ha => .inr (.tail _ (.tail _ (List.mem_append_left _ ha)))) (by omega) (by omega) (by omega) fun tt => ?_)
    refine W_append_call (.tail (.tail (Upd.app (.tail (.tail .head)) τ'))) (by omega) ?_
    dsimp only
    refine W_execs_nil ?_
    refine ⟨⟨[("steps", .ref sd), ("texts", .ref td)], (it, J) :: (sd, isList (vsS ++ [.ref rd])) :: (td, isList (vsT ++ [.bytes (made T rows).toArray tt])) :: (c.L + 2, isCell v0') :: (((rd, isList vr) :: (τ' ++ τ)) ++ (c.L + 1, isCell (some (.ref cd))) :: (cd, isList ws) :: ν), g⟩,
      Le_lp (fun p hp => .tail _ (.tail _ hp)) ?_ ["steps", "texts"], _, rfl, vsT ++ [.bytes (made T rows).toArray tt], vsS ++ [.ref rd], bsT ++ [made T rows], made T rows, rs ++ [rows], (rd, isList vr) :: (τ' ++ τ), v0', rfl,
      .succ (hM.mono fun x hx => .tail _ (List.mem_append_right _ hx)) (.head _) (RowsAre.memo hr fun x hx => .tail _ (List.mem_append_left _ hx)) hrl hok htot, hB.snoc _ _⟩
    rw [List.cons_append, List.append_assoc]
    exact (List.perm_append_comm_assoc ((rd, isList vr) :: (c.L + 2, isCell v0') :: τ') [(it, J), (sd, isList (vsS ++ [.ref rd])), (td, isList (vsT ++ [.bytes (made T rows).toArray tt]))] (τ ++ (c.L + 1, isCell (some (.ref cd))) :: (cd, isList ws) :: ν)).trans
      (.cons _ (.cons _ (.cons _ (.swap _ _ _))))
  · rintro σ ⟨vsT, vsS, bsT, T, rs, τ, v0, rfl, hM, hB⟩
    exact h vsT vsS bsT T rs τ v0 hM hB
end
theorem insY_len (T : Bs) (s : Nat) : ∀ o, (insY T o s).length ≤ 2 * s + 2 := by
  induction s using Nat.strongRecOn with
  | ind s ih =>
    intro o
    by_cases h : s ≤ 127
    · rw [insY_small h]; simp
    · rw [insY_big h]
      have := ih (s - 127) (by omega) (o + 127)
      simp only [List.length_cons]
      omega
theorem opsY_len (T : Bs) (rows : List Row) : ∀ i ≤ rows.length, (opsY T (opsOf (rows.take i))).length ≤ 2 * total (rows.take i) + 2 * i := by
  intro i
  induction i with
  | zero => intro _; simp [opsOf, opsY]
  | succ i ih =>
    intro hi
    have hr : rows[i]? = some rows[i] := List.getElem?_eq_getElem (by omega)
    rw [opsOf_take rows i _ hr, opsY_append, List.length_append, List.take_add_one, hr]
    have h1 := ih (by omega)
    rw [show (some rows[i]).toList = [rows[i]] from rfl, total_snoc]
    have h2 : (opsY T [opOf (total (rows.take i)) rows[i]]).length ≤ 2 * rowLen rows[i] + 2 := by
      generalize total (rows.take i) = k
      unfold opsY
      rw [List.map_singleton, List.flatten_cons, List.flatten_nil, List.append_nil]
      unfold opY
      cases rows[i] with
      | ins b =>
        show (if false = true then _ else insY T k (k + b.length - k)).length ≤ 2 * b.length + 2
        rw [if_neg (by decide)]
        have := insY_len T (k + b.length - k) k
        omega
      | cpy p n =>
        show (if true = true then (if p < p + n then [encCpy p (p + n - p)] else []) else insY T k (k + n - k)).length ≤ 2 * n + 2
        rw [if_pos rfl]
        split <;> simp
    omega
theorem createY_len (src T : Bs) (rows : List Row) : (createY src T (opsOf rows)).length ≤ 2 * total rows + 2 * rows.length + 2 := by
  have := opsY_len T rows rows.length (Nat.le_refl _)
  rw [List.take_length] at this
  unfold createY
  simp only [List.length_cons]
  omega
theorem deltaB_len {src : Bs} {rows : List Row} (hn : src.length ≤ 65535) (ht : total rows ≤ 10000) (hr : rows.length ≤ 100) : (deltaB src rows).length ≤ 100000 := by
  have h1 := encRows_len rows
  have h2 := sizeL_len3 (n := src.length) (by omega)
  have h3 := sizeL_len3 (n := total rows) (by omega)
  unfold deltaB
  rw [List.length_append, List.length_append, toB_len, toB_len]
  omega
theorem Room.in1 {n : Nat} {A : Around} (h : Room n A) : Room n A.in1 := h
theorem set_push (g : Array GenState) (x y : GenState) : (g.push x).setIfInBounds g.size y = g.push y := by
  apply Array.ext
  · simp
  · intro i h1 h2
    rw [Array.getElem_setIfInBounds (by simpa using h1)]
    simp only [Array.size_setIfInBounds, Array.size_push] at h1
    split
    · rename_i e; subst e; simp
    · rw [Array.getElem_push_lt (by omega), Array.getElem_push_lt (by omega)]
section
variable {prog : Program} {w : World} {A : Around} {E : Value → Shared → Prop} {c : Cx} {σ : St} {l l' : List (Str × Value)} {ν ν' τ : List (Addr × OP)} {g : Array GenState} {env : Env} {P : GP} {cc PT C fI : Addr} {fd : FuncData}
/-- b''.join(create_delta(src, what the rows make, the rows' ranges)) -/
theorem S_cr {src T : Bs} {rows : List Row} {t1 t2 : Tok} {d : Addr} {vs : List Value} {Q : Value → St → Prop} (G : GL P c.h) (hA : Room 3 A) (hT : T = made src rows) (hok : ∀ r ∈ rows, RowOk src.length r) (hn : src.length ≤ 65535) (ht : total rows ≤ 10000) (hr : rows.length ≤ 100)
    (hx : (d, isList vs) ∈ ν) (hops : OpsAre (fun a ws => (a, isTup ws) ∈ ν) vs (opsOf rows)) (h : ∀ t, Q (.bytes (deltaB src rows).toArray t) ⟨l, ν, g.push .finished⟩) :
    W prog w A E c ⟨l, ν, g⟩ (call (.ref (P.fa 9)) [.bytes src.toArray t1, .bytes T.toArray t2, .ref d] []) (fun x σ₂ => ∀ u, W prog w A E c σ₂ (call (.builtin "bytes.join") [.bytes #[] u, x] []) Q) := by
  subst hT
  have hml := made_len hok hn
  have hf := create_flat hok hn
  refine S_create G (hA.less (by decide)) fun G' L' u => ?_
  have hy := createY_len src (made src rows) rows
  have hdl := deltaB_len (src := src) hn ht hr
  refine W_forget (W_joinGen (𝒦 := GK P d vs (opsOf rows)) (vs := createY src (made src rows) (opsOf rows)) (gs := .fresh (.func (bodyOf (stmtAt 7)) (callEnv (fdOf P 7) L' (P.fa 7)))) (ν' := []) (i := g.size) (G := G') hA.1 G.nolimit hA.lt (.head _) (fun cx z => ⟨G.frz z, ?_, ?_⟩) (by simp) (show (["base_buf", "target_buf", "opcodes"] : List Str).Nodup by decide +kernel)
    (goes_create (hA.in1.in1.in1.in1.less (by decide)) (by omega) (by omega) (ops_ok hok hn)) (by omega) (by rw [hf]; omega) fun t => ⟨⟨l, ν, g.push .finished⟩, ?_, ?_⟩)
  · exact HasL.nu (.tail _ hx) z
  · exact hops.mono fun a ws ha => HasT.nu (.tail _ ha) z
  · rw [set_push]
    exact Le_nu (.cons _ (List.Sublist.refl _))
  · rw [hf]
    exact h t
/-- b''.join(apply_delta(src, the rows' delta)) -/
theorem S_ap {src : Bs} {rows : List Row} {v1 v2 : Value} {Q : Value → St → Prop} (G : GL P c.h) (G2 : GL2 P cc PT c.h) (hA : Room 3 A) (hok : ∀ r ∈ rows, RowOk src.length r) (hn : src.length ≤ 65535) (ht : total rows ≤ 10000) (hr : rows.length ≤ 100)
    (h1 : BytesArg c ⟨l, ν, g⟩ v1 src) (h2 : BytesArg c ⟨l, ν, g⟩ v2 (deltaB src rows)) (hτ : TabForm PT τ) (h : ∀ τ' t, Tab6 PT τ' → Q (.bytes (made src rows).toArray t) ⟨l, τ' ++ ν, g⟩) :
    W prog w A E c ⟨l, τ ++ ν, g⟩ (call (.ref (P.fa 10)) [v1, v2] []) (fun x σ₂ => ∀ u, W prog w A E c σ₂ (call (.builtin "bytes.join") [.bytes #[] u, x] []) Q) := by
  have hml := made_len hok hn
  refine S_apply G G2 hA (delta_ok hok hn ht hr) h1 h2 hτ fun o vs τ' hτ' hb u => ?_
  refine W_forget (W_joinL (.inr (.head _)) hb (by rw [out_made]; omega) fun t => ⟨_, Le_nu (.cons _ (List.Sublist.refl _)), ?_⟩)
  rw [out_made]
  exact h τ' t hτ'
end
theorem Made.at {τ : List (Addr × OP)} {i : Nat} {T : Bs} {bs : List Bs} {vs : List Value} {rs : List (List Row)} (h : Made τ i T bs vs rs) : i ≤ 3 → ∀ {k}, k < i → ∃ B a vr rows, bs[k]? = some B ∧ bs[k + 1]? = some (made B rows) ∧ vs[k]? = some (.ref a) ∧ rs[k]? = some rows ∧
    (a, isList vr) ∈ τ ∧ RowsAre (fun a ws => (a, isTup ws) ∈ τ) vr rows ∧ rows.length = 3 ∧ (∀ r ∈ rows, RowOk B.length r) ∧ 1 ≤ B.length ∧ B.length ≤ 1800 ∧ total rows ≤ 5400 := by
  induction h with
  | zero h1 h2 => intro _ k hk; omega
  | @succ i T bs vs rs a vr rows h ha hr hl ho ht ih =>
    intro hi k hk
    obtain ⟨c1, c2, c3⟩ := h.counts
    have c4 : rs.length = i := by
      clear ih hk hi ha hr hl ho ht
      induction h with
      | zero _ _ => rfl
      | succ h _ _ _ _ _ ih => obtain ⟨d1, d2, d3⟩ := h.counts; simp [ih d1 d2 d3]
    by_cases e : k = i
    · subst e
      obtain ⟨l1, l2⟩ := h.len (by omega)
      have hp : 3 ^ k ≤ 3 ^ 2 := Nat.pow_le_pow_right (by decide) (by omega)
      rw [List.getLast?_eq_getElem?, c1] at c3
      refine ⟨T, a, vr, rows, ?_, ?_, ?_, ?_, ha, hr, hl, ho, l1, by omega, by omega⟩
      · rw [List.getElem?_append_left (by omega)]; exact c3
      · rw [List.getElem?_append_right (by omega), c1]; simp
      · rw [List.getElem?_append_right (by omega), c2]; simp
      · rw [List.getElem?_append_right (by omega), c4]; simp
    · obtain ⟨B, a', vr', rows', e1, e2, e3, e4, r⟩ := ih (by omega) (k := k) (by omega)
      refine ⟨B, a', vr', rows', ?_, ?_, ?_, ?_, r⟩
      · rw [List.getElem?_append_left (by omega)]; exact e1
      · rw [List.getElem?_append_left (by omega)]; exact e2
      · rw [List.getElem?_append_left (by omega)]; exact e3
      · rw [List.getElem?_append_left (by omega)]; exact e4
theorem BytesAre.get {vs : List Value} {bs : List Bs} (h : BytesAre vs bs) {i : Nat} {b : Bs} (hb : bs[i]? = some b) : ∃ t, vs[i]? = some (.bytes b.toArray t) := by
  have hl := h.length
  obtain ⟨hi, _⟩ := List.getElem?_eq_some_iff.mp hb
  obtain ⟨b', t, e1, e2⟩ := h.at (i := i) (by omega)
  rw [hb] at e2
  cases e2
  exact ⟨t, e1⟩
def GDone (g : Array GenState) : Prop := ∀ x ∈ g.toList, x = .finished
theorem GDone.push {g : Array GenState} (h : GDone g) : GDone (g.push .finished) := by
  intro x hx
  rw [Array.toList_push] at hx
  rcases List.mem_append.mp hx with hx | hx
  · exact h x hx
  · exact List.mem_singleton.mp hx
section
variable {prog : Program} {w : World} {A : Around} {E : Value → Shared → Prop} {c : Cx} {σ : St} {l l' : List (Str × Value)} {ν ν' τ ρ : List (Addr × OP)} {g : Array GenState} {env : Env} {P : GP} {cc PT C fI : Addr} {fd : FuncData}
/-- each step by its delta -/
theorem S_law4 {td sd : Addr} {vsT vsS : List Value} {bsT : List Bs} {T : Bs} {rs : List (List Row)} {Q : Flow → St → Prop} (G : GL P c.h) (G2 : GL2 P cc PT c.h) (hA : Room 4 A) (hM : Made ρ 3 T bsT vsS rs) (hB : BytesAre vsT bsT) (hsd : (sd, isList vsS) ∈ ρ) (htd : (td, isList vsT) ∈ ρ)
    (hτ : TabForm PT τ) (hg : GDone g)
    (h : ∀ τ' g', Tab6 PT τ' → GDone g' → W prog w A E c ⟨[("steps", .ref sd), ("texts", .ref td)], τ' ++ ρ, g'⟩ (execs ((bodyOf (stmtAt 17)).drop 6) (envL P c.L)) Q) :
    W prog w A E c ⟨[("steps", .ref sd), ("texts", .ref td)], τ ++ ρ, g⟩ (execs ((bodyOf (stmtAt 17)).drop 5) (envL P c.L)) Q := by
  obtain ⟨c1, c2, c3⟩ := hM.counts
  have hTL : vsT.length = bsT.length := hB.length
  refine W_execs_cons ?_
  refine W_For_range hA.1 ?_
  refine W_CallT bb_range G (W_args1 ?_ rfl)
  walk_at "st"
  refine W_args0 (W_range1 fun rg => ?_)
  refine ⟨rg, 0, 3, 3, _, fun i σ => ∃ τ g, σ = ⟨[("steps", .ref sd), ("texts", .ref td)], τ ++ ρ, g⟩ ∧ TabForm PT τ ∧ GDone g ∧ (0 < i → Tab6 PT τ), rfl, by decide, by decide, rfl, ⟨_, _, rfl, hτ, hg, fun e => absurd e (by decide)⟩, ?_, ?_⟩
  · rintro i t' σ it J hi3 ⟨τ, g, rfl, hτ, hg, _⟩
    obtain ⟨B, a, vr, rows, e1, e2, e3, e4, ha, hr, hrl, hok, hB1, hB2, htot⟩ := hM.at (by decide) hi3
    obtain ⟨tB, b1⟩ := hB.get e1
    obtain ⟨tB2, b2⟩ := hB.get e2
    have hml := made_len hok (by omega)
    have hdl := deltaB_len (src := B) (rows := rows) (by omega) (by omega) (by omega)
    refine W_let_name (W_assign_name ?_)
    rw [Int.zero_add]
    walk_at "st"
    refine W_le (σ' := ⟨_, τ ++ ((it, J) :: ρ), g⟩) (Le_perm List.perm_middle.symm) ?_
    refine W_execs_cons ?_
    walk_at "st"
    refine W_CallF (i := 13) (by decide) nm13 G (W_args1 ?_ rfl)
    walk_at "st"
    walk_at "st"
    walk_at "st"
    refine W_itemL (.inr (List.mem_append_right _ (.tail _ htd))) (by omega) (by omega) (v := .bytes B.toArray tB) (by simpa using b1) ?_
    refine W_args1 ?_ rfl
    walk_at "st"
    walk_at "st"
    walk_at "st"
    refine W_itemL (.inr (List.mem_append_right _ (.tail _ hsd))) (by omega) (by omega) (v := .ref a) (by simpa using e3) ?_
    refine W_args0 (S_delta G (hA.less (by decide)) (.inr (List.mem_append_right _ (.tail _ ha))) (hr.mono fun a ws ha => .inr (List.mem_append_right _ (.tail _ ha))) (by omega) (by omega) (by omega) fun td1 => ?_)
    walk_at "st"
    dsimp only
    refine W_execs_cons ?_
    walk_at "st"
    walk_at "st"
    refine W_join ?_
    refine W_CallF (i := 10) (by decide) nm10 G (W_args1 ?_ rfl)
    walk_at "st"
    walk_at "st"
    walk_at "st"
    refine W_itemL (.inr (List.mem_append_right _ (.tail _ htd))) (by omega) (by omega) (v := .bytes B.toArray tB) (by simpa using b1) ?_
    refine W_args1 ?_ rfl
    walk_at "st"
    refine W_args0 (S_ap G G2 (hA.less (by decide)) hok (by omega) (by omega) (by omega) (.inl ⟨_, rfl⟩) (.inl ⟨_, rfl⟩) hτ fun τ' tm hτ' => ?_)
    walk_at "st"
    walk_at "st"
    walk_at "st"
    walk_at "st"
    walk_at "st"
    walk_at "st"
    refine W_itemL (.inr (List.mem_append_right _ (.tail _ htd))) (by omega) (by omega) (v := .bytes (made B rows).toArray tB2) (by simpa using b2) ?_
    walk_at "st"
    walk_at "st"
    rw [show (made B rows != made B rows) = false by simp, if_neg (by decide)]
    refine W_execs_nil ?_
    dsimp only
    refine W_execs_cons ?_
    walk_at "st"
    walk_at "st"
    refine W_join ?_
    refine W_CallF (i := 9) (by decide) nm9 G (W_args1 ?_ rfl)
    walk_at "st"
    walk_at "st"
    walk_at "st"
    refine W_itemL (.inr (List.mem_append_right _ (.tail _ htd))) (by omega) (by omega) (v := .bytes B.toArray tB) (by simpa using b1) ?_
    refine W_args1 ?_ rfl
    walk_at "st"
    walk_at "st"
    walk_at "st"
    walk_at "st"
    walk_at "st"
    walk_at "st"
    refine W_itemL (.inr (List.mem_append_right _ (.tail _ htd))) (by omega) (by omega) (v := .bytes (made B rows).toArray tB2) (by simpa using b2) ?_
    refine W_args1 ?_ rfl
    refine W_CallF (i := 14) (by decide) nm14 G (W_args1 ?_ rfl)
    walk_at "st"
    walk_at "st"
    walk_at "st"
    refine W_itemL (.inr (List.mem_append_right _ (.tail _ hsd))) (by omega) (by omega) (v := .ref a) (by simpa using e3) ?_
    refine W_args0 (S_ranges G (hA.less (by decide)) (.inr (List.mem_append_right _ (.tail _ ha))) (hr.mono fun a ws ha => .inr (List.mem_append_right _ (.tail _ ha))) (by omega) (by omega) fun o vs' τo ho => ?_)
    refine W_args0 (S_cr G (hA.less (by decide)) rfl hok (by omega) (by omega) (by omega) (.head _) (ho.mono fun a ws ha => .tail _ (List.mem_append_left _ ha)) fun tm2 => ?_)
    walk_at "st"
    walk_at "st"
    walk_at "st"
    rw [show (deltaB B rows != deltaB B rows) = false by simp, if_neg (by decide)]
    refine W_execs_nil (W_execs_nil ?_)
    refine ⟨⟨[("steps", .ref sd), ("texts", .ref td)], (it, J) :: (τ' ++ ρ), g.push .finished⟩, ?_, _, rfl, τ', _, rfl, hτ'.form, hg.push, fun _ => hτ'⟩
    refine Le_trans (Le_sub (l' := [("steps", .ref sd), ("texts", .ref td)]) (ν' := τ' ++ (it, J) :: ρ) (fun p hp => .tail _ (.tail _ hp)) ?_ ["steps", "texts"]) (Le_perm List.perm_middle)
    exact .cons _ (List.sublist_append_right _ _)
  · rintro σ ⟨τ, g, rfl, hτ, hg, h6⟩
    exact h τ g (h6 (by decide)) hg
end
/-- the law's texts and steps, read off -/
structure Tri (ρ : List (Addr × OP)) (vsT vsS : List Value) (T0 : Bs) (R0 R1 R2 : List Row) : Prop where
  t0 : ∃ t, vsT[0]? = some (.bytes T0.toArray t)
  t1 : ∃ t, vsT[1]? = some (.bytes (made T0 R0).toArray t)
  t2 : ∃ t, vsT[2]? = some (.bytes (made (made T0 R0) R1).toArray t)
  t3 : ∃ t, vsT[3]? = some (.bytes (made (made (made T0 R0) R1) R2).toArray t)
  s0 : ∃ a vr, vsS[0]? = some (.ref a) ∧ (a, isList vr) ∈ ρ ∧ RowsAre (fun a ws => (a, isTup ws) ∈ ρ) vr R0
  s1 : ∃ a vr, vsS[1]? = some (.ref a) ∧ (a, isList vr) ∈ ρ ∧ RowsAre (fun a ws => (a, isTup ws) ∈ ρ) vr R1
  s2 : ∃ a vr, vsS[2]? = some (.ref a) ∧ (a, isList vr) ∈ ρ ∧ RowsAre (fun a ws => (a, isTup ws) ∈ ρ) vr R2
  l0 : R0.length = 3
  l1 : R1.length = 3
  l2 : R2.length = 3
  o0 : ∀ r ∈ R0, RowOk T0.length r
  o1 : ∀ r ∈ R1, RowOk (made T0 R0).length r
  o2 : ∀ r ∈ R2, RowOk (made (made T0 R0) R1).length r
  n0 : 1 ≤ T0.length ∧ T0.length ≤ 1800
  n1 : 1 ≤ (made T0 R0).length ∧ (made T0 R0).length ≤ 1800
  n2 : 1 ≤ (made (made T0 R0) R1).length ∧ (made (made T0 R0) R1).length ≤ 1800
  m0 : total R0 ≤ 5400
  m1 : total R1 ≤ 5400
  m2 : total R2 ≤ 5400
  ht : vsT.length = 4
  hs : vsS.length = 3
theorem Made.tri {ρ : List (Addr × OP)} {T : Bs} {bsT : List Bs} {vsT vsS : List Value} {rs : List (List Row)} (h : Made ρ 3 T bsT vsS rs) (hB : BytesAre vsT bsT) : ∃ T0 R0 R1 R2, Tri ρ vsT vsS T0 R0 R1 R2 := by
  obtain ⟨c1, c2, c3⟩ := h.counts
  have hTL : vsT.length = bsT.length := hB.length
  obtain ⟨B0, a0, v0, R0, e00, e01, e02, e03, e04, e05, e06, e07, e08, e09, e10⟩ := h.at (by decide) (k := 0) (by decide)
  obtain ⟨B1, a1, v1, R1, f00, f01, f02, f03, f04, f05, f06, f07, f08, f09, f10⟩ := h.at (by decide) (k := 1) (by decide)
  obtain ⟨B2, a2, v2, R2, g00, g01, g02, g03, g04, g05, g06, g07, g08, g09, g10⟩ := h.at (by decide) (k := 2) (by decide)
  rw [e01] at f00
  cases f00
  rw [f01] at g00
  cases g00
  exact ⟨B0, R0, R1, R2, hB.get e00, hB.get e01, hB.get f01, hB.get g01, ⟨a0, v0, e02, e04, e05⟩, ⟨a1, v1, f02, f04, f05⟩, ⟨a2, v2, g02, g04, g05⟩, e06, f06, g06, e07, f07, g07, ⟨e08, e09⟩, ⟨f08, f09⟩, ⟨g08, g09⟩, e10, f10, g10, by omega, c2⟩
theorem Tri.mono {ρ ρ' : List (Addr × OP)} {vsT vsS : List Value} {T0 : Bs} {R0 R1 R2 : List Row} (X : Tri ρ vsT vsS T0 R0 R1 R2) (h : ∀ x ∈ ρ, x ∈ ρ') : Tri ρ' vsT vsS T0 R0 R1 R2 where
  t0 := X.t0
  t1 := X.t1
  t2 := X.t2
  t3 := X.t3
  s0 := let ⟨a, vr, e1, e2, e3⟩ := X.s0; ⟨a, vr, e1, h _ e2, RowsAre.memo e3 h⟩
  s1 := let ⟨a, vr, e1, e2, e3⟩ := X.s1; ⟨a, vr, e1, h _ e2, RowsAre.memo e3 h⟩
  s2 := let ⟨a, vr, e1, e2, e3⟩ := X.s2; ⟨a, vr, e1, h _ e2, RowsAre.memo e3 h⟩
  l0 := X.l0
  l1 := X.l1
  l2 := X.l2
  o0 := X.o0
  o1 := X.o1
  o2 := X.o2
  n0 := X.n0
  n1 := X.n1
  n2 := X.n2
  m0 := X.m0
  m1 := X.m1
  m2 := X.m2
  ht := X.ht
  hs := X.hs
section
variable {prog : Program} {w : World} {A : Around} {E : Value → Shared → Prop} {c : Cx} {σ : St} {l l' : List (Str × Value)} {ν ν' τ ρ : List (Addr × OP)} {g : Array GenState} {env : Env} {P : GP} {cc PT C fI : Addr} {fd : FuncData}
/-- two steps laid into one, and asked -/
theorem S_law5 {td sd cd : Addr} {ws : List Value} {ms : List Int} {vsT vsS : List Value} {T0 : Bs} {R0 R1 R2 : List Row} {Q : Flow → St → Prop} (G : GL P c.h) (G2 : GL2 P cc PT c.h) (hA : Room 4 A) (X : Tri ρ vsT vsS T0 R0 R1 R2) (hi : IntsAre ws ms) (hm : ms.length = 11)
    (hsd : (sd, isList vsS) ∈ ρ) (htd : (td, isList vsT) ∈ ρ) (hcells : (c.L + 1, isCell (some (.ref cd))) ∈ ρ) (hcd : (cd, isList ws) ∈ ρ) (hτ : Tab6 PT τ)
    (h : ∀ τ' ρ' de dl ve vl q tq, Tab6 PT τ' → (∀ x ∈ ρ, x ∈ ρ') → (de, isList ve) ∈ ρ' → RowsAre (fun a ws => (a, isTup ws) ∈ ρ') ve (laid R0 R1) → (dl, isList vl) ∈ ρ' → RowsAre (fun a ws => (a, isTup ws) ∈ ρ') vl (laid R1 R2) → q ≤ T0.length →
      W prog w A E c ⟨[("cut", .int (q : Nat) tq), ("early", .ref de), ("late", .ref dl), ("steps", .ref sd), ("texts", .ref td)], τ' ++ ρ', g⟩ (execs ((bodyOf (stmtAt 17)).drop 10) (envL P c.L)) Q) :
    W prog w A E c ⟨[("steps", .ref sd), ("texts", .ref td)], τ ++ ρ, g⟩ (execs ((bodyOf (stmtAt 17)).drop 6) (envL P c.L)) Q := by
  obtain ⟨a0, v0, s01, s02, s03⟩ := X.s0
  obtain ⟨a1, v1, s11, s12, s13⟩ := X.s1
  obtain ⟨a2, v2, s21, s22, s23⟩ := X.s2
  obtain ⟨tt0, b0⟩ := X.t0
  obtain ⟨tt1, b1⟩ := X.t1
  obtain ⟨tt2, b2⟩ := X.t2
  obtain ⟨tt3, b3⟩ := X.t3
  have l0 := X.l0
  have l1 := X.l1
  have l2 := X.l2
  have n0 := X.n0
  have n1 := X.n1
  have n2 := X.n2
  have m0 := X.m0
  have m1 := X.m1
  have m2 := X.m2
  have ht := X.ht
  have hs := X.hs
  have hle := laid_len R0 R1
  have hll := laid_len R1 R2
  rw [l0, l1] at hle
  rw [l1, l2] at hll
  have hte := laid_total X.o0 X.o1 (by omega) (by omega)
  have htl := laid_total X.o1 X.o2 (by omega) (by omega)
  refine W_execs_cons ?_
  refine W_AssignSwap (names := ["early", "late"]) hA.1 ?_ rfl (by kernel_rfl)
  refine W_Tuple (W_args1 ?_ rfl)
  refine W_CallF (i := 16) (by decide) nm16 G (W_args1 ?_ rfl)
  walk_at "st"
  walk_at "st"
  walk_at "st"
  refine W_itemL (.inr (List.mem_append_right _ hsd)) (by decide) (by decide) (v := .ref a0) s01 ?_
  refine W_args1 ?_ rfl
  walk_at "st"
  walk_at "st"
  walk_at "st"
  refine W_itemL (.inr (List.mem_append_right _ hsd)) (by decide) (by decide) (v := .ref a1) s11 ?_
  refine W_args0 (S_laid G (hA.less (by decide)) (.inr (List.mem_append_right _ s02)) (s03.mono fun a ws ha => .inr (List.mem_append_right _ ha)) (.inr (List.mem_append_right _ s12)) (s13.mono fun a ws ha => .inr (List.mem_append_right _ ha)) (by omega) (by omega) (by omega) fun de ve τ1 he => ?_)
  refine W_args1 ?_ rfl
  refine W_CallF (i := 16) (by decide) nm16 G (W_args1 ?_ rfl)
  walk_at "st"
  walk_at "st"
  walk_at "st"
  refine W_itemL (.inr (.tail _ (List.mem_append_right _ (List.mem_append_right _ hsd)))) (by decide) (by decide) (v := .ref a1) s11 ?_
  refine W_args1 ?_ rfl
  walk_at "st"
  walk_at "st"
  walk_at "st"
  refine W_itemL (.inr (.tail _ (List.mem_append_right _ (List.mem_append_right _ hsd)))) (by decide) (by decide) (v := .ref a2) s21 ?_
  refine W_args0 (S_laid G (hA.less (by decide)) (.inr (.tail _ (List.mem_append_right _ (List.mem_append_right _ s12)))) (s13.mono fun a ws ha => .inr (.tail _ (List.mem_append_right _ (List.mem_append_right _ ha)))) (.inr (.tail _ (List.mem_append_right _ (List.mem_append_right _ s22))))
    (s23.mono fun a ws ha => .inr (.tail _ (List.mem_append_right _ (List.mem_append_right _ ha)))) (by omega) (by omega) (by omega) fun dl vl τ2 hl => ?_)
  refine W_args0 (W_newTuple (by simp) fun Tp => ?_)
  refine ⟨Tp, _, rfl, .inr (.head _), rfl, ?_⟩
  refine W_inOrder_cons (W_bindName ?_)
  walk_at "st"
  refine W_inOrder_cons (W_bindName ?_)
  walk_at "st"
  refine W_inOrder_nil ?_
  dsimp only
  obtain ⟨ρ', hp, hsub, q1, q2, q3, q4⟩ : ∃ ρ', ((Tp, isTup [Value.ref de, Value.ref dl]) :: (dl, isList vl) :: (τ2 ++ (de, isList ve) :: (τ1 ++ (τ ++ ρ)))).Perm (τ ++ ρ') ∧ (∀ x ∈ ρ, x ∈ ρ') ∧ (de, isList ve) ∈ ρ' ∧ RowsAre (fun a ws => (a, isTup ws) ∈ ρ') ve (laid R0 R1) ∧
      (dl, isList vl) ∈ ρ' ∧ RowsAre (fun a ws => (a, isTup ws) ∈ ρ') vl (laid R1 R2) := by
    refine ⟨((Tp, isTup [Value.ref de, Value.ref dl]) :: (dl, isList vl) :: (τ2 ++ (de, isList ve) :: τ1)) ++ ρ, ?_, fun x hx => List.mem_append_right _ hx, ?_, ?_, ?_, ?_⟩
    · have := List.perm_append_comm_assoc ((Tp, isTup [Value.ref de, Value.ref dl]) :: (dl, isList vl) :: (τ2 ++ (de, isList ve) :: τ1)) τ ρ
      rw [List.cons_append, List.cons_append, List.append_assoc, List.cons_append] at this
      exact this
    · exact List.mem_append_left _ (.tail _ (.tail _ (List.mem_append_right _ (.head _))))
    · exact RowsAre.memo he fun x hx => List.mem_append_left _ (.tail _ (.tail _ (List.mem_append_right _ (.tail _ hx))))
    · exact List.mem_append_left _ (.tail _ (.head _))
    · exact RowsAre.memo hl fun x hx => List.mem_append_left _ (.tail _ (.tail _ (List.mem_append_left _ hx)))
  refine W_le (Le_perm hp) ?_
  clear hp he hl s03 s13 s23
  have oke := laid_ok X.o0 X.o1
  have okl := laid_ok X.o1 X.o2
  have hme : made T0 (laid R0 R1) = made (made T0 R0) R1 := laid_made X.o0 (by omega)
  have hml : made (made T0 R0) (laid R1 R2) = made (made (made T0 R0) R1) R2 := laid_made X.o1 (by omega)
  have hde := deltaB_len (src := T0) (rows := laid R0 R1) (by omega) (by omega) (by omega)
  have hdl := deltaB_len (src := made T0 R0) (rows := laid R1 R2) (by omega) (by omega) (by omega)
  refine W_execs_cons ?_
  walk_at "st"
  walk_at "st"
  refine W_join ?_
  refine W_CallF (i := 10) (by decide) nm10 G (W_args1 ?_ rfl)
  walk_at "st"
  walk_at "st"
  walk_at "st"
  refine W_itemL (.inr (List.mem_append_right _ (hsub _ htd))) (by decide) (by decide) (v := .bytes T0.toArray tt0) b0 ?_
  refine W_args1 ?_ rfl
  refine W_CallF (i := 13) (by decide) nm13 G (W_args1 ?_ rfl)
  walk_at "st"
  walk_at "st"
  walk_at "st"
  refine W_itemL (.inr (List.mem_append_right _ (hsub _ htd))) (by decide) (by decide) (v := .bytes T0.toArray tt0) b0 ?_
  refine W_args1 ?_ rfl
  walk_at "st"
  refine W_args0 (S_delta G (hA.less (by decide)) (.inr (List.mem_append_right _ q1)) (q2.mono fun a ws ha => .inr (List.mem_append_right _ ha)) (by omega) (by omega) (by omega) fun td1 => ?_)
  refine W_args0 (S_ap G G2 (hA.less (by decide)) oke (by omega) (by omega) (by omega) (.inl ⟨_, rfl⟩) (.inl ⟨_, rfl⟩) hτ.form fun τ3 tm hτ3 => ?_)
  walk_at "st"
  walk_at "st"
  walk_at "st"
  refine W_itemL (.inr (List.mem_append_right _ (hsub _ htd))) (by decide) (by decide) (v := .bytes (made (made T0 R0) R1).toArray tt2) b2 ?_
  walk_at "st"
  walk_at "st"
  rw [hme, show (made (made T0 R0) R1 != made (made T0 R0) R1) = false by simp, if_neg (by decide)]
  refine W_execs_nil ?_
  dsimp only
  refine W_execs_cons ?_
  walk_at "st"
  walk_at "st"
  refine W_join ?_
  refine W_CallF (i := 10) (by decide) nm10 G (W_args1 ?_ rfl)
  walk_at "st"
  walk_at "st"
  walk_at "st"
  refine W_itemL (.inr (List.mem_append_right _ (hsub _ htd))) (by decide) (by decide) (v := .bytes (made T0 R0).toArray tt1) b1 ?_
  refine W_args1 ?_ rfl
  refine W_CallF (i := 13) (by decide) nm13 G (W_args1 ?_ rfl)
  walk_at "st"
  walk_at "st"
  walk_at "st"
  refine W_itemL (.inr (List.mem_append_right _ (hsub _ htd))) (by decide) (by decide) (v := .bytes (made T0 R0).toArray tt1) b1 ?_
  refine W_args1 ?_ rfl
  walk_at "st"
  refine W_args0 (S_delta G (hA.less (by decide)) (.inr (List.mem_append_right _ q3)) (q4.mono fun a ws ha => .inr (List.mem_append_right _ ha)) (by omega) (by omega) (by omega) fun td2 => ?_)
  refine W_args0 (S_ap G G2 (hA.less (by decide)) okl (by omega) (by omega) (by omega) (.inl ⟨_, rfl⟩) (.inl ⟨_, rfl⟩) hτ3.form fun τ4 tm hτ4 => ?_)
  walk_at "st"
  walk_at "st"
  walk_at "st"
  refine W_itemL (.inr (List.mem_append_right _ (hsub _ htd))) (by decide) (by decide) (v := .bytes (made (made (made T0 R0) R1) R2).toArray tt3) b3 ?_
  walk_at "st"
  walk_at "st"
  rw [hml, show (made (made (made T0 R0) R1) R2 != made (made (made T0 R0) R1) R2) = false by simp, if_neg (by decide)]
  refine W_execs_nil ?_
  dsimp only
  obtain ⟨m10, hm10⟩ : ∃ m10, ms[10]? = some m10 := ⟨ms[10], List.getElem?_eq_getElem (by omega)⟩
  obtain ⟨u10, hw10⟩ := IntsAre.nth hi hm10
  refine W_execs_cons ?_
  walk_at "st"
  walk_at "st"
  walk_at "st"
  refine W_Name (W_loadC (.inr (List.mem_append_right _ (hsub _ hcells))) ?_)
  walk_at "st"
  refine W_itemL (.inr (List.mem_append_right _ (hsub _ hcd))) (by decide) (by decide) (v := .int m10 u10) hw10 ?_
  walk_at "st"
  refine W_CallB bb_len G (W_args1 ?_ rfl)
  walk_at "st"
  walk_at "st"
  walk_at "st"
  refine W_itemL (.inr (List.mem_append_right _ (hsub _ htd))) (by decide) (by decide) (v := .bytes T0.toArray tt0) b0 ?_
  refine W_args0 (W_lenB (by omega) fun _ => ?_)
  walk_at "st"
  walk_at "st"
  rw [show (T0.length : Int) + 1 = ((T0.length + 1 : Nat) : Int) from rfl]
  refine W_mod (by omega) fun _ => ?_
  obtain ⟨q, hq, hq2⟩ : ∃ q : Nat, m10.fmod ((T0.length + 1 : Nat) : Int) = q ∧ q < T0.length + 1 := by
    have := fmod_bd m10 (n := T0.length + 1) (by omega)
    exact ⟨(m10.fmod ((T0.length + 1 : Nat) : Int)).toNat, by omega, by omega⟩
  rw [hq]
  walk_at "st"
  dsimp only
  exact h τ4 ρ' de dl ve vl q _ hτ4 hsub q1 q2 q3 q4 (by omega)
end
/-- rows upon the first text that make the last -/
structure GoodR (T0 T3 : Bs) (rows : List Row) : Prop where
  ok : ∀ r ∈ rows, RowOk T0.length r
  tot : total rows ≤ 5400
  len : rows.length ≤ 100
  mak : made T0 rows = T3
section
variable {prog : Program} {w : World} {A : Around} {E : Value → Shared → Prop} {c : Cx} {σ : St} {l l' : List (Str × Value)} {ν ν' τ ρ : List (Addr × OP)} {g : Array GenState} {env : Env} {P : GP} {cc PT C fI : Addr} {fd : FuncData}
abbrev lsL (sd td de dl : Addr) (q : Nat) (tq : Tok) : List (Str × Value) := [("cut", .int (q : Nat) tq), ("early", .ref de), ("late", .ref dl), ("steps", .ref sd), ("texts", .ref td)]
/-- all three laid into one: a turn -/
theorem S_turn {td sd de dl d : Addr} {vsT vd : List Value} {T0 T3 : Bs} {rows : List Row} {q : Nat} {tq tt0 tt3 : Tok} {Q : Flow → St → Prop} (G : GL P c.h) (G2 : GL2 P cc PT c.h) (GX : GE P C fI fd c.h) (hA : Room 4 A) (hfr : A.frames = some [envL P c.L])
    (K : GoodR T0 T3 rows) (n0 : 1 ≤ T0.length ∧ T0.length ≤ 1800) (htd : (td, isList vsT) ∈ ρ) (b0 : vsT[0]? = some (.bytes T0.toArray tt0)) (b3 : vsT[3]? = some (.bytes T3.toArray tt3)) (hd : (d, isList vd) ∈ ρ) (hr : RowsAre (fun a ws => (a, isTup ws) ∈ ρ) vd rows)
    (hτ : Tab6 PT τ) (hg : GDone g) (h : ∀ τ' g' σ', Tab6 PT τ' → GDone g' → Le c σ' ⟨lsL sd td de dl q tq, τ' ++ ρ, g'⟩ → Q .next σ') :
    W prog w A E c ⟨("rows", .ref d) :: lsL sd td de dl q tq, τ ++ ρ, g⟩ (execs (lwBody 10) (envL P c.L)) Q := by
  have ok := K.ok
  have tot := K.tot
  have len := K.len
  have hml := made_len ok (by omega)
  have hdl := deltaB_len (src := T0) (rows := rows) (by omega) (by omega) (by omega)
  refine W_execs_cons ?_
  walk_at "st"
  refine W_CallF (i := 13) (by decide) nm13 G (W_args1 ?_ rfl)
  walk_at "st"
  walk_at "st"
  walk_at "st"
  refine W_itemL (.inr (List.mem_append_right _ htd)) (by decide) (by decide) (v := .bytes T0.toArray tt0) b0 ?_
  refine W_args1 ?_ rfl
  walk_at "st"
  refine W_args0 (S_delta G (hA.less (by decide)) (.inr (List.mem_append_right _ hd)) (hr.mono fun a ws ha => .inr (List.mem_append_right _ ha)) (by omega) (by omega) (by omega) fun td1 => ?_)
  walk_at "st"
  dsimp only
  refine W_execs_cons ?_
  walk_at "st"
  walk_at "st"
  refine W_join ?_
  refine W_CallF (i := 10) (by decide) nm10 G (W_args1 ?_ rfl)
  refine W_List (W_args1 ?_ rfl)
  walk_at "st"
  walk_at "st"
  walk_at "st"
  walk_at "st"
  refine W_itemL (.inr (List.mem_append_right _ htd)) (by decide) (by decide) (v := .bytes T0.toArray tt0) b0 ?_
  walk_at "st"
  walk_at "st"
  walk_at "st"
  walk_at "st"
  intro sl1
  refine W_takeB (Int.natCast_nonneg _) (by omega) fun tk1 => ?_
  refine W_args1 ?_ rfl
  walk_at "st"
  walk_at "st"
  walk_at "st"
  walk_at "st"
  refine W_itemL (.inr (List.mem_append_right _ htd)) (by decide) (by decide) (v := .bytes T0.toArray tt0) b0 ?_
  walk_at "st"
  walk_at "st"
  walk_at "st"
  walk_at "st"
  intro sl2
  refine W_dropB (Int.natCast_nonneg _) (by omega) fun tk2 => ?_
  refine W_args0 (W_newList (by simp) fun x1 => ?_)
  refine W_args1 ?_ rfl
  refine W_List (W_args1 ?_ rfl)
  walk_at "st"
  walk_at "st"
  walk_at "st"
  walk_at "st"
  walk_at "st"
  walk_at "st"
  intro sl3
  refine W_takeB (Int.natCast_nonneg _) (by omega) fun tk3 => ?_
  refine W_args1 ?_ rfl
  walk_at "st"
  walk_at "st"
  walk_at "st"
  walk_at "st"
  walk_at "st"
  walk_at "st"
  intro sl4
  refine W_dropB (Int.natCast_nonneg _) (by omega) fun tk4 => ?_
  refine W_args0 (W_newList (by simp) fun x2 => ?_)
  refine W_args0 ?_
  simp only [Int.toNat_natCast]
  refine W_le (Le_perm (List.perm_append_comm_assoc [(x2, isList [.bytes ((deltaB T0 rows).take q).toArray tk3, .bytes ((deltaB T0 rows).drop q).toArray tk4]), (x1, isList [.bytes (T0.take q).toArray tk1, .bytes (T0.drop q).toArray tk2])] τ ρ)) ?_
  dsimp only [List.cons_append, List.nil_append]
  refine S_ap G G2 (hA.less (by decide)) ok (by omega) (by omega) (by omega) (.inr ⟨x1, _, [T0.take q, T0.drop q], rfl, .inr (.tail _ (.head _)), .cons _ _ (.cons _ _ .nil), by simp⟩)
    (.inr ⟨x2, _, [(deltaB T0 rows).take q, (deltaB T0 rows).drop q], rfl, .inr (.head _), .cons _ _ (.cons _ _ .nil), by simp⟩) hτ.form fun τ' tm hτ' => ?_
  walk_at "st"
  walk_at "st"
  walk_at "st"
  refine W_itemL (.inr (List.mem_append_right _ (.tail _ (.tail _ htd)))) (by decide) (by decide) (v := .bytes T3.toArray tt3) b3 ?_
  walk_at "st"
  walk_at "st"
  rw [K.mak, show (T3 != T3) = false by simp, if_neg (by decide)]
  refine W_execs_nil ?_
  dsimp only
  refine W_execs_cons ?_
  walk_at "st"
  walk_at "st"
  refine W_join ?_
  refine W_CallF (i := 9) (by decide) nm9 G (W_args1 ?_ rfl)
  walk_at "st"
  walk_at "st"
  walk_at "st"
  refine W_itemL (.inr (List.mem_append_right _ (.tail _ (.tail _ htd)))) (by decide) (by decide) (v := .bytes T0.toArray tt0) b0 ?_
  refine W_args1 ?_ rfl
  walk_at "st"
  walk_at "st"
  walk_at "st"
  refine W_itemL (.inr (List.mem_append_right _ (.tail _ (.tail _ htd)))) (by decide) (by decide) (v := .bytes T3.toArray tt3) b3 ?_
  refine W_args1 ?_ rfl
  refine W_CallF (i := 14) (by decide) nm14 G (W_args1 ?_ rfl)
  walk_at "st"
  refine W_args0 (S_ranges G (hA.less (by decide)) (.inr (List.mem_append_right _ (.tail _ (.tail _ hd)))) (hr.mono fun a ws ha => .inr (List.mem_append_right _ (.tail _ (.tail _ ha)))) (by omega) (by omega) fun o vs' τo ho => ?_)
  refine W_args0 (S_cr G (hA.less (by decide)) K.mak.symm ok (by omega) (by omega) (by omega) (.head _) (ho.mono fun a ws ha => .tail _ (List.mem_append_left _ ha)) fun tm2 => ?_)
  walk_at "st"
  walk_at "st"
  walk_at "st"
  rw [show (deltaB T0 rows != deltaB T0 rows) = false by simp, if_neg (by decide)]
  refine W_execs_nil ?_
  dsimp only
  obtain ⟨c1, c2, hτe⟩ := hτ'
  refine W_execs_cons ?_
  refine W_Try (σ₁ := ⟨("delta", .bytes (deltaB T0 rows).toArray td1) :: ("rows", .ref d) :: lsL sd td de dl q tq, (o, isList vs') :: (τo ++ (τ' ++ (x2, isList [.bytes ((deltaB T0 rows).take q).toArray tk3, .bytes ((deltaB T0 rows).drop q).toArray tk4]) :: (x1, isList [.bytes (T0.take q).toArray tk1, .bytes (T0.drop q).toArray tk2]) :: ρ)), g.push .finished⟩)
    G GX hfr rfl rfl rfl rfl ?_ ?_
  · refine W_execs_cons (W_Expr ?_)
    refine W_CallF (i := 10) (by decide) nm10 G (W_args1 ?_ rfl)
    walk_at "st"
    walk_at "st"
    walk_at "st"
    walk_at "st"
    refine W_itemL (.inr (.tail _ (List.mem_append_right _ (List.mem_append_right _ (.tail _ (.tail _ htd)))))) (by decide) (by decide) (v := .bytes T0.toArray tt0) b0 ?_
    walk_at "st"
    refine W_addB (by simp; omega) fun tx => ?_
    refine W_args1 ?_ rfl
    walk_at "st"
    refine W_args0 ?_
    refine R_apply (c1 := c1) (c2 := c2) G G2 GX (hA.less (by decide)) ⟨⟨T0.length, total rows, encRows rows, ?_, by omega, by simp, by omega⟩, by simp; omega, by omega⟩ (.inl ⟨_, rfl⟩) (.inl ⟨_, rfl⟩) (.inr ?_) (.inr ?_) hfr rfl (fun e => by cases (show ScopeKind.function = .module from e)) (show (["delta", "rows", "cut", "early", "late", "steps", "texts"] : List Str).Nodup by decide +kernel)
    · unfold deltaB; rw [List.append_assoc]
    · rw [hτe]; exact .tail _ (List.mem_append_right _ (List.mem_append_left _ (.head _)))
    · rw [hτe]; exact .tail _ (List.mem_append_right _ (List.mem_append_left _ (.tail _ (.head _))))
  · refine W_execs_nil (h τ' _ _ ⟨c1, c2, hτe⟩ hg.push ?_)
    refine Le_sub (fun p hp => .tail _ (.tail _ hp)) ?_ ["cut", "early", "late", "steps", "texts"]
    refine .cons _ (List.Sublist.trans ?_ (List.sublist_append_right _ _))
    exact List.Sublist.append_left (.cons _ (.cons _ (List.Sublist.refl _))) _
end
section
variable {prog : Program} {w : World} {A : Around} {E : Value → Shared → Prop} {c : Cx} {σ : St} {l l' : List (Str × Value)} {ν ν' τ ρ : List (Addr × OP)} {g : Array GenState} {env : Env} {P : GP} {cc PT C fI : Addr} {fd : FuncData}
/-- the law's last part -/
theorem S_law6 {td sd de dl : Addr} {vsT vsS ve vl : List Value} {T0 : Bs} {R0 R1 R2 : List Row} {q : Nat} {tq : Tok} {Q : Flow → St → Prop} (G : GL P c.h) (G2 : GL2 P cc PT c.h) (GX : GE P C fI fd c.h) (hA : Room 4 A) (hfr : A.frames = some [envL P c.L]) (X : Tri ρ vsT vsS T0 R0 R1 R2)
    (hsd : (sd, isList vsS) ∈ ρ) (htd : (td, isList vsT) ∈ ρ) (hτ : Tab6 PT τ) (hg : GDone g) (h1 : (de, isList ve) ∈ ρ) (h2 : RowsAre (fun a ws => (a, isTup ws) ∈ ρ) ve (laid R0 R1)) (h3 : (dl, isList vl) ∈ ρ) (h4 : RowsAre (fun a ws => (a, isTup ws) ∈ ρ) vl (laid R1 R2))
    (h : ∀ σ', GDone σ'.g → (∃ ps, (PT, isTab ps) ∈ σ'.ν) → Q (.ret (.bool true)) σ') :
    W prog w A E c ⟨lsL sd td de dl q tq, τ ++ ρ, g⟩ (execs ((bodyOf (stmtAt 17)).drop 10) (envL P c.L)) Q := by
  obtain ⟨a0, v0, s01, s02, s03⟩ := X.s0
  obtain ⟨a2, v2, s21, s22, s23⟩ := X.s2
  obtain ⟨tt0, b0⟩ := X.t0
  obtain ⟨tt3, b3⟩ := X.t3
  have l0 := X.l0
  have l1 := X.l1
  have l2 := X.l2
  have n0 := X.n0
  have n1 := X.n1
  have n2 := X.n2
  have m0 := X.m0
  have m1 := X.m1
  have m2 := X.m2
  have ht := X.ht
  have hs := X.hs
  have hle := laid_len R0 R1
  have hll := laid_len R1 R2
  rw [l0, l1] at hle
  rw [l1, l2] at hll
  have hte := laid_total X.o0 X.o1 (by omega) (by omega)
  have htl := laid_total X.o1 X.o2 (by omega) (by omega)
  have oke := laid_ok X.o0 X.o1
  have okl := laid_ok X.o1 X.o2
  have hme : made T0 (laid R0 R1) = made (made T0 R0) R1 := laid_made X.o0 (by omega)
  have hml : made (made T0 R0) (laid R1 R2) = made (made (made T0 R0) R1) R2 := laid_made X.o1 (by omega)
  have hl1 := laid_len (laid R0 R1) R2
  have hl2 := laid_len R0 (laid R1 R2)
  rw [l2] at hl1
  rw [l0] at hl2
  have K1 : GoodR T0 (made (made (made T0 R0) R1) R2) (laid (laid R0 R1) R2) := by
    refine ⟨laid_ok oke X.o2, ?_, by omega, ?_⟩
    · rw [laid_total oke (by rw [hme]; exact X.o2) (by omega) (by rw [hme]; omega)]; exact m2
    · rw [laid_made oke (by omega), hme]
  have K2 : GoodR T0 (made (made (made T0 R0) R1) R2) (laid R0 (laid R1 R2)) := by
    refine ⟨laid_ok X.o0 okl, ?_, by omega, ?_⟩
    · rw [laid_total X.o0 okl (by omega) (by omega), htl]; exact m2
    · rw [laid_made X.o0 (by omega), hml]
  refine W_execs_cons ?_
  refine W_For_tuple hA.1 (W_forget ?_)
  refine W_Tuple (W_args1 ?_ rfl)
  refine W_CallF (i := 16) (by decide) nm16 G (W_args1 ?_ rfl)
  walk_at "st"
  refine W_args1 ?_ rfl
  walk_at "st"
  walk_at "st"
  walk_at "st"
  refine W_itemL (.inr (List.mem_append_right _ hsd)) (by decide) (by decide) (v := .ref a2) s21 ?_
  refine W_args0 (S_laid G (hA.less (by decide)) (.inr (List.mem_append_right _ h1)) (h2.mono fun a ws ha => .inr (List.mem_append_right _ ha)) (.inr (List.mem_append_right _ s22)) (s23.mono fun a ws ha => .inr (List.mem_append_right _ ha)) (by omega) (by omega) (by omega) fun d1 vd1 τ1 hd1 => ?_)
  refine W_args1 ?_ rfl
  refine W_CallF (i := 16) (by decide) nm16 G (W_args1 ?_ rfl)
  walk_at "st"
  walk_at "st"
  walk_at "st"
  refine W_itemL (.inr (.tail _ (List.mem_append_right _ (List.mem_append_right _ hsd)))) (by decide) (by decide) (v := .ref a0) s01 ?_
  refine W_args1 ?_ rfl
  walk_at "st"
  refine W_args0 (S_laid G (hA.less (by decide)) (.inr (.tail _ (List.mem_append_right _ (List.mem_append_right _ s02)))) (s03.mono fun a ws ha => .inr (.tail _ (List.mem_append_right _ (List.mem_append_right _ ha)))) (.inr (.tail _ (List.mem_append_right _ (List.mem_append_right _ h3))))
    (h4.mono fun a ws ha => .inr (.tail _ (List.mem_append_right _ (List.mem_append_right _ ha)))) (by omega) (by omega) (by omega) fun d2 vd2 τ2 hd2 => ?_)
  refine W_args0 (W_newTuple (by simp) fun Tp => ?_)
  obtain ⟨ρ', hp, hsub, q0, q1, q2, q3, q4⟩ : ∃ ρ', ((Tp, isTup [Value.ref d1, Value.ref d2]) :: (d2, isList vd2) :: (τ2 ++ (d1, isList vd1) :: (τ1 ++ (τ ++ ρ)))).Perm (τ ++ ρ') ∧ (∀ x ∈ ρ, x ∈ ρ') ∧ (Tp, isTup [Value.ref d1, Value.ref d2]) ∈ ρ' ∧
      (d1, isList vd1) ∈ ρ' ∧ RowsAre (fun a ws => (a, isTup ws) ∈ ρ') vd1 (laid (laid R0 R1) R2) ∧ (d2, isList vd2) ∈ ρ' ∧ RowsAre (fun a ws => (a, isTup ws) ∈ ρ') vd2 (laid R0 (laid R1 R2)) := by
    refine ⟨((Tp, isTup [Value.ref d1, Value.ref d2]) :: (d2, isList vd2) :: (τ2 ++ (d1, isList vd1) :: τ1)) ++ ρ, ?_, fun x hx => List.mem_append_right _ hx, List.mem_append_left _ (.head _), ?_, ?_, ?_, ?_⟩
    · have := List.perm_append_comm_assoc ((Tp, isTup [Value.ref d1, Value.ref d2]) :: (d2, isList vd2) :: (τ2 ++ (d1, isList vd1) :: τ1)) τ ρ
      rw [List.cons_append, List.cons_append, List.append_assoc, List.cons_append] at this
      exact this
    · exact List.mem_append_left _ (.tail _ (.tail _ (List.mem_append_right _ (.head _))))
    · exact RowsAre.memo hd1 fun x hx => List.mem_append_left _ (.tail _ (.tail _ (List.mem_append_right _ (.tail _ hx))))
    · exact List.mem_append_left _ (.tail _ (.head _))
    · exact RowsAre.memo hd2 fun x hx => List.mem_append_left _ (.tail _ (.tail _ (List.mem_append_left _ hx)))
  refine ⟨⟨lsL sd td de dl q tq, τ ++ ρ', g⟩, Le_perm hp, Tp, [.ref d1, .ref d2], fun i σ => ∃ τ g, σ = ⟨lsL sd td de dl q tq, τ ++ ρ', g⟩ ∧ Tab6 PT τ ∧ GDone g, rfl, ?_, ⟨τ, g, rfl, hτ, hg⟩, ?_, ?_⟩
  · rintro i σ ⟨τ, g, rfl, _⟩
    exact .inr (List.mem_append_right _ q0)
  · rintro i v σ it J hv ⟨τ, g, rfl, hτ, hg⟩
    obtain ⟨d, vd, rows, rfl, r1, r2, r3⟩ : ∃ d vd rows, v = .ref d ∧ (d, isList vd) ∈ ρ' ∧ RowsAre (fun a ws => (a, isTup ws) ∈ ρ') vd rows ∧ GoodR T0 (made (made (made T0 R0) R1) R2) rows := by
      match i, hv with
      | 0, hv => cases hv; exact ⟨d1, vd1, _, rfl, q1, q2, K1⟩
      | 1, hv => cases hv; exact ⟨d2, vd2, _, rfl, q3, q4, K2⟩
      | i + 2, hv => cases hv
    refine W_let_name (W_assign_name ?_)
    walk_at "st"
    refine W_le (σ' := ⟨_, τ ++ ((it, J) :: ρ'), g⟩) (Le_perm List.perm_middle.symm) ?_
    refine S_turn G G2 GX hA hfr r3 n0 (.tail _ (hsub _ htd)) b0 b3 (.tail _ r1) (RowsAre.memo r2 fun x hx => .tail _ hx) hτ hg fun τ' g' σ' hτ' hg' hl => ?_
    refine ⟨⟨lsL sd td de dl q tq, (it, J) :: (τ' ++ ρ'), g'⟩, Le_trans hl (Le_perm List.perm_middle), _, rfl, τ', g', rfl, hτ', hg'⟩
  · rintro σ ⟨τ, g, rfl, hτ, hg⟩
    refine W_execs_cons ?_
    walk_at "st"
    walk_at "st"
    obtain ⟨c1, c2, hτe⟩ := hτ
    exact h _ hg ⟨_, List.mem_append_left _ (by rw [hτe]; exact .head _)⟩
end
section
variable {prog : Program} {w : World} {A : Around} {E : Value → Shared → Prop} {c : Cx} {σ : St} {l l' : List (Str × Value)} {ν ν' τ ρ : List (Addr × OP)} {g : Array GenState} {env : Env} {P : GP} {cc PT C fI : Addr} {fd : FuncData}
/-- the law -/
theorem S_law {d : Addr} {vs : List Value} {ns : List Int} {Q : Flow → St → Prop} (G : GL P c.h) (G2 : GL2 P cc PT c.h) (GX : GE P C fI fd c.h) (hA : Room 4 A) (hfr : A.frames = some [envL P c.L]) (hx : ∀ σ, HasL c σ d vs) (hi : IntsAre vs ns) (hz : vs.length ≤ 1000)
    (hτ : TabForm PT τ) (hg : GDone g) (h : ∀ σ', GDone σ'.g → (∃ ps, (PT, isTab ps) ∈ σ'.ν) → Q (.ret (.bool true)) σ') :
    W prog w A E c ⟨[("script", .ref d)], (c.L + 2, isCell none) :: (c.L + 1, isCell none) :: τ, g⟩ (execs (bodyOf (stmtAt 17)) (envL P c.L)) Q := by
  with_reducible refine S_law0 (P := P) ?_
  intro rd rs hr
  with_reducible refine S_law1 G hx hi hz hr ?_
  intro cd ws ms ρ0 hw hm
  refine W_le (σ' := ⟨[], (c.L + 2, isCell none) :: (c.L + 1, isCell (some (.ref cd))) :: (cd, isList ws) :: τ, g⟩) ?_ ?_
  · refine Le_trans (Le_sub (l' := []) (ν' := (cd, isList ws) :: (c.L + 2, isCell none) :: (c.L + 1, isCell (some (.ref cd))) :: τ) (fun p hp => by cases hp) (.cons_cons _ (List.sublist_append_right _ _)) []) (Le_perm ?_)
    exact (List.perm_middle (l₁ := [_, _])).symm
  refine S_law2 G hA hw hm fun td sd T0 t h1 h2 => ?_
  refine S_law3 G hA hw hm h1 h2 fun vsT vsS bsT T rs τM v0 hM hB => ?_
  refine W_le (σ' := ⟨_, τ ++ ((sd, isList vsS) :: (td, isList vsT) :: (c.L + 2, isCell v0) :: (τM ++ [(c.L + 1, isCell (some (.ref cd))), (cd, isList ws)])), g⟩) (Le_perm ?_) ?_
  · have := List.perm_append_comm (l₁ := (sd, isList vsS) :: (td, isList vsT) :: (c.L + 2, isCell v0) :: (τM ++ [(c.L + 1, isCell (some (.ref cd))), (cd, isList ws)])) (l₂ := τ)
    simp only [List.cons_append, List.append_assoc, List.nil_append] at this
    exact this
  have hM' := hM.mono (τ' := (sd, isList vsS) :: (td, isList vsT) :: (c.L + 2, isCell v0) :: (τM ++ [(c.L + 1, isCell (some (.ref cd))), (cd, isList ws)])) fun x hx => .tail _ (.tail _ (.tail _ (List.mem_append_left _ hx)))
  have k1 : (sd, isList vsS) ∈ (sd, isList vsS) :: (td, isList vsT) :: (c.L + 2, isCell v0) :: (τM ++ [(c.L + 1, isCell (some (.ref cd))), (cd, isList ws)]) := .head _
  have k2 : (td, isList vsT) ∈ (sd, isList vsS) :: (td, isList vsT) :: (c.L + 2, isCell v0) :: (τM ++ [(c.L + 1, isCell (some (.ref cd))), (cd, isList ws)]) := .tail _ (.head _)
  have k3 : (c.L + 1, isCell (some (.ref cd))) ∈ (sd, isList vsS) :: (td, isList vsT) :: (c.L + 2, isCell v0) :: (τM ++ [(c.L + 1, isCell (some (.ref cd))), (cd, isList ws)]) := .tail _ (.tail _ (.tail _ (List.mem_append_right _ (.head _))))
  have k4 : (cd, isList ws) ∈ (sd, isList vsS) :: (td, isList vsT) :: (c.L + 2, isCell v0) :: (τM ++ [(c.L + 1, isCell (some (.ref cd))), (cd, isList ws)]) := .tail _ (.tail _ (.tail _ (List.mem_append_right _ (.tail _ (.head _)))))
  generalize (sd, isList vsS) :: (td, isList vsT) :: (c.L + 2, isCell v0) :: (τM ++ [(c.L + 1, isCell (some (.ref cd))), (cd, isList ws)]) = ρ at *
  refine S_law4 G G2 hA hM' hB k1 k2 hτ hg fun τ4 g4 hτ4 hg4 => ?_
  obtain ⟨T0', R0, R1, R2, X⟩ := hM'.tri hB
  refine S_law5 G G2 hA X hw hm k1 k2 k3 k4 hτ4 fun τ5 ρ5 de dl ve vl q tq hτ5 hs q1 q2 q3 q4 hq => ?_
  exact S_law6 G G2 GX hA hfr (X.mono hs) (hs _ k1) (hs _ k2) hτ5 hg4 q1 q2 q3 q4 h
end
section
variable {prog : Program} {w : World} {P : GP} {cc PT C fI : Addr} {fd : FuncData}
/-- the call of the law by the claim's caller -/
theorem W_end {s₁ : Shared} {d : Addr} {vs : List Value} {ns : List Int} (G : GL P (hideAll s₁.heap [PT])) (G2 : GL2 P cc PT (hideAll s₁.heap [PT])) (GX : GE P C fI fd (hideAll s₁.heap [PT])) (F : FnOk P (hideAll s₁.heap [PT]) 17)
    (hT : s₁.heap.get? PT = some (tabObj #[])) (hct : isCodeTable s₁.heap PT) (hL : s₁.heap.IsList d vs.toArray) (hI : IntsAre vs ns) (hz : vs.length ≤ 1000) (hg : s₁.gens = #[]) :
    wpN (model prog w) callerA (call (.ref (P.fa 17)) [.ref d] []) (fun v s' => v = .bool true ∧ OldK s₁.heap s'.heap ∧ s'.os = s₁.os ∧ AllBare s'.gens) (fun _ _ => False) s₁ := by
  obtain ⟨o, ho, hdata⟩ := F.obj
  have up : ∀ b o, (hideAll s₁.heap [PT]).get? b = some o → s₁.heap.get? b = some o := fun b o e => of_hideAll _ e
  have hPTs : PT < s₁.heap.objs.size := Heap.lt_size hT
  refine wpN_call (codeN_call_function (fd := fdOf P 17) (by decide +kernel) (up _ _ ho) hdata rfl rfl rfl (CodeRec_keeps up F.code) ?_)
  have hbind : bindArgs (fdOf P 17) ⟨[.ref d], []⟩ = pure ([("script", .ref d)] : List (Str × Value)) := rfl
  rw [hbind]
  refine wpN_pure (wpN_any (wpAny_newFunctionEnv_cells rfl ?_ ?_))
  · intro x hx
    rw [List.mem_singleton.mp hx]
    exact .inl (show (scopeOf (stmtAt 17)).names.lookup ("script" : Str) = some .local by decide +kernel)
  intro env he s' x
  subst he
  obtain ⟨⟨h', tk, rfl⟩, ⟨o', es, ep, e', hd, hs, hf⟩, hk', hfr⟩ := x.toInCall
  refine ⟨(G.nolimit.keeps up).keeps hk', ?_⟩
  have hκ : cellsNu (fdOf P 17) [("script", .ref d)] s₁.heap.objs.size = [(s₁.heap.objs.size + 2, isCell none), (s₁.heap.objs.size + 1, isCell none)] := by rfl
  have cok : ∀ p ∈ cellsNu (fdOf P 17) [("script", .ref d)] s₁.heap.objs.size, ∃ o, h'.get? p.1 = some o ∧ p.2 o := fun p hp => by
    obtain ⟨y, hy, rfl⟩ := List.mem_map.mp hp
    obtain ⟨oc, eoc, hoc⟩ := x.cell y.1 y.2 (cellsFrom_lookup (show (((scopeOf (stmtAt 17)).names.filter (·.2 == .cell)).map (·.1)).Nodup by decide +kernel) _ y hy)
    exact ⟨oc, eoc, hoc⟩
  rw [hκ] at cok
  have hscr : nsFind es "script" = some (.ref d) := (hf "script").trans rfl
  have e2 : h'.get? s₁.heap.objs.size = some o' := e'
  have k2 : ∀ b o, s₁.heap.get? b = some o → h'.get? b = some o := hk'
  clear x hf e' hk' hfr hκ hbind
  show codeN (model prog w) callerA (.func (bodyOf (stmtAt 17)) (envL P s₁.heap.objs.size)) _ _
  have lt : ∀ b o, s₁.heap.get? b = some o → b < s₁.heap.objs.size := fun b o e => Heap.lt_size e
  generalize s₁.heap.objs.size = L at *
  have r : Rep ⟨hideAll h' [L, L + 2, L + 1, PT], L, s₁.os⟩ ⟨[("script", .ref d)], (L + 2, isCell none) :: (L + 1, isCell none) :: [(PT, isTab #[])], #[]⟩ { heap := h', gens := s₁.gens, drawn := s₁.drawn, toks := tk, os := s₁.os } := by
    refine ⟨⟨nsFind es, ⟨o', es, ep, e2, hd, hs, fun _ => rfl⟩, fun p hp => ?_⟩, by simp, fun b o e => of_hideAll _ e, hideAll_none _ (.head _), fun p hp => ?_, fun p hp => ?_, ?_, rfl, hg⟩
    · rw [List.mem_singleton.mp hp]; exact hscr
    · rcases List.mem_cons.mp hp with rfl | hp
      · exact cok _ (.head _)
      · rcases List.mem_cons.mp hp with rfl | hp
        · exact cok _ (.tail _ (.head _))
        · rw [List.mem_singleton.mp hp]
          exact ⟨_, k2 _ _ hT, rfl⟩
    · rcases List.mem_cons.mp hp with rfl | hp
      · exact ⟨by show L + 2 ≠ L; omega, hideAll_none _ (.tail _ (.head _))⟩
      · rcases List.mem_cons.mp hp with rfl | hp
        · exact ⟨by show L + 1 ≠ L; omega, hideAll_none _ (.tail _ (.tail _ (.head _)))⟩
        · rw [List.mem_singleton.mp hp]
          exact ⟨Nat.ne_of_lt hPTs, hideAll_none _ (.tail _ (.tail _ (.tail _ (.head _))))⟩
    · show [L + 2, L + 1, PT].Nodup
      have n1 : ¬ (L + 2 : Nat) = L + 1 := by omega
      have n2 : ¬ (L + 2 : Nat) = PT := Nat.ne_of_gt (Nat.lt_succ_of_lt (Nat.lt_succ_of_lt hPTs))
      have n3 : ¬ (L + 1 : Nat) = PT := Nat.ne_of_gt (Nat.lt_succ_of_lt hPTs)
      refine List.nodup_cons.mpr ⟨fun hm => ?_, List.nodup_cons.mpr ⟨fun hm => n3 (List.mem_singleton.mp hm), List.nodup_cons.mpr ⟨nofun, List.nodup_nil⟩⟩⟩
      rcases List.mem_cons.mp hm with hm | hm
      · exact n1 hm
      · exact n2 (List.mem_singleton.mp hm)
  have kk : ∀ b o, (hideAll s₁.heap [PT]).get? b = some o → (hideAll h' [L, L + 2, L + 1, PT]).get? b = some o := fun b o e => by
    have e1 := up _ _ e
    have l1 := lt _ _ e1
    refine hideAll_get _ (k2 _ _ e1) fun hm => ?_
    have hne : b ≠ PT := fun q => by rw [q, hideAll_none _ (.head _)] at e; cases e
    have m0 : ¬ (b : Nat) = L := Nat.ne_of_lt l1
    have m1 : ¬ (b : Nat) = L + 1 := Nat.ne_of_lt (Nat.lt_succ_of_lt l1)
    have m2 : ¬ (b : Nat) = L + 2 := Nat.ne_of_lt (Nat.lt_succ_of_lt (Nat.lt_succ_of_lt l1))
    rcases List.mem_cons.mp hm with hm | hm
    · exact m0 hm
    rcases List.mem_cons.mp hm with hm | hm
    · exact m2 hm
    rcases List.mem_cons.mp hm with hm | hm
    · exact m1 hm
    · exact hne (List.mem_singleton.mp hm)
  have hx : ∀ σ, HasL ⟨hideAll h' [L, L + 2, L + 1, PT], L, s₁.os⟩ σ d vs := fun σ => by
    obtain ⟨ol, el, hl, r⟩ := hL
    refine .inl ⟨ol, kk _ _ (hideAll_get _ el fun hm => ?_), hl, r⟩
    rw [List.mem_singleton.mp hm, hT] at el
    cases el
    cases hl
  have hA : Room 4 (callerA.deeper (envL P L)) := ⟨rfl, by show 1 + claimMargin + 1 + 4 < recursionLimit; decide +kernel⟩
  have hfr : (callerA.deeper (envL P L)).frames = some [envL P L] := rfl
  have H := @S_law prog w (callerA.deeper (envL P L)) NoE ⟨hideAll h' [L, L + 2, L + 1, PT], L, s₁.os⟩ [(PT, isTab #[])] #[] P cc PT C fI fd d vs ns (fun f σ' => f = .ret (.bool true) ∧ GDone σ'.g ∧ ∃ ps, (PT, isTab ps) ∈ σ'.ν) (G.keeps kk) (G2.keeps kk) (GX.keeps kk) hA hfr hx hI hz (Or.inl rfl) (fun x hx => by cases hx) (fun σ' h1 h2 => ⟨rfl, h1, h2⟩)
  generalize bodyOf (stmtAt 17) = B at H ⊢
  refine codeN_func (wpN_mono (H _ r) ?_ fun _ _ q => q.elim)
  rintro f s' ⟨σ', r', rfl, hgd, ps, hps⟩
  refine ⟨rfl, ⟨fun b o e => ?_, fun b o e => ?_⟩, r'.os, fun y hy => ?_⟩
  · by_cases hb : b = PT
    · subst hb
      obtain ⟨o2, e2, rfl⟩ := r'.ok _ hps
      rw [hT] at e
      cases e
      exact .inr (.inl ⟨hct, rfl, #[], ps, rfl, by rw [e2]; simp⟩)
    · exact .inl (r'.keep _ _ (kk _ _ (hideAll_get _ e fun hm => hb (List.mem_singleton.mp hm))))
  · by_cases hb : b = PT
    · subst hb
      obtain ⟨o2, e2, _⟩ := r'.ok _ hps
      exact ⟨o2, e2⟩
    · exact ⟨o, r'.keep _ _ (kk _ _ (hideAll_get _ e fun hm => hb (List.mem_singleton.mp hm)))⟩
  · rw [r'.gens] at hy
    rw [hgd y (Array.mem_toList_iff.mpr hy)]
    rfl
end
/-! ## what the top left, read off the written part -/
theorem ghost_rec {h : Heap} {tabs : List (Addr × Addr)} {cd : Value} {q : Str} (hT : TabsAt tabs h) (x : h.CodeRec cd q) : (ghostOf h tabs).CodeRec cd q := by
  obtain ⟨c, o, vs, t, e, g, hd, hv⟩ := x
  refine ⟨c, o, vs, t, e, ghost_get hT g fun q => ?_, hd, hv⟩
  subst q
  cases hd
  cases hv
theorem ghost_fn {h : Heap} {tabs : List (Addr × Addr)} {a : Addr} {fd : FuncData} (hT : TabsAt tabs h) (x : ∃ o, h.get? a = some o ∧ o.data = .func fd) : ∃ o, (ghostOf h tabs).get? a = some o ∧ o.data = .func fd := by
  obtain ⟨o, g, hd⟩ := x
  refine ⟨o, ghost_get hT g fun q => ?_, hd⟩
  subst q
  cases hd
def strKey (e : DictEntry) : Bool := match e.key with
  | .str _ _ => true
  | _ => false
theorem ns_K {K : Frag} {h : Heap} {a : Addr} {o : Obj} {es : Array DictEntry} {ep : Nat} (X : K.In h) (e : K.lookup a = some o) (hd : o.data = .dict es ep) (hs : es.toList.all strKey = true) : h.Ns a (nsFind es) := by
  refine ⟨o, es, ep, X _ _ e, hd, fun x hx => ?_, fun _ => rfl⟩
  have := List.all_eq_true.mp hs x (by simpa using hx)
  unfold strKey at this
  split at this
  · rename_i n t hk; exact ⟨n, t, hk⟩
  · cases this
theorem W_go {prog : Program} {w : World} {K : Frag} {q : Program} {loose : List Str} {mean : ExcName → Option Value} {mg mb : Str → Option Value} {s₁ : Shared} {fa d : Addr} {vs : List Value} {ns : List Int} (KX : K.In s₁.heap) (hT9 : TabsAt [(67, 63)] s₁.heap) (T : Top q loose mean mg mb s₁.heap)
    (hmg : mg (nameOf (stmtAt 17)) = some (.ref fa)) (hL : s₁.heap.IsList d vs.toArray) (hI : IntsAre vs ns) (hz : vs.length ≤ 1000) (hg : s₁.gens = #[])
    (n1 : noTabs K = true) (n2 : ∀ i ∈ 17 :: fnIdx, ∃ pos, (⟨nameOf (stmtAt i), paramsOf (stmtAt i), bodyOf (stmtAt i), scopeOf (stmtAt i), pos⟩ : DefRec) ∈ recsOf q)
    (n3 : ∀ x ∈ builtinsUsed, nsIn K mainGlobals x = some none) (n4 : valOf q "_MAX_COPY_LEN" = some (.int 65535)) (n5 : tabIn K (nameOf (stmtAt 8)) = some (67, 63)) (n6 : codeHdIn K 67 63 = true) (n7 : nsIn K mainGlobals "ApplyDeltaError" = some (some (.ref 32)))
    {nm qn : Str} {bs : List Value} {hdct : Bool} {sn : List Str} {sub : List Value} {ab : Bool} {col : Option Bool} {dd : Option Addr} {k0 k1 k2 k3 k5 : Option Value} (c1 : K.lookup 32 = some (excClassObj nm qn 32 31 bs bmX hdct sn sub ab col dd k0 k1 k2 k3 k5 "Exception.__new__"))
    {o31 : Obj} {es : Array DictEntry} {ep : Nat} (c2 : K.lookup 31 = some o31) (c2' : o31.data = .dict es ep) (c3 : es.toList.all strKey = true) (c4 : nsFind es "__init__" = some (.ref 29))
    {o29 : Obj} {fd : FuncData} (c5 : K.lookup 29 = some o29) (c5' : o29.cls = .type "function") (c5'' : o29.data = .func fd) (c6 : fd.code = .ref 28)
    {o28 : Obj} {vs28 : Array Value} {t28 : Tok} (c7 : K.lookup 28 = some o28) (c7' : o28.data = .fields vs28) (c8 : vs28[1]? = some (.str fd.qualname t28)) (c9 : InitFd fd) (c10 : fd.defaults = .ref 22)
    {o22 : Obj} {dv : Value} {nn : Nat} (c11 : K.lookup 22 = some o22) (c11' : o22.data = .seq #[dv] nn) :
    wpN (model prog w) callerA (call (.ref fa) [.ref d] []) (fun v s' => v = .bool true ∧ OldK s₁.heap s'.heap ∧ s'.os = s₁.os ∧ AllBare s'.gens) (fun _ _ => False) s₁ := by
  have hch : ∀ i : Nat, ∃ y : Addr × Value × Value × Value, i ∈ 17 :: fnIdx → mg (nameOf (stmtAt i)) = some (.ref y.1) ∧
      (∃ o, s₁.heap.get? y.1 = some o ∧ o.data = .func (docDef (nameOf (stmtAt i)) (paramsOf (stmtAt i)) (bodyOf (stmtAt i)) (scopeOf (stmtAt i)) y.2.1 y.2.2.1 y.2.2.2)) ∧ s₁.heap.CodeRec y.2.2.1 (nameOf (stmtAt i)) := fun i => by
    by_cases hi : i ∈ 17 :: fnIdx
    · obtain ⟨pos, hr⟩ := n2 i hi
      obtain ⟨a, o, pm, code, doc, e1, e2, e3, e4⟩ := T.fn _ hr
      exact ⟨(a, pm, code, doc), fun _ => ⟨e1, ⟨o, e2, e3⟩, e4⟩⟩
    · exact ⟨(0, .none, .none, .none), fun h => absurd h hi⟩
  obtain ⟨f, hf⟩ := Classical.skolem.mp hch
  have fok : ∀ i ∈ 17 :: fnIdx, FnOk ⟨mg, mb, fun i => (f i).1, fun i => (f i).2.1, fun i => (f i).2.2.1, fun i => (f i).2.2.2, 32⟩ (hideAll s₁.heap [63]) i := fun i hi =>
    ⟨(hf i hi).1, ghost_fn hT9 (hf i hi).2.1, ghost_rec hT9 (hf i hi).2.2⟩
  have hT : s₁.heap.get? 63 = some (tabObj #[]) := (hT9 _ (.head _)).2
  have KG : K.In (hideAll s₁.heap [63]) := ghost_K hT9 KX n1
  have hfa : (f 17).1 = fa := by
    have := (hf 17 (.head _)).1
    rw [hmg] at this
    cases this
    rfl
  have G : GL ⟨mg, mb, fun i => (f i).1, fun i => (f i).2.1, fun i => (f i).2.2.1, fun i => (f i).2.2.2, 32⟩ (hideAll s₁.heap [63]) := by
    refine ⟨ghost_ns hT9 T.g, ghost_ns hT9 T.b, let ⟨mc, a, r⟩ := T.nolimit; ⟨mc, ghost_ns hT9 a, r⟩, T.builtins, fun i hi => fok i (.tail _ hi), fun x hx => mg_none_of KX T.g (n3 x hx), ?_⟩
    obtain ⟨v, h1, h2⟩ := T.const _ _ n4
    obtain ⟨t, rfl, _⟩ := reads_int_inv (h2 s₁.heap)
    exact ⟨t, h1⟩
  have G2 : GL2 ⟨mg, mb, fun i => (f i).1, fun i => (f i).2.1, fun i => (f i).2.2.1, fun i => (f i).2.2.2, 32⟩ 67 63 (hideAll s₁.heap [63]) := by
    obtain ⟨o, ho, hd⟩ := (hf 8 (by decide)).2.1
    refine ⟨law_code KX T.g n5 (hf 8 (by decide)).1 ho hd, codeHd_of_K KG n6, ?_, by decide⟩
    obtain ⟨bm, ob, e1, e2, e3, e4, e5, e6⟩ := T.bmain
    have hne : bm ≠ 63 := fun q => by
      rw [q, hT] at e3
      cases e3
      cases e4
    refine ⟨bm, ob, e1, e2, fun q => ?_, hne, hideAll_get _ e3 (fun hm => hne (List.mem_singleton.mp hm)), e4, e5, e6⟩
    obtain ⟨o3, es3, ep3, g1, g2, _⟩ := T.g
    rw [q, g1] at e3
    cases e3
    rw [g2] at e6
    cases e6
  have GX : GE ⟨mg, mb, fun i => (f i).1, fun i => (f i).2.1, fun i => (f i).2.2.1, fun i => (f i).2.2.2, 32⟩ 32 29 fd (hideAll s₁.heap [63]) :=
    ⟨mg_of KX T.g n7, ⟨31, nsFind es, nm, qn, bs, hdct, sn, sub, ab, col, dd, k0, k1, k2, k3, k5, KG _ _ c1, ns_K KG c2 c2' c3, c4⟩, ⟨o29, KG _ _ c5, c5', c5''⟩, ⟨28, o28, vs28, t28, c6, KG _ _ c7, c7', c8⟩, c9, ⟨22, o22, dv, nn, c10, KG _ _ c11, c11'⟩⟩
  have := W_end (prog := prog) (w := w) G G2 GX (fok 17 (.head _)) hT ((hT9 _ (.head _)).1.tab hT).isCodeTable hL hI hz hg
  dsimp only at this
  rw [hfa] at this
  exact this
/-! ## the end: a caller that first asks whether a bytearray's memory is held -/
/-- `t`, but `d` where a code at work holds a bytearray's memory -/
def asking {α : Type} (d t : Sem α) : Sem α := .stack fun xs => if xs.any (fun x => lends x.1) then d else t
section
variable {α : Type} {M : Model} {A : Around} {Γ : Ctx} {d t : Sem α}
theorem wp_asking_yes {Q : α → Pos → Shared → Prop} {E : Value → Pos → Shared → Prop} {p : Pos} {s : Shared} (h : ((Γ.code, p) :: Γ.below).any (fun x => lends x.1) = true) :
    Sem.wp M Γ (asking d t) Q E p s = Sem.wp M Γ d Q E p s := by
  unfold asking; rw [Sem.wp_stack, if_pos h]
theorem wp_asking_no {Q : α → Pos → Shared → Prop} {E : Value → Pos → Shared → Prop} {p : Pos} {s : Shared} (h : ¬ ((Γ.code, p) :: Γ.below).any (fun x => lends x.1) = true) :
    Sem.wp M Γ (asking d t) Q E p s = Sem.wp M Γ t Q E p s := by
  unfold asking; rw [Sem.wp_stack, if_neg h]
theorem noLend_of {p : Pos} (h : ¬ ((Γ.code, p) :: Γ.below).any (fun x => lends x.1) = true) : NoLend Γ := by
  have h' := List.any_eq_false.mp (Bool.eq_false_iff.mpr h)
  exact ⟨by simpa using h' _ (.head _), fun x hx => by simpa using h' x (.tail _ hx)⟩
theorem asks {Q : α → Shared → Prop} {E : Value → Shared → Prop} {s : Shared} (h1 : wpAny M A d Q E s) (h2 : wpN M A t Q E s) : wpAny M A (asking d t) Q E s := fun Γ p hΓ => by
  by_cases h : ((Γ.code, p) :: Γ.below).any (fun x => lends x.1) = true
  · rw [wp_asking_yes h]; exact h1 Γ p hΓ
  · rw [wp_asking_no h]; exact h2 Γ p hΓ (noLend_of h)
end
/-- the claim's caller holds nothing: its question changes nothing -/
theorem step_asking {prog : Program} {w : World} {s : Shared} {d t : Sem Fin} (hz : s.asleep) :
    sstep (denote table) prog w (.single s ⟨asking d t, .builtin "claim.caller" {}, default, []⟩) = .go (.single s ⟨t, .builtin "claim.caller" {}, default, []⟩) := by
  have e : ([(Code.builtin "claim.caller" {}, (default : Pos))].any fun x => lends x.1) = false := by decide +kernel
  have h : step (denote table) prog w s ⟨asking d t, .builtin "claim.caller" {}, default, []⟩ = .go s ⟨t, .builtin "claim.caller" {}, default, []⟩ := by
    show Step.go s ⟨if ([(Code.builtin "claim.caller" {}, (default : Pos))].any fun x => lends x.1) = true then d else t, .builtin "claim.caller" {}, default, []⟩ = _
    rw [e]; rfl
  rcases sstep_single (denote table) prog w s ⟨asking d t, .builtin "claim.caller" {}, default, []⟩ rfl hz with q | q
  · rw [q, h]; rfl
  · rw [h] at q; cases q
theorem unasked {c : ClaimW} {w : World} {free : Addr → Prop} {gens : Prop} {kept : Heap → Prop} {s : Shared} {d : Sem Fin} {tree : List Value → Sem Fin} (hz : s.asleep)
    (h : c.CallFrom (fun vs => ⟨asking d (tree vs), .builtin "claim.caller" {}, default, []⟩) w free gens kept s) : c.CallFrom (fun vs => ⟨tree vs, .builtin "claim.caller" {}, default, []⟩) w free gens kept s := fun args h1 h2 ord h3 => by
  obtain ⟨vs, s₁, hl, n, o, s', hr, rest⟩ := h args h1 h2 ord h3
  refine ⟨vs, s₁, hl, ?_⟩
  cases n with
  | zero => cases hr
  | succ n =>
    refine ⟨n, o, s', ?_, rest⟩
    rw [← hr, schedN, step_asking (Shared.asleep_of_life (layAllW_rest _ _ _ hl).2.2.2 hz)]

theorem PySem.W.holds_open {r : OpenRow} {q : Program} {loose : List Str} {Xt : Shared → Bool} {XP : (Str → Option Value) → Heap → Prop} {α : Type} {Yf : Shared → α} {Ya : World → α} {YP : World → Heap → Prop} {d : DefRec} {kwd : List (Str × Expr)} {N : Nat}
    (left : LeftO r.prog q loose Xt Yf Ya N) (hY : ∀ w s, Yf s = Ya w → YP w s.heap) (hYk : ∀ w h h', YP w h → (∀ b o, h.get? b = some o → h'.get? b = some o) → YP w h')
    (hX : ∀ s, Xt s = true → XP (s.heap.nsMap mainGlobals) s.heap) (hXk : ∀ mg h h', XP mg h → (∀ b o, h.get? b = some o → h'.get? b = some o) → XP mg h')
    (hdef : defOf q r.name = some (d, kwd)) (hp : r.prog.theDef r.name = some (d.params, d.body, d.scope)) (hk : kwWritten? d.params.kwonlyargs d.params.kw_defaults = some kwd) (hRf : ∀ s, Xt s = true → RecFacts r.records s.heap) (hwr : (!r.writes || r.records.isEmpty) = true)
    (k1 : r.wellSaid = true) (ok : (chainsOk q && opensWell r.prog && (frees r.toRowW && r.within.isEmpty)) = true) (hb : r.prog.bare) (hw : r.toRowW.promised)
    (call : WalkO q loose XP YP r.toRowW d kwd fun f vs => asking (pure (.bool true)) (_root_.PySem.call f vs)) : r.Holds := by
  have H : r.toRowW.claim.HoldsOpenBy (fun vs => ⟨asking (ret (.bool true)) (callStub r.name vs).cur, .builtin "claim.caller" {}, default, []⟩) (if r.pinned then [r.name] else []) r.keeps r.writes := by
    refine open_anyG (r := r.toRowW) (run := fun f vs => asking (pure (.bool true)) (_root_.PySem.call f vs)) (tree := fun vs => asking (ret (.bool true)) (callStub r.name vs).cur) left hY hYk hX hXk hRf hwr ok hb hw ?_ ?_ ?_
    · intro vs w s mg f Q E hg hf h Γ p hΓ
      by_cases hl : ((Γ.code, p) :: Γ.below).any (fun x => lends x.1) = true
      · rw [wp_asking_yes hl]
        have h' := h Γ p hΓ
        rw [wp_asking_yes hl] at h'
        exact h'
      · rw [wp_asking_no hl]
        show Sem.wp _ Γ (nsGet mainNs r.name >>= _) _ _ p s
        rw [Sem.wp_bind']
        have hget : wpAny (model r.prog w) callerA (nsGet mainNs r.name) (fun x s' => x = some f ∧ s' = s) E s := wpAny_nsGet hg ⟨hf, rfl⟩
        refine Sem.wp_mono _ Γ _ (fun x p' s' hx => ?_) (fun _ _ _ hx => hx) p s (hget Γ p hΓ)
        obtain ⟨rfl, rfl⟩ := hx
        have h' := h Γ p' hΓ
        have hl' : ¬ ((Γ.code, p') :: Γ.below).any (fun x => lends x.1) = true := hl
        rw [wp_asking_no hl'] at h'
        show Sem.wp _ Γ (_root_.PySem.call f vs >>= fun v => ret v) _ _ p' s'
        rw [Sem.wp_bind']
        exact Sem.wp_mono _ Γ _ (fun _ _ _ hx => hx) (fun _ _ _ hx => hx) p' s' h'
    · intro w s hg G n hn
      have e : n = r.name := by
        cases hpin : r.pinned with
        | true => rw [hpin] at hn; exact List.mem_singleton.mp hn
        | false => rw [hpin] at hn; cases hn
      rw [e]
      exact pinned_of_view hg G hdef hp hk
    · intro w s₀ s₁ mg mb G Y args vs as hpre hlay L low
      obtain ⟨a, o, pm, cd, doc, dV, kV, h1, h2, h3, h4, h5⟩ := G.fn hdef
      exact ⟨.ref a, h1, call w s₀ s₁ mg mb G Y a o pm cd doc dV kV h2 h3 h4 h5 (defOf_name hdef ▸ h1) L.gens args vs as hpre hlay L.reads L.well (L.low low)⟩
  refine ⟨k1, hw, H.1, H.2.1, fun w => ⟨(H.2.2 w).1, fun s hs => ?_⟩⟩
  obtain ⟨s₀, e1, e2, s₁, e3, e4, e5, e6, e7⟩ := (H.2.2 w).2 s hs
  exact ⟨s₀, e1, e2, s₁, e3, e4, e5, e6, unasked (tree := fun vs => (callStub r.name vs).cur) (Shared.asleep_of_life e3.2.1 (Shared.asleep_of_life (fence_lifeW e1) (show AfterImport (opening r.toRowW.claim.prog) w s from hs).life)) e7⟩
set_option maxRecDepth 100000 in
set_option maxHeartbeats 8000000 in
theorem holds_ : _root_.PySem.Challenge.rw_bb0033_01.Holds := by
  w_on; o_law; k_head; (case hw => w_witness2)
  k_fill
  intro w s₀ s₁ mg mb G Y fa o pm cd doc dV kV ho hd hcd hD hmg hg args vals as hpre hlay hrd hwl hlo
  have KX := km_in_of Y
  km_tabs Y
  refine Ground.open G ?_
  intro T B D TE TW
  have hmg2 := hmg
  km_lay T hmg ho hd cd
  have hz9 := Nat.zero_le 0
  wrow_args hpre hlay hrd hwl hlo
  clear Y hcd hD hd ho
  refine' asks ?triv (wpN_mono (W_go KX hT9 T hmg2 (by assumption) (by assumption) ?hz hg ?n1 ?n2 ?n3 ?n4 ?n5 ?n6 ?n7 ?c1 ?c2 ?c2' ?c3 ?c4 ?c5 ?c5' ?c5'' ?c6 ?c7 ?c7' ?c8 ?c9 ?c10 ?c11 ?c11') ?post ?err)
  case err => exact fun _ _ q => q.elim
  case c1 => exact rfl
  case c2 => exact rfl
  case c2' => exact rfl
  case c5 => exact rfl
  case c5'' => exact rfl
  case c7 => exact rfl
  case c7' => exact rfl
  case c11 => exact rfl
  case c11' => exact rfl
  case c5' => exact rfl
  case c6 => exact rfl
  case c10 => exact rfl
  case c8 => exact rfl
  case c9 => exact ⟨by kernel_rfl, by kernel_rfl, by kernel_rfl, by kernel_rfl, by kernel_rfl, by kernel_rfl⟩
  case c3 => kernel_rfl
  case c4 => kernel_rfl
  case n1 => kernel_rfl
  case n4 => kernel_rfl
  case n5 => kernel_rfl
  case n6 => kernel_rfl
  case n7 => kernel_rfl
  case hz =>
    have h1 := IntsAre.length (by assumption)
    omega
  case n2 =>
    refine List.forall_mem_cons.mpr ⟨⟨posOf (stmtAt 17), List.mem_of_getElem? (i := 12) (by kernel_rfl)⟩, ?_⟩
    refine List.forall_mem_cons.mpr ⟨⟨posOf (stmtAt 3), List.mem_of_getElem? (i := 0) (by kernel_rfl)⟩, ?_⟩
    refine List.forall_mem_cons.mpr ⟨⟨posOf (stmtAt 4), List.mem_of_getElem? (i := 1) (by kernel_rfl)⟩, ?_⟩
    refine List.forall_mem_cons.mpr ⟨⟨posOf (stmtAt 6), List.mem_of_getElem? (i := 2) (by kernel_rfl)⟩, ?_⟩
    refine List.forall_mem_cons.mpr ⟨⟨posOf (stmtAt 7), List.mem_of_getElem? (i := 3) (by kernel_rfl)⟩, ?_⟩
    refine List.forall_mem_cons.mpr ⟨⟨posOf (stmtAt 8), List.mem_of_getElem? (i := 4) (by kernel_rfl)⟩, ?_⟩
    refine List.forall_mem_cons.mpr ⟨⟨posOf (stmtAt 9), List.mem_of_getElem? (i := 5) (by kernel_rfl)⟩, ?_⟩
    refine List.forall_mem_cons.mpr ⟨⟨posOf (stmtAt 10), List.mem_of_getElem? (i := 6) (by kernel_rfl)⟩, ?_⟩
    refine List.forall_mem_cons.mpr ⟨⟨posOf (stmtAt 12), List.mem_of_getElem? (i := 7) (by kernel_rfl)⟩, ?_⟩
    refine List.forall_mem_cons.mpr ⟨⟨posOf (stmtAt 13), List.mem_of_getElem? (i := 8) (by kernel_rfl)⟩, ?_⟩
    refine List.forall_mem_cons.mpr ⟨⟨posOf (stmtAt 14), List.mem_of_getElem? (i := 9) (by kernel_rfl)⟩, ?_⟩
    refine List.forall_mem_cons.mpr ⟨⟨posOf (stmtAt 15), List.mem_of_getElem? (i := 10) (by kernel_rfl)⟩, ?_⟩
    refine List.forall_mem_cons.mpr ⟨⟨posOf (stmtAt 16), List.mem_of_getElem? (i := 11) (by kernel_rfl)⟩, ?_⟩
    exact fun i hi => nomatch hi
  case n3 =>
    iterate 11 refine List.forall_mem_cons.mpr ⟨by kernel_rfl, ?_⟩
    exact fun i hi => nomatch hi
  case post =>
    rintro v s' ⟨rfl, hold, hos, hb⟩
    refine ⟨.inl ⟨.bool true, .bool true, [], rfl, fun cls => rfl, .bool true, ?_, fun _ => ⟨List.nodup_nil, fun a ha => nomatch ha⟩⟩, hold, hos, hb⟩
    clear hmg hmg2 T TE TW
    wrow_post
  case triv =>
    refine wpAny_pure ⟨.inl ⟨.bool true, .bool true, [], rfl, fun cls => rfl, .bool true, ?_, fun _ => ⟨List.nodup_nil, fun a ha => nomatch ha⟩⟩, OldK.refl _, rfl, .of_eq hg⟩
    clear hmg hmg2 T TE TW
    wrow_post
end Mine

theorem PySem.Challenge.cw_bb0033_01_holds : PySem.Challenge.rw_bb0033_01.Holds := by
  exact Mine.holds_
