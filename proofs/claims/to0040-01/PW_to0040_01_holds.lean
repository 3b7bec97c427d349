import PyProof.Rows.All
import Wide.All
import OpenK.AllK
import Wide.FinOn
import Lean
import PySem.Challenge.RW_to0040_01

set_option compiler.extract_closed false
set_option Elab.async false
section -- part Head1
open PySem PySem.W PyProof.Rows PySem.Calls
set_option Elab.async false
namespace Mine

def keepF : Result → Sem Fin := fun r => match r with | .ok f => .pure (.done f) | .error e => .raise e
abbrev keepFrame (q : Pos) : Frame := .ret keepF none false [] (.builtin "claim.caller" {}) q []
abbrev runCtx (c : Code) (q : Pos) : Ctx := (Ctx.of (.builtin "claim.caller" {}) []).enter c none q

theorem runCtx_eq (c : Code) (q : Pos) : (Ctx.of c []).over [keepFrame q] = runCtx c q := rfl

theorem topRun_real {p : Program} {w : World} {n₀ : Nat} {ann : Option Value} : ∀ (n : Nat) (s : Shared) (t : Thread) (s₁ : Shared), topRun table p w n₀ ann n s t = some s₁ →
    ∃ m f c q, runN (denote table) p w m s t = .running s₁ ⟨.pure (.done f), c, q, []⟩ ∧ ∀ k s' t', k < m → runN (denote table) p w k s t = .running s' t' → t'.calm = true
  | 0, _, _, _, h => by simp [topRun] at h
  | n + 1, s, t, s₁, h => by
    unfold topRun at h
    cases ht : through t with
    | true =>
      rw [ht] at h
      obtain rfl : s = s₁ := Option.some.inj h
      obtain ⟨cur, code, pos, stack⟩ := t
      unfold through at ht
      obtain ⟨h1, h2⟩ := Bool.and_eq_true_iff.mp ht
      cases stack with
      | cons _ _ => cases h1
      | nil =>
        cases cur with
        | pure a =>
          cases a with
          | done f => exact ⟨0, f, code, pos, rfl, fun k _ _ hk => absurd hk (Nat.not_lt_zero _)⟩
          | again _ => cases h2
        | _ => cases h2
    | false =>
      rw [ht] at h
      cases hk : stepOk n₀ ann t with
      | false => rw [hk] at h; cases h
      | true =>
        rw [hk] at h
        have hc := (Bool.and_eq_true_iff.mp hk).1
        cases hs : step (denote table) p w s t with
        | halt o s' => rw [hs] at h; cases h
        | go s' t' =>
          rw [hs] at h
          obtain ⟨m, f, c, q, hm, hcalm⟩ := topRun_real n s' t' s₁ h
          refine ⟨m + 1, f, c, q, by simp only [runN, hs]; exact hm, fun k s₂ t₂ hk hr => ?_⟩
          cases k with
          | zero => injection hr with _ e; exact e ▸ hc
          | succ k => simp only [runN, hs] at hr; exact hcalm k s₂ t₂ (Nat.lt_of_succ_lt_succ hk) hr

theorem runN_more {den : Code → Sem Fin} {p : Program} {w : World} : ∀ {m : Nat} {s : Shared} {t : Thread} {s₁ : Shared} {t₁ : Thread}, runN den p w m s t = .running s₁ t₁ → ∀ k, runN den p w (m + k) s t = runN den p w k s₁ t₁
  | 0, s, t, s₁, t₁, h, k => by cases h; rw [Nat.zero_add]
  | m + 1, s, t, s₁, t₁, h, k => by
    rw [show m + 1 + k = m + k + 1 by omega]
    simp only [runN] at h ⊢
    cases hs : step den p w s t with
    | go s' t' => simp only [hs] at h ⊢; exact runN_more h k
    | halt o s' => simp only [hs] at h; cases h

theorem step_done {den : Code → Sem Fin} {p : Program} {w : World} {s : Shared} {f : Flow} {c : Code} {q : Pos} (hg : s.gens = #[]) : step den p w s ⟨.pure (.done f), c, q, []⟩ = .halt (.done f) s := by
  obtain ⟨heap, gens, drawn, toks, os⟩ := s
  subst hg
  simp [step, finish, leftWithCleanup]

theorem topRun_halts {p : Program} {w : World} {n₀ : Nat} {ann : Option Value} {n : Nat} {s s₁ : Shared} {t : Sem Fin} {c : Code} {pos : Pos} {st : List Frame} (h : topRun table p w n₀ ann n s ⟨t, c, pos, st⟩ = some s₁) (hg : s₁.gens = #[]) :
    ∃ f, Runs (model p w) (Ctx.of c []) pos t st s (.ret (.ok f)) s₁ := by
  obtain ⟨m, f, c', q, hm, hcalm⟩ := topRun_real n s _ s₁ h
  have hh : runN (denote table) p w (m + 1) s ⟨t, c, pos, st⟩ = .halted (outcomeOf (.ok f)) s₁ := by
    rw [runN_more hm 1]
    simp only [runN, step_done hg]
    rfl
  have hall : ∀ k s' t', runN (denote table) p w k s ⟨t, c, pos, st⟩ = .running s' t' → t'.calm = true := fun k s' t' hr => by
    rcases Nat.lt_trichotomy k m with hk | rfl | hk
    · exact hcalm k s' t' hk hr
    · rw [hm] at hr
      injection hr with _ e
      subst e
      rfl
    · obtain ⟨d, rfl⟩ := Nat.exists_eq_add_of_lt hk
      rw [show m + d + 1 = (m + 1) + d by omega] at hr
      have := runN_mono (denote table) p w (m + 1) d s ⟨t, c, pos, st⟩ _ s₁ hh
      rw [this] at hr
      cases hr
  obtain ⟨k, s₂, h1, h2⟩ := (halts_real_iff (M := model p w) (r := .ok f) s₁.forget).mp ⟨m + 1, s₁, hh, rfl, hall⟩
  obtain rfl : s₂ = s₁ := Shared.eq_of_forget_eq h2 hg
  exact ⟨f, reach_runs (halted_reach k _ _ _ _ _ h1).1⟩

/-- what a run says of its end -/
def RInv (M : Model) (Γ : Ctx) (p : Pos) (t : Sem Fin) (st : List Frame) (s : Shared) (e : End) (s' : Shared) : Prop :=
  match st with
  | [] => match t with
    | .pure (.done f) => e = .ret (.ok f) ∧ s' = s
    | .raise x => e = .ret (.error x) ∧ s' = s
    | _ => True
  | .ret k h g l c₁ p₁ kp :: fs => splitAtGen (.ret k h g l c₁ p₁ kp :: fs) = none → ∀ r', e = .ret r' → ∃ r s₁, Runs M (Γ.over (.ret k h g l c₁ p₁ kp :: fs)) p t [] s (.ret r) s₁ ∧ Runs M (Γ.goto c₁) p₁ (k r) fs s₁ e s'
  | _ => True
theorem runs_inv {M : Model} {Γ : Ctx} {p : Pos} {t : Sem Fin} {st : List Frame} {s : Shared} {e : End} {s' : Shared} (h : Runs M Γ p t st s e s') : RInv M Γ p t st s e s' := by
  cases h with
  | done => exact ⟨rfl, rfl⟩
  | raise => exact ⟨rfl, rfl⟩
  | segRet ha hb => exact fun _ _ _ => ⟨_, _, ha, hb⟩
  | segGen => trivial
  | @segSuspOut _ _ _ F =>
    cases F with
    | ret => intro _ r' he; cases he
    | gen => trivial
  | @segSuspGen _ _ _ F _ _ _ _ _ _ _ _ _ _ _ _ _ _ _ _ _ _ hs =>
    cases F with
    | ret => intro hn; rw [hn] at hs; cases hs
    | gen => trivial
  | _ => trivial
open Classical in
/-- a segment that the machine runs, as a fact of the logic -/
theorem seg_wp {α : Type} {p : Program} {w : World} {n₀ : Nat} {ann : Option Value} {n : Nat} {s s' : Shared} {x : Sem α} {res : α → Flow} {c c' : Code} {pos p' q : Pos} {f : Flow}
    (h : segRun table p w n₀ ann 1 n s ⟨x.wrap (fun a => .pure (.done (res a))) deadEnd id id, c, pos, [keepFrame q]⟩ = some (f, s', c', p')) (hg : s'.gens = #[]) :
    Sem.wp (model p w) (runCtx c q) x (fun a _ s'' => res a = f ∧ s'' = s') (fun _ _ _ => False) pos s := by
  let K' : α → Sem Fin := fun a => if res a = f then .pure (.done f) else .unsupported "no"
  obtain ⟨a, ha, hN⟩ := seg_top (res := res) (gd := id) (lv := id) (B := [keepFrame q]) (K' := K') (H' := .raise) rfl n s ⟨x.wrap (fun a => .pure (.done (res a))) deadEnd id id, c, pos, [keepFrame q]⟩ ⟨x.wrap K' .raise id id, c, pos, [keepFrame q]⟩ f s' c' p' ⟨rfl, rfl, .inl ⟨rfl, rfl, x, rfl, rfl⟩⟩ h
  have hK : K' a = .pure (.done f) := if_pos ha
  have h2 : topRun table p w n₀ ann 2 s' ⟨K' a, c', p', [keepFrame q]⟩ = some s' := by
    rw [hK]
    obtain ⟨heap, gens, drawn, toks, os⟩ := s'
    rfl
  obtain ⟨f', hr⟩ := topRun_halts (hN 2 s' h2) hg
  have hr2 : ∃ r₁ s₁, Runs (model p w) (runCtx c q) pos (x.wrap K' .raise id id) [] s (.ret r₁) s₁ ∧ Runs (model p w) ((Ctx.of c []).goto (.builtin "claim.caller" {})) q (keepF r₁) [] s₁ (.ret (.ok f')) s' := by
    exact runs_inv hr rfl _ rfl
  have hr2 : ∃ f₁, Runs (model p w) (runCtx c q) pos (x.wrap K' .raise id id) [] s (.ret (.ok f₁)) s' := by
    obtain ⟨r₁, s₁, ha, hb⟩ := hr2
    cases r₁ with
    | ok f₁ =>
      have hb' : Runs (model p w) ((Ctx.of c []).goto (.builtin "claim.caller" {})) q (.pure (.done f₁)) [] s₁ (.ret (.ok f')) s' := hb
      obtain ⟨_, e2⟩ := (runs_inv hb' : _ ∧ _)
      rw [e2]
      exact ⟨_, ha⟩
    | error e =>
      have hb' : Runs (model p w) ((Ctx.of c []).goto (.builtin "claim.caller" {})) q (.raise e) [] s₁ (.ret (.ok f')) s' := hb
      obtain ⟨e1, _⟩ := (runs_inv hb' : _ ∧ _)
      cases e1
  obtain ⟨f₁, hr3⟩ := hr2
  have hw := (Sem.wp_iff_runs (model p w) (runCtx c q) _ (fun r s'' => (∃ f, r = .ok f) ∧ s'' = s') pos s).mpr ⟨_, _, hr3, ⟨_, rfl⟩, rfl⟩
  rw [← Sem.bind_eq_wrap, Sem.wp_bind] at hw
  refine Sem.wp_mono _ _ _ (fun a' p'' s'' hq => ?_) (fun _ _ _ hq => ?_) _ _ hw
  · by_cases hf : res a' = f
    · have hK2 : K' a' = .pure (.done f) := if_pos hf
      rw [hK2] at hq
      exact ⟨hf, hq.2⟩
    · have hK2 : K' a' = .unsupported "no" := if_neg hf
      rw [hK2, Sem.wp_unsupported] at hq
      exact hq.elim
  · obtain ⟨⟨_, hh⟩, _⟩ := hq
    cases hh
end Mine

end
section -- part Head2
open PySem PySem.W PyProof.Rows PySem.Calls
set_option Elab.async false
namespace Mine

/-- the heap has grown by n objects; what stood stands -/
structure Grew (base : Heap) (n : Nat) (h : Heap) : Prop where
  life : h.life = base.life
  size : h.objs.size = base.objs.size + n
  old : ∀ b, b < base.objs.size → h.objs[b]? = base.objs[b]?

theorem Grew.refl (h : Heap) : Grew h 0 h := ⟨rfl, rfl, fun _ _ => rfl⟩
theorem Grew.push {base h : Heap} {n : Nat} (g : Grew base n h) (o : Obj) : Grew base (n + 1) (h.push o) := by
  refine ⟨?_, ?_, fun b hb => ?_⟩
  · rw [Heap.life_push]; exact g.life
  · rw [Heap.size_push, g.size]; omega
  · rw [← g.old b hb]
    have : b ≠ h.objs.size := by rw [g.size]; omega
    cases h
    simp [Heap.push, Array.getElem?_push]
    intro e
    exact absurd e this
theorem Grew.update {base h : Heap} {n : Nat} (g : Grew base n h) {a : Addr} (ha : base.objs.size ≤ a) (f : Obj → Obj) : Grew base n (h.update a f) := by
  refine ⟨?_, ?_, fun b hb => ?_⟩
  · rw [← g.life]; cases h; rfl
  · rw [Heap.size_after_update, g.size]
  · rw [← g.old b hb]
    have : a ≠ b := Nat.ne_of_gt (Nat.lt_of_lt_of_le hb ha)
    cases h
    simp [Heap.update, Array.getElem?_modify, this]
theorem Grew.trans {h₁ h₂ h₃ : Heap} {n m : Nat} (a : Grew h₁ n h₂) (b : Grew h₂ m h₃) : Grew h₁ (n + m) h₃ :=
  ⟨b.life.trans a.life, by rw [b.size, a.size]; omega, fun x hx => (b.old x (by rw [a.size]; omega)).trans (a.old x hx)⟩
theorem get_of_objs {h h' : Heap} {b : Addr} (e : h'.objs[b]? = h.objs[b]?) : h'.get? b = h.get? b := by
  unfold Heap.get?; rw [e]

/-- entries that hold a table of ints and texts -/
def Ents : List DictEntry → List (Int × Str) → Prop
  | [], [] => True
  | e :: es, p :: r => (∃ tk tv, e = ⟨hashInt p.1, .int p.1 tk, .str p.2 tv⟩) ∧ Ents es r
  | _, _ => False
theorem Ents.len : ∀ {es : List DictEntry} {tab : List (Int × Str)}, Ents es tab → es.length = tab.length
  | [], [], _ => rfl
  | _ :: _, _ :: _, h => by rw [List.length_cons, List.length_cons, Ents.len h.2]
  | [], _ :: _, h => h.elim
  | _ :: _, [], h => h.elim
theorem Ents.snoc : ∀ {es : List DictEntry} {tab : List (Int × Str)} {k : Int} {t : Str} {tk tv : Tok}, Ents es tab → Ents (es ++ [⟨hashInt k, .int k tk, .str t tv⟩]) (tab ++ [(k, t)])
  | [], [], _, _, _, _, _ => ⟨⟨_, _, rfl⟩, trivial⟩
  | _ :: _, _ :: _, _, _, _, _, h => ⟨h.1, Ents.snoc h.2⟩
  | [], _ :: _, _, _, _, _, h => h.elim
  | _ :: _, [], _, _, _, _, h => h.elim
theorem Ents.keys : ∀ {es : List DictEntry} {tab : List (Int × Str)}, Ents es tab → ∀ e ∈ es, ∃ k t, e.key = .int k t ∧ e.hash = hashInt k
  | [], [], _, _, he => nomatch he
  | _ :: _, _ :: _, h, e, he => by
    rcases List.mem_cons.mp he with rfl | he
    · obtain ⟨tk, tv, rfl⟩ := h.1
      exact ⟨_, _, rfl, rfl⟩
    · exact Ents.keys h.2 e he
  | [], _ :: _, h, _, _ => h.elim
  | _ :: _, [], h, _, _ => h.elim
theorem Ents.none : ∀ {es : List DictEntry} {tab : List (Int × Str)} {k : Int}, Ents es tab → k ∉ tab.map (·.1) → ∀ e ∈ es, Value.isInt k e.key = false
  | [], [], _, _, _, _, he => nomatch he
  | _ :: _, p :: _, k, h, hk, e, he => by
    rw [List.map_cons, List.mem_cons, not_or] at hk
    rcases List.mem_cons.mp he with rfl | he
    · obtain ⟨tk, tv, rfl⟩ := h.1
      show (p.1 == k) = false
      exact beq_false_of_ne fun q => hk.1 q.symm
    · exact Ents.none h.2 hk.2 e he
  | [], _ :: _, _, h, _, _, _ => h.elim
  | _ :: _, [], _, h, _, _, _ => h.elim
theorem Ents.get : ∀ {es : List DictEntry} {tab : List (Int × Str)} {i : Nat} {p : Int × Str}, Ents es tab → tab[i]? = some p → ∃ tk tv, es[i]? = some ⟨hashInt p.1, .int p.1 tk, .str p.2 tv⟩
  | [], [], _, _, _, e => by cases e
  | _ :: _, _ :: _, 0, _, h, e => by
    cases e
    obtain ⟨tk, tv, rfl⟩ := h.1
    exact ⟨tk, tv, rfl⟩
  | _ :: _, _ :: _, i + 1, _, h, e => Ents.get (i := i) h.2 (by simpa using e)
  | [], _ :: _, _, _, h, _ => h.elim
  | _ :: _, [], _, _, h, _ => h.elim

def Tab (h : Heap) (d : Addr) (tab : List (Int × Str)) : Prop := ∃ (es : Array DictEntry) (ep : Nat), h.get? d = some { cls := .type "dict", data := .dict es ep } ∧ Ents es.toList tab
theorem Tab.lt {h : Heap} {d : Addr} {tab : List (Int × Str)} (t : Tab h d tab) : d < h.objs.size := let ⟨_, _, e, _⟩ := t; Heap.lt_size e
theorem Tab.of_objs {h h' : Heap} {d : Addr} {tab : List (Int × Str)} (t : Tab h d tab) (e : h'.objs[d]? = h.objs[d]?) : Tab h' d tab := let ⟨es, ep, x, y⟩ := t; ⟨es, ep, (get_of_objs e).trans x, y⟩

section
variable {prog : Program} {w : World} {A : Around} {E : Value → Shared → Prop}

theorem find_fresh {s : Shared} {d : Addr} {es : Array DictEntry} {ep : Nat} {tab : List (Int × Str)} {k : Int} {tk : Tok} {Q : Option Nat → Shared → Prop}
    (ho : s.heap.get? d = some { cls := .type "dict", data := .dict es ep }) (he : Ents es.toList tab) (hk : k ∉ tab.map (·.1)) (h : Q none s) :
    wpAny (model prog w) A (dictFind d (.int k tk) (hashInt k)) Q E s := by
  refine wpAny_dictFind_int ho rfl (fun e hm => he.keys e (Array.mem_toList_iff.mpr hm)) ?_
  have : (es.findIdx? fun e => Value.isInt k e.key) = none := Array.findIdx?_eq_none_iff.mpr fun e hm => he.none hk e (Array.mem_toList_iff.mpr hm)
  rw [this]; exact h

theorem snoc_at {h : Heap} {d : Addr} {es : Array DictEntry} {ep : Nat} {tab : List (Int × Str)} {k : Int} {t : Str} {tk tv : Tok}
    (ho : h.get? d = some { cls := .type "dict", data := .dict es ep }) (he : Ents es.toList tab) : Tab (h.update d (Obj.mapDictKeys (·.push ⟨hashInt k, .int k tk, .str t tv⟩))) d (tab ++ [(k, t)]) :=
  ⟨es.push ⟨hashInt k, .int k tk, .str t tv⟩, ep + 1, Heap.get?_update_self _ ho rfl, by rw [Array.toList_push]; exact he.snoc⟩

theorem set_fresh {s : Shared} {d : Addr} {tab : List (Int × Str)} {k : Int} {t : Str} {tk tv : Tok} {Q : Unit → Shared → Prop}
    (ht : Tab s.heap d tab) (hk : k ∉ tab.map (·.1)) (hz : tab.length ≤ 1000)
    (h : ∀ f, Tab (s.heap.update d f) d (tab ++ [(k, t)]) → Q () { s with heap := s.heap.update d f, toks := s.toks + 1 }) :
    wpAny (model prog w) A (dictSet d (.int k tk) (.str t tv)) Q E s := by
  obtain ⟨es, ep, ho, he⟩ := ht
  have hs : es.size ≤ 1000 := by have := he.len; rw [Array.length_toList] at this; omega
  unfold dictSet
  refine wpAny_holding (wpAny_bind (wpAny_pyHash_int ?_))
  unfold dictSetHashed
  refine wpAny_holding (wpAny_bind (find_fresh (s := { s with toks := s.toks + 1 }) ho he hk ?_))
  refine wpAny_bind (wpAny_rule (wpAny_updateDictKeys (s := { s with toks := s.toks + 1 }) ho rfl ?_ (by rw [sizeLine_eq]; omega) (by simp)))
  exact h _ (snoc_at ho he)

theorem put_fresh {s : Shared} {d : Addr} {tab : List (Int × Str)} {k : Int} {t : Str} {tk tv : Tok} {Q : Unit → Shared → Prop}
    (ht : Tab s.heap d tab) (hk : k ∉ tab.map (·.1)) (hz : tab.length ≤ 1000)
    (h : ∀ f, Tab (s.heap.update d f) d (tab ++ [(k, t)]) → Q () { s with heap := s.heap.update d f }) :
    wpAny (model prog w) A (dictPut d (hashInt k) (.int k tk) (.str t tv)) Q E s := by
  obtain ⟨es, ep, ho, he⟩ := ht
  have hs : es.size ≤ 1000 := by have := he.len; rw [Array.length_toList] at this; omega
  unfold dictPut
  refine wpAny_bind (find_fresh ho he hk ?_)
  refine wpAny_updateDictKeys ho rfl ?_ (by rw [sizeLine_eq]; omega) (by simp)
  exact h _ (snoc_at ho he)

/-- what a display's item evaluates to -/
def CInt (M : Model) (x : Sem Value) (k : Int) : Prop := ∀ (A : Around) (E : Value → Shared → Prop) (s : Shared) (Q : Value → Shared → Prop), Q (.int k s.toks) { s with toks := s.toks + 1 } → wpAny M A x Q E s
def CStr (M : Model) (x : Sem Value) (t : Str) : Prop := ∀ (A : Around) (E : Value → Shared → Prop) (s : Shared) (Q : Value → Shared → Prop), Q (.str t s.toks) { s with toks := s.toks + 1 } → wpAny M A x Q E s
def Cs (M : Model) : List (Sem Value × Sem Value) → List (Int × Str) → Prop
  | [], [] => True
  | x :: xs, p :: r => (CInt M x.1 p.1 ∧ CStr M x.2 p.2) ∧ Cs M xs r
  | _, _ => False
theorem Cs.len {M : Model} : ∀ {xs : List (Sem Value × Sem Value)} {tab : List (Int × Str)}, Cs M xs tab → xs.length = tab.length
  | [], [], _ => rfl
  | _ :: _, _ :: _, h => by rw [List.length_cons, List.length_cons, Cs.len h.2]
  | [], _ :: _, h => h.elim
  | _ :: _, [], h => h.elim
theorem Cs.snoc {M : Model} : ∀ {xs : List (Sem Value × Sem Value)} {tab : List (Int × Str)} {x : Sem Value × Sem Value} {p : Int × Str}, Cs M xs tab → CInt M x.1 p.1 → CStr M x.2 p.2 → Cs M (xs ++ [x]) (tab ++ [p])
  | [], [], _, _, _, a, b => ⟨⟨a, b⟩, trivial⟩
  | _ :: _, _ :: _, _, _, h, a, b => ⟨h.1, Cs.snoc h.2 a b⟩
  | [], _ :: _, _, _, h, _, _ => h.elim
  | _ :: _, [], _, _, h, _, _ => h.elim

/-- ints and texts as values -/
def Vs : List (Value × Value) → List (Int × Str) → Prop
  | [], [] => True
  | x :: xs, p :: r => (∃ tk tv, x = (.int p.1 tk, .str p.2 tv)) ∧ Vs xs r
  | _, _ => False
theorem pairs_of : ∀ {xs : List (Sem Value × Sem Value)} {tab : List (Int × Str)} {s : Shared} {Q : List (Value × Value) → Shared → Prop}, Cs (model prog w) xs tab →
    (∀ vs, Vs vs tab → Q vs { s with toks := s.toks + 2 * tab.length }) → wpAny (model prog w) A (evalPairs xs) Q E s
  | [], [], s, Q, _, h => by
    rw [evalPairs]
    exact wpAny_pure (h [] trivial)
  | x :: xs, p :: r, s, Q, c, h => by
    refine evalPairs_cons (c.1.1 _ _ _ _ (c.1.2 _ _ _ _ (pairs_of c.2 fun vs hv => ?_)))
    have := h ((.int p.1 s.toks, .str p.2 (s.toks + 1)) :: vs) ⟨⟨_, _, rfl⟩, hv⟩
    rw [List.length_cons, show s.toks + 2 * (r.length + 1) = s.toks + 1 + 1 + 2 * r.length by omega] at this
    exact this
  | [], _ :: _, _, _, c, _ => c.elim
  | _ :: _, [], _, _, c, _ => c.elim

theorem nodup_mid {α : Type} {a b : List α} {x : α} (h : (a ++ x :: b).Nodup) : x ∉ a := fun hx => (List.nodup_append.mp h).2.2 x hx x (.head _) rfl

/-- one run of a display, into a new dict -/
theorem sub_dict {xs : List (Sem Value × Sem Value)} {tab : List (Int × Str)} {s : Shared} {Q : Addr → Shared → Prop} (c : Cs (model prog w) xs tab) (hn : (tab.map (·.1)).Nodup) (hz : tab.length ≤ 100)
    (h : ∀ h', Grew s.heap 1 h' → Tab h' s.heap.objs.size tab → Q s.heap.objs.size { s with heap := h', toks := s.toks + 3 * tab.length }) : wpAny (model prog w) A (subDict xs) Q E s := by
  unfold subDict
  refine wpAny_bind (wpAny_alloc (wpAny_bind (wpAny_holding ?_)))
  have g1 : Grew s.heap 1 (s.heap.push { cls := .type "dict", data := .dict #[] }) := (Grew.refl s.heap).push _
  have t1 : Tab (s.heap.push { cls := .type "dict", data := .dict #[] }) s.heap.objs.size [] := ⟨#[], 0, Heap.get?_push_size _ rfl, trivial⟩
  have hl := c.len
  split
  · refine wpAny_bind (pairs_of c fun vs hv => wpAny_holding ?_)
    dsimp only
    refine wpAny_bind (wpAny_forIn_list _ (fun rest _ s' => ∃ done left h' , tab = done ++ left ∧ Vs rest left ∧ s' = { s with heap := h', toks := s.toks + 2 * tab.length + done.length } ∧ Grew s.heap 1 h' ∧ Tab h' s.heap.objs.size done) _ ?_ ?_ vs PUnit.unit ⟨[], tab, _, rfl, hv, rfl, g1, t1⟩)
    · rintro ⟨k, v⟩ rest _ s' ⟨done, left, h', e, hv, rfl, g, t⟩
      cases left with
      | nil => exact hv.elim
      | cons p left =>
        obtain ⟨⟨tk, tv, ee⟩, hv⟩ := hv
        cases ee
        have hnd : p.1 ∉ done.map (·.1) := by
          rw [e, List.map_append, List.map_cons] at hn
          exact nodup_mid hn
        have hdl : done.length ≤ 1000 := by have := congrArg List.length e; simp at this; omega
        refine wpAny_bind (set_fresh t hnd hdl fun f t' => wpAny_pure ?_)
        exact ⟨done ++ [p], left, _, by rw [e]; simp, hv, by simp [Nat.add_assoc], g.update (Nat.le_refl _) f, t'⟩
    · rintro _ s' ⟨done, left, h', e, hv, rfl, g, t⟩
      cases left with
      | cons _ _ => exact hv.elim
      | nil =>
        rw [List.append_nil] at e
        subst e
        refine wpAny_pure (wpAny_pure ?_)
        have := h h' g t
        rw [show s.toks + 3 * tab.length = s.toks + 2 * tab.length + tab.length by omega] at this
        exact this
  · refine wpAny_bind (wpAny_rule ?_)
    refine wpAny_bind (wpAny_forIn_list _ (fun rest _ s' => ∃ done left h' , tab = done ++ left ∧ Cs (model prog w) rest left ∧ s' = { s with heap := h', toks := s.toks + 3 * done.length } ∧ Grew s.heap 1 h' ∧ Tab h' s.heap.objs.size done) _ ?_ ?_ xs PUnit.unit ⟨[], tab, _, rfl, c, rfl, g1, t1⟩)
    · rintro ⟨k, v⟩ rest _ s' ⟨done, left, h', e, hv, rfl, g, t⟩
      cases left with
      | nil => exact hv.elim
      | cons p left =>
        obtain ⟨⟨ck, cv⟩, hv⟩ := hv
        have hnd : p.1 ∉ done.map (·.1) := by
          rw [e, List.map_append, List.map_cons] at hn
          exact nodup_mid hn
        have hdl : done.length ≤ 1000 := by have := congrArg List.length e; simp at this; omega
        refine wpAny_bind (ck _ _ _ _ (wpAny_bind (wpAny_holding (cv _ _ _ _ ?_))))
        refine wpAny_bind (wpAny_holding (set_fresh t hnd hdl fun f t' => wpAny_pure ?_))
        refine ⟨done ++ [p], left, _, by rw [e]; simp, hv, ?_, g.update (Nat.le_refl _) f, t'⟩
        simp only [List.length_append, List.length_singleton]
        rw [show s.toks + 3 * (done.length + 1) = s.toks + 3 * done.length + 1 + 1 + 1 by omega]
    · rintro _ s' ⟨done, left, h', e, hv, rfl, g, t⟩
      cases left with
      | cons _ _ => exact hv.elim
      | nil =>
        rw [List.append_nil] at e
        subst e
        exact wpAny_pure (wpAny_pure (h h' g t))
end
end Mine

end
section -- part Head3
open PySem PySem.W PyProof.Rows PySem.Calls
set_option Elab.async false
namespace Mine
section
variable {prog : Program} {w : World} {A : Around} {E : Value → Shared → Prop}

theorem merge_fresh {s : Shared} {d a : Addr} {done run : List (Int × Str)} {Q : Unit → Shared → Prop} (td : Tab s.heap d done) (ta : Tab s.heap a run) (hda : d ≠ a) (hS : (a == sysModules) = false)
    (hn : ((done ++ run).map (·.1)).Nodup) (hz : (done ++ run).length ≤ 1000) (h0 : 0 < done.length)
    (h : ∀ h', h'.life = s.heap.life → h'.objs.size = s.heap.objs.size → (∀ b, b ≠ d → h'.objs[b]? = s.heap.objs[b]?) → Tab h' d (done ++ run) → Q () { s with heap := h' }) :
    wpAny (model prog w) A (mergeMapping d (.ref a) false) Q E s := by
  obtain ⟨esa, epa, hoa, hea⟩ := id ta
  obtain ⟨esd, epd, hod, hed⟩ := id td
  have hT : s.TypeIs (.ref a) "dict" := ⟨_, hoa, rfl⟩
  have hsz : esa.size = run.length := by have := hea.len; rw [Array.length_toList] at this; exact this
  have hszd : esd.size = done.length := by have := hed.len; rw [Array.length_toList] at this; exact this
  unfold mergeMapping
  refine wpAny_bind (wpAny_isInstance hT isSubtype_dict_dict ?_)
  simp only [if_true]
  refine wpAny_bind (wpAny_specialOf hT F.slot_dict_iter.lookup ?_)
  simp only [beq_self_eq_true]
  refine wpAny_bind (wpAny_pure ?_)
  dsimp only
  rw [if_neg (by rw [hS]; exact Bool.false_ne_true)]
  refine wpAny_bind (wpAny_dictEntries hod rfl ?_)
  rw [if_neg (by rw [Array.isEmpty_iff]; intro q; rw [q] at hszd; simp at hszd; omega)]
  refine wpAny_bind (wpAny_dictEntries hoa rfl ?_)
  refine wpAny_bind (wpAny_dictEpoch hoa rfl ?_)
  refine wpAny_bind ?_
  refine wpAny_forIn_list _ (fun rest _ s' => ∃ i h', rest = List.range' i (esa.size - i) ∧ i ≤ esa.size ∧ s' = { s with heap := h' } ∧ h'.life = s.heap.life ∧ h'.objs.size = s.heap.objs.size ∧ (∀ b, b ≠ d → h'.objs[b]? = s.heap.objs[b]?) ∧
    Tab h' d (done ++ run.take i)) _ ?_ ?_ _ _ ⟨0, s.heap, by rw [List.range_eq_range', Nat.sub_zero], Nat.zero_le _, rfl, rfl, rfl, fun _ _ => rfl, by simpa using td⟩
  · rintro x rest _ s' ⟨i, h', hr, hi, rfl, hl, hs, hb, t⟩
    have hlt : i < esa.size := by
      rcases Nat.lt_or_ge i esa.size with q | q
      · exact q
      · rw [Nat.sub_eq_zero_of_le q] at hr; simp at hr
    obtain ⟨rfl, hrest⟩ : x = i ∧ rest = List.range' (i + 1) (esa.size - (i + 1)) := by
      have e : esa.size - i = (esa.size - (i + 1)) + 1 := by omega
      rw [e, List.range'_succ] at hr
      injection hr with h1 h2
      exact ⟨h1, h2⟩
    have hoa' : h'.get? a = some { cls := .type "dict", data := .dict esa epa } := (get_of_objs (hb a (Ne.symm hda))).trans hoa
    obtain ⟨p, hp⟩ : ∃ p, run[x]? = some p := ⟨run[x]'(by omega), List.getElem?_eq_getElem _⟩
    obtain ⟨tk, tv, he⟩ := hea.get hp
    rw [Array.getElem?_toList] at he
    have hsplit : run = run.take x ++ p :: run.drop (x + 1) := by
      obtain ⟨hlt2, hpe⟩ := List.getElem?_eq_some_iff.mp hp
      rw [← hpe, ← List.drop_eq_getElem_cons hlt2, List.take_append_drop]
    have hfresh : p.1 ∉ (done ++ run.take x).map (·.1) := by
      have hn' := hn
      rw [hsplit, ← List.append_assoc, List.map_append, List.map_cons] at hn'
      exact nodup_mid hn'
    have htk : run.take (x + 1) = run.take x ++ [p] := by rw [List.take_add_one, hp]; rfl
    have hlen : (done ++ run.take x).length ≤ 1000 := by
      have : (run.take x).length ≤ run.length := by rw [List.length_take]; omega
      simp only [List.length_append] at hz ⊢; omega
    refine wpAny_bind (wpAny_dictEntries hoa' rfl ?_)
    rw [he]
    dsimp only
    simp only [Bool.false_eq_true, if_false]
    refine wpAny_bind (wpAny_holding (put_fresh (s := { s with heap := h' }) t hfresh hlen fun f t' => ?_))
    have hoa2 : (h'.update d f).get? a = some { cls := .type "dict", data := .dict esa epa } := (Heap.get?_update_other h' f hda).trans hoa'
    refine wpAny_bind (wpAny_dictEpoch hoa2 rfl ?_)
    rw [if_neg (by simp)]
    refine wpAny_pure ⟨x + 1, _, hrest, hlt, rfl, ?_, ?_, fun b hbd => ?_, ?_⟩
    · rw [← hl]; cases h'; rfl
    · rw [Heap.size_after_update]; exact hs
    · rw [← hb b hbd]
      cases h'
      simp [Heap.update, Array.getElem?_modify, Ne.symm hbd]
    · rw [htk, ← List.append_assoc]; exact t'
  · rintro _ s' ⟨i, h', hr, hi, rfl, hl, hs, hb, t⟩
    have hin : i = esa.size := by
      rcases Nat.lt_or_ge i esa.size with q | q
      · have e : esa.size - i = (esa.size - (i + 1)) + 1 := by omega
        rw [e, List.range'_succ] at hr; exact nomatch hr
      · exact Nat.le_antisymm hi q
    refine wpAny_pure (h h' hl hs hb ?_)
    rw [hin, hsz, List.take_length] at t
    exact t
end
end Mine

end
section -- part Head4
open PySem PySem.W PyProof.Rows PySem.Calls
set_option Elab.async false
namespace Mine
section
variable {prog : Program} {w : World} {A : Around} {E : Value → Shared → Prop}

/-- the display's main dict so far: none with nothing done, or at the first new address -/
def MainIs (base h : Heap) (main : Option Addr) (done : List (Int × Str)) (c : Nat) : Prop :=
  (main = none ∧ done = [] ∧ c = 0 ∧ h = base) ∨ (main = some base.objs.size ∧ 0 < done.length ∧ 0 < c ∧ Grew base c h ∧ Tab h base.objs.size done)

def flushT (run : List (Sem Value × Sem Value)) (main : Option Addr) : Sem (Option Addr) := do
    if run.isEmpty then return main
    match main with
    | none => return some (← subDict run)
    | some d =>
      let sub ← holding [.ref d] (subDict run)
      (holding [.ref d, .ref sub] (mergeMapping d (.ref sub) false)).onRaise fun x => do let _ ← holding [.ref d, x] (runValue (.builtin "proto.let_go" {}))
      return some d

theorem flush_run {base : Heap} {s : Shared} {xs : List (Sem Value × Sem Value)} {run done : List (Int × Str)} {main : Option Addr} {c : Nat} {Q : Option Addr → Shared → Prop}
    (hc : Cs (model prog w) xs run) (hr : 0 < run.length) (hr2 : run.length ≤ 17) (hM : MainIs base s.heap main done c) (hn : ((done ++ run).map (·.1)).Nodup) (hz : (done ++ run).length ≤ 1000) (hb : sysModules < base.objs.size)
    (h : ∀ h', MainIs base h' (some base.objs.size) (done ++ run) (c + 1) → Q (some base.objs.size) { s with heap := h', toks := s.toks + 3 * run.length }) :
    wpAny (model prog w) A (flushT xs main) Q E s := by
  have hxs : xs.isEmpty = false := by
    have := hc.len
    cases xs with
    | nil => simp at this; omega
    | cons _ _ => rfl
  have hnr : (run.map (·.1)).Nodup := by rw [List.map_append] at hn; exact (List.nodup_append.mp hn).2.1
  unfold flushT
  rw [hxs]
  simp only [Bool.false_eq_true, if_false]
  rcases hM with ⟨rfl, rfl, rfl, hh⟩ | ⟨rfl, hd, hc0, g, t⟩
  · subst hh
    dsimp only
    refine wpAny_bind (sub_dict hc hnr (by omega) fun h' g t => wpAny_pure (h h' (.inr ⟨rfl, ?_, by omega, ?_, ?_⟩)))
    · simpa using hr
    · exact g
    · simpa using t
  · dsimp only
    refine wpAny_bind (wpAny_holding (sub_dict hc hnr (by omega) fun h' g' t' => ?_))
    have hds : base.objs.size ≠ s.heap.objs.size := by rw [g.size]; exact Nat.ne_of_lt (by omega)
    have td : Tab h' base.objs.size done := t.of_objs (g'.old _ (by rw [g.size]; omega))
    refine wpAny_bind (wpAny_onRaise (wpAny_holding (merge_fresh (s := { s with heap := h', toks := s.toks + 3 * run.length }) td t' hds ?_ hn hz hd fun h'' hl hs hbd tt => wpAny_pure (h h'' (.inr ⟨rfl, ?_, by omega, ?_, tt⟩)))))
    · exact beq_false_of_ne (Nat.ne_of_gt (Nat.lt_of_lt_of_le hb (by rw [g.size]; exact Nat.le_add_right _ _)))
    · simp only [List.length_append]; omega
    · have gg := g.trans g'
      exact ⟨hl.trans gg.life, by rw [hs]; exact gg.size, fun b hb' => (hbd b (Nat.ne_of_lt hb')).trans (gg.old b hb')⟩

/-- items of a display with written ints and texts -/
def Items (M : Model) : List (Option (Sem Value) × Sem Value) → List (Int × Str) → Prop
  | [], [] => True
  | x :: xs, p :: r => (∃ k, x.1 = some k ∧ CInt M k p.1 ∧ CStr M x.2 p.2) ∧ Items M xs r
  | _, _ => False

theorem display {s : Shared} {items : List (Option (Sem Value) × Sem Value)} {tab : List (Int × Str)} {Q : Value → Shared → Prop}
    (hi : Items (model prog w) items tab) (hn : (tab.map (·.1)).Nodup) (hz : tab.length ≤ 1000) (h0 : 0 < tab.length) (hb : sysModules < s.heap.objs.size)
    (h : ∀ h', Grew s.heap ((tab.length + 16) / 17) h' → Tab h' s.heap.objs.size tab → Q (.ref s.heap.objs.size) { s with heap := h', toks := s.toks + 3 * tab.length }) :
    wpAny (model prog w) A (dictDisplay items) Q E s := by
  show wpAny (model prog w) A (do
    let mut main : Option Addr := none
    let mut run : List (Sem Value × Sem Value) := []
    for (k, v) in items do
      match k with
      | some k =>
        run := run ++ [(k, v)]
        if run.length == 17 then
          main ← flushT run main
          run := []
      | none =>
        main ← flushT run main
        run := []
        let d ← match main with
          | some d => pure d
          | none => alloc { cls := .type "dict", data := .dict #[] }
        main := some d
        let m ← holding [.ref d] v
        (((holding [.ref d, m] (mergeMapping d m false)).onRaise fun x => do let _ ← holding [.ref d, m, x] (runValue (.builtin "proto.let_go" {}))).tryCatch fun e => do
          if ← isInstance e (.type "AttributeError") then
            rule "dict.display.not-a-mapping"; raiseError "TypeError" s!"'{← typeNameOf m}' object is not a mapping"
          throw e).onRaise fun x => do let _ ← holding [.ref d, x] (runValue (.builtin "proto.let_go" {}))
    match ← flushT run main with
    | some d => pure (.ref d)
    | none => newDict) Q E s
  dsimp only
  refine wpAny_bind (wpAny_forIn_list _ (fun rest st s' => ∃ done run left c h', tab = done ++ run ++ left ∧ Items (model prog w) rest left ∧ Cs (model prog w) st.2 run ∧ run.length < 17 ∧ done.length = 17 * c ∧
    s' = { s with heap := h', toks := s.toks + 3 * done.length } ∧ MainIs s.heap h' st.1 done c) _ ?_ ?_ items (none, []) ⟨[], [], tab, 0, s.heap, rfl, hi, (show Cs (model prog w) [] [] from trivial), by simp, rfl, rfl, .inl ⟨rfl, rfl, rfl, rfl⟩⟩)
  · rintro ⟨x, v⟩ rest ⟨main, run⟩ s' ⟨done, rt, left, c, h', e, hi, hc, h17, hd, rfl, hM⟩
    cases left with
    | nil => exact hi.elim
    | cons p left =>
      obtain ⟨⟨k, hk, c1, c2⟩, hi⟩ := hi
      subst hk
      have hc' := hc.snoc (x := (k, v)) (p := p) c1 c2
      dsimp only
      have hl := hc'.len
      have e2 : tab = done ++ (rt ++ [p]) ++ left := by rw [e]; simp
      by_cases hq : (run ++ [(k, v)]).length = 17
      · rw [if_pos (by rw [hq]; rfl)]
        have hrt : (rt ++ [p]).length = 17 := by rw [← hl]; exact hq
        have hn' : ((done ++ (rt ++ [p])).map (·.1)).Nodup := by rw [e2, List.map_append] at hn; exact (List.nodup_append.mp hn).1
        have hz' : (done ++ (rt ++ [p])).length ≤ 1000 := by rw [e2, List.length_append] at hz; omega
        refine wpAny_bind (flush_run (s := { s with heap := h', toks := s.toks + 3 * done.length }) hc' (by omega) (by omega) hM hn' hz' hb fun h'' hM' => wpAny_pure ?_)
        refine ⟨done ++ (rt ++ [p]), [], left, c + 1, h'', by rw [e2]; simp, hi, trivial, by simp, ?_, ?_, hM'⟩
        · rw [List.length_append, hrt]; omega
        · dsimp only
          rw [List.length_append (as := done), show s.toks + 3 * (done.length + (rt ++ [p]).length) = s.toks + 3 * done.length + 3 * (rt ++ [p]).length by omega]
      · rw [if_neg (by intro q; exact hq (by simpa using q))]
        have hlt : (rt ++ [p]).length < 17 := by
          have a1 : (rt ++ [p]).length ≠ 17 := by rw [← hl]; exact hq
          have a2 : (rt ++ [p]).length = rt.length + 1 := by simp
          omega
        exact wpAny_pure ⟨done, rt ++ [p], left, c, h', e2, hi, hc', hlt, hd, rfl, hM⟩
  · rintro ⟨main, run⟩ s' ⟨done, rt, left, c, h', e, hi, hc, h17, hd, rfl, hM⟩
    cases left with
    | cons _ _ => exact hi.elim
    | nil =>
      rw [List.append_nil] at e
      by_cases hr : 0 < rt.length
      · refine wpAny_bind (flush_run (s := { s with heap := h', toks := s.toks + 3 * done.length }) hc hr (by omega) hM (by rw [← e]; exact hn) (by rw [← e]; exact hz) hb fun h'' hM' => ?_)
        rcases hM' with ⟨q, _⟩ | ⟨_, _, _, g, t⟩
        · cases q
        · have := h h'' (by
            have el : tab.length = done.length + rt.length := by rw [e, List.length_append]
            rw [show (tab.length + 16) / 17 = c + 1 by omega]; exact g) (by rw [e]; exact t)
          have et : s.toks + 3 * tab.length = s.toks + 3 * done.length + 3 * rt.length := by
            rw [e, List.length_append]; omega
          rw [et] at this
          exact wpAny_pure this
      · have hr0 : rt = [] := List.length_eq_zero_iff.mp (by omega)
        subst hr0
        have hrun : run = [] := by have := hc.len; exact List.length_eq_zero_iff.mp (by simpa using this)
        subst hrun
        rw [List.append_nil] at e
        subst e
        rcases hM with ⟨_, rfl, _, _⟩ | ⟨rfl, _, _, g, t⟩
        · simp at h0
        · refine wpAny_bind (wpAny_pure ?_)
          have := h h' (by rw [show (tab.length + 16) / 17 = c by omega]; exact g) t
          exact wpAny_pure this

/-- the table that written keys and values spell -/
def spell : List (Option Expr) → List Expr → Option (List (Int × Str))
  | [], [] => some []
  | some (.Constant (.int k) _ _) :: ks, .Constant (.str t) _ _ :: vs => (spell ks vs).map ((k, t) :: ·)
  | _, _ => none
theorem items_of {env : Env} {pos : Pos} : ∀ {ks : List (Option Expr)} {vs : List Expr} {tab : List (Int × Str)}, spell ks vs = some tab →
    Items (model prog w) ((evalEachOpt ks env).zip ((evalEach vs env).map fun v => do let x ← v; standAt pos; pure x)) tab := by
  intro ks
  induction ks with
  | nil =>
    intro vs tab h
    cases vs with
    | nil => cases h; trivial
    | cons v vs => cases h
  | cons k ks ih =>
    intro vs tab h
    cases vs with
    | nil => (cases k with | none => cases h | some k => (unfold spell at h; split at h <;> first | (rename_i e _; cases e; done) | (rename_i e; cases e; done) | (cases h; done)))
    | cons v vs =>
      have key : ∃ i kk pp t tt pp' tab', k = some (.Constant (.int i) kk pp) ∧ v = .Constant (.str t) tt pp' ∧ spell ks vs = some tab' ∧ tab = (i, t) :: tab' := by
        unfold spell at h
        split at h
        · rename_i e; cases e
        · rename_i e1 e2
          cases e1
          cases e2
          obtain ⟨tab', ht, rfl⟩ := Option.map_eq_some_iff.mp h
          exact ⟨_, _, _, _, _, _, _, rfl, rfl, ht, rfl⟩
        · cases h
      obtain ⟨i, kk, pp, t, tt, pp', tab', rfl, rfl, ht, rfl⟩ := key
      refine ⟨⟨_, rfl, ?_, ?_⟩, ih ht⟩
      · intro A E s Q q
        exact wpAny_Constant_int q
      · intro A E s Q q
        exact wpAny_bind (wpAny_Constant_str (wpAny_bind (wpAny_standAt (wpAny_pure q))))

theorem eval_display {s : Shared} {env : Env} {ks : List (Option Expr)} {vs : List Expr} {pos : Pos} {tab : List (Int × Str)} {Q : Value → Shared → Prop}
    (hs : spell ks vs = some tab) (hn : (tab.map (·.1)).Nodup) (hz : tab.length ≤ 1000) (h0 : 0 < tab.length) (hb : sysModules < s.heap.objs.size)
    (h : ∀ h', Grew s.heap ((tab.length + 16) / 17) h' → Tab h' s.heap.objs.size tab → Q (.ref s.heap.objs.size) { s with heap := h', toks := s.toks + 3 * tab.length }) :
    wpAny (model prog w) A (eval (.Dict ks vs pos) env) Q E s := by
  rw [arm_eval_Dict]
  exact wpAny_bind (wpAny_standAt (display (items_of hs) hn hz h0 hb h))
end
end Mine

end
section -- part Head5
open PySem PySem.W PyProof.Rows PySem.Calls
set_option Elab.async false
set_option maxRecDepth 100000
set_option linter.unusedVariables false
namespace Mine
abbrev theProg : Program := PySem.Challenge.pw_to0040_01
/-- what the program's own def makes of itself, read off the given program -/
abbrev FnAt (n : Str) (pm cd doc : Value) : Type := { f : FuncData // ((theProg.theDef n).map fun d => docDef n d.1 d.2.1 d.2.2 pm cd doc) = some f }
/-- a def's own record, as its code keeps it -/
def tmplOf (o : Obj) : Obj := match o.data with
  | .func f => { cls := .none, data := .func { f with pyModule := .none, code := .none, globals := 0 } }
  | _ => default
noncomputable def o11 (P : Params) : Obj := ⟨(.type "tuple"), none, (.seq #[] 0), #[]⟩
noncomputable def o12 (P : Params) : Obj := ⟨.none, none, (.fields #[]), #[]⟩
noncomputable def o13 (P : Params) : Obj := ⟨(.type "code"), none, (.fields #[(.str (.ofString "<module>") 182), (.str (.ofString "<module>") 183), (.str (.ofString "/claim/cut.py") 184), (.int 1 0), (.int 0 0), (.int 0 0), (.int 0 0), (.int 0 0), (.ref 11), (.bool false), (.int 181 0), (.ref 12), .none, .none, .none, .none, (.int 185 0), (.int 1 0), (.str (.ofString "/claim/cut.py") 186)]), #[]⟩
noncomputable def o14 (P : Params) : Obj := ⟨(.type "frame"), none, .plain, #[(some (.ref 13)), (some (.ref 3)), (some (.ref 3)), none, (some (.str (.ofString "__main__") 164)), none, (some (.ref 0))]⟩
noncomputable def o3 (P : Params) : Obj := ⟨(.type "dict"), none, (.dict #[⟨(PyData.keyHash P (.ofString "__name__")), (.str (.ofString "__name__") 165), (.str (.ofString "cpy313.stringprep") 257)⟩, ⟨(PyData.keyHash P (.ofString "__doc__")), (.str (.ofString "__doc__") 166), .none⟩, ⟨(PyData.keyHash P (.ofString "__package__")), (.str (.ofString "__package__") 167), .none⟩, ⟨(PyData.keyHash P (.ofString "__loader__")), (.str (.ofString "__loader__") 168), (.builtin "__main__.__loader__#opaque")⟩, ⟨(PyData.keyHash P (.ofString "__spec__")), (.str (.ofString "__spec__") 169), .none⟩, ⟨(PyData.keyHash P (.ofString "__annotations__")), (.str (.ofString "__annotations__") 170), (.ref 6)⟩, ⟨(PyData.keyHash P (.ofString "__builtins__")), (.str (.ofString "__builtins__") 171), (.ref 4)⟩, ⟨(PyData.keyHash P (.ofString "__file__")), (.str (.ofString "__file__") 173), (.str (.ofString "/claim/cut.py") 172)⟩, ⟨(PyData.keyHash P (.ofString "__cached__")), (.str (.ofString "__cached__") 174), .none⟩, ⟨(PyData.keyHash P (.ofString "gt")), (.str (.ofString "gt") 196), (.ref 21)⟩, ⟨(PyData.keyHash P (.ofString "mod")), (.str (.ofString "mod") 204), (.ref 28)⟩, ⟨(PyData.keyHash P (.ofString "truediv")), (.str (.ofString "truediv") 212), (.ref 35)⟩, ⟨(PyData.keyHash P (.ofString "iconcat")), (.str (.ofString "iconcat") 221), (.ref 42)⟩, ⟨(PyData.keyHash P (.ofString "rgb_to_hls")), (.str (.ofString "rgb_to_hls") 242), (.ref 49)⟩, ⟨(PyData.keyHash P (.ofString "hsv_to_rgb")), (.str (.ofString "hsv_to_rgb") 256), (.ref 56)⟩] 15), #[]⟩
noncomputable def o12v1 (P : Params) : Obj := ⟨.none, none, (.fields #[(.int 2 0), (.int 0 0), (.ref 20), (.int 4 0), (.int 0 0), (.ref 27), (.int 6 0), (.int 0 0), (.ref 34), (.int 8 0), (.int 0 0), (.ref 41), (.int 15 0), (.int 0 0), (.ref 48), (.int 38 0), (.int 0 0), (.ref 55)]), #[]⟩
noncomputable def o15 (P : Params) : Obj := ⟨(.type "tuple"), none, (.seq #[] 0), #[]⟩
noncomputable def o16 (P : Params) : Obj := ⟨.none, none, (.fields #[]), #[]⟩
noncomputable def o17 (P : Params) : Obj := ⟨(.type "tuple"), none, (.seq #[(.str (.ofString "a") 192), (.str (.ofString "b") 193)] 0), #[]⟩
noncomputable def o18 (P : Params) : Obj := ⟨(.type "tuple"), none, (.seq #[] 0), #[]⟩
noncomputable def o20 (P : Params) : Obj := ⟨(.type "code"), none, (.fields #[(.str (.ofString "gt") 189), (.str (.ofString "gt") 190), (.str (.ofString "/claim/cut.py") 191), (.int 2 0), (.int 2 0), (.int 0 0), (.int 0 0), (.int 3 0), (.ref 15), (.bool true), (.int 181 0), (.ref 16), .none, (.ref 17), (.ref 18), (.ref 19), (.int 194 0), (.int 2 0), (.str (.ofString "/claim/cut.py") 195)]), #[]⟩
noncomputable def fo21 : FnAt (.ofString "gt") (.str (.ofString "cpy313.operator") 187) (.ref 20) .none := ⟨⟨_, _, _, _, _, _, _, _, _, _, _, _, _, _, _⟩, by with_unfolding_all rfl⟩
noncomputable def o21 (P : Params) : Obj := ⟨(.type "function"), none, (.func fo21.1), #[]⟩
noncomputable def o22 (P : Params) : Obj := ⟨(.type "tuple"), none, (.seq #[] 0), #[]⟩
noncomputable def o23 (P : Params) : Obj := ⟨.none, none, (.fields #[]), #[]⟩
noncomputable def o24 (P : Params) : Obj := ⟨(.type "tuple"), none, (.seq #[(.str (.ofString "a") 200), (.str (.ofString "b") 201)] 0), #[]⟩
noncomputable def o25 (P : Params) : Obj := ⟨(.type "tuple"), none, (.seq #[] 0), #[]⟩
noncomputable def o27 (P : Params) : Obj := ⟨(.type "code"), none, (.fields #[(.str (.ofString "mod") 197), (.str (.ofString "mod") 198), (.str (.ofString "/claim/cut.py") 199), (.int 4 0), (.int 2 0), (.int 0 0), (.int 0 0), (.int 3 0), (.ref 22), (.bool true), (.int 181 0), (.ref 23), .none, (.ref 24), (.ref 25), (.ref 26), (.int 202 0), (.int 4 0), (.str (.ofString "/claim/cut.py") 203)]), #[]⟩
noncomputable def fo28 : FnAt (.ofString "mod") (.str (.ofString "cpy313.operator") 187) (.ref 27) .none := ⟨⟨_, _, _, _, _, _, _, _, _, _, _, _, _, _, _⟩, by with_unfolding_all rfl⟩
noncomputable def o28 (P : Params) : Obj := ⟨(.type "function"), none, (.func fo28.1), #[]⟩
noncomputable def o29 (P : Params) : Obj := ⟨(.type "tuple"), none, (.seq #[] 0), #[]⟩
noncomputable def o30 (P : Params) : Obj := ⟨.none, none, (.fields #[]), #[]⟩
noncomputable def o31 (P : Params) : Obj := ⟨(.type "tuple"), none, (.seq #[(.str (.ofString "a") 208), (.str (.ofString "b") 209)] 0), #[]⟩
noncomputable def o32 (P : Params) : Obj := ⟨(.type "tuple"), none, (.seq #[] 0), #[]⟩
noncomputable def o34 (P : Params) : Obj := ⟨(.type "code"), none, (.fields #[(.str (.ofString "truediv") 205), (.str (.ofString "truediv") 206), (.str (.ofString "/claim/cut.py") 207), (.int 6 0), (.int 2 0), (.int 0 0), (.int 0 0), (.int 3 0), (.ref 29), (.bool true), (.int 181 0), (.ref 30), .none, (.ref 31), (.ref 32), (.ref 33), (.int 210 0), (.int 6 0), (.str (.ofString "/claim/cut.py") 211)]), #[]⟩
noncomputable def fo35 : FnAt (.ofString "truediv") (.str (.ofString "cpy313.operator") 187) (.ref 34) .none := ⟨⟨_, _, _, _, _, _, _, _, _, _, _, _, _, _, _⟩, by with_unfolding_all rfl⟩
noncomputable def o35 (P : Params) : Obj := ⟨(.type "function"), none, (.func fo35.1), #[]⟩
noncomputable def o36 (P : Params) : Obj := ⟨(.type "tuple"), none, (.seq #[] 0), #[]⟩
noncomputable def o37 (P : Params) : Obj := ⟨.none, none, (.fields #[]), #[]⟩
noncomputable def o38 (P : Params) : Obj := ⟨(.type "tuple"), none, (.seq #[(.str (.ofString "a") 216), (.str (.ofString "b") 217), (.str (.ofString "msg") 218)] 0), #[]⟩
noncomputable def o39 (P : Params) : Obj := ⟨(.type "tuple"), none, (.seq #[] 0), #[]⟩
noncomputable def o41 (P : Params) : Obj := ⟨(.type "code"), none, (.fields #[(.str (.ofString "iconcat") 213), (.str (.ofString "iconcat") 214), (.str (.ofString "/claim/cut.py") 215), (.int 8 0), (.int 2 0), (.int 0 0), (.int 0 0), (.int 3 0), (.ref 36), (.bool true), (.int 181 0), (.ref 37), .none, (.ref 38), (.ref 39), (.ref 40), (.int 219 0), (.int 8 0), (.str (.ofString "/claim/cut.py") 220)]), #[]⟩
noncomputable def fo42 : FnAt (.ofString "iconcat") (.str (.ofString "cpy313.operator") 187) (.ref 41) .none := ⟨⟨_, _, _, _, _, _, _, _, _, _, _, _, _, _, _⟩, by with_unfolding_all rfl⟩
noncomputable def o42 (P : Params) : Obj := ⟨(.type "function"), none, (.func fo42.1), #[]⟩
noncomputable def o43 (P : Params) : Obj := ⟨(.type "tuple"), none, (.seq #[] 0), #[]⟩
noncomputable def o44 (P : Params) : Obj := ⟨.none, none, (.fields #[]), #[]⟩
noncomputable def o45 (P : Params) : Obj := ⟨(.type "tuple"), none, (.seq #[(.str (.ofString "r") 227), (.str (.ofString "g") 228), (.str (.ofString "b") 229), (.str (.ofString "maxc") 230), (.str (.ofString "minc") 231), (.str (.ofString "sumc") 232), (.str (.ofString "rangec") 233), (.str (.ofString "l") 234), (.str (.ofString "s") 235), (.str (.ofString "rc") 236), (.str (.ofString "gc") 237), (.str (.ofString "bc") 238), (.str (.ofString "h") 239)] 0), #[]⟩
noncomputable def o46 (P : Params) : Obj := ⟨(.type "tuple"), none, (.seq #[] 0), #[]⟩
noncomputable def o48 (P : Params) : Obj := ⟨(.type "code"), none, (.fields #[(.str (.ofString "rgb_to_hls") 224), (.str (.ofString "rgb_to_hls") 225), (.str (.ofString "/claim/cut.py") 226), (.int 15 0), (.int 3 0), (.int 0 0), (.int 0 0), (.int 3 0), (.ref 43), (.bool true), (.int 181 0), (.ref 44), .none, (.ref 45), (.ref 46), (.ref 47), (.int 240 0), (.int 15 0), (.str (.ofString "/claim/cut.py") 241)]), #[]⟩
noncomputable def fo49 : FnAt (.ofString "rgb_to_hls") (.str (.ofString "cpy313.colorsys") 222) (.ref 48) .none := ⟨⟨_, _, _, _, _, _, _, _, _, _, _, _, _, _, _⟩, by with_unfolding_all rfl⟩
noncomputable def o49 (P : Params) : Obj := ⟨(.type "function"), none, (.func fo49.1), #[]⟩
noncomputable def o50 (P : Params) : Obj := ⟨(.type "tuple"), none, (.seq #[] 0), #[]⟩
noncomputable def o51 (P : Params) : Obj := ⟨.none, none, (.fields #[]), #[]⟩
noncomputable def o52 (P : Params) : Obj := ⟨(.type "tuple"), none, (.seq #[(.str (.ofString "h") 246), (.str (.ofString "s") 247), (.str (.ofString "v") 248), (.str (.ofString "i") 249), (.str (.ofString "f") 250), (.str (.ofString "p") 251), (.str (.ofString "q") 252), (.str (.ofString "t") 253)] 0), #[]⟩
noncomputable def o53 (P : Params) : Obj := ⟨(.type "tuple"), none, (.seq #[] 0), #[]⟩
noncomputable def o55 (P : Params) : Obj := ⟨(.type "code"), none, (.fields #[(.str (.ofString "hsv_to_rgb") 243), (.str (.ofString "hsv_to_rgb") 244), (.str (.ofString "/claim/cut.py") 245), (.int 38 0), (.int 3 0), (.int 0 0), (.int 0 0), (.int 3 0), (.ref 50), (.bool true), (.int 181 0), (.ref 51), .none, (.ref 52), (.ref 53), (.ref 54), (.int 254 0), (.int 38 0), (.str (.ofString "/claim/cut.py") 255)]), #[]⟩
noncomputable def fo56 : FnAt (.ofString "hsv_to_rgb") (.str (.ofString "cpy313.colorsys") 222) (.ref 55) .none := ⟨⟨_, _, _, _, _, _, _, _, _, _, _, _, _, _, _⟩, by with_unfolding_all rfl⟩
noncomputable def o56 (P : Params) : Obj := ⟨(.type "function"), none, (.func fo56.1), #[]⟩
noncomputable def o3v1 (P : Params) : Obj := ⟨(.type "dict"), none, (.dict #[⟨(PyData.keyHash P (.ofString "__name__")), (.str (.ofString "__name__") 165), (.str (.ofString "cpy313.stringprep") 257)⟩, ⟨(PyData.keyHash P (.ofString "__doc__")), (.str (.ofString "__doc__") 166), .none⟩, ⟨(PyData.keyHash P (.ofString "__package__")), (.str (.ofString "__package__") 167), .none⟩, ⟨(PyData.keyHash P (.ofString "__loader__")), (.str (.ofString "__loader__") 168), (.builtin "__main__.__loader__#opaque")⟩, ⟨(PyData.keyHash P (.ofString "__spec__")), (.str (.ofString "__spec__") 169), .none⟩, ⟨(PyData.keyHash P (.ofString "__annotations__")), (.str (.ofString "__annotations__") 170), (.ref 6)⟩, ⟨(PyData.keyHash P (.ofString "__builtins__")), (.str (.ofString "__builtins__") 171), (.ref 4)⟩, ⟨(PyData.keyHash P (.ofString "__file__")), (.str (.ofString "__file__") 173), (.str (.ofString "/claim/cut.py") 172)⟩, ⟨(PyData.keyHash P (.ofString "__cached__")), (.str (.ofString "__cached__") 174), .none⟩, ⟨(PyData.keyHash P (.ofString "gt")), (.str (.ofString "gt") 196), (.ref 21)⟩, ⟨(PyData.keyHash P (.ofString "mod")), (.str (.ofString "mod") 204), (.ref 28)⟩, ⟨(PyData.keyHash P (.ofString "truediv")), (.str (.ofString "truediv") 212), (.ref 35)⟩, ⟨(PyData.keyHash P (.ofString "iconcat")), (.str (.ofString "iconcat") 221), (.ref 42)⟩, ⟨(PyData.keyHash P (.ofString "rgb_to_hls")), (.str (.ofString "rgb_to_hls") 242), (.ref 49)⟩, ⟨(PyData.keyHash P (.ofString "hsv_to_rgb")), (.str (.ofString "hsv_to_rgb") 256), (.ref 56)⟩, ⟨(PyData.keyHash P (.ofString "b1_set")), (.str (.ofString "b1_set") 318), (.ref 64)⟩] 16), #[]⟩
noncomputable def o57 (P : Params) : Obj := ⟨(.type "list"), none, (.seq #[(.int 173 259), (.int 847 260), (.int 6150 261), (.int 6155 262), (.int 6156 263), (.int 6157 264), (.int 8203 265), (.int 8204 266), (.int 8205 267), (.int 8288 268), (.int 65279 269)] 0), #[]⟩
noncomputable def o58 (P : Params) : Obj := ⟨(.type "range"), none, (.fields #[(.int 65024 270), (.int 65040 271), (.int 1 272)]), #[]⟩
noncomputable def o59 (P : Params) : Obj := ⟨(.type "list"), none, (.seq #[(.int 65024 275), (.int 65025 276), (.int 65026 277), (.int 65027 278), (.int 65028 279), (.int 65029 280), (.int 65030 281), (.int 65031 282), (.int 65032 283), (.int 65033 284), (.int 65034 285), (.int 65035 286), (.int 65036 287), (.int 65037 288), (.int 65038 289), (.int 65039 290)] 18), #[]⟩
noncomputable def o60 (P : Params) : Obj := ⟨(.type "range_iterator"), none, (.fields #[(.int 65040 0), (.int 0 0), (.int 1 0)]), #[]⟩
noncomputable def o61 (P : Params) : Obj := ⟨(.type "tuple"), none, (.seq #[] 0), #[]⟩
noncomputable def o62 (P : Params) : Obj := ⟨(.type "StopIteration"), none, (.fields #[(.ref 61), .none, .none, .none, (.bool false), .none]), #[]⟩
noncomputable def o63 (P : Params) : Obj := ⟨(.type "list"), none, (.seq #[(.int 173 259), (.int 847 260), (.int 6150 261), (.int 6155 262), (.int 6156 263), (.int 6157 264), (.int 8203 265), (.int 8204 266), (.int 8205 267), (.int 8288 268), (.int 65279 269), (.int 65024 275), (.int 65025 276), (.int 65026 277), (.int 65027 278), (.int 65028 279), (.int 65029 280), (.int 65030 281), (.int 65031 282), (.int 65032 283), (.int 65033 284), (.int 65034 285), (.int 65035 286), (.int 65036 287), (.int 65037 288), (.int 65038 289), (.int 65039 290)] 0), #[]⟩
noncomputable def o64 (P : Params) : Obj := ⟨.type "set", none, .set #[⟨65024, (.int 65024 275)⟩, ⟨65025, (.int 65025 276)⟩, ⟨65026, (.int 65026 277)⟩, ⟨65027, (.int 65027 278)⟩, ⟨65028, (.int 65028 279)⟩, ⟨65029, (.int 65029 280)⟩, ⟨6150, (.int 6150 261)⟩, ⟨65030, (.int 65030 281)⟩, ⟨65031, (.int 65031 282)⟩, ⟨65032, (.int 65032 283)⟩, ⟨65033, (.int 65033 284)⟩, ⟨6155, (.int 6155 262)⟩, ⟨6156, (.int 6156 263)⟩, ⟨6157, (.int 6157 264)⟩, ⟨8203, (.int 8203 265)⟩, ⟨8204, (.int 8204 266)⟩, ⟨8205, (.int 8205 267)⟩, ⟨65034, (.int 65034 285)⟩, ⟨65035, (.int 65035 286)⟩, ⟨65036, (.int 65036 287)⟩, ⟨65037, (.int 65037 288)⟩, ⟨65038, (.int 65038 289)⟩, ⟨65039, (.int 65039 290)⟩, ⟨173, (.int 173 259)⟩, ⟨847, (.int 847 260)⟩, ⟨8288, (.int 8288 268)⟩, ⟨65279, (.int 65279 269)⟩] 29 ⟨127, #[0, 1, 2, 3, 4, 5, 6, 7, 8, 9, 10, 11, 12, 13, 14, 15, 16, 17, 18, 19, 20, 21, 22, 45, 79, 96, 127], #[], 0, !P.followText "set-order", 2, true⟩, #[]⟩
noncomputable def o65 (P : Params) : Obj := ⟨(.type "list_iterator"), none, (.fields #[.none, (.int 27 0)]), #[]⟩
noncomputable def o66 (P : Params) : Obj := ⟨(.type "tuple"), none, (.seq #[] 0), #[]⟩
noncomputable def o67 (P : Params) : Obj := ⟨(.type "StopIteration"), none, (.fields #[(.ref 66), .none, .none, .none, (.bool false), .none]), #[]⟩
noncomputable def o3v2 (P : Params) : Obj := ⟨(.type "dict"), none, (.dict #[⟨(PyData.keyHash P (.ofString "__name__")), (.str (.ofString "__name__") 165), (.str (.ofString "cpy313.stringprep") 257)⟩, ⟨(PyData.keyHash P (.ofString "__doc__")), (.str (.ofString "__doc__") 166), .none⟩, ⟨(PyData.keyHash P (.ofString "__package__")), (.str (.ofString "__package__") 167), .none⟩, ⟨(PyData.keyHash P (.ofString "__loader__")), (.str (.ofString "__loader__") 168), (.builtin "__main__.__loader__#opaque")⟩, ⟨(PyData.keyHash P (.ofString "__spec__")), (.str (.ofString "__spec__") 169), .none⟩, ⟨(PyData.keyHash P (.ofString "__annotations__")), (.str (.ofString "__annotations__") 170), (.ref 6)⟩, ⟨(PyData.keyHash P (.ofString "__builtins__")), (.str (.ofString "__builtins__") 171), (.ref 4)⟩, ⟨(PyData.keyHash P (.ofString "__file__")), (.str (.ofString "__file__") 173), (.str (.ofString "/claim/cut.py") 172)⟩, ⟨(PyData.keyHash P (.ofString "__cached__")), (.str (.ofString "__cached__") 174), .none⟩, ⟨(PyData.keyHash P (.ofString "gt")), (.str (.ofString "gt") 196), (.ref 21)⟩, ⟨(PyData.keyHash P (.ofString "mod")), (.str (.ofString "mod") 204), (.ref 28)⟩, ⟨(PyData.keyHash P (.ofString "truediv")), (.str (.ofString "truediv") 212), (.ref 35)⟩, ⟨(PyData.keyHash P (.ofString "iconcat")), (.str (.ofString "iconcat") 221), (.ref 42)⟩, ⟨(PyData.keyHash P (.ofString "rgb_to_hls")), (.str (.ofString "rgb_to_hls") 242), (.ref 49)⟩, ⟨(PyData.keyHash P (.ofString "hsv_to_rgb")), (.str (.ofString "hsv_to_rgb") 256), (.ref 56)⟩, ⟨(PyData.keyHash P (.ofString "b1_set")), (.str (.ofString "b1_set") 318), (.ref 64)⟩, ⟨(PyData.keyHash P (.ofString "in_table_b1")), (.str (.ofString "in_table_b1") 325), (.ref 74)⟩] 17), #[]⟩
noncomputable def o12v2 (P : Params) : Obj := ⟨.none, none, (.fields #[(.int 2 0), (.int 0 0), (.ref 20), (.int 4 0), (.int 0 0), (.ref 27), (.int 6 0), (.int 0 0), (.ref 34), (.int 8 0), (.int 0 0), (.ref 41), (.int 15 0), (.int 0 0), (.ref 48), (.int 38 0), (.int 0 0), (.ref 55), (.int 61 0), (.int 0 0), (.ref 73)]), #[]⟩
noncomputable def o68 (P : Params) : Obj := ⟨(.type "tuple"), none, (.seq #[] 0), #[]⟩
noncomputable def o69 (P : Params) : Obj := ⟨.none, none, (.fields #[]), #[]⟩
noncomputable def o70 (P : Params) : Obj := ⟨(.type "tuple"), none, (.seq #[(.str (.ofString "code") 322)] 0), #[]⟩
noncomputable def o71 (P : Params) : Obj := ⟨(.type "tuple"), none, (.seq #[] 0), #[]⟩
noncomputable def o73 (P : Params) : Obj := ⟨(.type "code"), none, (.fields #[(.str (.ofString "in_table_b1") 319), (.str (.ofString "in_table_b1") 320), (.str (.ofString "/claim/cut.py") 321), (.int 61 0), (.int 1 0), (.int 0 0), (.int 0 0), (.int 3 0), (.ref 68), (.bool true), (.int 181 0), (.ref 69), .none, (.ref 70), (.ref 71), (.ref 72), (.int 323 0), (.int 61 0), (.str (.ofString "/claim/cut.py") 324)]), #[]⟩
noncomputable def fo74 : FnAt (.ofString "in_table_b1") (.str (.ofString "cpy313.stringprep") 257) (.ref 73) .none := ⟨⟨_, _, _, _, _, _, _, _, _, _, _, _, _, _, _⟩, by with_unfolding_all rfl⟩
noncomputable def o74 (P : Params) : Obj := ⟨(.type "function"), none, (.func fo74.1), #[]⟩
noncomputable def o3v3 (P : Params) : Obj := ⟨(.type "dict"), none, (.dict #[⟨(PyData.keyHash P (.ofString "__name__")), (.str (.ofString "__name__") 165), (.str (.ofString "cpy313.stringprep") 257)⟩, ⟨(PyData.keyHash P (.ofString "__doc__")), (.str (.ofString "__doc__") 166), .none⟩, ⟨(PyData.keyHash P (.ofString "__package__")), (.str (.ofString "__package__") 167), .none⟩, ⟨(PyData.keyHash P (.ofString "__loader__")), (.str (.ofString "__loader__") 168), (.builtin "__main__.__loader__#opaque")⟩, ⟨(PyData.keyHash P (.ofString "__spec__")), (.str (.ofString "__spec__") 169), .none⟩, ⟨(PyData.keyHash P (.ofString "__annotations__")), (.str (.ofString "__annotations__") 170), (.ref 6)⟩, ⟨(PyData.keyHash P (.ofString "__builtins__")), (.str (.ofString "__builtins__") 171), (.ref 4)⟩, ⟨(PyData.keyHash P (.ofString "__file__")), (.str (.ofString "__file__") 173), (.str (.ofString "/claim/cut.py") 172)⟩, ⟨(PyData.keyHash P (.ofString "__cached__")), (.str (.ofString "__cached__") 174), .none⟩, ⟨(PyData.keyHash P (.ofString "gt")), (.str (.ofString "gt") 196), (.ref 21)⟩, ⟨(PyData.keyHash P (.ofString "mod")), (.str (.ofString "mod") 204), (.ref 28)⟩, ⟨(PyData.keyHash P (.ofString "truediv")), (.str (.ofString "truediv") 212), (.ref 35)⟩, ⟨(PyData.keyHash P (.ofString "iconcat")), (.str (.ofString "iconcat") 221), (.ref 42)⟩, ⟨(PyData.keyHash P (.ofString "rgb_to_hls")), (.str (.ofString "rgb_to_hls") 242), (.ref 49)⟩, ⟨(PyData.keyHash P (.ofString "hsv_to_rgb")), (.str (.ofString "hsv_to_rgb") 256), (.ref 56)⟩, ⟨(PyData.keyHash P (.ofString "b1_set")), (.str (.ofString "b1_set") 318), (.ref 64)⟩, ⟨(PyData.keyHash P (.ofString "in_table_b1")), (.str (.ofString "in_table_b1") 325), (.ref 74)⟩, ⟨(PyData.keyHash P (.ofString "b3_exceptions")), (.str (.ofString "b3_exceptions") 2276), (.ref 75)⟩] 18), #[]⟩
noncomputable def o3v4 (P : Params) : Obj := ⟨(.type "dict"), none, (.dict #[⟨(PyData.keyHash P (.ofString "__name__")), (.str (.ofString "__name__") 165), (.str (.ofString "law_to0040_01") 2285)⟩, ⟨(PyData.keyHash P (.ofString "__doc__")), (.str (.ofString "__doc__") 166), .none⟩, ⟨(PyData.keyHash P (.ofString "__package__")), (.str (.ofString "__package__") 167), .none⟩, ⟨(PyData.keyHash P (.ofString "__loader__")), (.str (.ofString "__loader__") 168), (.builtin "__main__.__loader__#opaque")⟩, ⟨(PyData.keyHash P (.ofString "__spec__")), (.str (.ofString "__spec__") 169), .none⟩, ⟨(PyData.keyHash P (.ofString "__annotations__")), (.str (.ofString "__annotations__") 170), (.ref 6)⟩, ⟨(PyData.keyHash P (.ofString "__builtins__")), (.str (.ofString "__builtins__") 171), (.ref 4)⟩, ⟨(PyData.keyHash P (.ofString "__file__")), (.str (.ofString "__file__") 173), (.str (.ofString "/claim/cut.py") 172)⟩, ⟨(PyData.keyHash P (.ofString "__cached__")), (.str (.ofString "__cached__") 174), .none⟩, ⟨(PyData.keyHash P (.ofString "gt")), (.str (.ofString "gt") 196), (.ref 21)⟩, ⟨(PyData.keyHash P (.ofString "mod")), (.str (.ofString "mod") 204), (.ref 28)⟩, ⟨(PyData.keyHash P (.ofString "truediv")), (.str (.ofString "truediv") 212), (.ref 35)⟩, ⟨(PyData.keyHash P (.ofString "iconcat")), (.str (.ofString "iconcat") 221), (.ref 42)⟩, ⟨(PyData.keyHash P (.ofString "rgb_to_hls")), (.str (.ofString "rgb_to_hls") 242), (.ref 49)⟩, ⟨(PyData.keyHash P (.ofString "hsv_to_rgb")), (.str (.ofString "hsv_to_rgb") 256), (.ref 56)⟩, ⟨(PyData.keyHash P (.ofString "b1_set")), (.str (.ofString "b1_set") 318), (.ref 64)⟩, ⟨(PyData.keyHash P (.ofString "in_table_b1")), (.str (.ofString "in_table_b1") 325), (.ref 74)⟩, ⟨(PyData.keyHash P (.ofString "b3_exceptions")), (.str (.ofString "b3_exceptions") 2276), (.ref 75)⟩, ⟨(PyData.keyHash P (.ofString "map_table_b3")), (.str (.ofString "map_table_b3") 2284), (.ref 120)⟩, ⟨(PyData.keyHash P (.ofString "_law_numbers")), (.str (.ofString "_law_numbers") 2292), (.ref 125)⟩, ⟨(PyData.keyHash P (.ofString "_law_spelled")), (.str (.ofString "_law_spelled") 2302), (.ref 132)⟩, ⟨(PyData.keyHash P (.ofString "_law_step")), (.str (.ofString "_law_step") 2310), (.ref 139)⟩, ⟨(PyData.keyHash P (.ofString "_law_read")), (.str (.ofString "_law_read") 2316), (.ref 144)⟩, ⟨(PyData.keyHash P (.ofString "_law_sums")), (.str (.ofString "_law_sums") 2322), (.ref 149)⟩, ⟨(PyData.keyHash P (.ofString "_law_told")), (.str (.ofString "_law_told") 2337), (.ref 156)⟩, ⟨(PyData.keyHash P (.ofString "_law_crest")), (.str (.ofString "_law_crest") 2349), (.ref 163)⟩, ⟨(PyData.keyHash P (.ofString "_law_every_row")), (.str (.ofString "_law_every_row") 2355), (.ref 168)⟩, ⟨(PyData.keyHash P (.ofString "law")), (.str (.ofString "law") 2361), (.ref 173)⟩] 28), #[]⟩
noncomputable def o12v3 (P : Params) : Obj := ⟨.none, none, (.fields #[(.int 2 0), (.int 0 0), (.ref 20), (.int 4 0), (.int 0 0), (.ref 27), (.int 6 0), (.int 0 0), (.ref 34), (.int 8 0), (.int 0 0), (.ref 41), (.int 15 0), (.int 0 0), (.ref 48), (.int 38 0), (.int 0 0), (.ref 55), (.int 61 0), (.int 0 0), (.ref 73), (.int 64 0), (.int 0 0), (.ref 119), (.int 70 0), (.int 0 0), (.ref 124), (.int 74 0), (.int 0 0), (.ref 131), (.int 83 0), (.int 0 0), (.ref 138), (.int 86 0), (.int 0 0), (.ref 143), (.int 92 0), (.int 0 0), (.ref 148), (.int 97 0), (.int 0 0), (.ref 155), (.int 104 0), (.int 0 0), (.ref 162), (.int 114 0), (.int 0 0), (.ref 167), (.int 132 0), (.int 0 0), (.ref 172)]), #[]⟩
noncomputable def o114 (P : Params) : Obj := ⟨(.type "tuple"), none, (.seq #[] 0), #[]⟩
noncomputable def o115 (P : Params) : Obj := ⟨.none, none, (.fields #[]), #[]⟩
noncomputable def o116 (P : Params) : Obj := ⟨(.type "tuple"), none, (.seq #[(.str (.ofString "code") 2280), (.str (.ofString "r") 2281)] 0), #[]⟩
noncomputable def o117 (P : Params) : Obj := ⟨(.type "tuple"), none, (.seq #[] 0), #[]⟩
noncomputable def o119 (P : Params) : Obj := ⟨(.type "code"), none, (.fields #[(.str (.ofString "map_table_b3") 2277), (.str (.ofString "map_table_b3") 2278), (.str (.ofString "/claim/cut.py") 2279), (.int 64 0), (.int 1 0), (.int 0 0), (.int 0 0), (.int 3 0), (.ref 114), (.bool true), (.int 181 0), (.ref 115), .none, (.ref 116), (.ref 117), (.ref 118), (.int 2282 0), (.int 64 0), (.str (.ofString "/claim/cut.py") 2283)]), #[]⟩
noncomputable def fo120 : FnAt (.ofString "map_table_b3") (.str (.ofString "cpy313.stringprep") 257) (.ref 119) .none := ⟨⟨_, _, _, _, _, _, _, _, _, _, _, _, _, _, _⟩, by with_unfolding_all rfl⟩
noncomputable def o120 (P : Params) : Obj := ⟨(.type "function"), none, (.func fo120.1), #[]⟩
noncomputable def o121 (P : Params) : Obj := ⟨(.type "tuple"), none, (.seq #[] 0), #[]⟩
noncomputable def o122 (P : Params) : Obj := ⟨.none, none, (.fields #[]), #[]⟩
noncomputable def o124 (P : Params) : Obj := ⟨(.type "code"), none, (.fields #[(.str (.ofString "_law_numbers") 2287), (.str (.ofString "_law_numbers") 2288), (.str (.ofString "/claim/cut.py") 2289), (.int 70 0), (.int 1 0), (.int 0 0), (.int 0 0), (.int 3 0), (.ref 121), (.bool true), (.int 181 0), (.ref 122), .none, .none, .none, (.ref 123), (.int 2290 0), (.int 70 0), (.str (.ofString "/claim/cut.py") 2291)]), #[]⟩
noncomputable def fo125 : FnAt (.ofString "_law_numbers") (.str (.ofString "law_to0040_01") 2285) (.ref 124) .none := ⟨⟨_, _, _, _, _, _, _, _, _, _, _, _, _, _, _⟩, by with_unfolding_all rfl⟩
noncomputable def o125 (P : Params) : Obj := ⟨(.type "function"), none, (.func fo125.1), #[]⟩
noncomputable def o126 (P : Params) : Obj := ⟨(.type "tuple"), none, (.seq #[] 0), #[]⟩
noncomputable def o127 (P : Params) : Obj := ⟨.none, none, (.fields #[]), #[]⟩
noncomputable def o128 (P : Params) : Obj := ⟨(.type "tuple"), none, (.seq #[(.str (.ofString "v") 2296), (.str (.ofString "ahead") 2297), (.str (.ofString "which") 2298), (.str (.ofString "form") 2299)] 0), #[]⟩
noncomputable def o129 (P : Params) : Obj := ⟨(.type "tuple"), none, (.seq #[] 0), #[]⟩
noncomputable def o131 (P : Params) : Obj := ⟨(.type "code"), none, (.fields #[(.str (.ofString "_law_spelled") 2293), (.str (.ofString "_law_spelled") 2294), (.str (.ofString "/claim/cut.py") 2295), (.int 74 0), (.int 1 0), (.int 0 0), (.int 0 0), (.int 3 0), (.ref 126), (.bool true), (.int 181 0), (.ref 127), .none, (.ref 128), (.ref 129), (.ref 130), (.int 2300 0), (.int 74 0), (.str (.ofString "/claim/cut.py") 2301)]), #[]⟩
noncomputable def fo132 : FnAt (.ofString "_law_spelled") (.str (.ofString "law_to0040_01") 2285) (.ref 131) .none := ⟨⟨_, _, _, _, _, _, _, _, _, _, _, _, _, _, _⟩, by with_unfolding_all rfl⟩
noncomputable def o132 (P : Params) : Obj := ⟨(.type "function"), none, (.func fo132.1), #[]⟩
noncomputable def o133 (P : Params) : Obj := ⟨(.type "tuple"), none, (.seq #[] 0), #[]⟩
noncomputable def o134 (P : Params) : Obj := ⟨.none, none, (.fields #[]), #[]⟩
noncomputable def o135 (P : Params) : Obj := ⟨(.type "tuple"), none, (.seq #[(.str (.ofString "v") 2306), (.str (.ofString "which") 2307)] 0), #[]⟩
noncomputable def o136 (P : Params) : Obj := ⟨(.type "tuple"), none, (.seq #[] 0), #[]⟩
noncomputable def o138 (P : Params) : Obj := ⟨(.type "code"), none, (.fields #[(.str (.ofString "_law_step") 2303), (.str (.ofString "_law_step") 2304), (.str (.ofString "/claim/cut.py") 2305), (.int 83 0), (.int 1 0), (.int 0 0), (.int 0 0), (.int 3 0), (.ref 133), (.bool true), (.int 181 0), (.ref 134), .none, (.ref 135), (.ref 136), (.ref 137), (.int 2308 0), (.int 83 0), (.str (.ofString "/claim/cut.py") 2309)]), #[]⟩
noncomputable def fo139 : FnAt (.ofString "_law_step") (.str (.ofString "law_to0040_01") 2285) (.ref 138) .none := ⟨⟨_, _, _, _, _, _, _, _, _, _, _, _, _, _, _⟩, by with_unfolding_all rfl⟩
noncomputable def o139 (P : Params) : Obj := ⟨(.type "function"), none, (.func fo139.1), #[]⟩
noncomputable def o140 (P : Params) : Obj := ⟨(.type "tuple"), none, (.seq #[] 0), #[]⟩
noncomputable def o141 (P : Params) : Obj := ⟨.none, none, (.fields #[]), #[]⟩
noncomputable def o143 (P : Params) : Obj := ⟨(.type "code"), none, (.fields #[(.str (.ofString "_law_read") 2311), (.str (.ofString "_law_read") 2312), (.str (.ofString "/claim/cut.py") 2313), (.int 86 0), (.int 1 0), (.int 0 0), (.int 0 0), (.int 3 0), (.ref 140), (.bool true), (.int 181 0), (.ref 141), .none, .none, .none, (.ref 142), (.int 2314 0), (.int 86 0), (.str (.ofString "/claim/cut.py") 2315)]), #[]⟩
noncomputable def fo144 : FnAt (.ofString "_law_read") (.str (.ofString "law_to0040_01") 2285) (.ref 143) .none := ⟨⟨_, _, _, _, _, _, _, _, _, _, _, _, _, _, _⟩, by with_unfolding_all rfl⟩
noncomputable def o144 (P : Params) : Obj := ⟨(.type "function"), none, (.func fo144.1), #[]⟩
noncomputable def o145 (P : Params) : Obj := ⟨(.type "tuple"), none, (.seq #[] 0), #[]⟩
noncomputable def o146 (P : Params) : Obj := ⟨.none, none, (.fields #[]), #[]⟩
noncomputable def o148 (P : Params) : Obj := ⟨(.type "code"), none, (.fields #[(.str (.ofString "_law_sums") 2317), (.str (.ofString "_law_sums") 2318), (.str (.ofString "/claim/cut.py") 2319), (.int 92 0), (.int 1 0), (.int 0 0), (.int 0 0), (.int 3 0), (.ref 145), (.bool true), (.int 181 0), (.ref 146), .none, .none, .none, (.ref 147), (.int 2320 0), (.int 92 0), (.str (.ofString "/claim/cut.py") 2321)]), #[]⟩
noncomputable def fo149 : FnAt (.ofString "_law_sums") (.str (.ofString "law_to0040_01") 2285) (.ref 148) .none := ⟨⟨_, _, _, _, _, _, _, _, _, _, _, _, _, _, _⟩, by with_unfolding_all rfl⟩
noncomputable def o149 (P : Params) : Obj := ⟨(.type "function"), none, (.func fo149.1), #[]⟩
noncomputable def o150 (P : Params) : Obj := ⟨(.type "tuple"), none, (.seq #[] 0), #[]⟩
noncomputable def o151 (P : Params) : Obj := ⟨.none, none, (.fields #[]), #[]⟩
noncomputable def o152 (P : Params) : Obj := ⟨(.type "tuple"), none, (.seq #[(.str (.ofString "sums") 2326), (.str (.ofString "share") 2327), (.str (.ofString "light") 2328), (.str (.ofString "told") 2329), (.str (.ofString "x") 2330), (.str (.ofString "r") 2331), (.str (.ofString "g") 2332), (.str (.ofString "b") 2333), (.str (.ofString "place") 2334)] 0), #[]⟩
noncomputable def o153 (P : Params) : Obj := ⟨(.type "tuple"), none, (.seq #[] 0), #[]⟩
noncomputable def o155 (P : Params) : Obj := ⟨(.type "code"), none, (.fields #[(.str (.ofString "_law_told") 2323), (.str (.ofString "_law_told") 2324), (.str (.ofString "/claim/cut.py") 2325), (.int 97 0), (.int 3 0), (.int 0 0), (.int 0 0), (.int 3 0), (.ref 150), (.bool true), (.int 181 0), (.ref 151), .none, (.ref 152), (.ref 153), (.ref 154), (.int 2335 0), (.int 97 0), (.str (.ofString "/claim/cut.py") 2336)]), #[]⟩
noncomputable def fo156 : FnAt (.ofString "_law_told") (.str (.ofString "law_to0040_01") 2285) (.ref 155) .none := ⟨⟨_, _, _, _, _, _, _, _, _, _, _, _, _, _, _⟩, by with_unfolding_all rfl⟩
noncomputable def o156 (P : Params) : Obj := ⟨(.type "function"), none, (.func fo156.1), #[]⟩
noncomputable def o157 (P : Params) : Obj := ⟨(.type "tuple"), none, (.seq #[] 0), #[]⟩
noncomputable def o158 (P : Params) : Obj := ⟨.none, none, (.fields #[]), #[]⟩
noncomputable def o159 (P : Params) : Obj := ⟨(.type "tuple"), none, (.seq #[(.str (.ofString "row") 2341), (.str (.ofString "told") 2342), (.str (.ofString "mask") 2343), (.str (.ofString "best") 2344), (.str (.ofString "crest") 2345), (.str (.ofString "j") 2346)] 0), #[]⟩
noncomputable def o160 (P : Params) : Obj := ⟨(.type "tuple"), none, (.seq #[] 0), #[]⟩
noncomputable def o162 (P : Params) : Obj := ⟨(.type "code"), none, (.fields #[(.str (.ofString "_law_crest") 2338), (.str (.ofString "_law_crest") 2339), (.str (.ofString "/claim/cut.py") 2340), (.int 104 0), (.int 2 0), (.int 0 0), (.int 0 0), (.int 3 0), (.ref 157), (.bool true), (.int 181 0), (.ref 158), .none, (.ref 159), (.ref 160), (.ref 161), (.int 2347 0), (.int 104 0), (.str (.ofString "/claim/cut.py") 2348)]), #[]⟩
noncomputable def fo163 : FnAt (.ofString "_law_crest") (.str (.ofString "law_to0040_01") 2285) (.ref 162) .none := ⟨⟨_, _, _, _, _, _, _, _, _, _, _, _, _, _, _⟩, by with_unfolding_all rfl⟩
noncomputable def o163 (P : Params) : Obj := ⟨(.type "function"), none, (.func fo163.1), #[]⟩
noncomputable def o164 (P : Params) : Obj := ⟨(.type "tuple"), none, (.seq #[] 0), #[]⟩
noncomputable def o165 (P : Params) : Obj := ⟨.none, none, (.fields #[]), #[]⟩
noncomputable def o167 (P : Params) : Obj := ⟨(.type "code"), none, (.fields #[(.str (.ofString "_law_every_row") 2350), (.str (.ofString "_law_every_row") 2351), (.str (.ofString "/claim/cut.py") 2352), (.int 114 0), (.int 1 0), (.int 0 0), (.int 0 0), (.int 3 0), (.ref 164), (.bool true), (.int 181 0), (.ref 165), .none, .none, .none, (.ref 166), (.int 2353 0), (.int 114 0), (.str (.ofString "/claim/cut.py") 2354)]), #[]⟩
noncomputable def fo168 : FnAt (.ofString "_law_every_row") (.str (.ofString "law_to0040_01") 2285) (.ref 167) .none := ⟨⟨_, _, _, _, _, _, _, _, _, _, _, _, _, _, _⟩, by with_unfolding_all rfl⟩
noncomputable def o168 (P : Params) : Obj := ⟨(.type "function"), none, (.func fo168.1), #[]⟩
noncomputable def o169 (P : Params) : Obj := ⟨(.type "tuple"), none, (.seq #[] 0), #[]⟩
noncomputable def o170 (P : Params) : Obj := ⟨.none, none, (.fields #[]), #[]⟩
noncomputable def o172 (P : Params) : Obj := ⟨(.type "code"), none, (.fields #[(.str (.ofString "law") 2356), (.str (.ofString "law") 2357), (.str (.ofString "/claim/cut.py") 2358), (.int 132 0), (.int 1 0), (.int 0 0), (.int 0 0), (.int 3 0), (.ref 169), (.bool true), (.int 181 0), (.ref 170), .none, .none, .none, (.ref 171), (.int 2359 0), (.int 132 0), (.str (.ofString "/claim/cut.py") 2360)]), #[]⟩
noncomputable def fo173 : FnAt (.ofString "law") (.str (.ofString "law_to0040_01") 2285) (.ref 172) .none := ⟨⟨_, _, _, _, _, _, _, _, _, _, _, _, _, _, _⟩, by with_unfolding_all rfl⟩
noncomputable def o173 (P : Params) : Obj := ⟨(.type "function"), none, (.func fo173.1), #[]⟩

noncomputable def o19 (P : Params) : Obj := tmplOf (o21 P)
noncomputable def o26 (P : Params) : Obj := tmplOf (o28 P)
noncomputable def o33 (P : Params) : Obj := tmplOf (o35 P)
noncomputable def o40 (P : Params) : Obj := tmplOf (o42 P)
noncomputable def o47 (P : Params) : Obj := tmplOf (o49 P)
noncomputable def o54 (P : Params) : Obj := tmplOf (o56 P)
noncomputable def o72 (P : Params) : Obj := tmplOf (o74 P)
noncomputable def o118 (P : Params) : Obj := tmplOf (o120 P)
noncomputable def o123 (P : Params) : Obj := tmplOf (o125 P)
noncomputable def o130 (P : Params) : Obj := tmplOf (o132 P)
noncomputable def o137 (P : Params) : Obj := tmplOf (o139 P)
noncomputable def o142 (P : Params) : Obj := tmplOf (o144 P)
noncomputable def o147 (P : Params) : Obj := tmplOf (o149 P)
noncomputable def o154 (P : Params) : Obj := tmplOf (o156 P)
noncomputable def o161 (P : Params) : Obj := tmplOf (o163 P)
noncomputable def o166 (P : Params) : Obj := tmplOf (o168 P)
noncomputable def o171 (P : Params) : Obj := tmplOf (o173 P)
noncomputable def tz (P : Params) : BT := (.node (boot_o_0 P) (.node (boot_o_1 P) (.node (boot_o_3 P) (.node (boot_o_7 P) .nil .nil) .nil) (.node (boot_o_5 P) (.node (boot_o_9 P) .nil .nil) .nil)) (.node (boot_o_2 P) (.node (boot_o_4 P) (.node (boot_o_8 P) .nil .nil) .nil) (.node (boot_o_6 P) (.node (boot_o_10 P) .nil .nil) .nil)))
noncomputable def tb (P : Params) : BT := (.node (boot_o_0 P) (.node (boot_o_1 P) (.node (boot_o_3 P) (.node (boot_o_7 P) .nil .nil) (.node (o11 P) .nil .nil)) (.node (boot_o_5 P) (.node (boot_o_9 P) .nil .nil) (.node (o13 P) .nil .nil))) (.node (boot_o_2 P) (.node (boot_o_4 P) (.node (boot_o_8 P) .nil .nil) (.node (o12 P) .nil .nil)) (.node (boot_o_6 P) (.node (boot_o_10 P) .nil .nil) (.node (o14 P) .nil .nil))))
noncomputable def tm (P : Params) : BT := (.node (boot_o_0 P) (.node (boot_o_1 P) (.node (boot_o_3 P) (.node (boot_o_7 P) .nil .nil) (.node (o11 P) .nil .nil)) (.node (boot_o_5 P) (.node (boot_o_9 P) .nil .nil) (.node (o13 P) .nil .nil))) (.node (boot_o_2 P) (.node (boot_o_4 P) (.node (boot_o_8 P) .nil .nil) (.node (o12 P) .nil .nil)) (.node (boot_o_6 P) (.node (boot_o_10 P) .nil .nil) .nil)))
noncomputable def tA (P : Params) : BT := (.node (boot_o_0 P) (.node (boot_o_1 P) (.node (o3 P) (.node (boot_o_7 P) (.node (o15 P) (.node (o31 P) .nil .nil) (.node (o47 P) .nil .nil)) (.node (o23 P) (.node (o39 P) .nil .nil) (.node (o55 P) .nil .nil))) (.node (o11 P) (.node (o19 P) (.node (o35 P) .nil .nil) (.node (o51 P) .nil .nil)) (.node (o27 P) (.node (o43 P) .nil .nil) .nil))) (.node (boot_o_5 P) (.node (boot_o_9 P) (.node (o17 P) (.node (o33 P) .nil .nil) (.node (o49 P) .nil .nil)) (.node (o25 P) (.node (o41 P) .nil .nil) .nil)) (.node (o13 P) (.node (o21 P) (.node (o37 P) .nil .nil) (.node (o53 P) .nil .nil)) (.node (o29 P) (.node (o45 P) .nil .nil) .nil)))) (.node (boot_o_2 P) (.node (boot_o_4 P) (.node (boot_o_8 P) (.node (o16 P) (.node (o32 P) .nil .nil) (.node (o48 P) .nil .nil)) (.node (o24 P) (.node (o40 P) .nil .nil) (.node (o56 P) .nil .nil))) (.node (o12v1 P) (.node (o20 P) (.node (o36 P) .nil .nil) (.node (o52 P) .nil .nil)) (.node (o28 P) (.node (o44 P) .nil .nil) .nil))) (.node (boot_o_6 P) (.node (boot_o_10 P) (.node (o18 P) (.node (o34 P) .nil .nil) (.node (o50 P) .nil .nil)) (.node (o26 P) (.node (o42 P) .nil .nil) .nil)) (.node (o14 P) (.node (o22 P) (.node (o38 P) .nil .nil) (.node (o54 P) .nil .nil)) (.node (o30 P) (.node (o46 P) .nil .nil) .nil)))))
noncomputable def tB (P : Params) : BT := (.node (boot_o_0 P) (.node (boot_o_1 P) (.node (o3v1 P) (.node (boot_o_7 P) (.node (o15 P) (.node (o31 P) (.node (o63 P) .nil .nil) .nil) (.node (o47 P) .nil .nil)) (.node (o23 P) (.node (o39 P) .nil .nil) (.node (o55 P) .nil .nil))) (.node (o11 P) (.node (o19 P) (.node (o35 P) (.node (o67 P) .nil .nil) .nil) (.node (o51 P) .nil .nil)) (.node (o27 P) (.node (o43 P) .nil .nil) (.node (o59 P) .nil .nil)))) (.node (boot_o_5 P) (.node (boot_o_9 P) (.node (o17 P) (.node (o33 P) (.node (o65 P) .nil .nil) .nil) (.node (o49 P) .nil .nil)) (.node (o25 P) (.node (o41 P) .nil .nil) (.node (o57 P) .nil .nil))) (.node (o13 P) (.node (o21 P) (.node (o37 P) .nil .nil) (.node (o53 P) .nil .nil)) (.node (o29 P) (.node (o45 P) .nil .nil) (.node (o61 P) .nil .nil))))) (.node (boot_o_2 P) (.node (boot_o_4 P) (.node (boot_o_8 P) (.node (o16 P) (.node (o32 P) (.node (o64 P) .nil .nil) .nil) (.node (o48 P) .nil .nil)) (.node (o24 P) (.node (o40 P) .nil .nil) (.node (o56 P) .nil .nil))) (.node (o12v1 P) (.node (o20 P) (.node (o36 P) .nil .nil) (.node (o52 P) .nil .nil)) (.node (o28 P) (.node (o44 P) .nil .nil) (.node (o60 P) .nil .nil)))) (.node (boot_o_6 P) (.node (boot_o_10 P) (.node (o18 P) (.node (o34 P) (.node (o66 P) .nil .nil) .nil) (.node (o50 P) .nil .nil)) (.node (o26 P) (.node (o42 P) .nil .nil) (.node (o58 P) .nil .nil))) (.node (o14 P) (.node (o22 P) (.node (o38 P) .nil .nil) (.node (o54 P) .nil .nil)) (.node (o30 P) (.node (o46 P) .nil .nil) (.node (o62 P) .nil .nil))))))
noncomputable def tC (P : Params) : BT := (.node (boot_o_0 P) (.node (boot_o_1 P) (.node (o3v2 P) (.node (boot_o_7 P) (.node (o15 P) (.node (o31 P) (.node (o63 P) .nil .nil) .nil) (.node (o47 P) .nil .nil)) (.node (o23 P) (.node (o39 P) (.node (o71 P) .nil .nil) .nil) (.node (o55 P) .nil .nil))) (.node (o11 P) (.node (o19 P) (.node (o35 P) (.node (o67 P) .nil .nil) .nil) (.node (o51 P) .nil .nil)) (.node (o27 P) (.node (o43 P) .nil .nil) (.node (o59 P) .nil .nil)))) (.node (boot_o_5 P) (.node (boot_o_9 P) (.node (o17 P) (.node (o33 P) (.node (o65 P) .nil .nil) .nil) (.node (o49 P) .nil .nil)) (.node (o25 P) (.node (o41 P) (.node (o73 P) .nil .nil) .nil) (.node (o57 P) .nil .nil))) (.node (o13 P) (.node (o21 P) (.node (o37 P) (.node (o69 P) .nil .nil) .nil) (.node (o53 P) .nil .nil)) (.node (o29 P) (.node (o45 P) .nil .nil) (.node (o61 P) .nil .nil))))) (.node (boot_o_2 P) (.node (boot_o_4 P) (.node (boot_o_8 P) (.node (o16 P) (.node (o32 P) (.node (o64 P) .nil .nil) .nil) (.node (o48 P) .nil .nil)) (.node (o24 P) (.node (o40 P) (.node (o72 P) .nil .nil) .nil) (.node (o56 P) .nil .nil))) (.node (o12v2 P) (.node (o20 P) (.node (o36 P) (.node (o68 P) .nil .nil) .nil) (.node (o52 P) .nil .nil)) (.node (o28 P) (.node (o44 P) .nil .nil) (.node (o60 P) .nil .nil)))) (.node (boot_o_6 P) (.node (boot_o_10 P) (.node (o18 P) (.node (o34 P) (.node (o66 P) .nil .nil) .nil) (.node (o50 P) .nil .nil)) (.node (o26 P) (.node (o42 P) (.node (o74 P) .nil .nil) .nil) (.node (o58 P) .nil .nil))) (.node (o14 P) (.node (o22 P) (.node (o38 P) (.node (o70 P) .nil .nil) .nil) (.node (o54 P) .nil .nil)) (.node (o30 P) (.node (o46 P) .nil .nil) (.node (o62 P) .nil .nil))))))
noncomputable def tC0 (P : Params) (X : Nat → Obj) : BT := (.node (boot_o_0 P) (.node (boot_o_1 P) (.node (o3v2 P) (.node (boot_o_7 P) (.node (o15 P) (.node (o31 P) (.node (o63 P) .nil .nil) (.node (X 20) .nil .nil)) (.node (o47 P) (.node (X 4) .nil .nil) (.node (X 36) .nil .nil))) (.node (o23 P) (.node (o39 P) (.node (o71 P) .nil .nil) (.node (X 28) .nil .nil)) (.node (o55 P) (.node (X 12) .nil .nil) .nil))) (.node (o11 P) (.node (o19 P) (.node (o35 P) (.node (o67 P) .nil .nil) (.node (X 24) .nil .nil)) (.node (o51 P) (.node (X 8) .nil .nil) .nil)) (.node (o27 P) (.node (o43 P) (.node (X 0) .nil .nil) (.node (X 32) .nil .nil)) (.node (o59 P) (.node (X 16) .nil .nil) .nil)))) (.node (boot_o_5 P) (.node (boot_o_9 P) (.node (o17 P) (.node (o33 P) (.node (o65 P) .nil .nil) (.node (X 22) .nil .nil)) (.node (o49 P) (.node (X 6) .nil .nil) (.node (X 38) .nil .nil))) (.node (o25 P) (.node (o41 P) (.node (o73 P) .nil .nil) (.node (X 30) .nil .nil)) (.node (o57 P) (.node (X 14) .nil .nil) .nil))) (.node (o13 P) (.node (o21 P) (.node (o37 P) (.node (o69 P) .nil .nil) (.node (X 26) .nil .nil)) (.node (o53 P) (.node (X 10) .nil .nil) .nil)) (.node (o29 P) (.node (o45 P) (.node (X 2) .nil .nil) (.node (X 34) .nil .nil)) (.node (o61 P) (.node (X 18) .nil .nil) .nil))))) (.node (boot_o_2 P) (.node (boot_o_4 P) (.node (boot_o_8 P) (.node (o16 P) (.node (o32 P) (.node (o64 P) .nil .nil) (.node (X 21) .nil .nil)) (.node (o48 P) (.node (X 5) .nil .nil) (.node (X 37) .nil .nil))) (.node (o24 P) (.node (o40 P) (.node (o72 P) .nil .nil) (.node (X 29) .nil .nil)) (.node (o56 P) (.node (X 13) .nil .nil) .nil))) (.node (o12v2 P) (.node (o20 P) (.node (o36 P) (.node (o68 P) .nil .nil) (.node (X 25) .nil .nil)) (.node (o52 P) (.node (X 9) .nil .nil) .nil)) (.node (o28 P) (.node (o44 P) (.node (X 1) .nil .nil) (.node (X 33) .nil .nil)) (.node (o60 P) (.node (X 17) .nil .nil) .nil)))) (.node (boot_o_6 P) (.node (boot_o_10 P) (.node (o18 P) (.node (o34 P) (.node (o66 P) .nil .nil) (.node (X 23) .nil .nil)) (.node (o50 P) (.node (X 7) .nil .nil) .nil)) (.node (o26 P) (.node (o42 P) (.node (o74 P) .nil .nil) (.node (X 31) .nil .nil)) (.node (o58 P) (.node (X 15) .nil .nil) .nil))) (.node (o14 P) (.node (o22 P) (.node (o38 P) (.node (o70 P) .nil .nil) (.node (X 27) .nil .nil)) (.node (o54 P) (.node (X 11) .nil .nil) .nil)) (.node (o30 P) (.node (o46 P) (.node (X 3) .nil .nil) (.node (X 35) .nil .nil)) (.node (o62 P) (.node (X 19) .nil .nil) .nil))))))
noncomputable def tD (P : Params) (X : Nat → Obj) : BT := (.node (boot_o_0 P) (.node (boot_o_1 P) (.node (o3v3 P) (.node (boot_o_7 P) (.node (o15 P) (.node (o31 P) (.node (o63 P) .nil .nil) (.node (X 20) .nil .nil)) (.node (o47 P) (.node (X 4) .nil .nil) (.node (X 36) .nil .nil))) (.node (o23 P) (.node (o39 P) (.node (o71 P) .nil .nil) (.node (X 28) .nil .nil)) (.node (o55 P) (.node (X 12) .nil .nil) .nil))) (.node (o11 P) (.node (o19 P) (.node (o35 P) (.node (o67 P) .nil .nil) (.node (X 24) .nil .nil)) (.node (o51 P) (.node (X 8) .nil .nil) .nil)) (.node (o27 P) (.node (o43 P) (.node (X 0) .nil .nil) (.node (X 32) .nil .nil)) (.node (o59 P) (.node (X 16) .nil .nil) .nil)))) (.node (boot_o_5 P) (.node (boot_o_9 P) (.node (o17 P) (.node (o33 P) (.node (o65 P) .nil .nil) (.node (X 22) .nil .nil)) (.node (o49 P) (.node (X 6) .nil .nil) (.node (X 38) .nil .nil))) (.node (o25 P) (.node (o41 P) (.node (o73 P) .nil .nil) (.node (X 30) .nil .nil)) (.node (o57 P) (.node (X 14) .nil .nil) .nil))) (.node (o13 P) (.node (o21 P) (.node (o37 P) (.node (o69 P) .nil .nil) (.node (X 26) .nil .nil)) (.node (o53 P) (.node (X 10) .nil .nil) .nil)) (.node (o29 P) (.node (o45 P) (.node (X 2) .nil .nil) (.node (X 34) .nil .nil)) (.node (o61 P) (.node (X 18) .nil .nil) .nil))))) (.node (boot_o_2 P) (.node (boot_o_4 P) (.node (boot_o_8 P) (.node (o16 P) (.node (o32 P) (.node (o64 P) .nil .nil) (.node (X 21) .nil .nil)) (.node (o48 P) (.node (X 5) .nil .nil) (.node (X 37) .nil .nil))) (.node (o24 P) (.node (o40 P) (.node (o72 P) .nil .nil) (.node (X 29) .nil .nil)) (.node (o56 P) (.node (X 13) .nil .nil) .nil))) (.node (o12v2 P) (.node (o20 P) (.node (o36 P) (.node (o68 P) .nil .nil) (.node (X 25) .nil .nil)) (.node (o52 P) (.node (X 9) .nil .nil) .nil)) (.node (o28 P) (.node (o44 P) (.node (X 1) .nil .nil) (.node (X 33) .nil .nil)) (.node (o60 P) (.node (X 17) .nil .nil) .nil)))) (.node (boot_o_6 P) (.node (boot_o_10 P) (.node (o18 P) (.node (o34 P) (.node (o66 P) .nil .nil) (.node (X 23) .nil .nil)) (.node (o50 P) (.node (X 7) .nil .nil) .nil)) (.node (o26 P) (.node (o42 P) (.node (o74 P) .nil .nil) (.node (X 31) .nil .nil)) (.node (o58 P) (.node (X 15) .nil .nil) .nil))) (.node (o14 P) (.node (o22 P) (.node (o38 P) (.node (o70 P) .nil .nil) (.node (X 27) .nil .nil)) (.node (o54 P) (.node (X 11) .nil .nil) .nil)) (.node (o30 P) (.node (o46 P) (.node (X 3) .nil .nil) (.node (X 35) .nil .nil)) (.node (o62 P) (.node (X 19) .nil .nil) .nil))))))
noncomputable def tF (P : Params) (X : Nat → Obj) : BT := (.node (boot_o_0 P) (.node (boot_o_1 P) (.node (o3v4 P) (.node (boot_o_7 P) (.node (o15 P) (.node (o31 P) (.node (o63 P) (.node (o127 P) .nil .nil) .nil) (.node (X 20) (.node (o159 P) .nil .nil) .nil)) (.node (o47 P) (.node (X 4) (.node (o143 P) .nil .nil) .nil) (.node (X 36) .nil .nil))) (.node (o23 P) (.node (o39 P) (.node (o71 P) (.node (o135 P) .nil .nil) .nil) (.node (X 28) (.node (o167 P) .nil .nil) .nil)) (.node (o55 P) (.node (X 12) (.node (o151 P) .nil .nil) .nil) (.node (o119 P) .nil .nil)))) (.node (o11 P) (.node (o19 P) (.node (o35 P) (.node (o67 P) (.node (o131 P) .nil .nil) .nil) (.node (X 24) (.node (o163 P) .nil .nil) .nil)) (.node (o51 P) (.node (X 8) (.node (o147 P) .nil .nil) .nil) (.node (o115 P) .nil .nil))) (.node (o27 P) (.node (o43 P) (.node (X 0) (.node (o139 P) .nil .nil) .nil) (.node (X 32) (.node (o171 P) .nil .nil) .nil)) (.node (o59 P) (.node (X 16) (.node (o155 P) .nil .nil) .nil) (.node (o123 P) .nil .nil))))) (.node (boot_o_5 P) (.node (boot_o_9 P) (.node (o17 P) (.node (o33 P) (.node (o65 P) (.node (o129 P) .nil .nil) .nil) (.node (X 22) (.node (o161 P) .nil .nil) .nil)) (.node (o49 P) (.node (X 6) (.node (o145 P) .nil .nil) .nil) (.node (X 38) .nil .nil))) (.node (o25 P) (.node (o41 P) (.node (o73 P) (.node (o137 P) .nil .nil) .nil) (.node (X 30) (.node (o169 P) .nil .nil) .nil)) (.node (o57 P) (.node (X 14) (.node (o153 P) .nil .nil) .nil) (.node (o121 P) .nil .nil)))) (.node (o13 P) (.node (o21 P) (.node (o37 P) (.node (o69 P) (.node (o133 P) .nil .nil) .nil) (.node (X 26) (.node (o165 P) .nil .nil) .nil)) (.node (o53 P) (.node (X 10) (.node (o149 P) .nil .nil) .nil) (.node (o117 P) .nil .nil))) (.node (o29 P) (.node (o45 P) (.node (X 2) (.node (o141 P) .nil .nil) .nil) (.node (X 34) (.node (o173 P) .nil .nil) .nil)) (.node (o61 P) (.node (X 18) (.node (o157 P) .nil .nil) .nil) (.node (o125 P) .nil .nil)))))) (.node (boot_o_2 P) (.node (boot_o_4 P) (.node (boot_o_8 P) (.node (o16 P) (.node (o32 P) (.node (o64 P) (.node (o128 P) .nil .nil) .nil) (.node (X 21) (.node (o160 P) .nil .nil) .nil)) (.node (o48 P) (.node (X 5) (.node (o144 P) .nil .nil) .nil) (.node (X 37) .nil .nil))) (.node (o24 P) (.node (o40 P) (.node (o72 P) (.node (o136 P) .nil .nil) .nil) (.node (X 29) (.node (o168 P) .nil .nil) .nil)) (.node (o56 P) (.node (X 13) (.node (o152 P) .nil .nil) .nil) (.node (o120 P) .nil .nil)))) (.node (o12v3 P) (.node (o20 P) (.node (o36 P) (.node (o68 P) (.node (o132 P) .nil .nil) .nil) (.node (X 25) (.node (o164 P) .nil .nil) .nil)) (.node (o52 P) (.node (X 9) (.node (o148 P) .nil .nil) .nil) (.node (o116 P) .nil .nil))) (.node (o28 P) (.node (o44 P) (.node (X 1) (.node (o140 P) .nil .nil) .nil) (.node (X 33) (.node (o172 P) .nil .nil) .nil)) (.node (o60 P) (.node (X 17) (.node (o156 P) .nil .nil) .nil) (.node (o124 P) .nil .nil))))) (.node (boot_o_6 P) (.node (boot_o_10 P) (.node (o18 P) (.node (o34 P) (.node (o66 P) (.node (o130 P) .nil .nil) .nil) (.node (X 23) (.node (o162 P) .nil .nil) .nil)) (.node (o50 P) (.node (X 7) (.node (o146 P) .nil .nil) .nil) (.node (o114 P) .nil .nil))) (.node (o26 P) (.node (o42 P) (.node (o74 P) (.node (o138 P) .nil .nil) .nil) (.node (X 31) (.node (o170 P) .nil .nil) .nil)) (.node (o58 P) (.node (X 15) (.node (o154 P) .nil .nil) .nil) (.node (o122 P) .nil .nil)))) (.node (o14 P) (.node (o22 P) (.node (o38 P) (.node (o70 P) (.node (o134 P) .nil .nil) .nil) (.node (X 27) (.node (o166 P) .nil .nil) .nil)) (.node (o54 P) (.node (X 11) (.node (o150 P) .nil .nil) .nil) (.node (o118 P) .nil .nil))) (.node (o30 P) (.node (o46 P) (.node (X 3) (.node (o142 P) .nil .nil) .nil) (.node (X 35) .nil .nil)) (.node (o62 P) (.node (X 19) (.node (o158 P) .nil .nil) .nil) (.node (o126 P) .nil .nil)))))))

noncomputable def theLife : Life := ⟨[], [], [], 0, [], [], false, #[], [], 0, false, false, false, 0, [2000, 10, 10], false, 0, true, [], [], 0, false⟩
noncomputable def st (t : BT) (n toks : Nat) (os : OsState) : SharedT := ⟨t, n, theLife, Array.mk [], boot_drawn, toks, os⟩
noncomputable def theBody : List Stmt := behindTheImports theProg
noncomputable def theEnv : Env := { scope := theProg.main.scope, locals := mainNs, globals := mainNs, cells := [], code := .ref 13, frame := some 14 }
noncomputable def theCode : Code := .body theBody theEnv
def annV : Option Value := some (.ref 6)
end Mine

end
section -- part Head6
open PySem PySem.W PyProof.Rows PySem.Calls
set_option Elab.async false
set_option maxRecDepth 100000
set_option linter.unusedVariables false
namespace Mine
noncomputable abbrev segQ := PySem.W.Fast.tw10110043849684766642
noncomputable abbrev tabQ := PySem.W.Fast.tw14364793385576792824
theorem segQ_eq : @segRunT = @segQ := PySem.W.Fast.te10110043849684766642
theorem tabQ_eq : treeTable = tabQ := PySem.W.Fast.te14364793385576792824

/-- what a segment gives, without its place -/
def outOf (r : Option (Flow × SharedT × Code × Pos)) : Option (Flow × SharedT) := r.map fun x => (x.1, x.2.1)
abbrev callerC : Code := .builtin "claim.caller" {}
/-- a piece of a def's or the top's own code as the machine's thread -/
abbrev piece {α : Type} (x : Sem α) (res : α → Flow) (c : Code) (pos q : Pos) : Thread := ⟨x.wrap (fun a => .pure (.done (res a))) deadEnd id id, c, pos, [keepFrame q]⟩
theorem segM (w : World) (os : OsState) (pos : Pos) : outOf (segQ tabQ theProg w 11 annV 0 30 (st (tz w.params) 11 181 os) ⟨(moduleCode theProg.main).wrap (fun a => .pure (.done (.ret a))) deadEnd id id, callerC, pos, []⟩) = some (.ret (.ref 13), st (tm w.params) 14 187 os) := by kernel_rfl
theorem segN (w : World) (os : OsState) (pos : Pos) : outOf (segQ tabQ theProg w 11 annV 0 30 (st (tm w.params) 14 187 os) ⟨(newBodyFrame (.ref 13) mainNs mainNs).wrap (fun a => .pure (.done (.ret (.ref a)))) deadEnd id id, callerC, pos, []⟩) = some (.ret (.ref 14), st (tb w.params) 15 187 os) := by kernel_rfl
theorem segK (w : World) (os : OsState) (pos q : Pos) : outOf (segQ tabQ theProg w 11 annV 1 30 (st (tb w.params) 15 187 os) (piece (blockStart theBody theEnv) (fun _ => Flow.next) theCode pos q)) = some (.next, st (tb w.params) 15 187 os) := by kernel_rfl
theorem segA (w : World) (os : OsState) (pos q : Pos) : outOf (segQ tabQ theProg w 11 annV 1 300 (st (tb w.params) 15 187 os) (piece (execs (theBody.take 9) theEnv) id theCode pos q)) = some (.next, st (tA w.params) 57 259 os) := by kernel_rfl
abbrev SegB (a b : Bool) (w : World) (os : OsState) (pos q : Pos) : Prop := outOf (segQ tabQ theProg ((w.withFollow "set-order" a).withFollow "special-get-raises" b) 11 annV 1 1100 (st (tA w.params) 57 259 os) (piece (exec (theBody.getD 9 default) theEnv) id theCode pos q)) = some (.next, st (tB ((w.withFollow "set-order" a).withFollow "special-get-raises" b).params) 68 319 os)
theorem segB_tt (w : World) (os : OsState) (pos q : Pos) : SegB true true w os pos q := by unfold SegB; kernel_rfl
theorem segB_tf (w : World) (os : OsState) (pos q : Pos) : SegB true false w os pos q := by unfold SegB; kernel_rfl
theorem segB_ft (w : World) (os : OsState) (pos q : Pos) : SegB false true w os pos q := by unfold SegB; kernel_rfl
theorem segB_ff (w : World) (os : OsState) (pos q : Pos) : SegB false false w os pos q := by unfold SegB; kernel_rfl
theorem segB4 : ∀ (a b : Bool) (w : World) (os : OsState) (pos q : Pos), SegB a b w os pos q
  | true, true => segB_tt
  | true, false => segB_tf
  | false, true => segB_ft
  | false, false => segB_ff
theorem segB (w : World) (os : OsState) (pos q : Pos) : outOf (segQ tabQ theProg w 11 annV 1 1100 (st (tA w.params) 57 259 os) (piece (exec (theBody.getD 9 default) theEnv) id theCode pos q)) = some (.next, st (tB w.params) 68 319 os) := by
  have h := segB4 (w.params.followText "set-order") ((w.withFollow "set-order" (w.params.followText "set-order")).params.followText "special-get-raises") w os pos q
  unfold SegB at h
  rw [World.withFollow_self, World.withFollow_self] at h
  exact h
theorem segC (w : World) (os : OsState) (pos q : Pos) : outOf (segQ tabQ theProg w 11 annV 1 60 (st (tB w.params) 68 319 os) (piece (exec (theBody.getD 10 default) theEnv) id theCode pos q)) = some (.next, st (tC w.params) 75 326 os) := by kernel_rfl
theorem segD (w : World) (os : OsState) (X : Nat → Obj) (pos q : Pos) : outOf (segQ tabQ theProg w 11 annV 1 60 (st (tC0 w.params X) 114 2276 os) (piece (storeName theEnv (.ofString "b3_exceptions") (.ref 75)) (fun _ => .next) theCode pos q)) = some (.next, st (tD w.params X) 114 2277 os) := by kernel_rfl
theorem segF (w : World) (os : OsState) (X : Nat → Obj) (pos q : Pos) : outOf (segQ tabQ theProg w 11 annV 1 600 (st (tD w.params X) 114 2277 os) (piece (execs (theBody.drop 12) theEnv) id theCode pos q)) = some (.next, st (tF w.params X) 174 2362 os) := by kernel_rfl
end Mine

end
section -- part Head7
open PySem PySem.W PyProof.Rows PySem.Calls
set_option Elab.async false
set_option maxRecDepth 100000
set_option linter.unusedVariables false
namespace Mine

theorem outOf_some {n : Nat} {p : Program} {w : World} {n₀ : Nat} {ann : Option Value} {b : Nat} {s s' : SharedT} {t : Thread} {f : Flow} (h : outOf (segQ tabQ p w n₀ ann b n s t) = some (f, s')) :
    ∃ c q, segRun table p w n₀ ann b n s.abs t = some (f, s'.abs, c, q) := by
  rw [← segQ_eq, ← tabQ_eq, ← table_eq_tree] at h
  unfold outOf at h
  obtain ⟨⟨f', s₁, c, q⟩, e, e'⟩ := Option.map_eq_some_iff.mp h
  obtain ⟨rfl, rfl⟩ := Prod.mk.inj e'
  exact ⟨c, q, segRun_of e⟩

open Classical in
/-- the same with no frame below -/
theorem seg_wp0 {α : Type} {p : Program} {w : World} {n₀ : Nat} {ann : Option Value} {n : Nat} {s s' : Shared} {x : Sem α} {res : α → Flow} {c c' : Code} {pos p' : Pos} {f : Flow}
    (h : segRun table p w n₀ ann 0 n s ⟨x.wrap (fun a => .pure (.done (res a))) deadEnd id id, c, pos, []⟩ = some (f, s', c', p')) (hg : s'.gens = #[]) :
    Sem.wp (model p w) (Ctx.of c []) x (fun a _ s'' => res a = f ∧ s'' = s') (fun _ _ _ => False) pos s := by
  let K' : α → Sem Fin := fun a => if res a = f then .pure (.done f) else .unsupported "no"
  obtain ⟨a, ha, hN⟩ := seg_top (res := res) (gd := id) (lv := id) (B := []) (K' := K') (H' := .raise) rfl n s ⟨x.wrap (fun a => .pure (.done (res a))) deadEnd id id, c, pos, []⟩ ⟨x.wrap K' .raise id id, c, pos, []⟩ f s' c' p' ⟨rfl, rfl, .inl ⟨rfl, rfl, x, rfl, rfl⟩⟩ h
  have hK : K' a = .pure (.done f) := if_pos ha
  have h2 : topRun table p w n₀ ann 1 s' ⟨K' a, c', p', []⟩ = some s' := by rw [hK]; rfl
  obtain ⟨f', hr⟩ := topRun_halts (hN 1 s' h2) hg
  have hw := (Sem.wp_iff_runs (model p w) (Ctx.of c []) _ (fun r s'' => (∃ f, r = .ok f) ∧ s'' = s') pos s).mpr ⟨_, _, hr, ⟨_, rfl⟩, rfl⟩
  rw [← Sem.bind_eq_wrap, Sem.wp_bind] at hw
  refine Sem.wp_mono _ _ _ (fun a' p'' s'' hq => ?_) (fun _ _ _ hq => ?_) _ _ hw
  · by_cases hf : res a' = f
    · have hK2 : K' a' = .pure (.done f) := if_pos hf
      rw [hK2] at hq
      exact ⟨hf, hq.2⟩
    · have hK2 : K' a' = .unsupported "no" := if_neg hf
      rw [hK2, Sem.wp_unsupported] at hq
      exact hq.elim
  · obtain ⟨⟨_, hh⟩, _⟩ := hq
    cases hh

section
variable {w : World} {os : OsState} {pos q : Pos} {α : Type}
theorem piece_wp {n : Nat} {s s' : SharedT} {x : Sem α} {res : α → Flow} {c : Code} {f : Flow} (h : outOf (segQ tabQ theProg w 11 annV 1 n s (piece x res c pos q)) = some (f, s')) (hg : s'.gens = #[]) :
    Sem.wp (model theProg w) (runCtx c q) x (fun a _ s'' => res a = f ∧ s'' = s'.abs) (fun _ _ _ => False) pos s.abs := by
  obtain ⟨c', q', e⟩ := outOf_some h
  exact seg_wp e hg
theorem piece_wp0 {n : Nat} {s s' : SharedT} {x : Sem α} {res : α → Flow} {c : Code} {f : Flow} (h : outOf (segQ tabQ theProg w 11 annV 0 n s ⟨x.wrap (fun a => .pure (.done (res a))) deadEnd id id, c, pos, []⟩) = some (f, s')) (hg : s'.gens = #[]) :
    Sem.wp (model theProg w) (Ctx.of c []) x (fun a _ s'' => res a = f ∧ s'' = s'.abs) (fun _ _ _ => False) pos s.abs := by
  obtain ⟨c', q', e⟩ := outOf_some h
  exact seg_wp0 e hg
end

theorem execs_append {env : Env} (l r : List Stmt) : execs (l ++ r) env = (execs l env).bind fun f => match f with | .next => execs r env | f => .pure f := by
  induction l with
  | nil => rfl
  | cons s l ih =>
    show (exec s env).bind _ = Sem.bind ((exec s env).bind _) _
    rw [Sem.bind_assoc]
    congr 1
    funext f
    cases f <;> first | exact ih | rfl

/-- the big table, as the top writes it -/
@[irreducible] noncomputable def bigStmt : Stmt := theBody.getD 11 default
def dictOfStmt : Stmt → List (Option PySem.Expr) × List PySem.Expr × Pos × Pos × Pos
  | .Assign [.Name _ p1] (.Dict ks vs p2) p3 => (ks, vs, p1, p2, p3)
  | _ => ([], [], default, default, default)
@[irreducible] noncomputable def bigKs := (dictOfStmt bigStmt).1
@[irreducible] noncomputable def bigVs := (dictOfStmt bigStmt).2.1
@[irreducible] noncomputable def bigTab : List (Int × Str) := (spell bigKs bigVs).getD []
theorem bigStmt_is : bigStmt = .Assign [.Name (.ofString "b3_exceptions") (dictOfStmt bigStmt).2.2.1] (.Dict bigKs bigVs (dictOfStmt bigStmt).2.2.2.1) (dictOfStmt bigStmt).2.2.2.2 := by kernel_rfl
theorem bigTab_is : spell bigKs bigVs = some bigTab := by kernel_rfl
theorem bigTab_len : bigTab.length = 650 := by kernel_rfl
def rising : List Int → Bool
  | a :: b :: r => decide (a < b) && rising (b :: r)
  | _ => true
theorem rising_lt : ∀ {l : List Int} {a : Int}, rising (a :: l) = true → ∀ x ∈ l, a < x
  | [], _, _, _, hx => nomatch hx
  | b :: r, a, h, x, hx => by
    obtain ⟨h1, h2⟩ := Bool.and_eq_true_iff.mp (show (decide (a < b) && rising (b :: r)) = true from h)
    have hab := of_decide_eq_true h1
    rcases List.mem_cons.mp hx with rfl | hx
    · exact hab
    · exact Int.lt_trans hab (rising_lt h2 x hx)
theorem rising_nodup : ∀ {l : List Int}, rising l = true → l.Nodup
  | [], _ => List.nodup_nil
  | a :: l, h => by
    refine List.nodup_cons.mpr ⟨fun hm => absurd (rising_lt h a hm) (Int.lt_irrefl a), rising_nodup ?_⟩
    cases l with
    | nil => rfl
    | cons b r => exact (Bool.and_eq_true_iff.mp (show (decide (a < b) && rising (b :: r)) = true from h)).2
theorem bigTab_nodup : (bigTab.map (·.1)).Nodup := rising_nodup (by kernel_rfl)

theorem tC0_list (P : Params) (X : Nat → Obj) : (tC0 P X).list 114 = (tC P).list 75 ++ (List.range 39).map X := by kernel_rfl

theorem arr_of {objs : Array Obj} {l r : List Obj} (hs : objs.size = l.length + r.length) (ha : ∀ i, i < l.length → objs[i]? = l[i]?) (hb : ∀ i, i < r.length → objs[l.length + i]? = r[i]?) : objs = (l ++ r).toArray := by
  obtain ⟨xs⟩ := objs
  congr 1
  apply List.ext_getElem?
  intro i
  by_cases h1 : i < l.length
  · rw [List.getElem?_append_left h1]
    simpa using ha i h1
  · rw [List.getElem?_append_right (by omega)]
    by_cases h2 : i - l.length < r.length
    · have := hb (i - l.length) h2
      rw [show l.length + (i - l.length) = i by omega] at this
      simpa using this
    · rw [List.getElem?_eq_none (l := r) (by omega), List.getElem?_eq_none]
      have : xs.length = l.length + r.length := by simpa using hs
      omega

/-- a heap that grew out of the state before the big table -/
theorem grown_is {P : Params} {h : Heap} (g : Grew (absHeap (tC P) 75 theLife) 39 h) : ∃ X, h = absHeap (tC0 P X) 114 theLife := by
  obtain ⟨gl, gs, go⟩ := g
  rw [absHeap_size] at gs go
  refine ⟨fun i => (h.objs[75 + i]?).getD default, ?_⟩
  obtain ⟨objs, life⟩ := h
  have hl : life = theLife := gl
  subst hl
  unfold absHeap
  rw [tC0_list]
  dsimp only at gs go ⊢
  have hlen : ((tC P).list 75).length = 75 := by simp [BT.list]
  rw [← arr_of (objs := objs) (by simp [hlen, gs]) (fun i hi => ?_) (fun i hi => ?_)]
  · rw [go i (by omega)]
    unfold absHeap
    simp
  · have hi' : i < 39 := by simpa using hi
    rw [hlen, List.getElem?_map, List.getElem?_range hi', Option.map_some]
    have : 75 + i < objs.size := by rw [gs]; omega
    rw [Array.getElem?_eq_getElem this]
    rfl

theorem big_any {w : World} {os : OsState} {pos q p1 p2 p3 : Pos} {ks : List (Option PySem.Expr)} {vs : List PySem.Expr} {tab : List (Int × Str)} (hs : spell ks vs = some tab) (hn : (tab.map (·.1)).Nodup) (hl : tab.length = 650) :
    Sem.wp (model theProg w) (runCtx theCode q) (exec (.Assign [.Name (.ofString "b3_exceptions") p1] (.Dict ks vs p2) p3) theEnv) (fun f _ s' => f = .next ∧ ∃ X, Tab (absHeap (tC0 w.params X) 114 theLife) 75 tab ∧ s' = (st (tD w.params X) 114 2277 os).abs) (fun _ _ _ => False) pos (st (tC w.params) 75 326 os).abs := by
  rw [exec_Assign_Name theEnv _ _ _ _ (by rfl)]
  simp only [Sem.wp_bind', Sem.wp_cmd_standAt, Sem.wp_bindName, Sem.wp_pure']
  have hΓ : (runCtx theCode q).In ((callerA.mark none).under theCode) := (Ctx.In.enter caller_in theCode none q (by intro h; cases h)).in
  have he : wpAny (model theProg w) ((callerA.mark none).under theCode) (eval (.Dict ks vs p2) theEnv)
      (fun v s' => v = .ref 75 ∧ ∃ X, Tab (absHeap (tC0 w.params X) 114 theLife) 75 tab ∧ s' = (st (tC0 w.params X) 114 2276 os).abs) (fun _ _ => False) (st (tC w.params) 75 326 os).abs := by
    have hsz : (st (tC w.params) 75 326 os).abs.heap.objs.size = 75 := absHeap_size _ _ _
    refine eval_display hs hn (by rw [hl]; decide) (by rw [hl]; decide) (by rw [hsz]; decide) fun h' g t => ?_
    rw [hsz] at t ⊢
    rw [hl] at g ⊢
    obtain ⟨X, rfl⟩ := grown_is g
    exact ⟨rfl, X, t, rfl⟩
  refine Sem.wp_mono _ _ _ (fun v p' s' hv => ?_) (fun _ _ _ h => h) _ _ (he _ _ hΓ)
  obtain ⟨rfl, X, t, rfl⟩ := hv
  refine Sem.wp_mono _ _ _ (fun _ p' s' hs => ?_) (fun _ _ _ h => h) _ _ (piece_wp (segD w os X _ q) rfl)
  exact ⟨trivial, X, t, hs.2⟩
theorem big_wp {w : World} {os : OsState} {pos q : Pos} : Sem.wp (model theProg w) (runCtx theCode q) (exec bigStmt theEnv) (fun f _ s' => f = .next ∧ ∃ X, Tab (absHeap (tC0 w.params X) 114 theLife) 75 bigTab ∧ s' = (st (tD w.params X) 114 2277 os).abs) (fun _ _ _ => False) pos (st (tC w.params) 75 326 os).abs := by
  obtain ⟨p1, p2, p3, e⟩ : ∃ p1 p2 p3, bigStmt = .Assign [.Name (.ofString "b3_exceptions") p1] (.Dict bigKs bigVs p2) p3 := ⟨_, _, _, bigStmt_is⟩
  rw [e]
  exact big_any bigTab_is bigTab_nodup bigTab_len

theorem body_split : theBody = theBody.take 9 ++ ([theBody.getD 9 default] ++ ([theBody.getD 10 default] ++ ([bigStmt] ++ theBody.drop 12))) := by kernel_rfl
theorem execs_one {env : Env} (st : Stmt) (r : List Stmt) : execs ([st] ++ r) env = (exec st env).bind fun f => match f with | .next => execs r env | f => .pure f := rfl

theorem body_wp {w : World} {os : OsState} {pos q : Pos} : Sem.wp (model theProg w) (runCtx theCode q) (execs theBody theEnv) (fun f _ s' => f = .next ∧ ∃ X, Tab (absHeap (tC0 w.params X) 114 theLife) 75 bigTab ∧ s' = (st (tF w.params X) 174 2362 os).abs) (fun _ _ _ => False) pos (st (tb w.params) 15 187 os).abs := by
  rw [body_split, execs_append, Sem.wp_bind]
  refine Sem.wp_mono _ _ _ (fun f p s' hs => ?_) (fun _ _ _ h => h) _ _ (piece_wp (segA w os pos q) rfl)
  obtain ⟨rfl, rfl⟩ := hs
  rw [execs_one, Sem.wp_bind]
  refine Sem.wp_mono _ _ _ (fun f p s' hs => ?_) (fun _ _ _ h => h) _ _ (piece_wp (segB w os p q) rfl)
  obtain ⟨rfl, rfl⟩ := hs
  rw [execs_one, Sem.wp_bind]
  refine Sem.wp_mono _ _ _ (fun f p s' hs => ?_) (fun _ _ _ h => h) _ _ (piece_wp (segC w os p q) rfl)
  obtain ⟨rfl, rfl⟩ := hs
  rw [execs_one, Sem.wp_bind]
  refine Sem.wp_mono _ _ _ (fun f p s' hs => ?_) (fun _ _ _ h => h) _ _ (big_wp (q := q))
  obtain ⟨rfl, X, t, rfl⟩ := hs
  refine Sem.wp_mono _ _ _ (fun f p s' hs => ?_) (fun _ _ _ h => h) _ _ (piece_wp (segF w os X p q) rfl)
  obtain ⟨rfl, rfl⟩ := hs
  exact ⟨rfl, X, t, rfl⟩

theorem top_wp {w : World} {os : OsState} : Sem.wp (model theProg w) (Ctx.of callerC []) (topStub theProg).cur (fun fin _ s' => fin = .done (.ret .none) ∧ ∃ X, Tab (absHeap (tC0 w.params X) 114 theLife) 75 bigTab ∧ s' = (st (tF w.params X) 174 2362 os).abs) (fun _ _ _ => False) default (st (tz w.params) 11 181 os).abs := by
  show Sem.wp _ _ ((moduleCode theProg.main).bind fun code => (newBodyFrame code mainNs mainNs).bind fun frame =>
    (run (.body theBody { scope := theProg.main.scope, locals := mainNs, globals := mainNs, cells := [], code, frame := some frame })).bind fun _ => ret .none) _ _ _ _
  rw [Sem.wp_bind]
  refine Sem.wp_mono _ _ _ (fun code p s' hs => ?_) (fun _ _ _ h => h) _ _ (piece_wp0 (segM w os _) rfl)
  obtain ⟨hc, rfl⟩ := hs
  cases hc
  rw [Sem.wp_bind]
  refine Sem.wp_mono _ _ _ (fun frame p s' hs => ?_) (fun _ _ _ h => h) _ _ (piece_wp0 (segN w os _) rfl)
  obtain ⟨hc, rfl⟩ := hs
  cases hc
  rw [Sem.wp_bind]
  show Sem.wp _ _ (run theCode) _ _ _ _
  unfold run
  rw [Sem.wp_call]
  have hb : Sem.wp (model theProg w) (runCtx theCode p) (denote table theCode) (Sem.finPost (model theProg w) (runCtx theCode p) (fun r s' => r = .ok .next ∧ ∃ X, Tab (absHeap (tC0 w.params X) 114 theLife) 75 bigTab ∧ s' = (st (tF w.params X) 174 2362 os).abs)) (fun _ _ _ => False) p (st (tb w.params) 15 187 os).abs := by
    show Sem.wp _ _ ((blockStart theBody theEnv).bind fun _ => ((execs theBody theEnv).onRaise (leaving theEnv)).bind fun f => (Sem.pure (Fin.done f) : Sem Fin)) _ _ _ _
    rw [Sem.wp_bind]
    refine Sem.wp_mono _ _ _ (fun _ p' s' hs => ?_) (fun _ _ _ h => h) _ _ (piece_wp (segK w os p p) rfl)
    obtain ⟨_, rfl⟩ := hs
    rw [Sem.wp_bind, Sem.wp_onRaise]
    refine Sem.wp_mono _ _ _ (fun f p'' s' hs => ?_) (fun _ _ _ h => h.elim) _ _ (body_wp (q := p))
    obtain ⟨rfl, X, t, rfl⟩ := hs
    exact ⟨rfl, X, t, rfl⟩
  obtain ⟨r, s', hr, hR⟩ := (Sem.wp_iff_runs (model theProg w) (runCtx theCode p) (denote table theCode) (fun r s' => r = .ok .next ∧ ∃ X, Tab (absHeap (tC0 w.params X) 114 theLife) 75 bigTab ∧ s' = (st (tF w.params X) 174 2362 os).abs) p _).mp (Sem.wp_mono _ _ _ (fun _ _ _ h => h) (fun _ _ _ h => h.elim) _ _ hb)
  obtain ⟨rfl, X, t, rfl⟩ := hR
  refine ⟨.ok .next, _, hr, ?_⟩
  exact ⟨rfl, X, t, rfl⟩
end Mine

end
section -- part Head8
open PySem PySem.W PyProof.Rows PySem.Calls
set_option Elab.async false
set_option maxRecDepth 100000
set_option linter.unusedVariables false
namespace Mine
noncomputable def theQ : Program := view theProg [1, 2, 3, 4, 6, 7, 10, 12, 14, 15, 16, 17, 18, 19, 20, 21, 22]
abbrev theLoose : List Str := [.ofString "b1_set", .ofString "b3_exceptions"]
noncomputable abbrev endS (w : World) (X : Nat → Obj) (os : OsState) : Shared := (st (tF w.params X) 174 2362 os).abs
noncomputable abbrev startS (w : World) (os : OsState) : Shared := (st (tz w.params) 11 181 os).abs
abbrev lawRow : RowW := OpenRow.toRowW (OpenLaw.row PySem.Challenge.rw_to0040_01)
noncomputable abbrev theXt (s : Shared) : Bool := xlAt theQ [] s && recOk (RowW.records lawRow) s
noncomputable abbrev openSeenQ := PySem.W.Fast.tw4187177175401517315
theorem openSeenQ_eq : @openSeen = @openSeenQ := PySem.W.Fast.te4187177175401517315
theorem looks1 (w : World) (X : Nat → Obj) (os : OsState) : (staticsOk (importedModules theProg.main.body) (startS w os).heap (endS w X os).heap && namesBound theProg (endS w X os).heap && gensDone (endS w X os) && laidKept (startS w os).heap (endS w X os).heap) = true := by kernel_rfl
theorem looks2 (w : World) (X : Nat → Obj) (os : OsState) : openSeenQ theQ theLoose (importedModules theProg.main.body) theXt true (endS w X os) = openGood theQ theLoose := by kernel_rfl
theorem chains_ok : chainsOk theQ = true := by kernel_rfl

theorem runN_last {den : Code → Sem Fin} {p : Program} {w : World} : ∀ {n : Nat} {s : Shared} {t : Thread} {o : Outcome} {s' : Shared}, runN den p w n s t = .halted o s' → ∃ m s₁ t₁, runN den p w m s t = .running s₁ t₁ ∧ step den p w s₁ t₁ = .halt o s'
  | 0, _, _, _, _, h => by cases h
  | n + 1, s, t, o, s', h => by
    simp only [runN] at h
    cases hs : step den p w s t with
    | go s₂ t₂ =>
      simp only [hs] at h
      obtain ⟨m, s₁, t₁, h1, h2⟩ := runN_last h
      exact ⟨m + 1, s₁, t₁, by simp only [runN, hs]; exact h1, h2⟩
    | halt o₂ s₂ =>
      simp only [hs] at h
      injection h with h1 h2
      subst h1 h2
      exact ⟨0, s, t, rfl, hs⟩
theorem go_no {s s' : Shared} {t : Thread} {o : Outcome} {P : Prop} (h : Step.go s t = Step.halt o s') : P := nomatch h
theorem ite_halt {α : Type} {c : Prop} [Decidable c] {a b x : α} (h : (if c then a else b) = x) : a = x ∨ b = x := by
  by_cases hc : c
  · rw [if_pos hc] at h; exact .inl h
  · rw [if_neg hc] at h; exact .inr h
theorem opt_halt {α β : Type} {q : Option β} {f : β → α} {g x : α} (h : (match q with | some o => f o | none => g) = x) : (∃ o, f o = x) ∨ g = x := by
  cases q with
  | none => exact .inr h
  | some o => exact .inl ⟨o, h⟩
theorem halt_through {den : Code → Sem Fin} {p : Program} {w : World} {s s' : Shared} {t : Thread} {f : Flow} (h : step den p w s t = .halt (.done f) s') : through t = true ∧ s = s' := by
  obtain ⟨heap, gens, drawn, toks, os⟩ := s
  obtain ⟨cur, code, pos, stack⟩ := t
  cases cur with
  | pure fin =>
    cases fin with
    | again c => exact go_no h
    | done f' =>
      cases stack with
      | nil =>
        rcases ite_halt h with h | h
        · injection h with h1 _; cases h1
        · injection h with _ h2; exact ⟨rfl, h2⟩
      | cons fr rest => cases fr <;> exact go_no h
  | raise e =>
    cases stack with
    | nil =>
      rcases ite_halt h with h | h
      · injection h with h1 _; cases h1
      · injection h with h1 _; cases h1
    | cons fr rest => cases fr <;> exact go_no h
  | load a pt k =>
    unfold step at h
    dsimp only at h
    generalize heap.get? a = q at h
    cases q with
    | none => injection h with h1 _; cases h1
    | some o => exact go_no h
  | genState g k =>
    unfold step at h
    dsimp only at h
    generalize gens[g]? = q at h
    cases q with
    | none => injection h with h1 _; cases h1
    | some o => exact go_no h
  | resume g r l k =>
    unfold step at h
    dsimp only at h
    generalize gens[g]? = q at h
    cases q with
    | none => injection h with h1 _; cases h1
    | some o =>
      cases o with
      | fresh c =>
        cases r with
        | send v => cases v <;> exact go_no h
        | throw e => exact go_no h
      | _ => exact go_no h
  | yield v g0 l kk =>
    unfold step at h
    dsimp only at h
    generalize splitAtGen stack = q at h
    cases q with
    | none => injection h with h1 _; cases h1
    | some o =>
      obtain ⟨frames, ⟨g, k, c, p⟩, rest⟩ := o
      exact go_no h
  | _ => first
    | exact go_no h
    | (injection h with h1 _; cases h1; done)
    | (rcases ite_halt h with h | h <;> first | exact go_no h | (injection h with h1 _; cases h1; done))
    | (rcases opt_halt h with ⟨_, h⟩ | h <;> first | exact go_no h | (injection h with h1 _; cases h1; done))

/-- what the top leaves: the written part, the big table, the set -/
def Left (w : World) (h : Heap) : Prop := (∃ X os, h = (endS w X os).heap ∧ Tab (absHeap (tC0 w.params X) 114 theLife) 75 bigTab)

theorem ran {w : World} {os : OsState} : ∃ X n t, Tab (absHeap (tC0 w.params X) 114 theLife) 75 bigTab ∧ schedN (denote table) theProg w n (.single (startS w os) (topStub theProg)) = .running (.single (endS w X os) t) ∧ through t = true := by
  have hz : (startS w os).asleep := by
    show (startS w os).heap.life.registered = [] ∧ (startS w os).heap.life.counting = false
    exact ⟨rfl, rfl⟩
  let R : Result → Shared → Prop := fun r s' => r = .ok (.ret .none) ∧ ∃ X, Tab (absHeap (tC0 w.params X) 114 theLife) 75 bigTab ∧ s' = endS w X os
  have hw : Sem.wp (model theProg w) ⟨callerC, none, none, [], none⟩ (topStub theProg).cur (Sem.finPost (model theProg w) ⟨callerC, none, none, [], none⟩ fun r s' => R r s' ∧ leftWithCleanup s'.gens = false)
      (fun e _ s' => R (.error e) s' ∧ leftWithCleanup s'.gens = false) default (startS w os) := by
    refine Sem.wp_mono _ _ _ (fun fin p s' hs => ?_) (fun _ _ _ h => h.elim) _ _ (top_wp (w := w) (os := os))
    obtain ⟨rfl, X, t, rfl⟩ := hs
    exact ⟨⟨rfl, X, t, rfl⟩, by show leftWithCleanup (Array.mk []) = false; simp [leftWithCleanup]⟩
  obtain ⟨n, r, s', hn, rfl, X, t, rfl⟩ := (wp_iff_halts (M := model theProg w) _ R default _).mp hw
  obtain ⟨s'', hr, hf, hc⟩ := runNI_real (denote table) theProg w hn (outcomeOf_ends _)
  obtain rfl : s'' = endS w X os := Shared.eq_of_forget_eq hf rfl
  obtain ⟨m, s₁, t₁, h1, h2⟩ := runN_last hr
  obtain ⟨h3, rfl⟩ := halt_through h2
  refine ⟨X, m, t₁, t, ?_, h3⟩
  have hp := schedN_prefix (denote table) theProg w m (startS w os) (topStub theProg) hz fun k s' t' hk hrun => ⟨hc k s' t' hrun, ?_⟩
  · rw [hp]
    have h1' : runN (denote table) theProg w m (startS w os) (topStub theProg) = .running (endS w X os) t₁ := h1
    rw [h1']
    rfl
  · intro hh
    obtain ⟨d, rfl⟩ := Nat.exists_eq_add_of_lt hk
    have := runN_more hrun (d + 1)
    rw [show k + (d + 1) = k + d + 1 by omega] at this
    have h1' : runN (denote table) theProg w (k + d + 1) (startS w os) (topStub theProg) = .running (endS w X os) t₁ := h1
    rw [h1'] at this
    simp only [runN, hh] at this
    cases this
end Mine

end
section -- part Head9
open PySem PySem.W PyProof.Rows PySem.Calls
set_option Elab.async false
set_option maxRecDepth 100000
set_option linter.unusedVariables false
namespace Mine
noncomputable def theK (P : Params) : Frag := (nat_lit 2, (boot_o_2 P)) :: (nat_lit 3, (o3v4 P)) :: (nat_lit 6, (boot_o_6 P)) :: (nat_lit 15, (o15 P)) :: (nat_lit 17, (o17 P)) :: (nat_lit 18, (o18 P)) :: (nat_lit 20, (o20 P)) :: (nat_lit 21, (o21 P)) :: (nat_lit 22, (o22 P)) :: (nat_lit 24, (o24 P)) :: (nat_lit 25, (o25 P)) :: (nat_lit 27, (o27 P)) :: (nat_lit 28, (o28 P)) :: (nat_lit 29, (o29 P)) :: (nat_lit 31, (o31 P)) :: (nat_lit 32, (o32 P)) :: (nat_lit 34, (o34 P)) :: (nat_lit 35, (o35 P)) :: (nat_lit 36, (o36 P)) :: (nat_lit 38, (o38 P)) :: (nat_lit 39, (o39 P)) :: (nat_lit 41, (o41 P)) :: (nat_lit 42, (o42 P)) :: (nat_lit 43, (o43 P)) :: (nat_lit 45, (o45 P)) :: (nat_lit 46, (o46 P)) :: (nat_lit 48, (o48 P)) :: (nat_lit 49, (o49 P)) :: (nat_lit 50, (o50 P)) :: (nat_lit 52, (o52 P)) :: (nat_lit 53, (o53 P)) :: (nat_lit 55, (o55 P)) :: (nat_lit 56, (o56 P)) :: (nat_lit 68, (o68 P)) :: (nat_lit 70, (o70 P)) :: (nat_lit 71, (o71 P)) :: (nat_lit 73, (o73 P)) :: (nat_lit 74, (o74 P)) :: (nat_lit 114, (o114 P)) :: (nat_lit 116, (o116 P)) :: (nat_lit 117, (o117 P)) :: (nat_lit 119, (o119 P)) :: (nat_lit 120, (o120 P)) :: (nat_lit 121, (o121 P)) :: (nat_lit 124, (o124 P)) :: (nat_lit 125, (o125 P)) :: (nat_lit 126, (o126 P)) :: (nat_lit 128, (o128 P)) :: (nat_lit 129, (o129 P)) :: (nat_lit 131, (o131 P)) :: (nat_lit 132, (o132 P)) :: (nat_lit 133, (o133 P)) :: (nat_lit 135, (o135 P)) :: (nat_lit 136, (o136 P)) :: (nat_lit 138, (o138 P)) :: (nat_lit 139, (o139 P)) :: (nat_lit 140, (o140 P)) :: (nat_lit 143, (o143 P)) :: (nat_lit 144, (o144 P)) :: (nat_lit 145, (o145 P)) :: (nat_lit 148, (o148 P)) :: (nat_lit 149, (o149 P)) :: (nat_lit 150, (o150 P)) :: (nat_lit 152, (o152 P)) :: (nat_lit 153, (o153 P)) :: (nat_lit 155, (o155 P)) :: (nat_lit 156, (o156 P)) :: (nat_lit 157, (o157 P)) :: (nat_lit 159, (o159 P)) :: (nat_lit 160, (o160 P)) :: (nat_lit 162, (o162 P)) :: (nat_lit 163, (o163 P)) :: (nat_lit 164, (o164 P)) :: (nat_lit 167, (o167 P)) :: (nat_lit 168, (o168 P)) :: (nat_lit 169, (o169 P)) :: (nat_lit 172, (o172 P)) :: (nat_lit 173, (o173 P)) :: []
def theAs : List Addr := [2, 3, 6, 15, 17, 18, 20, 21, 22, 24, 25, 27, 28, 29, 31, 32, 34, 35, 36, 38, 39, 41, 42, 43, 45, 46, 48, 49, 50, 52, 53, 55, 56, 68, 70, 71, 73, 74, 114, 116, 117, 119, 120, 121, 124, 125, 126, 128, 129, 131, 132, 133, 135, 136, 138, 139, 140, 143, 144, 145, 148, 149, 150, 152, 153, 155, 156, 157, 159, 160, 162, 163, 164, 167, 168, 169, 172, 173]
theorem theAs_is : ∀ P, theAs = (theK P).map (·.1) := fun P => by kernel_rfl
structure Says (w : World) (h : Heap) : Prop where
  inK : (theK w.params).In h
  tab : Tab h 75 bigTab
  set : h.get? 64 = some (o64 w.params)
theorem Says.keeps {w : World} {h h' : Heap} (y : Says w h) (k : ∀ b o, h.get? b = some o → h'.get? b = some o) : Says w h' :=
  ⟨y.inK.keeps k, let ⟨es, ep, a, b⟩ := y.tab; ⟨es, ep, k _ _ a, b⟩, k _ _ y.set⟩
theorem k_at (P : Params) (X : Nat → Obj) : theAs.map (absHeap (tF P X) 174 theLife).get? = (theK P).map fun p => some p.2 := by kernel_rfl
theorem set_at (P : Params) (X : Nat → Obj) : (absHeap (tF P X) 174 theLife).get? 64 = some (o64 P) := by kernel_rfl
theorem tab_at {P : Params} {X : Nat → Obj} (t : Tab (absHeap (tC0 P X) 114 theLife) 75 bigTab) : Tab (absHeap (tF P X) 174 theLife) 75 bigTab := by
  refine t.of_objs ?_
  rw [absHeap_at, absHeap_at, if_pos (by decide), if_pos (by decide)]
  rfl
theorem says_end {w : World} {X : Nat → Obj} {os : OsState} (t : Tab (absHeap (tC0 w.params X) 114 theLife) 75 bigTab) : Says w (endS w X os).heap :=
  ⟨Frag.in_of (theAs_is _) (k_at _ _), tab_at t, set_at _ _⟩

theorem old_at (P : Params) (X : Nat → Obj) : ∀ b, b < 11 → b ≠ 2 → b ≠ 3 → b ≠ 6 → (tF P X).get b = (tz P).get b := by
  intro b h h2 h3 h6
  match b, h, h2, h3, h6 with
  | 0, _, _, _, _ | 1, _, _, _, _ | 4, _, _, _, _ | 5, _, _, _, _ | 7, _, _, _, _ | 8, _, _, _, _ | 9, _, _, _, _ | 10, _, _, _, _ => rfl
theorem start_is (w : World) (s₀ : Shared) (h : (s₀.heap, s₀.gens, s₀.drawn, s₀.toks) = (boot_heap w.params, Array.mk [], boot_drawn, boot_toks)) : s₀ = startS w s₀.os := by
  obtain ⟨heap, gens, drawn, toks, os⟩ := s₀
  simp only [Prod.mk.injEq] at h
  obtain ⟨rfl, rfl, rfl, rfl⟩ := h
  have e : boot_heap w.params = absHeap (tz w.params) 11 theLife := by kernel_rfl
  have e2 : boot_toks = 181 := by kernel_rfl
  show Shared.mk (boot_heap w.params) (Array.mk []) boot_drawn boot_toks os = Shared.mk (absHeap (tz w.params) 11 theLife) (Array.mk []) boot_drawn 181 os
  rw [e, e2]

theorem ann_at (w : World) (os : OsState) : globalOf (startS w os).heap "__annotations__" = some (.ref 6) := by kernel_rfl

theorem behind (w : World) : (∃ s, AfterRun (opening theProg) w s) ∧ ∀ s, AfterRun (opening theProg) w s → ∃ s₀, fenceModules? theProg s = some s₀ ∧ s₀.gens = #[] ∧ ∃ s₁, TopRan theProg w s₀ s₁ ∧ s₁.asleep ∧ s₁.gens = #[] ∧ s₁.heap.isNs mainGlobals = true ∧
    Ground theQ theLoose [] (fun mg h => XL theQ [] mg h ∧ RecFacts lawRow.records h) w s₁ (s₁.heap.nsMap mainGlobals) (s₁.heap.nsMap builtinsNs) s₁.heap ∧ Says w s₁.heap := by
  have hb := boot_open (p := theProg) (N := 600) (by kernel_rfl) (by decide) (fun s => by kernel_rfl) w
  rw [← table_eq_tree] at hb
  obtain ⟨s₀, h1, h2⟩ := Option.map_eq_some_iff.mp hb
  obtain ⟨s, h4, h5⟩ := Option.bind_eq_some_iff.mp h1
  have A := AfterImport.of_importEnds h4
  refine ⟨⟨s, A⟩, fun s' hs' => ?_⟩
  obtain rfl : s' = s := AfterImport.unique hs' A
  have hs0 := start_is w s₀ h2
  generalize s₀.os = os at hs0
  subst hs0
  obtain ⟨X, n, t, ht, hr, hth⟩ := ran (w := w) (os := os)
  have hl := looks1 w X os
  obtain ⟨hl, hlk⟩ := Bool.and_eq_true_iff.mp hl
  obtain ⟨hl, hgd⟩ := Bool.and_eq_true_iff.mp hl
  obtain ⟨hl, hnb⟩ := Bool.and_eq_true_iff.mp hl
  have e := looks2 w X os
  rw [← openSeenQ_eq] at e
  obtain ⟨G, g0, g1, g2, g3, g4, g5⟩ := ground_of_open (w := w) (XP := fun mg h => XL theQ [] mg h ∧ RecFacts lawRow.records h) (fun s hs => ⟨xl_of s (Bool.and_eq_true_iff.mp hs).1, recFacts_of (Bool.and_eq_true_iff.mp hs).2⟩) chains_ok e
  refine ⟨startS w os, h5, rfl, endS w X os, ⟨⟨n, t, hr, hth⟩, rfl, Shared.rest_eq rfl, fun b o hb hn => ?_, g2, statics_of_ok hl, g3, g4, g5, gens_of_done hgd, names_of_bound hnb, laid_of_kept hlk⟩, ⟨rfl, rfl⟩, rfl, g1, G, says_end ht⟩
  have hlt : b < 11 := by have := Heap.lt_size hb; rwa [show (startS w os).heap.objs.size = 11 from absHeap_size _ _ _] at this
  have n3 : b ≠ 3 := fun q => hn (.inl q)
  have n2 : b ≠ 2 := fun q => hn (.inr (.inl q))
  have n6 : b ≠ 6 := fun q => hn (.inr (.inr (by rw [q]; exact ann_at w os)))
  have hg := old_at w.params X b hlt n2 n3 n6
  rw [← hb]
  apply get_of_objs
  show (absHeap (tF w.params X) 174 theLife).objs[b]? = (absHeap (tz w.params) 11 theLife).objs[b]?
  rw [absHeap_at, absHeap_at, if_pos (Nat.lt_of_lt_of_le hlt (by decide)), if_pos hlt, hg]
end Mine

end
section -- part Head10
open PySem PySem.W PyProof.Rows PySem.Calls
set_option Elab.async false
set_option maxRecDepth 100000
set_option linter.unusedVariables false
namespace Mine
/-- the law's own record, read off the given program -/
def theDs : { d : DefRec // defOf theQ PySem.Challenge.rw_to0040_01.name = some (d, []) } := ⟨_, by with_unfolding_all rfl⟩
abbrev theD : DefRec := theDs.1
theorem theD_is : defOf theQ PySem.Challenge.rw_to0040_01.name = some (theD, []) := theDs.2
abbrev theRow : OpenRow := PySem.Challenge.rw_to0040_01.row
theorem pinned (w : World) (s : Shared) (hg : s.heap.isNs mainGlobals = true) (G : Ground theQ theLoose [] (XL theQ []) w s (s.heap.nsMap mainGlobals) (s.heap.nsMap builtinsNs) s.heap) : isTheDefsW theProg s.heap PySem.Challenge.rw_to0040_01.name :=
  pinned_of_view (d := theD) (kwd := []) hg G theD_is (by kernel_rfl) (by kernel_rfl)

theorem law_holds (ok : theRow.wellSaid = true) (hw : lawRow.promised) (hb : theProg.bare)
    (call : WalkO theQ theLoose (XL theQ []) Says lawRow theD [] fun f vs => PySem.call f vs) : theRow.Holds := by
  have ok1 : (opensWell theProg && (frees lawRow && lawRow.within.isEmpty)) = true := by kernel_rfl
  obtain ⟨o1, k5⟩ := Bool.and_eq_true_iff.mp ok1
  obtain ⟨k5, k6⟩ := Bool.and_eq_true_iff.mp k5
  obtain ⟨hsame, hu, ha, hap, hm⟩ := frees_parts k5
  refine ⟨ok, hw, ⟨hb, o1, rfl⟩, hw.witness, fun w => ⟨(behind w).1, fun s' hs' => ?_⟩⟩
  obtain ⟨s₀, hf, hg0, s, hT, hz, hgens, hg, G00, y⟩ := (behind w).2 s' hs'
  have G0 : Ground theQ theLoose [] (XL theQ []) w s (s.heap.nsMap mainGlobals) (s.heap.nsMap builtinsNs) s.heap := ⟨G00.T, G00.B, G00.D, G00.TE, G00.TD, G00.W, G00.X.1, G00.cls, G00.has, G00.apart, G00.once, G00.K⟩
  have RF := G00.X.2
  have hT' := hT
  refine ⟨s₀, hf, hg0, s, hT, fun n hn => ?_, RF.1, RF.2.1, ?_⟩
  · have this : n = PySem.Challenge.rw_to0040_01.name := by
      have hn' : n ∈ (if theRow.pinned = true then [theRow.name] else []) := hn
      have h2 : theRow.pinned = true ∧ n = theRow.name := by simpa using hn'
      exact h2.2
    subst this
    exact pinned w s hg G0
  have G : Ground theQ theLoose lawRow.records (XL theQ []) w s _ _ s.heap := RF.ground G0
  refine ClaimW.callFrom_of_specG (c := lawRow.claim) hz hgens fun args hpre hlay ord hord => ?_
  obtain ⟨⟨vs, s₁⟩, hlaid⟩ := Option.isSome_iff_exists.mp (layAllW_isSome (P := w.params) (ord := ord) G.has args lawRow.args s (pre_splitW hpre).1)
  have keeps := layAllW_keeps _ _ _ hlaid
  have hal := layAllW_rest _ _ _ hlaid
  obtain ⟨as, hrd, hin, hold⟩ := reads_layAllW hord _ _ _ hlaid hlay s₁.heap (fun _ _ e => e)
  have L : Laid lawRow.records w s s₁ args vs as := ⟨⟨ord, hord, hlaid⟩, hrd, hin, hold, keeps, hal.1.trans hgens, hal.2.2.1⟩
  have G₁ := G.keeps XL.keeps keeps
  obtain ⟨a, o, pm, cd, doc, dV, kV, h1, h2, h3, h4, h5⟩ := G₁.fn theD_is
  have h := call w s s₁ _ _ G₁ (y.keeps keeps) a o pm cd doc dV kV h2 h3 h4 h5 h1 L.gens args vs as hpre hlay L.reads L.well (L.low G.low)
  have hi := ident_freeW hu ha hap
  have hwi : lawRow.within = [] := List.isEmpty_iff.mp k6
  refine ⟨vs, s₁, hlaid, ?_⟩
  refine wpAny_bind (wpAny_nsGet G₁.T.g ?_)
  rw [show s.heap.nsMap mainGlobals theRow.name = some (.ref a) from h1]
  show wpAny _ _ (do ret (← PySem.call (.ref a) vs)) _ _ _
  refine wpAny_bind (wpAny_mono h (fun v s' g => wpAny_pure ?_) fun e s' g => ?_)
  · exact ⟨_, rfl, have z := g.laid (c := lawRow.claim) hsame hwi hi L; ⟨z.1, z.2.1, z.2.2, fun q => ⟨namesKept_of hT' hg _ keeps g.2.1.old, noTable (by rfl) q⟩⟩⟩
  · exact have z := g.laid (c := lawRow.claim) hsame hwi hi L; ⟨z.1, z.2.1, z.2.2, fun q => ⟨namesKept_of hT' hg _ keeps g.2.1.old, noTable (by rfl) q⟩⟩
end Mine

end
section
open PySem PySem.W PyProof.Rows
set_option maxRecDepth 100000
namespace Mine
local macro_rules | `(tactic| walk_at "subscriptTail") => `(tactic| (k_here; (with_reducible show wpAny _ _ (subscriptTail _ _ (Value.ref _) (Value.int _ _)) _ _ _); dsimp only; walk_at "subscriptTail"))
local macro_rules | `(tactic| walk_at "ite") => `(tactic| (dsimp only; walk_at "ite"))
local macro_rules | `(tactic| walk_at "execs cons") => `(tactic| (dsimp only; walk_at "execs cons"))
local macro_rules | `(tactic| walk_at "eval Subscript") => `(tactic| (dsimp only; walk_at "eval Subscript"))
local macro_rules | `(tactic| walk_at "eval BinOp") => `(tactic| (dsimp only; walk_at "eval BinOp"))
local macro_rules | `(tactic| walk_at "evalPart none") => `(tactic| (dsimp only; walk_at "evalPart none"))
local macro_rules | `(tactic| kmk_nums) => `(tactic| first
  | ((with_reducible refine' kmk_from ?kz1 ?kz2); (case kz1 => l_ints); (case kz2 => kmk_sign))
  | ((with_reducible refine' kmk_upto ?kz1 ?kz2); (case kz1 => l_ints); (case kz2 => kmk_sign)))
section -- part W0
open PySem PySem.W PyProof.Rows
set_option Elab.async false
set_option maxRecDepth 100000
set_option maxHeartbeats 8000000
set_option linter.unusedVariables false
/-- a def's contract whose answer may stand on new objects -/
abbrev RetL (h₀ : Heap) (L : Addr) (m : Str → Option Value) (news : List (Addr × Obj)) (s : Shared) (Q : Value → Shared → Prop) (R : Value → List (Addr × Obj) → Prop) : Prop :=
  ∀ (v : Value) (new : List (Addr × Obj)) (h' : Heap) (tk' : Nat), R v new → Fr h₀ L h' m → News h₀ L h' (new ++ news) → Q v { s with heap := h', toks := tk' }
abbrev Cl (w : World) (mean : ExcName → Option Value) (mg mb : Str → Option Value) (f : Addr) (news : List (Addr × Obj)) (A : List (Addr × List Value × List Int)) (pre : Prop) (vs : List Value) (deep : Nat) (R : Value → List (Addr × Obj) → Prop) : Prop :=
  ∀ (dp un : Nat) (gd : Option (List Code)) (cn : Str) (cs : Scope) (a : Addr) (ccd : Value) (cl : List (Str × Addr)) (outer : List Env) (A₀ : Around) (base h₀ : Heap) (L : Addr) (m : Str → Option Value) (s : Shared) (Q E : Value → Shared → Prop),
    Below A₀ base outer h₀ → Fr h₀ L s.heap m → (theK w.params).In h₀ → News h₀ L s.heap news → Top theQ (looseW theQ theLoose) mean mg mb h₀ → cs.kind = .function →
    CbLists base A (pre → dp + deep < recursionLimit → un + 8 * deep < cLine → RetL h₀ L m news s Q R →
      wpAny (model theProg w) (ktrTop dp un gd cn cs L a ccd cl outer) (call (.ref f) vs) Q E s)

end
section -- part W1
open PySem PySem.W PyProof.Rows
set_option Elab.async false
set_option maxRecDepth 100000
set_option maxHeartbeats 8000000
set_option linter.unusedVariables false
theorem fill_it : (theK, theRow) = (theK, theRow) := by w_on; k_fill; rfl
theorem drop_one {h₀ h : Heap} {L : Addr} {news : List (Addr × Obj)} {p : Addr × Obj} (N : News h₀ L h (p :: news)) : News h₀ L h news := fun q hq => N q (List.mem_cons_of_mem _ hq)
def stepF (v : Int) : Int := if 25 < v.fmod 30 then ([-21, 5, 3, -5] : List Int).getD (v.fmod 30 - 26).toNat 0 else v.fmod 30 - 13

theorem step_c (w : World) (mean : ExcName → Option Value) (mg mb : Str → Option Value) (news : List (Addr × Obj)) (v : Int) (tv : Tok) :
    CbClaim theProg w (theK w.params) theQ (looseW theQ theLoose) mean mg mb 139 news [] (0 ≤ v) [.int v tv] (fun t => .int (stepF v) t) := by
  dsimp only [CbClaim, CbLists, CbRet]
  intros
  rename_i hret
  refine wpAny_call ?_
  k_dflt cell_enter
  k_steps
  · rename 25 < _ => h9
    refine cb_retI hret ?_ ?_ ?_
    · exact (if_pos h9).symm
    · k_asm
    · first | assumption | exact drop_one (by assumption)
  · rename ¬ (25 < _) => h9
    refine cb_retI hret ?_ ?_ ?_
    · exact (if_neg h9).symm
    · k_asm
    · first | assumption | exact drop_one (by assumption)

end
section -- part W2
open PySem PySem.W PyProof.Rows
set_option Elab.async false
set_option maxRecDepth 100000
set_option maxHeartbeats 8000000
set_option linter.unusedVariables false
theorem fill_it2 : (theK, theRow) = (theK, theRow) := by w_on; k_fill; rfl
local macro_rules | `(tactic| k_steps) => `(tactic| repeat' (first | (k_unfold; (try dsimp only)) | (k_end; wrow_close) | (dsimp only; walk1) | walk1 | (leave1; walk_say "STEP leave1"; try dsimp only) | fail "no step"))
def aheadF (v : Int) : Str := if (v.fdiv 240).fmod 17 ≠ 0 then ⟨#[(65023 + (v.fdiv 240).fmod 17).toNat]⟩ else Str.ofString ""
def signF (v : Int) : Str := if 25 < v.fmod 30 then ⟨#[(([64259, 13202, 13273, 8481] : List Int).getD (v.fmod 30 - 26).toNat 0).toNat]⟩ else if (v.fdiv 30).fmod 8 < 6 then ⟨#[(120172 + 52 * (v.fdiv 30).fmod 8 + v.fmod 30).toNat]⟩ else if (v.fdiv 30).fmod 8 = 6 then ⟨#[(97 + v.fmod 30).toNat]⟩ else ⟨#[(65 + v.fmod 30).toNat]⟩
def spellF (v : Int) : Str := aheadF v ++ signF v
theorem menu_range (n : Nat) : 0 ≤ ([64259, 13202, 13273, 8481] : List Int).getD n 0 ∧ ([64259, 13202, 13273, 8481] : List Int).getD n 0 ≤ 1114111 := by
  match n with
  | 0 => exact ⟨by decide, by decide⟩
  | 1 => exact ⟨by decide, by decide⟩
  | 2 => exact ⟨by decide, by decide⟩
  | 3 => exact ⟨by decide, by decide⟩
  | n + 4 => exact ⟨Int.le_refl 0, show (0 : Int) ≤ 1114111 by decide⟩
theorem spell_a (v : Int) (h : (v.fdiv 240).fmod 17 ≠ 0) : spellF v = ⟨#[(65023 + (v.fdiv 240).fmod 17).toNat]⟩ ++ signF v := by rw [spellF, aheadF, if_pos h]
theorem spell_b (v : Int) (h : (v.fdiv 240).fmod 17 = 0) : spellF v = Str.ofString "" ++ signF v := by rw [spellF, aheadF, if_neg (fun c => c h)]
theorem sign_a (v : Int) (h : 25 < v.fmod 30) : signF v = ⟨#[(([64259, 13202, 13273, 8481] : List Int).getD (v.fmod 30 - 26).toNat 0).toNat]⟩ := if_pos h
theorem sign_b (v : Int) (h : ¬ 25 < v.fmod 30) (h1 : (v.fdiv 30).fmod 8 < 6) : signF v = ⟨#[(120172 + 52 * (v.fdiv 30).fmod 8 + v.fmod 30).toNat]⟩ := by rw [signF, if_neg h, if_pos h1]
theorem sign_c (v : Int) (h : ¬ 25 < v.fmod 30) (h1 : ¬ (v.fdiv 30).fmod 8 < 6) (h2 : (v.fdiv 30).fmod 8 = 6) : signF v = ⟨#[(97 + v.fmod 30).toNat]⟩ := by rw [signF, if_neg h, if_neg h1, if_pos h2]
theorem sign_d (v : Int) (h : ¬ 25 < v.fmod 30) (h1 : ¬ (v.fdiv 30).fmod 8 < 6) (h2 : (v.fdiv 30).fmod 8 ≠ 6) : signF v = ⟨#[(65 + v.fmod 30).toNat]⟩ := by rw [signF, if_neg h, if_neg h1, if_neg h2]
theorem spelled_c (w : World) (mean : ExcName → Option Value) (mg mb : Str → Option Value) (news : List (Addr × Obj)) (v : Int) (tv : Tok) :
    CbClaim theProg w (theK w.params) theQ (looseW theQ theLoose) mean mg mb 132 news [] (0 ≤ v ∧ v < 1000000) [.int v tv] (fun t => .str (spellF v) t) := by
  dsimp only [CbClaim, CbLists, CbRet]
  intros
  rename_i hret
  refine wpAny_call ?_
  have hmenu := menu_range (v.fmod 30 - 26).toNat
  obtain ⟨hm0, hm1⟩ := hmenu
  k_dflt cell_enter
  k_steps
  all_goals
    refine cb_retS hret ?_ ?_ ?_
    · first | rw [spell_a v (by assumption)] | rw [spell_b v (by assumption)]
      first | rw [sign_a v (by assumption)] | rw [sign_b v (by assumption) (by assumption)] | rw [sign_c v (by assumption) (by assumption) (by assumption)] | rw [sign_d v (by assumption) (by assumption) (by assumption)]
    · k_asm
    · first | assumption | exact drop_one (by assumption)

end
section -- part W3
open PySem PySem.W PyProof.Rows
set_option Elab.async false
set_option maxRecDepth 100000
set_option maxHeartbeats 8000000
set_option linter.unusedVariables false
theorem fill_it3 : (theK, theRow) = (theK, theRow) := by w_on; k_fill; rfl
def numbersF (ns : List Int) : List Int := (ns.take 5).map (fun x => x.fmod 1000000) ++ ([1036, 218, 267, 192, 0] : List Int).drop (ns.take 5).length
theorem numbers_eq (ns : List Int) : List.map (fun a => a.fmod (10 ^ Int.toNat 6)) (List.filter (fun a' => true) (List.take 5 ns)) ++ List.drop (((List.take 5 ns).length : Int)).toNat [1036, 218, 267, 192, 0] = numbersF ns := by
  rw [numbersF, filter_tt]
  rfl
theorem numbers_c (w : World) (mean : ExcName → Option Value) (mg mb : Str → Option Value) (news : List (Addr × Obj)) (l : Addr) (vs : List Value) (ns : List Int) :
    Cl w mean mg mb 125 news [(l, vs, ns)] (ns.length ≤ 16777216) [.ref l] 2 (fun v new => ∃ a o ws, v = .ref a ∧ new = [(a, o)] ∧ o = listOf ws.toArray 0 ∧ IntsAre ws (numbersF ns)) := by
  dsimp only [Cl, CbLists, RetL]
  intros
  rename_i hret
  refine wpAny_call ?_
  k_dflt cell_enter
  k_steps
  dsimp only
  with_unfolding_all refine' kmk_add_ints ?xF ?xN ?xa ?xb ?xi ?xj ?_ ?xz
  case xF => k_asm
  case xN => k_asm
  case xa => kmk_list
  case xb => kmk_list
  case xi => l_ints
  case xj => l_ints
  case xz =>
    simp only [filter_tt, List.length_map, List.length_drop, List.length_take, List.length_cons, List.length_nil, sizeLine_eq]
    omega
  intro D' ws' h' F' N' l1 hI'
  k_steps
  rw [numbers_eq] at hI'
  refine hret _ [(D', listOf ws'.toArray 0)] _ _ ⟨_, _, _, rfl, rfl, rfl, hI'⟩ (by k_asm) ?_
  refine cb_drop (by assumption) ?_
  intro p hp
  rcases List.mem_cons.mp hp with rfl | hp
  · exact .head _
  · exact .tail _ (.tail _ (.tail _ (.tail _ (.tail _ hp))))

end
section -- part W4
open PySem PySem.W PyProof.Rows
set_option Elab.async false
set_option maxRecDepth 100000
set_option linter.unusedVariables false
theorem fmod_range (x : Int) : 0 ≤ x.fmod 1000000 ∧ x.fmod 1000000 < 1000000 := by
  have h1 := Int.fmod_nonneg_of_pos x (b := 1000000) (by decide)
  have h2 := Int.fmod_lt_of_pos x (b := 1000000) (by decide)
  exact ⟨h1, h2⟩
abbrev InR (n : Int) : Prop := 0 ≤ n ∧ n < 1000000
theorem numbers_five (ns : List Int) : ∃ a b c d e, numbersF ns = [a, b, c, d, e] ∧ InR a ∧ InR b ∧ InR c ∧ InR d ∧ InR e := by
  have k : InR 1036 ∧ InR 218 ∧ InR 267 ∧ InR 192 ∧ InR 0 := by decide
  obtain ⟨k0, k1, k2, k3, k4⟩ := k
  match ns with
  | [] => exact ⟨_, _, _, _, _, rfl, k0, k1, k2, k3, k4⟩
  | [a] => exact ⟨_, _, _, _, _, rfl, fmod_range a, k1, k2, k3, k4⟩
  | [a, b] => exact ⟨_, _, _, _, _, rfl, fmod_range a, fmod_range b, k2, k3, k4⟩
  | [a, b, c] => exact ⟨_, _, _, _, _, rfl, fmod_range a, fmod_range b, fmod_range c, k3, k4⟩
  | [a, b, c, d] => exact ⟨_, _, _, _, _, rfl, fmod_range a, fmod_range b, fmod_range c, fmod_range d, k4⟩
  | a :: b :: c :: d :: e :: r => exact ⟨_, _, _, _, _, rfl, fmod_range a, fmod_range b, fmod_range c, fmod_range d, fmod_range e⟩
theorem ints_nil {ws : List Value} (h : IntsAre ws []) : ws = [] := by
  cases h; rfl
theorem ints_cons {ws : List Value} {n : Int} {r : List Int} (h : IntsAre ws (n :: r)) : ∃ t ws', ws = .int n t :: ws' ∧ IntsAre ws' r := by
  cases h with
  | cons _ t h2 => exact ⟨t, _, rfl, h2⟩
theorem ints_five {ws : List Value} {a b c d e : Int} (h : IntsAre ws [a, b, c, d, e]) : ∃ t0 t1 t2 t3 t4, ws = [.int a t0, .int b t1, .int c t2, .int d t3, .int e t4] := by
  obtain ⟨t0, w0, rfl, h0⟩ := ints_cons h
  obtain ⟨t1, w1, rfl, h1⟩ := ints_cons h0
  obtain ⟨t2, w2, rfl, h2⟩ := ints_cons h1
  obtain ⟨t3, w3, rfl, h3⟩ := ints_cons h2
  obtain ⟨t4, w4, rfl, h4⟩ := ints_cons h3
  cases ints_nil h4
  exact ⟨t0, t1, t2, t3, t4, rfl⟩
theorem numbers_d (w : World) (mean : ExcName → Option Value) (mg mb : Str → Option Value) (news : List (Addr × Obj)) (l : Addr) (vs : List Value) (ns : List Int) :
    Cl w mean mg mb 125 news [(l, vs, ns)] (ns.length ≤ 16777216) [.ref l] 2 (fun v new => ∃ l' a b c d e t0 t1 t2 t3 t4, v = .ref l' ∧ new = [(l', listOf #[.int a t0, .int b t1, .int c t2, .int d t3, .int e t4] 0)] ∧ (InR a ∧ InR b ∧ InR c ∧ InR d ∧ InR e)) := by
  intro dp un gd cn cs a ccd cl outer A₀ base h₀ L m s Q E k1 k2 k3 k4 k5 k6 k7 k8 k9 kp kd ku kR
  refine numbers_c w mean mg mb news l vs ns dp un gd cn cs a ccd cl outer A₀ base h₀ L m s Q E k1 k2 k3 k4 k5 k6 k7 k8 k9 kp kd ku ?_
  rintro v new h' tk' ⟨l', o, ws, rfl, rfl, rfl, hi⟩ F N
  obtain ⟨a, b, c, d, e, hn, hr⟩ := numbers_five ns
  rw [hn] at hi
  obtain ⟨t0, t1, t2, t3, t4, rfl⟩ := ints_five hi
  exact kR _ _ _ _ ⟨l', a, b, c, d, e, t0, t1, t2, t3, t4, rfl, rfl, hr⟩ F N
theorem spell_len (v : Int) : (spellF v).length ≤ 2 := by
  have h1 : (aheadF v).length ≤ 1 := by unfold aheadF; split; exact Nat.le_refl 1; exact Nat.zero_le 1
  have h2 : (signF v).length ≤ 1 := by unfold signF; (repeat' split) <;> exact Nat.le_refl 1
  have h3 : (spellF v).length = (aheadF v).length + (signF v).length := by rw [spellF, PySem.Str.length_append]
  omega
theorem spell_four (a b c d : Int) : (([spellF a, spellF b, spellF c, spellF d] : List Str).map (·.length)).sum + ([spellF a, spellF b, spellF c, spellF d] : List Str).length ≤ 1048576 := by
  have ha := spell_len a
  have hb := spell_len b
  have hc := spell_len c
  have hd := spell_len d
  simp only [List.map_cons, List.map_nil, List.sum_cons, List.sum_nil, List.length_cons, List.length_nil]
  omega

end
section -- part W7
open PySem PySem.W PyProof.Rows
set_option Elab.async false
set_option maxRecDepth 100000
set_option maxHeartbeats 8000000
set_option linter.unusedVariables false
section
variable {prog : Program} {w : World} {A : Around} {E : Value → Shared → Prop} {s : Shared}
def b1L : List Int := [65024, 65025, 65026, 65027, 65028, 65029, 6150, 65030, 65031, 65032, 65033, 6155, 6156, 6157, 8203, 8204, 8205, 65034, 65035, 65036, 65037, 65038, 65039, 173, 847, 8288, 65279]
def inB1 (k : Int) : Bool := b1L.any fun i => i == k
noncomputable def b1Es (P : Params) : Array (Int × Value) := match (o64 P).data with | .set es _ _ => es | _ => #[]
noncomputable def b1Tb (P : Params) : SetTable := match (o64 P).data with | .set _ _ t => t | _ => default
noncomputable def b1Ep (P : Params) : Nat := match (o64 P).data with | .set _ n _ => n | _ => 0
theorem o64_data (P : Params) : (o64 P).data = .set (b1Es P) (b1Ep P) (b1Tb P) := by kernel_rfl
def elemOk (e : Int × Value) : Bool := match e.2 with | .int i _ => e.1 == hashInt i | _ => false
theorem b1Es_ok (P : Params) : (b1Es P).toList.all elemOk = true := by kernel_rfl
theorem b1Es_ints (P : Params) : (b1Es P).toList.map (fun e => match e.2 with | .int i _ => i | _ => 0) = b1L := by kernel_rfl
theorem set64 (P : Params) : (o64 P).SetObjOf (intKind prog w) inB1 27 := by
  refine ⟨⟨rfl, rfl, rfl⟩, b1Es P, b1Ep P, b1Tb P, o64_data P, ?_, ?_, by kernel_rfl, by kernel_rfl⟩
  · intro e he
    have h := List.all_eq_true.mp (b1Es_ok P) e he
    obtain ⟨a, v⟩ := e
    cases v <;> simp only [elemOk, Bool.false_eq_true] at h
    rename_i i t
    refine ⟨⟨i, ?_, ?_⟩, rfl⟩
    · exact intKind_is prog w i t
    · exact beq_iff_eq.mp h
  · intro k
    unfold inB1
    rw [← b1Es_ints P, List.any_map, List.any_eq_true]
    constructor
    · rintro ⟨e, he, h⟩
      refine ⟨e, he, ?_⟩
      have ho := List.all_eq_true.mp (b1Es_ok P) e he
      obtain ⟨a, v⟩ := e
      cases v <;> simp only [elemOk, Bool.false_eq_true] at ho
      exact h
    · rintro ⟨e, he, h⟩
      refine ⟨e, he, ?_⟩
      obtain ⟨t, ht⟩ := Value.isInt_shape h
      obtain ⟨a, v⟩ := e
      cases ht
      exact beq_self_eq_true k
theorem in_set64 {P : Params} {k : Int} {t : Tok} {Q : Value → Shared → Prop} (h64 : s.heap.get? 64 = some (o64 P)) (h : Q (.bool (inB1 k)) { s with toks := s.toks + 1 }) : wpAny (model prog w) A (compareOp .In (.int k t) (.ref 64)) Q E s :=
  wpAny_inSet_of (intKind_is prog w k t) rfl ((set64 P).setOf h64 (by decide)) h

def look : List (Int × Str) → Int → Option Str
  | [], _ => none
  | p :: r, k => if p.1 = k then some p.2 else look r k
theorem look_find : ∀ {es : List DictEntry} {tab : List (Int × Str)} {k : Int}, Ents es tab → match look tab k with
    | none => (es.find? fun e => Value.isInt k e.key) = none
    | some x => ∃ e t, (es.find? fun e => Value.isInt k e.key) = some e ∧ e.val = .str x t
  | [], [], _, _ => rfl
  | _ :: es, p :: r, k, h => by
    obtain ⟨⟨tk, tv, rfl⟩, h2⟩ := h
    have ih := look_find (k := k) h2
    unfold look
    by_cases e : p.1 = k
    · rw [if_pos e]
      refine ⟨_, tv, List.find?_cons_of_pos (show Value.isInt k (.int p.1 tk) = true from ?_), rfl⟩
      rw [e]
      exact beq_self_eq_true k
    · rw [if_neg e]
      have hn : Value.isInt k (.int p.1 tk) = false := beq_false_of_ne e
      rw [List.find?_cons_of_neg (by rw [hn]; exact Bool.false_ne_true)]
      exact ih
  | [], _ :: _, _, h => h.elim
  | _ :: _, [], _, h => h.elim
theorem Ents.keysOf : ∀ {es : List DictEntry} {tab : List (Int × Str)}, Ents es tab → ∀ e ∈ es, ∃ k, (intKind prog w).is k e.key = true ∧ e.hash = (intKind prog w).hash k
  | [], [], _, _, he => nomatch he
  | _ :: es, p :: r, h, e, he => by
    rcases List.mem_cons.mp he with rfl | he
    · obtain ⟨tk, tv, rfl⟩ := h.1
      exact ⟨p.1, intKind_is prog w p.1 tk, rfl⟩
    · exact Ents.keysOf h.2 e he
  | [], _ :: _, h, _, _ => h.elim
  | _ :: _, [], h, _, _ => h.elim
theorem Tab.mapOf {h : Heap} {d : Addr} {tab : List (Int × Str)} (t : Tab h d tab) : ∃ f, h.MapOf (intKind prog w) d f ∧ ∀ k, match look tab k with
    | none => f k = none
    | some x => ∃ t, f k = some (.str x t) := by
  obtain ⟨es, ep, ho, he⟩ := t
  refine ⟨fun k => findBy (intKind prog w).is es k, ⟨_, es, ep, ho, ⟨rfl, rfl, rfl⟩, rfl, fun e h => he.keysOf e (Array.mem_toList_iff.mpr h), fun k => rfl⟩, fun k => ?_⟩
  have hf := look_find (k := k) he
  have e1 : findBy (intKind prog w).is es k = (es.toList.find? fun e => Value.isInt k e.key).map (·.val) := by
    obtain ⟨l⟩ := es
    simp only [findBy, List.find?_toArray]
    rfl
  cases hl : look tab k with
  | none =>
    rw [hl] at hf
    show findBy (intKind prog w).is es k = none
    rw [e1, hf]
    rfl
  | some x =>
    rw [hl] at hf
    obtain ⟨e, t, h1, h2⟩ := hf
    refine ⟨t, ?_⟩
    show findBy (intKind prog w).is es k = some (.str x t)
    rw [e1, h1, ← h2]
    rfl
theorem tab_method {d : Addr} {tab : List (Int × Str)} {pl : Sem Bool} {Q : Value × List Value → Shared → Prop} (t : Tab s.heap d tab) (h : Q (.builtin "dict.get", [.ref d]) s) : wpAny (model prog w) A (getMethod (.ref d) "get" pl) Q E s :=
  have hM := (t.mapOf (prog := prog) (w := w)).choose_spec.1
  getMethod_builtin hM.typeIs PySem.F.plainAttrs_dict PySem.F.slot_dict_get PySem.F.type_dict_get hM.noDict h
theorem tab_get {d : Addr} {tab : List (Int × Str)} {k : Int} {tk : Tok} {Q : Value → Shared → Prop} (t : Tab s.heap d tab) (hd : (d == sysModules) = false)
    (h : match look tab k with | none => Q .none { s with toks := s.toks + 1 } | some x => ∀ t, Q (.str x t) { s with toks := s.toks + 1 }) :
    wpAny (model prog w) A (call (.builtin "dict.get") [.ref d, .int k tk]) Q E s := by
  obtain ⟨f, hM, hf⟩ := t.mapOf (prog := prog) (w := w)
  refine call_meetsIn PySem.F.slot_dict_get hM.typeIs PySem.F.entry_dict_get (PySem.F.args_dict_get_2 _ _) (meets_dict_get (intKind prog w) d (intKind_is prog w k tk) hd) ⟨f, hM, ?_⟩
  have hk := hf k
  cases hl : look tab k with
  | none =>
    rw [hl] at hk h
    rw [hk]
    exact h
  | some x =>
    rw [hl] at hk h
    obtain ⟨t, ht⟩ := hk
    rw [ht]
    exact h t
end

end
section -- part W6
open PySem PySem.W PyProof.Rows
set_option Elab.async false
set_option maxRecDepth 100000
set_option maxHeartbeats 8000000
set_option linter.unusedVariables false
theorem fill_it6 : (theK, theRow) = (theK, theRow) := by w_on; k_fill; rfl

/-- a def's contract that may also lean on the set and the big table -/
abbrev Ct (w : World) (mean : ExcName → Option Value) (mg mb : Str → Option Value) (f : Addr) (news : List (Addr × Obj)) (pre : Prop) (vs : List Value) (deep : Nat) (R : Value → List (Addr × Obj) → Prop) : Prop :=
  ∀ (dp un : Nat) (gd : Option (List Code)) (cn : Str) (cs : Scope) (a : Addr) (ccd : Value) (cl : List (Str × Addr)) (outer : List Env) (A₀ : Around) (base h₀ : Heap) (L : Addr) (m : Str → Option Value) (s : Shared) (Q E : Value → Shared → Prop),
    Below A₀ base outer h₀ → Fr h₀ L s.heap m → (theK w.params).In h₀ → News h₀ L s.heap news → Top theQ (looseW theQ theLoose) mean mg mb h₀ → cs.kind = .function → h₀.get? 64 = some (o64 w.params) → Tab h₀ 75 bigTab →
      pre → dp + deep < recursionLimit → un + 8 * deep < cLine → RetL h₀ L m news s Q R →
      wpAny (model theProg w) (ktrTop dp un gd cn cs L a ccd cl outer) (call (.ref f) vs) Q E s
theorem Tab.keeps {h h' : Heap} {d : Addr} {tab : List (Int × Str)} (t : Tab h d tab) (k : ∀ b o, h.get? b = some o → h'.get? b = some o) : Tab h' d tab := let ⟨es, ep, a, b⟩ := t; ⟨es, ep, k _ _ a, b⟩
local macro_rules | `(tactic| walk_at "compareOp In int ref") => `(tactic| (k_here; (with_reducible show wpAny _ _ (compareOp _ (Value.int _ _) (Value.ref 64)) _ _ _); k_dflt (refine in_set64 (Fr.keep (by assumption) _ _ (Fr.keep (by assumption) _ _ (by assumption))) ?_)))
local macro_rules | `(tactic| walk_at "getMethod ref") => `(tactic| (k_here; (with_reducible show wpAny _ _ (getMethod (Value.ref 75) _ _) _ _ _); k_dflt (refine tab_method (tab := bigTab) (Tab.keeps (Tab.keeps (by assumption) (Fr.keep (by assumption))) (Fr.keep (by assumption))) ?_)))
local macro_rules | `(tactic| walk_at "call builtin:dict.get") => `(tactic| (k_here; dsimp only [List.cons_append, List.nil_append]; (with_reducible show wpAny _ _ (call (Value.builtin _) [Value.ref 75, Value.int _ _]) _ _ _); k_dflt (refine tab_get (tab := bigTab) (Tab.keeps (Tab.keeps (by assumption) (Fr.keep (by assumption))) (Fr.keep (by assumption))) (by decide) ?_); split))
theorem b1_c (w : World) (mean : ExcName → Option Value) (mg mb : Str → Option Value) (news : List (Addr × Obj)) (c : Nat) (t : Tok) :
    Ct w mean mg mb 74 news True [.str ⟨#[c]⟩ t] 1 (fun v new => v = .bool (inB1 c) ∧ new = []) := by
  dsimp only [Ct, RetL]
  intros
  rename_i hret
  refine wpAny_call ?_
  k_dflt cell_enter
  k_steps
  exact hret _ [] _ _ ⟨rfl, rfl⟩ (by k_asm) (by assumption)
local macro_rules | `(tactic| walk_at "call builtin:str.lower") => `(tactic| (k_here; (try dsimp only); (with_reducible show wpAny _ _ (call (Value.builtin "str.lower") [Value.str _ _]) _ _ _); (refine KXw.lower rfl (by assumption) ?_); intro _ _))
theorem ex_str {x y : Str} {t : Tok} (h : x = y) : ∃ t', Value.str x t = Value.str y t' := ⟨t, by rw [h]⟩
noncomputable def b3F (c : Nat) : Str := (look bigTab c).getD (Txt.lower ⟨#[c]⟩)
theorem b3_c (w : World) (mean : ExcName → Option Value) (mg mb : Str → Option Value) (news : List (Addr × Obj)) (c : Nat) (t : Tok) :
    Ct w mean mg mb 120 news (Builtin.Str.tooLong (Txt.lower ⟨#[c]⟩).length = false) [.str ⟨#[c]⟩ t] 1 (fun v new => (∃ t, v = .str (b3F c) t) ∧ new = []) := by
  dsimp only [Ct, RetL]
  intros
  rename_i hret
  refine wpAny_call ?_
  k_dflt cell_enter
  k_steps
  · rename look bigTab _ = none => hl
    refine hret _ [] _ _ ⟨ex_str ?_, rfl⟩ ?_ ?_
    · show _ = (look bigTab _).getD _
      rw [hl]
      rfl
    · k_asm
    · assumption
  · rename look bigTab _ = some _ => hl
    refine hret _ [] _ _ ⟨ex_str ?_, rfl⟩ ?_ ?_
    · show _ = (look bigTab _).getD _
      rw [hl]
      rfl
    · k_asm
    · assumption

end
section -- part W8h
open PySem PySem.W PyProof.Rows
set_option Elab.async false
set_option maxRecDepth 100000
set_option linter.unusedVariables false
theorem unrPost_mono {h₀ : Heap} {L : Addr} {s₁ : Shared} {I : Addr} {it : Obj} {r r' : (Str → Option Value) → List (Addr × Obj) → Prop} {Q : Flow → Shared → Prop} (hr : ∀ m n, r m n → r' m n) : ∀ (f : Flow) (s₂ : Shared), UnrPost h₀ L s₁ I it r Q f s₂ → UnrPost h₀ L s₁ I it r' Q f s₂
  | .ret _, _, h => h
  | .brk, _, h => h
  | .next, _, ⟨h', tk, m', n', e, F, N, o, x⟩ => ⟨h', tk, m', n', e, F, N, o, hr _ _ x⟩
  | .cont, _, ⟨h', tk, m', n', e, F, N, o, x⟩ => ⟨h', tk, m', n', e, F, N, o, hr _ _ x⟩
theorem strRest_ind {prog : Program} {w : World} {A : Around} {E : Value → Shared → Prop} {s : Shared} {env : Env} {h₀ : Heap} {x : Str} {body : List Stmt} {Q : Flow → Shared → Prop} {I : Addr}
    (Inv : List Nat → (Str → Option Value) → List (Addr × Obj) → Prop)
    (step : ∀ c r m news, Inv (c :: r) m news → ∀ (u : Tok) (it : Obj) h tk, Fr h₀ env.locals h (fun y => if y = x then some (.str ⟨#[c]⟩ u) else m y) → News h₀ env.locals h ((I, it) :: news) →
      wpAny (model prog w) A (execs body env) (UnrPost h₀ env.locals { s with heap := h, toks := tk } I it (fun m' n' => Inv r m' n') Q) E { s with heap := h, toks := tk })
    (done : ∀ m news, Inv [] m news → ∀ h tk, Fr h₀ env.locals h m → News h₀ env.locals h news → Q .next { s with heap := h, toks := tk }) :
    ∀ cs m news, Inv cs m news → StrRest prog w A E h₀ env x body Q s I (cs.map fun c => (⟨#[c]⟩ : Str)) m news
  | [], m, news, hi => StrRest.zero fun h tk F N => done m news hi h tk F N
  | c :: r, m, news, hi => StrRest.succ fun u it h tk F N =>
      wpAny_mono (step c r m news hi u it h tk F N) (fun f s₂ h => unrPost_mono (fun m' n' x => strRest_ind Inv step done r m' n' x) f s₂ h) fun _ _ e => e
theorem fr_m {h₀ : Heap} {L : Addr} {h : Heap} {m : Str → Option Value} (F : Fr h₀ L h m) : ∃ m0, m0 = m ∧ Fr h₀ L h m0 := ⟨m, rfl, F⟩

end
section -- part WS
open PySem PySem.W PyProof.Rows PySem.Spec PySem.Calls PyProof.Rows.LCg
set_option Elab.async false
set_option maxRecDepth 100000
set_option linter.unusedVariables false
section
variable {prog : Program} {w : World} {A : Around} {E : Value → Shared → Prop} {s : Shared} {h₀ : Heap} {L : Addr} {m : Str → Option Value} {env : Env}
/-- a list comprehension whose source is a text -/
def SrcS (prog : Program) (w : World) (A : Around) (h₀ : Heap) (L : Addr) (m : Str → Option Value) (env : Env) (elt : Expr) (x : Str) (scope : Scope) (cl : List (Str × Addr)) (Fin : Shared → List Value → List (Addr × Obj) → Prop) (xv : Value) (s₁ : Shared) : Prop :=
  ∃ tx t news, xv = .str tx t ∧ A.handled = none ∧ Fr h₀ L s₁.heap m ∧ News h₀ L s₁.heap news ∧ tx.cps.size ≤ sizeLine ∧
    ∀ g, CompRest prog w A h₀ L m env elt x scope cl { s₁ with heap := g } (fun _ => True) (SignAt tx) (Fin { s₁ with heap := g }) tx.cps.size 0 [] news
theorem str_st {I : Addr} {T : String} {tx : Str} {t : Tok} : ∀ i (h h' : Heap) (o : Obj) (nw : List (Addr × Obj)), h.IsStrIter I T tx t i → h.get? I = some o → h'.get? I = some o → (∀ b o, h₀.get? b = some o → h'.get? b = some o) → News h₀ L h' nw → True → h'.IsStrIter I T tx t i :=
  fun i h h' o nw st e e' _ _ _ => by
    obtain ⟨o', q, r⟩ := st
    rw [e] at q
    cases q
    exact ⟨o, e', r⟩
theorem ListComp_S {elt iter : Expr} {x : Str} {px : Pos} {scope : Scope} {cl : List (Str × Addr)} {pos : Pos} {Q : Value → Shared → Prop} (F₀ : Fr h₀ L s.heap m)
    (hclos : closureFor scope env = pure cl) (hcell : ∀ y ∈ scope.names, y.2 ≠ .cell) (hkind : scope.kind = .function)
    (hnames : ∀ y ∈ scope.names, y.2 = .local → scope.names.lookup y.1 = some .local) (hx : scope.names.lookup x = some .local)
    (h : wpAny (model prog w) A (eval iter env) (SrcS prog w A h₀ L m env elt x scope cl (fun s₂ => FinE h₀ L m s₂ Q)) E s)
    (hs : ∀ x, foldedSetIterable iter env x = pure x := by intro _; rfl) :
    wpAny (model prog w) A (eval (.ListComp elt [⟨.Name x px, iter, [], 0⟩] scope pos) env) Q E s := by
  rw [eval_ListComp]
  refine wpAny_comprehension_free (use := none) rfl hs hclos hkind hnames (wpAny_mono h (fun xv s₁ h₁ => ?_) fun _ _ e => e)
  obtain ⟨tx, t, news, rfl, hh, F, N, hsz, R⟩ := h₁
  cases ha : tx.cps.all (· < 128)
  · refine wpAny_pyIter_wide ha ?_
    refine block_U (Walks.strWide hh s₁.heap.objs.size tx t) hsz (fun i h st => by obtain ⟨o, e, _⟩ := st; exact ⟨o, e⟩) str_st hcell hkind hx ⟨_, Heap.get?_push_size _ rfl, rfl, rfl⟩ (fun b hb => ?_)
      (F.keeps fun _ _ e => Heap.get?_push_of_some _ e) (N.grown fun _ _ e => Heap.get?_push_of_some _ e) (Nat.ne_of_lt F.ns.lt) (next_is_new F) (fun p hp => Nat.ne_of_lt (Heap.lt_size (N p hp).1)) trivial (R _) ?_
    · rw [List.mem_singleton.mp hb]
      show s₁.heap.objs.size < (s₁.heap.push _).objs.size
      rw [Heap.size_push]
      exact Nat.lt_succ_self _
    · intro D C h tk m' ys news' F' N' o1 hn hC₀ hD₀ hCL hDL hCD offC fin
      refine ⟨m', hn, fun h'' hs'' => fin D h'' tk (F'.change hs'' hCL hC₀) (fun p hp => ?_) o1⟩
      refine ⟨hs''.extBut _ _ ?_ (N' p hp).1, (N' p hp).2⟩
      rcases List.mem_cons.mp hp with rfl | hp
      · exact Ne.symm hCD
      · exact offC p hp
  · refine wpAny_pyIter_ascii ha ?_
    refine block_U (Walks.strAscii hh s₁.heap.objs.size tx t) hsz (fun i h st => by obtain ⟨o, e, _⟩ := st; exact ⟨o, e⟩) str_st hcell hkind hx ⟨_, Heap.get?_push_size _ rfl, rfl, rfl⟩ (fun b hb => ?_)
      (F.keeps fun _ _ e => Heap.get?_push_of_some _ e) (N.grown fun _ _ e => Heap.get?_push_of_some _ e) (Nat.ne_of_lt F.ns.lt) (next_is_new F) (fun p hp => Nat.ne_of_lt (Heap.lt_size (N p hp).1)) trivial (R _) ?_
    · rw [List.mem_singleton.mp hb]
      show s₁.heap.objs.size < (s₁.heap.push _).objs.size
      rw [Heap.size_push]
      exact Nat.lt_succ_self _
    · intro D C h tk m' ys news' F' N' o1 hn hC₀ hD₀ hCL hDL hCD offC fin
      refine ⟨m', hn, fun h'' hs'' => fin D h'' tk (F'.change hs'' hCL hC₀) (fun p hp => ?_) o1⟩
      refine ⟨hs''.extBut _ _ ?_ (N' p hp).1, (N' p hp).2⟩
      rcases List.mem_cons.mp hp with rfl | hp
      · exact Ne.symm hCD
      · exact offC p hp
/-- the turns over a text, every element an int of its sign -/
theorem rest_signs {elt : Expr} {x : Str} {scope : Scope} {cl : List (Str × Addr)} {Fin : List Value → List (Addr × Obj) → Prop} {news : List (Addr × Obj)} {tx : Str} (g : Nat → Int)
    (turn : ∀ c t I oI C oC D m₂ ys h tk (E' : Value → Shared → Prop), LCg.NsObj oC m₂ → m₂ x = some (.str ⟨#[c]⟩ t) → Fr h₀ L h m → News h₀ L h ((I, oI) :: (C, oC) :: (D, LCg.lst ys) :: news) → LCg.Off3 I C D news → ((@Ne Nat I C) ∧ (@Ne Nat I D) ∧ (@Ne Nat C D)) →
      wpAny (model prog w) A (eval elt (compEnvC scope cl C env)) (LCg.CompEnd h₀ L m { s with heap := h, toks := tk } I oI C oC D (LCg.lst ys) (fun _ => True) (fun y news' => news' = news ∧ ∃ t, y = .int (g c) t)) E' { s with heap := h, toks := tk })
    (fin : ∀ ys, IntsAre ys (tx.cps.toList.map g) → Fin ys news) : LCg.CompRest prog w A h₀ L m env elt x scope cl s (fun _ => True) (SignAt tx) Fin tx.cps.size 0 [] news := by
  have key : ∀ (j i : Nat) (ys : List Value), i + j = tx.cps.size → IntsAre ys ((tx.cps.toList.take i).map g) → LCg.CompRest prog w A h₀ L m env elt x scope cl s (fun _ => True) (SignAt tx) Fin j i ys news := by
    intro j
    induction j with
    | zero =>
      intro i ys hi hy
      rw [List.take_of_length_le (by rw [Array.length_toList]; omega)] at hy
      exact LCg.CompRest.zero (fin ys hy)
    | succ j ih =>
      intro i ys hi hy
      refine LCg.CompRest.succ ?_
      intro v I oI C oC D m₂ h tk E' hv hC hx F N off ne
      obtain ⟨c, u, hc, rfl⟩ := hv
      refine wpAny_mono (turn c u I oI C oC D m₂ ys h tk E' hC hx F N off ne) (fun y s₂ hq => ?_) fun _ _ e => e
      obtain ⟨h', tk', nw, e, F', N', off', hS, hn, t', hy'⟩ := hq
      subst hn hy'
      refine ⟨h', tk', nw, e, F', N', off', hS, ih (i + 1) _ (by omega) ?_⟩
      rw [List.take_add_one, Array.getElem?_toList, hc]
      have snoc : ∀ {vs : List Value} {ns : List Int}, IntsAre vs ns → IntsAre (vs ++ [.int (g c) t']) (ns ++ [g c]) := by
        intro vs ns hi
        induction hi with
        | nil => exact .cons _ _ .nil
        | cons n t _ ih => exact .cons n t ih
      simpa using snoc hy
  exact key tx.cps.size 0 [] (by omega) .nil
end

end
section -- part W8
open PySem PySem.W PyProof.Rows
set_option Elab.async false
set_option maxRecDepth 100000
set_option maxHeartbeats 8000000
set_option linter.unusedVariables false
theorem fill_it8 : (theK, theRow) = (theK, theRow) := by w_on; k_fill; rfl

def letters (x : Str) : Int := (x.cps.toList.map fun (c : Nat) => (c : Int) - 110).sum
noncomputable def readF : List Nat → List Int
  | [] => []
  | c :: r => if inB1 c then readF r else letters (b3F c) :: readF r
theorem b1_use {w : World} {mean : ExcName → Option Value} {mg mb : Str → Option Value} {news : List (Addr × Obj)} {c : Nat} {t : Tok} {dp un : Nat} {gd : Option (List Code)} {cn : Str} {cs : Scope} {a' : Addr} {ccd : Value} {cl : List (Str × Addr)} {outer : List Env} {A₀ : Around} {base h₀ : Heap} {L : Addr} {m : Str → Option Value} {s : Shared} {Q E : Value → Shared → Prop}
    (h : ∀  h' tk', Fr h₀ L h' m → News h₀ L h' (news) → Q (.bool (inB1 c)) { s with heap := h', toks := tk' })
    (k1 : Below A₀ base outer h₀ := by k_asm) (k2 : Fr h₀ L s.heap m := by k_asm) (k3 : (theK w.params).In h₀ := by k_asm) (k4 : News h₀ L s.heap (news) := by k_asm) (k5 : Top theQ (looseW theQ theLoose) mean mg mb h₀ := by k_asm) (kK : cs.kind = .function := by first | exact rfl | assumption)
    (h64 : h₀.get? 64 = some (o64 w.params) := by first | assumption | exact Fr.keep (by assumption) _ _ (by assumption)) (tb : Tab h₀ 75 bigTab := by first | assumption | exact Tab.keeps (by assumption) (Fr.keep (by assumption)))  (kd : dp + 1 < recursionLimit := by ktr_room) (ku : un + 8 * 1 < cLine := by ktr_units) :
    wpAny (model theProg w) (ktrTop dp un gd cn cs L a' ccd cl outer) (call (.ref 74) [.str ⟨#[c]⟩ t]) Q E s :=
  b1_c w mean mg mb news c t dp un gd cn cs a' ccd cl outer A₀ base h₀ L m s Q E k1 k2 k3 k4 k5 kK h64 tb trivial kd ku fun v new h' tk' hr F N => by
    obtain ⟨hv, hn⟩ := hr
    subst hv hn
    exact h  h' tk' F N
local macro_rules | `(tactic| walk_at "call ref") => `(tactic| (k_here; k_dflt (refine b1_use ?_); intro h9 tk9 F9 N9; (try dsimp only)))
theorem b3_use {w : World} {mean : ExcName → Option Value} {mg mb : Str → Option Value} {news : List (Addr × Obj)} {c : Nat} {t : Tok} {dp un : Nat} {gd : Option (List Code)} {cn : Str} {cs : Scope} {a' : Addr} {ccd : Value} {cl : List (Str × Addr)} {outer : List Env} {A₀ : Around} {base h₀ : Heap} {L : Addr} {m : Str → Option Value} {s : Shared} {Q E : Value → Shared → Prop}
    (h : ∀ t h' tk', Fr h₀ L h' m → News h₀ L h' (news) → Q (.str (b3F c) t) { s with heap := h', toks := tk' })
    (k1 : Below A₀ base outer h₀ := by k_asm) (k2 : Fr h₀ L s.heap m := by k_asm) (k3 : (theK w.params).In h₀ := by k_asm) (k4 : News h₀ L s.heap (news) := by k_asm) (k5 : Top theQ (looseW theQ theLoose) mean mg mb h₀ := by k_asm) (kK : cs.kind = .function := by first | exact rfl | assumption)
    (h64 : h₀.get? 64 = some (o64 w.params) := by first | assumption | exact Fr.keep (by assumption) _ _ (by assumption)) (tb : Tab h₀ 75 bigTab := by first | assumption | exact Tab.keeps (by assumption) (Fr.keep (by assumption))) (p1 : Builtin.Str.tooLong (Txt.lower ⟨#[c]⟩).length = false := by assumption) (kd : dp + 1 < recursionLimit := by ktr_room) (ku : un + 8 * 1 < cLine := by ktr_units) :
    wpAny (model theProg w) (ktrTop dp un gd cn cs L a' ccd cl outer) (call (.ref 120) [.str ⟨#[c]⟩ t]) Q E s :=
  b3_c w mean mg mb news c t dp un gd cn cs a' ccd cl outer A₀ base h₀ L m s Q E k1 k2 k3 k4 k5 kK h64 tb p1 kd ku fun v new h' tk' hr F N => by
    obtain ⟨⟨t, hv⟩, hn⟩ := hr
    subst hv hn
    exact h t h' tk' F N
local macro_rules | `(tactic| walk_at "call ref") => `(tactic| (k_here; k_dflt (refine b3_use ?_); intro t9 h9 tk9 F9 N9; (try dsimp only)))
local macro_rules | `(tactic| walk_at "eval ListComp") => `(tactic| (k_here; k_dflt (refine ListComp_S (F₀ := by k_asm) (by with_unfolding_all rfl) (by decide) (by rfl) (by decide) (by rfl) ?_)))
theorem ints_snoc {k : Int} {t : Tok} : ∀ {vs : List Value} {ns : List Int}, IntsAre vs ns → IntsAre (vs ++ [.int k t]) (ns ++ [k])
  | _, _, .nil => .cons _ _ .nil
  | _, _, .cons n u r => .cons n u (ints_snoc r)
theorem fr_twice {h₀ h : Heap} {L : Addr} {x : Str} {a o : Option Value} {m0 : Str → Option Value} (F : Fr h₀ L h (fun y => if y = x then a else (fun y => if y = x then o else m0 y) y)) : Fr h₀ L h (fun y => if y = x then a else m0 y) := by
  have e : (fun y => if y = x then a else (fun y => if y = x then o else m0 y) y) = fun y => if y = x then a else m0 y := by
    funext y
    by_cases h : y = x
    · rw [if_pos h, if_pos h]
    · rw [if_neg h, if_neg h]
      exact if_neg h
  rw [← e]
  exact F
inductive ReadI (m0 : Str → Option Value) (news : List (Addr × Obj)) (x : Str) (cs : List Nat) (m : Str → Option Value) (nw : List (Addr × Obj)) : Prop
  | mk (vs : List Value) (acc : List Int) (o : Option Value) (l1 : Addr) (n : Nat) (h1 : m0 (Str.ofString "steps") = some (.ref l1)) (h2 : m = (fun y => if y = Str.ofString "sign" then o else m0 y)) (h3 : nw = (l1, listOf vs.toArray n) :: news) (h4 : IntsAre vs acc) (h5 : acc ++ readF cs = readF x.cps.toList) (h6 : vs.length + cs.length ≤ 1000) (h7 : ∀ c ∈ cs, (Builtin.Str.tooLong (Txt.lower ⟨#[c]⟩).length = false ∧ (b3F c).cps.size ≤ sizeLine ∧ (b3F c).length ≤ sizeLine))
theorem read_c (w : World) (mean : ExcName → Option Value) (mg mb : Str → Option Value) (news : List (Addr × Obj)) (x : Str) (t : Tok) :
    Ct w mean mg mb 144 news (x.cps.size ≤ 1000 ∧ ∀ c ∈ x.cps.toList, (Builtin.Str.tooLong (Txt.lower ⟨#[c]⟩).length = false ∧ (b3F c).cps.size ≤ sizeLine ∧ (b3F c).length ≤ sizeLine)) [.str x t] 3 (fun v new => ∃ l vs n, v = .ref l ∧ new = [(l, listOf vs.toArray n)] ∧ IntsAre vs (readF x.cps.toList)) := by
  dsimp only [Ct, RetL]
  intros
  rename_i hret
  refine wpAny_call ?_
  k_dflt cell_enter
  iterate 8 (first | (k_unfold; (try dsimp only)) | (k_end; wrow_close) | walk1 | (dsimp only; walk1) | (leave1; walk_say "STEP leave1"; try dsimp only) | fail "no step")
  k_here
  rename Fr _ _ _ _ => lF'
  with_unfolding_all refine' For_invVF lF' ?k1 ?k2 ?_
  case k1 => exact rfl
  case k2 => exact rfl
  iterate 1 (first | (k_unfold; (try dsimp only)) | (k_end; wrow_close) | walk1 | (dsimp only; walk1) | (leave1; walk_say "STEP leave1"; try dsimp only) | fail "no step")
  rename News _ _ _ _ => N0
  obtain ⟨m0, hm0, lF0⟩ := fr_m lF'
  refine iter_strUnr (by rfl) lF0 N0 rfl ?_
  intro I hI
  rename x.cps.size ≤ 1000 ∧ _ => hpre
  rename ∀ p ∈ news, p.1 < _ => hnl
  refine strRest_ind (Inv := ReadI m0 news x) ?_ ?_ _ _ _ ⟨[], [], none, _, 0, by rw [hm0]; rfl, ?_, rfl, .nil, rfl, ?_, ?_⟩
  rotate_left 2
  · subst hm0
    funext y
    by_cases e : y = Str.ofString "sign"
    · subst e
      rfl
    · rw [if_neg e]
  · simp only [List.length_nil, Array.length_toList, Nat.zero_add]
    exact hpre.1
  · exact hpre.2
  · rintro c r m nw ⟨vs, acc, o, l1, n, hm1, rfl, rfl, hi, he, hn, hp⟩ u it h tk F N
    replace F := fr_twice F
    subst hm0
    obtain ⟨hpc, hpd, hpe⟩ := hp c (.head _)
    obtain rfl : l1 = _ := by
      have h : some (Value.ref l1) = some (Value.ref _) := hm1.symm
      injection h with h
      injection h
    k_steps
    · rename inB1 _ = true => hb
      refine UnrEnd.intro (by rename Fr _ _ _ _ => F5; with_unfolding_all exact F5) (by k_asm) ((l1, listOf vs.toArray n) :: news) (fun p hp => hp) ?_ ⟨vs, acc, some (.str ⟨#[c]⟩ u), l1, n, hm1, rfl, rfl, hi, ?_, ?_, fun c' hc' => hp c' (.tail _ hc')⟩
      · intro p hp
        rcases List.mem_cons.mp hp with rfl | hp
        · exact Nat.ne_of_lt (hI (l1, listOf #[] 0) (.head _))
        · exact Nat.ne_of_lt (hI _ (.tail _ hp))
      · rw [← he]
        show _ = acc ++ (if inB1 c then readF r else letters (b3F c) :: readF r)
        rw [if_pos hb]
      · simp only [List.length_cons] at hn
        omega
    · refine ⟨_, _, _, rfl, rfl, by k_asm, by k_asm, by assumption, fun g => ?_⟩
      refine rest_signs (fun c => (c : Int) - 110) ?_ ?_
      · intro c' t' I' oI' C' oC' D' m' ys' h' tk' E' hC' hx' F' N' off' ne'
        have off0 := off'
        simp only [LCg.Off3, and_true] at off'
        k_steps
        exact ⟨_, _, _, rfl, by k_asm, by k_asm, off0, trivial, rfl, _, rfl⟩
      · intro ys hys
        k_steps
        rename (I ≠ _ ∧ _ ≠ _ ∧ LCg.Off1 _ news) => ho
        rename Tok => tz
        have hlI : l1 < I := hI _ (.head _)
        with_unfolding_all refine append_K (by k_asm) (by assumption) (Upd.tail (Ne.symm ho.2.1) (Upd.tail (Ne.symm (Nat.ne_of_lt hlI)) (Upd.head (fun p hp => Nat.ne_of_lt (hnl p hp))))) ?_ ?_
        · intro h8 F8 N8
          k_steps
          refine UnrEnd.intro (by rename Fr _ _ _ _ => F5; with_unfolding_all exact F5) N8 ((l1, listOf (vs.toArray.push (.int (letters (b3F c)) tz)) (n + 1)) :: news) (fun p hp => .tail _ hp) ?_ ⟨vs ++ [.int (letters (b3F c)) tz], acc ++ [letters (b3F c)], some (.str ⟨#[c]⟩ u), l1, n + 1, hm1, rfl, ?_, ints_snoc hi, ?_, ?_, fun c' hc' => hp c' (.tail _ hc')⟩
          · intro p hp
            rcases List.mem_cons.mp hp with rfl | hp
            · exact Nat.ne_of_lt (hI (l1, listOf #[] 0) (.head _))
            · exact Nat.ne_of_lt (hI _ (.tail _ hp))
          · rw [List.push_toArray]
          · rename inB1 _ = false => hb
            rw [← he, List.append_assoc]
            show _ = acc ++ (if inB1 c then readF r else letters (b3F c) :: readF r)
            rw [if_neg (by rw [hb]; exact Bool.false_ne_true)]
            rfl
          · simp only [List.length_cons, List.length_append, List.length_nil] at hn ⊢
            omega
        · simp only [List.length_cons] at hn
          rw [List.size_toArray, PySem.sizeLine_eq]
          omega
  · rintro m nw ⟨vs, acc, o, l1, n, hm1, rfl, rfl, hi, he, hn, hp⟩ h tk F N
    subst hm0
    obtain rfl : l1 = _ := by
      have h : some (Value.ref l1) = some (Value.ref _) := hm1.symm
      injection h with h
      injection h
    k_steps
    rw [show acc ++ readF [] = acc from List.append_nil acc] at he
    exact hret _ [(l1, listOf vs.toArray n)] _ _ ⟨l1, vs, n, rfl, rfl, he ▸ hi⟩ (by k_asm) (by assumption)

end
section -- part WP
open PySem PySem.W PyProof.Rows
set_option Elab.async false
set_option maxRecDepth 100000
set_option linter.unusedVariables false
theorem read_app : ∀ a b : List Nat, readF (a ++ b) = readF a ++ readF b
  | [], _ => rfl
  | c :: a, b => by
    show (if inB1 c then readF (a ++ b) else letters (b3F c) :: readF (a ++ b)) = (if inB1 c then readF a else letters (b3F c) :: readF a) ++ readF b
    rw [read_app a b]
    split <;> rfl
theorem read_one {c : Nat} {k : Int} (h1 : inB1 c = false) (h2 : letters (b3F c) = k) : readF [c] = [k] := by
  show (if inB1 c then readF [] else letters (b3F c) :: readF []) = _
  rw [if_neg (by rw [h1]; exact Bool.false_ne_true), h2]
  rfl
theorem read_b1 {c : Nat} (h1 : inB1 c = true) : readF [c] = [] := by
  show (if inB1 c then readF [] else letters (b3F c) :: readF []) = _
  rw [if_pos h1]
  rfl
noncomputable def okC (c : Nat) (k : Int) : Bool := !inB1 c && letters (b3F c) == k && Nat.ble (b3F c).cps.size 8
theorem menu_ok : (okC 64259 (-21) && okC 13202 5 && okC 13273 3 && okC 8481 (-5)) = true := by kernel_rfl
noncomputable def formW (w : Nat) : Bool := ((List.range 6).all fun f => okC (120172 + 52 * f + w) ((w : Int) - 13)) && okC (97 + w) ((w : Int) - 13) && okC (65 + w) ((w : Int) - 13)
noncomputable def formsOk : Bool := (List.range 26).all formW
theorem forms_0 : (formW 0 && formW 1) = true := by kernel_rfl
theorem forms_1 : (formW 2 && formW 3) = true := by kernel_rfl
theorem forms_2 : (formW 4 && formW 5) = true := by kernel_rfl
theorem forms_3 : (formW 6 && formW 7) = true := by kernel_rfl
theorem forms_4 : (formW 8 && formW 9) = true := by kernel_rfl
theorem forms_5 : (formW 10 && formW 11) = true := by kernel_rfl
theorem forms_6 : (formW 12 && formW 13) = true := by kernel_rfl
theorem forms_7 : (formW 14 && formW 15) = true := by kernel_rfl
theorem forms_8 : (formW 16 && formW 17) = true := by kernel_rfl
theorem forms_9 : (formW 18 && formW 19) = true := by kernel_rfl
theorem forms_10 : (formW 20 && formW 21) = true := by kernel_rfl
theorem forms_11 : (formW 22 && formW 23) = true := by kernel_rfl
theorem forms_12 : (formW 24 && formW 25) = true := by kernel_rfl
theorem two_of {f : Nat → Bool} (j : Nat) (h : (f (2 * j) && f (2 * j + 1)) = true) {k : Nat} (hk : k / 2 = j) : f k = true := by
  have h := Bool.and_eq_true_iff.mp h
  rcases (show k = 2 * j ∨ k = 2 * j + 1 by omega) with rfl | rfl
  · exact h.1
  · exact h.2
theorem forms_ok : formsOk = true := by
  unfold formsOk
  rw [List.all_eq_true]
  intro k hk
  have hk := List.mem_range.mp hk
  have hj : k / 2 < 13 := by omega
  generalize hq : k / 2 = j at hj
  match j, hj with
  | 0, _ => exact two_of 0 forms_0 hq
  | 1, _ => exact two_of 1 forms_1 hq
  | 2, _ => exact two_of 2 forms_2 hq
  | 3, _ => exact two_of 3 forms_3 hq
  | 4, _ => exact two_of 4 forms_4 hq
  | 5, _ => exact two_of 5 forms_5 hq
  | 6, _ => exact two_of 6 forms_6 hq
  | 7, _ => exact two_of 7 forms_7 hq
  | 8, _ => exact two_of 8 forms_8 hq
  | 9, _ => exact two_of 9 forms_9 hq
  | 10, _ => exact two_of 10 forms_10 hq
  | 11, _ => exact two_of 11 forms_11 hq
  | 12, _ => exact two_of 12 forms_12 hq
  | n + 13, h => omega
theorem b1_ok : ((List.range 17).all fun k => k == 0 || inB1 (65023 + k)) = true := by decide +kernel

end
section -- part WQ
open PySem PySem.W PyProof.Rows
set_option Elab.async false
set_option maxRecDepth 100000
set_option linter.unusedVariables false
/-- a sign that the reader takes as the step k -/
structure Sign (c : Nat) (k : Int) : Prop where
  out : inB1 c = false
  is : letters (b3F c) = k
  short : (b3F c).cps.size ≤ 8
theorem okC_sign {c : Nat} {k : Int} (h : okC c k = true) : Sign c k := by
  unfold okC at h
  obtain ⟨h, h3⟩ := Bool.and_eq_true_iff.mp h
  obtain ⟨h1, h2⟩ := Bool.and_eq_true_iff.mp h
  refine ⟨?_, eq_of_beq h2, Nat.le_of_ble_eq_true h3⟩
  cases h9 : inB1 c with
  | false => rfl
  | true => rw [h9] at h1; exact absurd h1 (by decide)
theorem sign_is (v : Int) : ∃ c, signF v = ⟨#[c]⟩ ∧ Sign c (stepF v) := by
  have h0 := Int.fmod_nonneg_of_pos v (b := 30) (by decide)
  have h1 := Int.fmod_lt_of_pos v (b := 30) (by decide)
  have g0 := Int.fmod_nonneg_of_pos (v.fdiv 30) (b := 8) (by decide)
  have g1 := Int.fmod_lt_of_pos (v.fdiv 30) (b := 8) (by decide)
  have hm := menu_ok
  obtain ⟨hm, m3⟩ := Bool.and_eq_true_iff.mp hm
  obtain ⟨hm, m2⟩ := Bool.and_eq_true_iff.mp hm
  obtain ⟨m0, m1⟩ := Bool.and_eq_true_iff.mp hm
  by_cases hw : 25 < v.fmod 30
  · rw [sign_a v hw]
    refine ⟨_, rfl, ?_⟩
    unfold stepF
    rw [if_pos hw]
    have : v.fmod 30 = 26 ∨ v.fmod 30 = 27 ∨ v.fmod 30 = 28 ∨ v.fmod 30 = 29 := by omega
    rcases this with e | e | e | e <;> rw [e]
    · exact okC_sign m0
    · exact okC_sign m1
    · exact okC_sign m2
    · exact okC_sign m3
  · have hs : stepF v = v.fmod 30 - 13 := if_neg hw
    have hf := forms_ok
    unfold formsOk at hf
    have hf := List.all_eq_true.mp hf (v.fmod 30).toNat (List.mem_range.mpr (by omega))
    obtain ⟨hf, f3⟩ := Bool.and_eq_true_iff.mp hf
    obtain ⟨f1, f2⟩ := Bool.and_eq_true_iff.mp hf
    have e : (((v.fmod 30).toNat : Nat) : Int) = v.fmod 30 := Int.toNat_of_nonneg h0
    rw [e, ← hs] at f2 f3
    by_cases h6 : (v.fdiv 30).fmod 8 < 6
    · rw [sign_b v hw h6]
      refine ⟨_, rfl, ?_⟩
      have f1 := List.all_eq_true.mp f1 ((v.fdiv 30).fmod 8).toNat (List.mem_range.mpr (by omega))
      rw [e, ← hs] at f1
      have e2 : (120172 + 52 * (v.fdiv 30).fmod 8 + v.fmod 30).toNat = 120172 + 52 * ((v.fdiv 30).fmod 8).toNat + (v.fmod 30).toNat := by omega
      rw [e2]
      exact okC_sign f1
    · by_cases h7 : (v.fdiv 30).fmod 8 = 6
      · rw [sign_c v hw h6 h7]
        refine ⟨_, rfl, ?_⟩
        have e2 : (97 + v.fmod 30).toNat = 97 + (v.fmod 30).toNat := by omega
        rw [e2]
        exact okC_sign f2
      · rw [sign_d v hw h6 h7]
        refine ⟨_, rfl, ?_⟩
        have e2 : (65 + v.fmod 30).toNat = 65 + (v.fmod 30).toNat := by omega
        rw [e2]
        exact okC_sign f3
theorem ahead_is (v : Int) : (aheadF v).cps.toList = [] ∨ ∃ c, (aheadF v).cps.toList = [c] ∧ inB1 c = true := by
  unfold aheadF
  by_cases h : (v.fdiv 240).fmod 17 ≠ 0
  · rw [if_pos h]
    refine .inr ⟨_, rfl, ?_⟩
    have g0 := Int.fmod_nonneg_of_pos (v.fdiv 240) (b := 17) (by decide)
    have g1 := Int.fmod_lt_of_pos (v.fdiv 240) (b := 17) (by decide)
    have hb := List.all_eq_true.mp b1_ok ((v.fdiv 240).fmod 17).toNat (List.mem_range.mpr (by omega))
    have e2 : (65023 + (v.fdiv 240).fmod 17).toNat = 65023 + ((v.fdiv 240).fmod 17).toNat := by omega
    rw [e2]
    rcases Bool.or_eq_true_iff.mp hb with hb | hb
    · have := eq_of_beq hb
      omega
    · exact hb
  · rw [if_neg h]
    exact .inl rfl
theorem cps_app (x y : Str) : (x ++ y).cps.toList = x.cps.toList ++ y.cps.toList := Array.toList_append
theorem join_four (x y z t : Str) : (Txt.join (Str.ofString "") [x, y, z, t]).cps.toList = x.cps.toList ++ (y.cps.toList ++ (z.cps.toList ++ t.cps.toList)) := by
  show (Builtin.Str.glued (Str.ofString "") [x, y, z, t]).cps.toList = _
  rw [StrLaws.glued_eq_join]
  show (x ++ Str.ofString "" ++ (y ++ Str.ofString "" ++ (z ++ Str.ofString "" ++ t))).cps.toList = _
  have e : (Str.ofString "").cps.toList = [] := rfl
  simp only [cps_app, e, List.append_nil]
theorem spell_read (v : Int) : readF (spellF v).cps.toList = [stepF v] := by
  obtain ⟨c, hc, sc⟩ := sign_is v
  rw [spellF, cps_app, read_app, hc]
  have h2 : readF [c] = [stepF v] := read_one sc.out sc.is
  show readF (aheadF v).cps.toList ++ readF [c] = _
  rw [h2]
  rcases ahead_is v with e | ⟨d, e, hd⟩
  · rw [e]
    rfl
  · rw [e, read_b1 hd]
    rfl
theorem text_read (a b c d : Int) : readF (Txt.join (Str.ofString "") [spellF a, spellF b, spellF c, spellF d]).cps.toList = [stepF a, stepF b, stepF c, stepF d] := by
  rw [join_four, read_app, read_app, read_app, spell_read, spell_read, spell_read, spell_read]
  rfl
theorem lower_short (c : Nat) : Builtin.Str.tooLong (Txt.lower ⟨#[c]⟩).length = false := by
  have h := len_lower ⟨#[c]⟩
  have h1 : (⟨#[c]⟩ : Str).length = 1 := rfl
  unfold Builtin.Str.tooLong
  rw [decide_eq_false_iff_not, PySem.sizeLine_eq]
  omega
theorem look_mem : ∀ {tab : List (Int × Str)} {k : Int} {x : Str}, look tab k = some x → ∃ p ∈ tab, p.2 = x
  | [], _, _, h => by cases h
  | p :: r, k, x, h => by
    unfold look at h
    by_cases e : p.1 = k
    · rw [if_pos e] at h
      exact ⟨p, .head _, Option.some.inj h⟩
    · rw [if_neg e] at h
      obtain ⟨q, hq, h⟩ := look_mem h
      exact ⟨q, .tail _ hq, h⟩
theorem bigTab_short : (bigTab.all fun p => Nat.ble p.2.cps.size 8) = true := by kernel_rfl
theorem b3F_short (c : Nat) : (b3F c).cps.size ≤ 8 := by
  show ((look bigTab c).getD (Txt.lower ⟨#[c]⟩)).cps.size ≤ 8
  cases h : look bigTab c with
  | none =>
    have h := len_lower ⟨#[c]⟩
    have h1 : (⟨#[c]⟩ : Str).length = 1 := rfl
    show (Txt.lower ⟨#[c]⟩).length ≤ 8
    omega
  | some x =>
    obtain ⟨p, hp, e⟩ := look_mem h
    have := Nat.le_of_ble_eq_true (List.all_eq_true.mp bigTab_short p hp)
    rw [e] at this
    exact this
theorem read_pre (a b c d : Int) : (Txt.join (Str.ofString "") [spellF a, spellF b, spellF c, spellF d]).cps.size ≤ 1000 ∧ ∀ c' ∈ (Txt.join (Str.ofString "") [spellF a, spellF b, spellF c, spellF d]).cps.toList, (Builtin.Str.tooLong (Txt.lower ⟨#[c']⟩).length = false ∧ (b3F c').cps.size ≤ sizeLine ∧ (b3F c').length ≤ sizeLine) := by
  refine ⟨?_, fun c' _ => ⟨lower_short c', ?_, ?_⟩⟩
  · rw [← Array.length_toList, join_four]
    have ha := spell_len a
    have hb := spell_len b
    have hc := spell_len c
    have hd := spell_len d
    unfold PySem.Str.length at ha hb hc hd
    simp only [List.length_append, Array.length_toList]
    omega
  · have := b3F_short c'
    rw [PySem.sizeLine_eq]
    omega
  · have : (b3F c').length ≤ 8 := b3F_short c'
    rw [PySem.sizeLine_eq]
    omega

end
section -- part W9
open PySem PySem.W PyProof.Rows
set_option Elab.async false
set_option maxRecDepth 100000
set_option linter.unusedVariables false
theorem ints_four {ws : List Value} {a b c d : Int} (h : IntsAre ws [a, b, c, d]) : ∃ t0 t1 t2 t3, ws = [.int a t0, .int b t1, .int c t2, .int d t3] := by
  obtain ⟨t0, w0, rfl, h0⟩ := ints_cons h
  obtain ⟨t1, w1, rfl, h1⟩ := ints_cons h0
  obtain ⟨t2, w2, rfl, h2⟩ := ints_cons h1
  obtain ⟨t3, w3, rfl, h3⟩ := ints_cons h2
  cases ints_nil h3
  exact ⟨t0, t1, t2, t3, rfl⟩
theorem read_d (w : World) (mean : ExcName → Option Value) (mg mb : Str → Option Value) (news : List (Addr × Obj)) (a b c d : Int) (t : Tok) :
    Ct w mean mg mb 144 news True [.str (Txt.join (Str.ofString "") [spellF a, spellF b, spellF c, spellF d]) t] 3 (fun v new => ∃ l n t0 t1 t2 t3, v = .ref l ∧ new = [(l, listOf #[.int (stepF a) t0, .int (stepF b) t1, .int (stepF c) t2, .int (stepF d) t3] n)]) := by
  intro dp un gd cn cs a' ccd cl outer A₀ base h₀ L m s Q E k1 k2 k3 k4 k5 k6 k7 k8 kp kd ku kR
  refine read_c w mean mg mb news _ t dp un gd cn cs a' ccd cl outer A₀ base h₀ L m s Q E k1 k2 k3 k4 k5 k6 k7 k8 (read_pre a b c d) kd ku ?_
  rintro v new h' tk' ⟨l, vs, n, rfl, rfl, hi⟩ F N
  rw [text_read] at hi
  obtain ⟨t0, t1, t2, t3, rfl⟩ := ints_four hi
  exact kR _ _ _ _ ⟨l, n, t0, t1, t2, t3, rfl, rfl⟩ F N

end
section -- part WF
open PySem PySem.W PyProof.Rows
set_option Elab.async false
set_option maxRecDepth 100000
set_option maxHeartbeats 8000000
set_option linter.unusedVariables false
theorem fill_itF : (theK, theRow) = (theK, theRow) := by w_on; k_fill; rfl
def hsvF (x y z : UInt64) : UInt64 × UInt64 × UInt64 :=
  let i := Flt.toInt Float64.truncOf (Float64.mul x 4618441417868443648)
  let f := Float64.sub (Float64.mul x 4618441417868443648) (Float64.ofInt i)
  let p := Float64.mul z (Float64.sub 4607182418800017408 y)
  let q := Float64.mul z (Float64.sub 4607182418800017408 (Float64.mul y f))
  let t := Float64.mul z (Float64.sub 4607182418800017408 (Float64.mul y (Float64.sub 4607182418800017408 f)))
  if Int.fmod i 6 = 0 then (z, t, p) else if Int.fmod i 6 = 1 then (q, z, p) else if Int.fmod i 6 = 2 then (p, z, t) else if Int.fmod i 6 = 3 then (p, q, z) else if Int.fmod i 6 = 4 then (t, p, z) else (z, p, q)
def rgbH (r g b : UInt64) : UInt64 :=
  let maxc := Flt.maxOfBits [r, g, b]
  let minc := Flt.minOfBits [r, g, b]
  let rangec := Float64.sub maxc minc
  let rc := Float64.div (Float64.sub maxc r) rangec
  let gc := Float64.div (Float64.sub maxc g) rangec
  let bc := Float64.div (Float64.sub maxc b) rangec
  let h := if Float64.cmp r maxc == some .eq then Float64.sub bc gc else if Float64.cmp g maxc == some .eq then Float64.sub (Float64.add 4611686018427387904 rc) bc else Float64.sub (Float64.add 4616189618054758400 gc) rc
  (Float64.divmod (Float64.div h 4618441417868443648) 4607182418800017408).2
def hueF (x : Int) : UInt64 := Float64.ofFrac (decide (x % 256 < 0) != decide ((256:Int) < 0)) (x % 256).natAbs (256:Int).natAbs
def placeF (x : Int) (y z : UInt64) : Int :=
  let c := hsvF (hueF x) y z
  let p := Flt.toInt Float64.nearestOf (Float64.mul (rgbH c.1 c.2.1 c.2.2) (Float64.ofInt 256))
  if p < 128 then p else p - 256

abbrev oTup3 (a b c : Value) : Obj := { cls := .type "tuple", data := .seq #[a, b, c] }

abbrev hI (x : UInt64) : Int := Flt.toInt Float64.truncOf (Float64.mul x 4618441417868443648)
abbrev hFr (x : UInt64) : UInt64 := Float64.sub (Float64.mul x 4618441417868443648) (Float64.ofInt (hI x))
abbrev hP (y z : UInt64) : UInt64 := Float64.mul z (Float64.sub 4607182418800017408 y)
abbrev hQ (x y z : UInt64) : UInt64 := Float64.mul z (Float64.sub 4607182418800017408 (Float64.mul y (hFr x)))
abbrev hT (x y z : UInt64) : UInt64 := Float64.mul z (Float64.sub 4607182418800017408 (Float64.mul y (Float64.sub 4607182418800017408 (hFr x))))
theorem hsvF_0 {x y z : UInt64}  (h0 : Int.fmod (hI x) 6 = 0) : hsvF x y z = (z, hT x y z, hP y z) := by
  simp only [hsvF, if_pos h0]
theorem hsvF_1 {x y z : UInt64} (h0 : Int.fmod (hI x) 6 ≠ 0) (h1 : Int.fmod (hI x) 6 = 1) : hsvF x y z = (hQ x y z, z, hP y z) := by
  simp only [hsvF, if_neg h0, if_pos h1]
theorem hsvF_2 {x y z : UInt64} (h0 : Int.fmod (hI x) 6 ≠ 0) (h1 : Int.fmod (hI x) 6 ≠ 1) (h2 : Int.fmod (hI x) 6 = 2) : hsvF x y z = (hP y z, z, hT x y z) := by
  simp only [hsvF, if_neg h0, if_neg h1, if_pos h2]
theorem hsvF_3 {x y z : UInt64} (h0 : Int.fmod (hI x) 6 ≠ 0) (h1 : Int.fmod (hI x) 6 ≠ 1) (h2 : Int.fmod (hI x) 6 ≠ 2) (h3 : Int.fmod (hI x) 6 = 3) : hsvF x y z = (hP y z, hQ x y z, z) := by
  simp only [hsvF, if_neg h0, if_neg h1, if_neg h2, if_pos h3]
theorem hsvF_4 {x y z : UInt64} (h0 : Int.fmod (hI x) 6 ≠ 0) (h1 : Int.fmod (hI x) 6 ≠ 1) (h2 : Int.fmod (hI x) 6 ≠ 2) (h3 : Int.fmod (hI x) 6 ≠ 3) (h4 : Int.fmod (hI x) 6 = 4) : hsvF x y z = (hT x y z, hP y z, z) := by
  simp only [hsvF, if_neg h0, if_neg h1, if_neg h2, if_neg h3, if_pos h4]
theorem hsvF_5 {x y z : UInt64} (h0 : Int.fmod (hI x) 6 ≠ 0) (h1 : Int.fmod (hI x) 6 ≠ 1) (h2 : Int.fmod (hI x) 6 ≠ 2) (h3 : Int.fmod (hI x) 6 ≠ 3) (h4 : Int.fmod (hI x) 6 ≠ 4)  : hsvF x y z = (z, hP y z, hQ x y z) := by
  simp only [hsvF, if_neg h0, if_neg h1, if_neg h2, if_neg h3, if_neg h4]
theorem hsv_no {n : Int} (h0 : Int.fmod n 6 ≠ 0) (h1 : Int.fmod n 6 ≠ 1) (h2 : Int.fmod n 6 ≠ 2) (h3 : Int.fmod n 6 ≠ 3) (h4 : Int.fmod n 6 ≠ 4) (h5 : Int.fmod n 6 ≠ 5) : False := by
  rw [Int.fmod_eq_emod_of_nonneg _ (by decide : (0:Int) ≤ 6)] at h0 h1 h2 h3 h4 h5
  omega
theorem hsv_eq {D : Addr} {x y z a b c : UInt64} {ta tb tc : Tok} (h : hsvF x y z = (a, b, c)) : [(D, oTup3 (.float a ta) (.float b tb) (.float c tc))] = [(D, oTup3 (.float (hsvF x y z).1 ta) (.float (hsvF x y z).2.1 tb) (.float (hsvF x y z).2.2 tc))] := by rw [h]
section
variable {prog : Program} {w : World} {A : Around} {E : Value → Shared → Prop} {s : Shared} {Q : Value → Shared → Prop} {x y : UInt64} {n : Int} {t u : Tok}
theorem fin_nan (hf : Float64.isFinite x = true) (hn : Float64.isNaN x = true) : False := by
  unfold Float64.isNaN at hn
  unfold Float64.isFinite at hf
  cases h : Float64.decode x <;> simp_all
theorem fin_inf (hf : Float64.isFinite x = true) (hn : Float64.isInf x = true) : False := by
  unfold Float64.isInf at hn
  unfold Float64.isFinite at hf
  cases h : Float64.decode x <;> simp_all
theorem int_fin (hA : A.handled = none) (hf : Float64.isFinite x = true) (h : Q (.int (Flt.toInt Float64.truncOf x) s.toks) { s with toks := s.toks + 1 }) : wpAny (model prog w) A (call (.type "int") [.float x t]) Q E s :=
  Flt.call_int_float3 hA (fun c => (fin_nan hf c).elim) (fun c => (fin_inf hf c).elim) (fun _ => h)
theorem round_fin (hA : A.handled = none) (hf : Float64.isFinite x = true) (h : Q (.int (Flt.toInt Float64.nearestOf x) s.toks) { s with toks := s.toks + 1 }) : wpAny (model prog w) A (call (.builtin "round") [.float x t]) Q E s :=
  Flt.call_round_float hA (fun c => (fin_nan hf c).elim) (fun c => (fin_inf hf c).elim) (fun _ => h)
theorem div_fin (hA : A.handled = none) (hz : Float64.isZero y = false) (h : Q (.float (Float64.div x y) s.toks) { s with toks := s.toks + 1 }) : wpAny (model prog w) A (binaryOp .Div (.float x t) (.float y u)) Q E s :=
  truediv_float_or hA (fun c => by rw [hz] at c; cases c) (fun _ => h)
theorem mod_fin (hA : A.handled = none) (hz : Float64.isZero y = false) (h : Q (.float (Float64.divmod x y).2 s.toks) { s with toks := s.toks + 1 }) : wpAny (model prog w) A (binaryOp .Mod (.float x t) (.float y u)) Q E s :=
  Flt.mod_ff hA (fun c => by rw [hz] at c; cases c) (fun _ => h)
end
local macro_rules | `(tactic| walk_at "call type:int") => `(tactic| ((with_reducible show wpAny _ _ (call _ [Value.float _ _]) _ _ _); (with_unfolding_all refine int_fin (by rfl) (by assumption) ?_); (try dsimp only)))
local macro_rules | `(tactic| walk_at "binaryOp Sub float int") => `(tactic| ((with_unfolding_all refine sub_fi_fits (by assumption) ?_); (try dsimp only)))
theorem hsv_c (w : World) (mean : ExcName → Option Value) (mg mb : Str → Option Value) (news : List (Addr × Obj)) (x y z : UInt64) (t0 t1 t2 : Tok) :
    Cl w mean mg mb 56 news [] ((Float64.cmp y 0 == some Ordering.eq) = false ∧ Float64.isFinite (Float64.mul x 4618441417868443648) = true ∧ (Flt.toInt Float64.truncOf (Float64.mul x 4618441417868443648)).natAbs < 2 ^ 1023) [.float x t0, .float y t1, .float z t2] 1 (fun v new => ∃ T a b c, v = .ref T ∧ new = [(T, oTup3 (.float (hsvF x y z).1 a) (.float (hsvF x y z).2.1 b) (.float (hsvF x y z).2.2 c))]) := by
  dsimp only [Cl, CbLists, RetL]
  intro dp un gd cn cs a' ccd cl outer A₀ base h₀ L m s Q E k1 k2 k3 k4 k5 k6 hpre kd ku hret
  obtain ⟨hp1, hp2, hp3⟩ := hpre
  refine wpAny_call ?_
  k_dflt cell_enter
  iterate 250 (first | done | (refine hret _ [(_, _)] _ _ ⟨_, _, _, _, rfl, hsv_eq (by first | exact hsvF_0 (by assumption) | exact hsvF_1 (by assumption) (by assumption) | exact hsvF_2 (by assumption) (by assumption) (by assumption) | exact hsvF_3 (by assumption) (by assumption) (by assumption) (by assumption) | exact hsvF_4 (by assumption) (by assumption) (by assumption) (by assumption) (by assumption) | exact hsvF_5 (by assumption) (by assumption) (by assumption) (by assumption) (by assumption))⟩ (by k_asm) (by assumption)) | exact (hsv_no (by assumption) (by assumption) (by assumption) (by assumption) (by assumption) (by assumption)).elim | (k_unfold; (try dsimp only)) | (k_end; wrow_close) | walk1 | (dsimp only; walk1) | (leave1; walk_say "STEP leave1"; try dsimp only) | fail "no step")

end
section -- part WG
open PySem PySem.W PyProof.Rows
set_option Elab.async false
set_option maxRecDepth 100000
set_option maxHeartbeats 8000000
set_option linter.unusedVariables false
theorem fill_itG : (theK, theRow) = (theK, theRow) := by w_on; k_fill; rfl

section
variable {prog : Program} {w : World} {A : Around} {E : Value → Shared → Prop} {s : Shared} {Q : Value → Shared → Prop} {h₀ : Heap} {L : Addr} {m : Str → Option Value} {news : List (Addr × Obj)}
theorem max3F {a b c : UInt64} {t u x : Tok} (hh : A.handled = none) (F : Fr h₀ L s.heap m) (N : News h₀ L s.heap news)
    (h : ∀ h' tk tok, Fr h₀ L h' m → News h₀ L h' news → Q (.float (Flt.maxOfBits [a, b, c]) tok) { s with heap := h', toks := tk }) :
    wpAny (model prog w) A (call (.builtin "max") [.float a t, .float b u, .float c x]) Q E s := by
  have hT : (s.heap.push { cls := .type "tuple", data := .seq #[.float a t, .float b u, .float c x] }).IsTuple s.heap.objs.size #[.float a t, .float b u, .float c x] := ⟨_, Heap.get?_push_size _ rfl, rfl, 0, rfl⟩
  refine call_max_three (wpAny_pyIter_tuple hT ?_)
  have hsz : (s.heap.push { cls := .type "tuple", data := .seq #[.float a t, .float b u, .float c x] }).objs.size = s.heap.objs.size + 1 := Heap.size_push ..
  have hf : Flt.FloatsAre [.float a t, .float b u, .float c x] [a, b, c] := .cons _ _ (.cons _ _ (.cons _ _ .nil))
  refine ⟨_, [_, s.heap.objs.size], [_], 3, _, _, fun i j => Flt.gtB ([a, b, c].getD i 0) ([a, b, c].getD j 0), rfl, Walks.tuple (A := A.in1) hh _ s.heap.objs.size (by rw [hsz]; exact Nat.ne_of_lt (Nat.lt_succ_self _)) #[.float a t, .float b u, .float c x],
    ⟨⟨_, Heap.get?_push_size _ rfl, rfl, rfl⟩, hT.push _⟩, fun d hd => ?_, by decide, fun i j vi vj s Q E hi hj h => ?_, fun v h' tk hP hk => ?_⟩
  · show d < ((s.heap.push _).push _).objs.size
    rw [Heap.size_push, hsz]
    rcases List.mem_cons.mp hd with rfl | hd
    · rw [hsz]; exact Nat.lt_succ_self _
    · rcases List.mem_cons.mp hd with rfl | hd
      · exact Nat.lt_succ_of_lt (Nat.lt_succ_self _)
      · cases hd
  · obtain ⟨b, t, rfl, e1⟩ := hf.at i vi (by simpa using hi)
    obtain ⟨c, u, rfl, e2⟩ := hf.at j vj (by simpa using hj)
    simp only [List.getD_eq_getElem?_getD, e1, e2, Option.getD_some] at h
    exact AutoFloatOps.gt_0 (by rw [Flt.cmp_gt]; exact h)
  · have hold : ∀ d o, s.heap.get? d = some o → h'.get? d = some o := fun d o e => by
      refine hk d o (fun hm => ?_) (Heap.get?_push_of_some _ (Heap.get?_push_of_some _ e))
      rcases List.mem_cons.mp hm with e1 | hm
      · have := Heap.lt_size e; rw [e1, hsz] at this; exact Nat.lt_irrefl _ (Nat.lt_of_succ_lt this)
      · cases hm
    obtain ⟨b', t', rfl, e1⟩ := hf.at _ v ((List.getElem?_toArray).symm.trans hP)
    have e2 := Flt.argBest_bits Flt.gtB [a, b, c] (3 - 1) (by show 2 < 3; exact Nat.lt_succ_self 2)
    rw [List.getD_eq_getElem?_getD, e1, Option.getD_some] at e2
    have e3 : b' = Flt.maxOfBits [a, b, c] := e2
    rw [e3]
    exact h h' tk t' (F.grownK hold) (N.grown hold)
theorem min3F {a b c : UInt64} {t u x : Tok} (hh : A.handled = none) (F : Fr h₀ L s.heap m) (N : News h₀ L s.heap news)
    (h : ∀ h' tk tok, Fr h₀ L h' m → News h₀ L h' news → Q (.float (Flt.minOfBits [a, b, c]) tok) { s with heap := h', toks := tk }) :
    wpAny (model prog w) A (call (.builtin "min") [.float a t, .float b u, .float c x]) Q E s := by
  have hT : (s.heap.push { cls := .type "tuple", data := .seq #[.float a t, .float b u, .float c x] }).IsTuple s.heap.objs.size #[.float a t, .float b u, .float c x] := ⟨_, Heap.get?_push_size _ rfl, rfl, 0, rfl⟩
  refine call_min_three (wpAny_pyIter_tuple hT ?_)
  have hsz : (s.heap.push { cls := .type "tuple", data := .seq #[.float a t, .float b u, .float c x] }).objs.size = s.heap.objs.size + 1 := Heap.size_push ..
  have hf : Flt.FloatsAre [.float a t, .float b u, .float c x] [a, b, c] := .cons _ _ (.cons _ _ (.cons _ _ .nil))
  refine ⟨_, [_, s.heap.objs.size], [_], 3, _, _, fun i j => Flt.ltB ([a, b, c].getD i 0) ([a, b, c].getD j 0), rfl, Walks.tuple (A := A.in1) hh _ s.heap.objs.size (by rw [hsz]; exact Nat.ne_of_lt (Nat.lt_succ_self _)) #[.float a t, .float b u, .float c x],
    ⟨⟨_, Heap.get?_push_size _ rfl, rfl, rfl⟩, hT.push _⟩, fun d hd => ?_, by decide, fun i j vi vj s Q E hi hj h => ?_, fun v h' tk hP hk => ?_⟩
  · show d < ((s.heap.push _).push _).objs.size
    rw [Heap.size_push, hsz]
    rcases List.mem_cons.mp hd with rfl | hd
    · rw [hsz]; exact Nat.lt_succ_self _
    · rcases List.mem_cons.mp hd with rfl | hd
      · exact Nat.lt_succ_of_lt (Nat.lt_succ_self _)
      · cases hd
  · obtain ⟨b, t, rfl, e1⟩ := hf.at i vi (by simpa using hi)
    obtain ⟨c, u, rfl, e2⟩ := hf.at j vj (by simpa using hj)
    simp only [List.getD_eq_getElem?_getD, e1, e2, Option.getD_some] at h
    exact AutoFloatOps.lt_0 h
  · have hold : ∀ d o, s.heap.get? d = some o → h'.get? d = some o := fun d o e => by
      refine hk d o (fun hm => ?_) (Heap.get?_push_of_some _ (Heap.get?_push_of_some _ e))
      rcases List.mem_cons.mp hm with e1 | hm
      · have := Heap.lt_size e; rw [e1, hsz] at this; exact Nat.lt_irrefl _ (Nat.lt_of_succ_lt this)
      · cases hm
    obtain ⟨b', t', rfl, e1⟩ := hf.at _ v ((List.getElem?_toArray).symm.trans hP)
    have e2 := Flt.argBest_bits Flt.ltB [a, b, c] (3 - 1) (by show 2 < 3; exact Nat.lt_succ_self 2)
    rw [List.getD_eq_getElem?_getD, e1, Option.getD_some] at e2
    have e3 : b' = Flt.minOfBits [a, b, c] := e2
    rw [e3]
    exact h h' tk t' (F.grownK hold) (N.grown hold)
end
abbrev mx (r g b : UInt64) : UInt64 := Flt.maxOfBits [r, g, b]
abbrev mn (r g b : UInt64) : UInt64 := Flt.minOfBits [r, g, b]
abbrev rD (r g b v : UInt64) : UInt64 := Float64.div (Float64.sub (mx r g b) v) (Float64.sub (mx r g b) (mn r g b))
abbrev hueOf (h : UInt64) : UInt64 := (Float64.divmod (Float64.div h 4618441417868443648) 4607182418800017408).2
theorem rgbH_0 {x y z : UInt64} (h0 : (Float64.cmp x (mx x y z) == some Ordering.eq) = true) : rgbH x y z = hueOf (Float64.sub (rD x y z z) (rD x y z y)) := by
  simp only [rgbH, if_pos h0]
theorem rgbH_1 {x y z : UInt64} (h0 : (Float64.cmp x (mx x y z) == some Ordering.eq) = false) (h1 : (Float64.cmp y (mx x y z) == some Ordering.eq) = true) : rgbH x y z = hueOf (Float64.sub (Float64.add 4611686018427387904 (rD x y z x)) (rD x y z z)) := by
  have h0' : ¬ (Float64.cmp x (mx x y z) == some Ordering.eq) = true := by rw [h0]; exact Bool.false_ne_true
  simp only [rgbH, if_neg h0', if_pos h1]
theorem rgbH_2 {x y z : UInt64} (h0 : (Float64.cmp x (mx x y z) == some Ordering.eq) = false) (h1 : (Float64.cmp y (mx x y z) == some Ordering.eq) = false) : rgbH x y z = hueOf (Float64.sub (Float64.add 4616189618054758400 (rD x y z y)) (rD x y z x)) := by
  have h0' : ¬ (Float64.cmp x (mx x y z) == some Ordering.eq) = true := by rw [h0]; exact Bool.false_ne_true
  have h1' : ¬ (Float64.cmp y (mx x y z) == some Ordering.eq) = true := by rw [h1]; exact Bool.false_ne_true
  simp only [rgbH, if_neg h0', if_neg h1']
theorem rgb_eq {D : Addr} {x y z a : UInt64} {ta : Tok} {o2 o3 : Value} (h : rgbH x y z = a) : [(D, oTup3 (.float a ta) o2 o3)] = [(D, oTup3 (.float (rgbH x y z) ta) o2 o3)] := by rw [h]
local macro_rules | `(tactic| walk_at "call builtin:max") => `(tactic| ((with_reducible show wpAny _ _ (call _ [Value.float _ _, Value.float _ _, Value.float _ _]) _ _ _); (with_unfolding_all refine max3F (by rfl) (by k_asm) (by k_asm) ?_); intro h' tk' t' F' N'; (try dsimp only)))
local macro_rules | `(tactic| walk_at "call builtin:min") => `(tactic| ((with_reducible show wpAny _ _ (call _ [Value.float _ _, Value.float _ _, Value.float _ _]) _ _ _); (with_unfolding_all refine min3F (by rfl) (by k_asm) (by k_asm) ?_); intro h' tk' t' F' N'; (try dsimp only)))
local macro_rules | `(tactic| walk_at "binaryOp Div float float") => `(tactic| ((with_unfolding_all refine div_fin (by rfl) (by first | with_reducible assumption | decide +kernel) ?_); (try dsimp only)))
local macro_rules | `(tactic| walk_at "binaryOp Mod float float") => `(tactic| ((with_unfolding_all refine mod_fin (by rfl) (by first | with_reducible assumption | decide +kernel) ?_); (try dsimp only)))
theorem rgb_c (w : World) (mean : ExcName → Option Value) (mg mb : Str → Option Value) (news : List (Addr × Obj)) (x y z : UInt64) (t0 t1 t2 : Tok) :
    Cl w mean mg mb 49 news [] ((Float64.cmp (mn x y z) (mx x y z) == some Ordering.eq) = false ∧ Float64.isZero (Float64.sub (mx x y z) (mn x y z)) = false ∧ Float64.isZero (Float64.add (mx x y z) (mn x y z)) = false ∧ Float64.isZero (Float64.sub (Float64.sub 4611686018427387904 (mx x y z)) (mn x y z)) = false) [.float x t0, .float y t1, .float z t2] 1 (fun v new => ∃ T a o2 o3, v = .ref T ∧ new = [(T, oTup3 (.float (rgbH x y z) a) o2 o3)]) := by
  dsimp only [Cl, CbLists, RetL]
  intro dp un gd cn cs a' ccd cl outer A₀ base h₀ L m s Q E k1 k2 k3 k4 k5 k6 hpre kd ku hret
  obtain ⟨hp1, hp2, hp3, hp4⟩ := hpre
  refine wpAny_call ?_
  k_dflt cell_enter
  iterate 450 (first | done | (refine hret _ [(_, _)] _ _ ⟨_, _, _, _, rfl, rgb_eq (by first | exact rgbH_0 (by with_reducible assumption) | exact rgbH_1 (by with_reducible assumption) (by with_reducible assumption) | exact rgbH_2 (by with_reducible assumption) (by with_reducible assumption))⟩ (by k_asm) (by assumption)) | (k_unfold; (try dsimp only)) | (k_end; wrow_close) | walk1 | (dsimp only; walk1) | (leave1; walk_say "STEP leave1"; try dsimp only) | fail "no step")

end
section -- part WE
open PySem PySem.W PyProof.Rows
set_option Elab.async false
set_option maxRecDepth 100000
set_option maxHeartbeats 8000000
set_option linter.unusedVariables false
theorem fill_itE : (theK, theRow) = (theK, theRow) := by w_on; k_fill; rfl
theorem mod_c (w : World) (mean : ExcName → Option Value) (mg mb : Str → Option Value) (news : List (Addr × Obj)) (x : Int) (t0 t1 : Tok) :
    Cl w mean mg mb 28 news [] (True) [.int x t0, .int 256 t1] 1 (fun v new => (∃ t, v = .int (x % 256) t) ∧ new = []) := by
  dsimp only [Cl, CbLists, RetL]
  intro dp un gd cn cs a' ccd cl outer A₀ base h₀ L m s Q E k1 k2 k3 k4 k5 k6 hpre kd ku hret
  refine wpAny_call ?_
  k_dflt cell_enter
  iterate 40 (first | done | (exact hret _ [] _ _ ⟨⟨_, congrArg (fun k => Value.int k _) (Int.fmod_eq_emod_of_nonneg _ (by decide))⟩, rfl⟩ (by k_asm) (by assumption)) | (k_unfold; (try dsimp only)) | (k_end; wrow_close) | walk1 | (dsimp only; walk1) | (leave1; walk_say "STEP leave1"; try dsimp only) | fail "no step")
theorem tdiv_c (w : World) (mean : ExcName → Option Value) (mg mb : Str → Option Value) (news : List (Addr × Obj)) (x : Int) (t0 t1 : Tok) :
    Cl w mean mg mb 35 news [] (x.natAbs < 2 ^ 1023) [.int x t0, .int 256 t1] 1 (fun v new => (∃ t, v = .float (Float64.ofFrac (decide (x < 0) != decide ((256:Int) < 0)) x.natAbs (256:Int).natAbs) t) ∧ new = []) := by
  dsimp only [Cl, CbLists, RetL]
  intro dp un gd cn cs a' ccd cl outer A₀ base h₀ L m s Q E k1 k2 k3 k4 k5 k6 hpre kd ku hret
  refine wpAny_call ?_
  k_dflt cell_enter
  iterate 40 (first | done | (exact hret _ [] _ _ ⟨⟨_, rfl⟩, rfl⟩ (by k_asm) (by assumption)) | (k_unfold; (try dsimp only)) | (k_end; wrow_close) | walk1 | (dsimp only; walk1) | (leave1; walk_say "STEP leave1"; try dsimp only) | fail "no step")
theorem gt_c (w : World) (mean : ExcName → Option Value) (mg mb : Str → Option Value) (news : List (Addr × Obj)) (x : Int) (t0 t1 : Tok) :
    Cl w mean mg mb 21 news [] (True) [.int x t0, .int 0 t1] 1 (fun v new => v = .bool (decide (0 < x)) ∧ new = []) := by
  dsimp only [Cl, CbLists, RetL]
  intro dp un gd cn cs a' ccd cl outer A₀ base h₀ L m s Q E k1 k2 k3 k4 k5 k6 hpre kd ku hret
  refine wpAny_call ?_
  k_dflt cell_enter
  iterate 40 (first | done | (exact hret _ [] _ _ ⟨rfl, rfl⟩ (by k_asm) (by assumption)) | (k_unfold; (try dsimp only)) | (k_end; wrow_close) | walk1 | (dsimp only; walk1) | (leave1; walk_say "STEP leave1"; try dsimp only) | fail "no step")

end
section -- part WH0
open PySem PySem.W PyProof.Rows
set_option Elab.async false
set_option maxRecDepth 100000
set_option maxHeartbeats 8000000
set_option linter.unusedVariables false

theorem unrPostW_mono {h₀ : Heap} {L : Addr} {s₁ : Shared} {its : List (Addr × Obj)} {r r' : (Str → Option Value) → List (Addr × Obj) → Prop} {Q : Flow → Shared → Prop} (hr : ∀ m n, r m n → r' m n) : ∀ (f : Flow) (s₂ : Shared), UnrPostW h₀ L s₁ its r Q f s₂ → UnrPostW h₀ L s₁ its r' Q f s₂
  | .ret _, _, h => h
  | .brk, _, h => h
  | .next, _, ⟨h', tk, m', n', e, F, N, o, x⟩ => ⟨h', tk, m', n', e, F, N, o, hr _ _ x⟩
  | .cont, _, ⟨h', tk, m', n', e, F, N, o, x⟩ => ⟨h', tk, m', n', e, F, N, o, hr _ _ x⟩
theorem items_ind {prog : Program} {w : World} {A : Around} {E : Value → Shared → Prop} {s : Shared} {env : Env} {h₀ : Heap} {target : Expr} {body : List Stmt} {Q : Flow → Shared → Prop} {I : Addr} {ic : String} {keep : List (Addr × Obj)}
    (Inv : List Value → (Str → Option Value) → List (Addr × Obj) → Prop)
    (step : ∀ v r m news, Inv (v :: r) m news → ∀ (it : Obj) h tk, it.cls = .type ic → Fr h₀ env.locals h m → News h₀ env.locals h ((I, it) :: news) →
      wpAny (model prog w) A (assign target env v) (fun _ s₂ => wpAny (model prog w) A (execs body env) (UnrPostW h₀ env.locals { s with heap := h, toks := tk } [(I, it)] (fun m' n' => SubL keep n' ∧ Inv r m' n') Q) E s₂) E { s with heap := h, toks := tk })
    (done : ∀ m news, Inv [] m news → ∀ h tk, Fr h₀ env.locals h m → News h₀ env.locals h news → Q .next { s with heap := h, toks := tk }) :
    ∀ vs m news, Inv vs m news → ItemsRest prog w A E h₀ env target body Q s [(I, ic)] keep (vs.map .val) m news
  | [], m, news, hi => ItemsRest.zero fun h tk F N => done m news hi h tk F N
  | v :: r, m, news, hi => ItemsRest.val fun h tk F => AllObj.cons fun o hc => AllObj.nil fun N =>
      wpAny_mono (step v r m news hi o h tk hc F N) (fun _ s₂ h2 => wpAny_mono h2 (fun f s₃ h3 => unrPostW_mono (fun m' n' x => ⟨x.1, items_ind Inv step done r m' n' x.2⟩) f s₃ h3) fun _ _ e => e) fun _ _ e => e
theorem unrW_intro {h₀ : Heap} {L : Addr} {I : Addr} {it : Obj} {rest : (Str → Option Value) → List (Addr × Obj) → Prop} {s₁ : Shared} {h' : Heap} {tk : Nat} {m' : Str → Option Value} {all : List (Addr × Obj)} (F : Fr h₀ L h' m') (N : News h₀ L h' all) (news' : List (Addr × Obj))
    (hI : (I, it) ∈ all) (sub : ∀ p ∈ news', p ∈ all) (off : ∀ p ∈ news', p.1 ≠ I) (r : rest m' news') : UnrEndW h₀ L s₁ [(I, it)] rest { s₁ with heap := h', toks := tk } :=
  ⟨h', tk, m', news', rfl, F, fun p hp => by
    rcases List.mem_append.mp hp with hp | hp
    · rw [List.mem_singleton.mp hp]
      exact N _ hI
    · exact N p (sub p hp), fun p hp q hq e => by
    rw [List.mem_singleton.mp hq] at e
    exact off p hp e, r⟩

end
section -- part WH
open PySem PySem.W PyProof.Rows
set_option Elab.async false
set_option maxRecDepth 100000
set_option maxHeartbeats 8000000
set_option linter.unusedVariables false
theorem fill_itH : (theK, theRow) = (theK, theRow) := by w_on; k_fill; rfl

def divF (x : Int) : UInt64 := Float64.ofFrac (decide (x < 0) != decide ((256:Int) < 0)) x.natAbs (256:Int).natAbs
theorem tdiv_d (w : World) (mean : ExcName → Option Value) (mg mb : Str → Option Value) (news : List (Addr × Obj)) (x : Int) (t0 t1 : Tok) :
    Cl w mean mg mb 35 news [] (x.natAbs < 2 ^ 1023) [.int x t0, .int 256 t1] 1 (fun v new => (∃ t, v = .float (divF x) t) ∧ new = []) := tdiv_c w mean mg mb news x t0 t1
abbrev hsvX (x : Int) (y z : UInt64) : UInt64 × UInt64 × UInt64 := hsvF (divF (x % 256)) y z
abbrev hueX (x : Int) (y z : UInt64) : UInt64 := Float64.mul (rgbH (hsvX x y z).1 (hsvX x y z).2.1 (hsvX x y z).2.2) (Float64.ofInt 256)
def placeX (x : Int) (y z : UInt64) : Int := if Flt.toInt Float64.nearestOf (hueX x y z) < 128 then Flt.toInt Float64.nearestOf (hueX x y z) else Flt.toInt Float64.nearestOf (hueX x y z) - 256
structure Good (x : Int) (y z : UInt64) : Prop where
  g0 : (x % 256).natAbs < 2 ^ 1023
  g1 : (Float64.cmp y 0 == some Ordering.eq) = false
  g2 : Float64.isFinite (Float64.mul (divF (x % 256)) 4618441417868443648) = true
  g3 : (Flt.toInt Float64.truncOf (Float64.mul (divF (x % 256)) 4618441417868443648)).natAbs < 2 ^ 1023
  g4 : (Float64.cmp (mn (hsvX x y z).1 (hsvX x y z).2.1 (hsvX x y z).2.2) (mx (hsvX x y z).1 (hsvX x y z).2.1 (hsvX x y z).2.2) == some Ordering.eq) = false
  g5 : Float64.isZero (Float64.sub (mx (hsvX x y z).1 (hsvX x y z).2.1 (hsvX x y z).2.2) (mn (hsvX x y z).1 (hsvX x y z).2.1 (hsvX x y z).2.2)) = false
  g6 : Float64.isZero (Float64.add (mx (hsvX x y z).1 (hsvX x y z).2.1 (hsvX x y z).2.2) (mn (hsvX x y z).1 (hsvX x y z).2.1 (hsvX x y z).2.2)) = false
  g7 : Float64.isZero (Float64.sub (Float64.sub 4611686018427387904 (mx (hsvX x y z).1 (hsvX x y z).2.1 (hsvX x y z).2.2)) (mn (hsvX x y z).1 (hsvX x y z).2.1 (hsvX x y z).2.2)) = false
  g8 : Float64.isFinite (hueX x y z) = true
theorem mod_use {w : World} {mean : ExcName → Option Value} {mg mb : Str → Option Value} {news : List (Addr × Obj)} {x : Int} {t0 t1 : Tok} {dp un : Nat} {gd : Option (List Code)} {cn : Str} {cs : Scope} {a : Addr} {ccd : Value} {cl : List (Str × Addr)} {outer : List Env} {A₀ : Around} {base h₀ : Heap} {L : Addr} {m : Str → Option Value} {s : Shared} {Q E : Value → Shared → Prop}
    (h : ∀ t h' tk', Fr h₀ L h' m → News h₀ L h' (news) → Q (.int (x % 256) t) { s with heap := h', toks := tk' })
    (k1 : Below A₀ base outer h₀ := by k_asm) (k2 : Fr h₀ L s.heap m := by k_asm) (k3 : (theK w.params).In h₀ := by k_asm) (k4 : News h₀ L s.heap (news) := by k_asm) (k5 : Top theQ (looseW theQ theLoose) mean mg mb h₀ := by k_asm) (kK : cs.kind = .function := by first | exact rfl | assumption)
     (kd : dp + 1 < recursionLimit := by ktr_room) (ku : un + 8 * 1 < cLine := by ktr_units) :
    wpAny (model theProg w) (ktrTop dp un gd cn cs L a ccd cl outer) (call (.ref 28) [.int x t0, .int 256 t1]) Q E s :=
  mod_c w mean mg mb news x t0 t1 dp un gd cn cs a ccd cl outer A₀ base h₀ L m s Q E k1 k2 k3 k4 k5 kK trivial kd ku fun v new h' tk' hr F N => by
    obtain ⟨⟨t, hv⟩, hn⟩ := hr
    subst hv hn
    exact h t h' tk' F N
local macro_rules | `(tactic| walk_at "call ref") => `(tactic| (k_here; k_dflt (refine mod_use ?_); intro t9 h9 tk9 F9 N9; (try dsimp only)))
theorem tdiv_use {w : World} {mean : ExcName → Option Value} {mg mb : Str → Option Value} {news : List (Addr × Obj)} {x : Int} {t0 t1 : Tok} {dp un : Nat} {gd : Option (List Code)} {cn : Str} {cs : Scope} {a : Addr} {ccd : Value} {cl : List (Str × Addr)} {outer : List Env} {A₀ : Around} {base h₀ : Heap} {L : Addr} {m : Str → Option Value} {s : Shared} {Q E : Value → Shared → Prop}
    (h : ∀ t h' tk', Fr h₀ L h' m → News h₀ L h' (news) → Q (.float (divF x) t) { s with heap := h', toks := tk' })
    (k1 : Below A₀ base outer h₀ := by k_asm) (k2 : Fr h₀ L s.heap m := by k_asm) (k3 : (theK w.params).In h₀ := by k_asm) (k4 : News h₀ L s.heap (news) := by k_asm) (k5 : Top theQ (looseW theQ theLoose) mean mg mb h₀ := by k_asm) (kK : cs.kind = .function := by first | exact rfl | assumption)
    (p1 : x.natAbs < 2 ^ 1023 := by with_reducible assumption) (kd : dp + 1 < recursionLimit := by ktr_room) (ku : un + 8 * 1 < cLine := by ktr_units) :
    wpAny (model theProg w) (ktrTop dp un gd cn cs L a ccd cl outer) (call (.ref 35) [.int x t0, .int 256 t1]) Q E s :=
  tdiv_d w mean mg mb news x t0 t1 dp un gd cn cs a ccd cl outer A₀ base h₀ L m s Q E k1 k2 k3 k4 k5 kK p1 kd ku fun v new h' tk' hr F N => by
    obtain ⟨⟨t, hv⟩, hn⟩ := hr
    subst hv hn
    exact h t h' tk' F N
local macro_rules | `(tactic| walk_at "call ref") => `(tactic| (k_here; k_dflt (refine tdiv_use ?_); intro t9 h9 tk9 F9 N9; (try dsimp only)))
theorem hsv_use {w : World} {mean : ExcName → Option Value} {mg mb : Str → Option Value} {news : List (Addr × Obj)} {x y z : UInt64} {t0 t1 t2 : Tok} {dp un : Nat} {gd : Option (List Code)} {cn : Str} {cs : Scope} {a : Addr} {ccd : Value} {cl : List (Str × Addr)} {outer : List Env} {A₀ : Around} {base h₀ : Heap} {L : Addr} {m : Str → Option Value} {s : Shared} {Q E : Value → Shared → Prop}
    (h : ∀ T a b c h' tk', Fr h₀ L h' m → News h₀ L h' ((T, oTup3 (.float (hsvF x y z).1 a) (.float (hsvF x y z).2.1 b) (.float (hsvF x y z).2.2 c)) :: news) → Q (.ref T) { s with heap := h', toks := tk' })
    (k1 : Below A₀ base outer h₀ := by k_asm) (k2 : Fr h₀ L s.heap m := by k_asm) (k3 : (theK w.params).In h₀ := by k_asm) (k4 : News h₀ L s.heap (news) := by k_asm) (k5 : Top theQ (looseW theQ theLoose) mean mg mb h₀ := by k_asm) (kK : cs.kind = .function := by first | exact rfl | assumption)
    (p1 : (Float64.cmp y 0 == some Ordering.eq) = false := by with_reducible assumption) (p2 : Float64.isFinite (Float64.mul x 4618441417868443648) = true := by with_reducible assumption) (p3 : (Flt.toInt Float64.truncOf (Float64.mul x 4618441417868443648)).natAbs < 2 ^ 1023 := by with_reducible assumption) (kd : dp + 1 < recursionLimit := by ktr_room) (ku : un + 8 * 1 < cLine := by ktr_units) :
    wpAny (model theProg w) (ktrTop dp un gd cn cs L a ccd cl outer) (call (.ref 56) [.float x t0, .float y t1, .float z t2]) Q E s :=
  hsv_c w mean mg mb news x y z t0 t1 t2 dp un gd cn cs a ccd cl outer A₀ base h₀ L m s Q E k1 k2 k3 k4 k5 kK ⟨p1, p2, p3⟩ kd ku fun v new h' tk' hr F N => by
    obtain ⟨T, a, b, c, hv, hn⟩ := hr
    subst hv hn
    exact h T a b c h' tk' F N
local macro_rules | `(tactic| walk_at "call ref") => `(tactic| (k_here; k_dflt (refine hsv_use ?_); intro T9 a9 b9 c9 h9 tk9 F9 N9; (try dsimp only)))
theorem rgb_use {w : World} {mean : ExcName → Option Value} {mg mb : Str → Option Value} {news : List (Addr × Obj)} {x y z : UInt64} {t0 t1 t2 : Tok} {dp un : Nat} {gd : Option (List Code)} {cn : Str} {cs : Scope} {a : Addr} {ccd : Value} {cl : List (Str × Addr)} {outer : List Env} {A₀ : Around} {base h₀ : Heap} {L : Addr} {m : Str → Option Value} {s : Shared} {Q E : Value → Shared → Prop}
    (h : ∀ T a o2 o3 h' tk', Fr h₀ L h' m → News h₀ L h' ((T, oTup3 (.float (rgbH x y z) a) o2 o3) :: news) → Q (.ref T) { s with heap := h', toks := tk' })
    (k1 : Below A₀ base outer h₀ := by k_asm) (k2 : Fr h₀ L s.heap m := by k_asm) (k3 : (theK w.params).In h₀ := by k_asm) (k4 : News h₀ L s.heap (news) := by k_asm) (k5 : Top theQ (looseW theQ theLoose) mean mg mb h₀ := by k_asm) (kK : cs.kind = .function := by first | exact rfl | assumption)
    (p1 : (Float64.cmp (mn x y z) (mx x y z) == some Ordering.eq) = false := by with_reducible assumption) (p2 : Float64.isZero (Float64.sub (mx x y z) (mn x y z)) = false := by with_reducible assumption) (p3 : Float64.isZero (Float64.add (mx x y z) (mn x y z)) = false := by with_reducible assumption) (p4 : Float64.isZero (Float64.sub (Float64.sub 4611686018427387904 (mx x y z)) (mn x y z)) = false := by with_reducible assumption) (kd : dp + 1 < recursionLimit := by ktr_room) (ku : un + 8 * 1 < cLine := by ktr_units) :
    wpAny (model theProg w) (ktrTop dp un gd cn cs L a ccd cl outer) (call (.ref 49) [.float x t0, .float y t1, .float z t2]) Q E s :=
  rgb_c w mean mg mb news x y z t0 t1 t2 dp un gd cn cs a ccd cl outer A₀ base h₀ L m s Q E k1 k2 k3 k4 k5 kK ⟨p1, p2, p3, p4⟩ kd ku fun v new h' tk' hr F N => by
    obtain ⟨T, a, o2, o3, hv, hn⟩ := hr
    subst hv hn
    exact h T a o2 o3 h' tk' F N
local macro_rules | `(tactic| walk_at "call ref") => `(tactic| (k_here; k_dflt (refine rgb_use ?_); intro T9 a9 o9 p9 h9 tk9 F9 N9; (try dsimp only)))
local macro_rules | `(tactic| walk_at "call builtin:round") => `(tactic| ((with_reducible show wpAny _ _ (call _ [Value.float _ _]) _ _ _); (with_unfolding_all refine round_fin (by rfl) (by with_reducible assumption) ?_); (try dsimp only)))

local macro_rules | `(tactic| walk_at "exec For Name Name cons nil") => `(tactic| (k_here; (rename Fr _ _ _ _ => lF'); (with_unfolding_all refine' For_turns lF' ?_; k_whole)))
theorem fr_know {h₀ h : Heap} {L : Addr} {m : Str → Option Value} {x : Str} {v : Option Value} (F : Fr h₀ L h m) (hx : m x = v) : Fr h₀ L h (fun y => if y = x then v else m y) := by
  have e : (fun y => if y = x then v else m y) = m := by
    funext y
    by_cases h : y = x
    · rw [if_pos h, h, hx]
    · rw [if_neg h]
  rw [e]
  exact F
theorem fr_know3 {h₀ h : Heap} {L : Addr} {m : Str → Option Value} {x1 x2 x3 : Str} {v1 v2 v3 : Option Value} (F : Fr h₀ L h m) (h1 : m x1 = v1) (h2 : m x2 = v2) (h3 : m x3 = v3) : Fr h₀ L h (fun y => if y = x1 then v1 else if y = x2 then v2 else if y = x3 then v3 else m y) := by
  have e : (fun y => if y = x1 then v1 else if y = x2 then v2 else if y = x3 then v3 else m y) = m := by
    funext y
    split
    · rename_i h; rw [h, h1]
    · split
      · rename_i h; rw [h, h2]
      · split
        · rename_i h; rw [h, h3]
        · rfl
  rw [e]
  exact F
theorem allLt_ne {I : Addr} : ∀ {r : List (Addr × Obj)}, AllLt I r → ∀ p ∈ r, p.1 ≠ I
  | [], _, _, h => nomatch h
  | q :: r, x, p, h => by
    rcases List.mem_cons.mp h with rfl | h
    · exact Nat.ne_of_lt x.1
    · exact allLt_ne x.2 p h
local macro_rules | `(tactic| k_all) => `(tactic| exact allLt_ne (by with_reducible assumption))
local macro_rules | `(tactic| size_fits) => `(tactic| (simp only [List.size_toArray, PySem.sizeLine_eq]; omega))
theorem news_d2 {h₀ h : Heap} {L : Addr} {a b : Addr × Obj} {r : List (Addr × Obj)} (N : News h₀ L h (a :: b :: r)) : News h₀ L h r := fun p hp => N p (.tail _ (.tail _ hp))
local macro_rules | `(tactic| walk_at "call builtin:list.append") => `(tactic| (k_here; (show wpAny _ _ (call (Value.builtin _) [Value.ref _, _]) _ _ _); k_dflt (refine' append_K ?k1 ?k2 ?k3 ?_ ?z; (case k1 => k_asm); (case k2 => exact news_d2 (by assumption)); (case k3 => k_upd); (case z => size_fits); k_whole); intro h' F' N'))
theorem unrW_hd {h₀ : Heap} {L : Addr} {I : Addr} {it : Obj} {rest : (Str → Option Value) → List (Addr × Obj) → Prop} {s₁ : Shared} {h' : Heap} {tk : Nat} {m' : Str → Option Value} {nw : List (Addr × Obj)} (F : Fr h₀ L h' m') (N : News h₀ L h' ((I, it) :: nw))
    (off : AllLt I nw) (r : rest m' nw) : UnrEndW h₀ L s₁ [(I, it)] rest { s₁ with heap := h', toks := tk } := unrW_intro F N nw (.head _) (fun p hp => .tail _ hp) (allLt_ne off) r
theorem push_place {l1 : Addr} {vs : List Value} {p q : Int} {t : Tok} {n1 : Nat} {r : List (Addr × Obj)} (h : q = p) : (l1, listOf (vs.toArray.push (Value.int p t)) (n1 + 1)) :: r = (l1, listOf (vs ++ [Value.int q t]).toArray (n1 + 1)) :: r := by
  subst h
  rw [List.push_toArray]
inductive ToldI (l1 l : Addr) (ws : List Value) (n : Nat) (news : List (Addr × Obj)) (xs : List Int) (y z : UInt64) (ta tb : Tok) (r : List Value) (m : Str → Option Value) (nw : List (Addr × Obj)) : Prop
  | mk (rs acc : List Int) (vs : List Value) (n1 : Nat) (h1 : IntsAre r rs) (h2 : ∀ x ∈ rs, Good x y z) (h3 : m (Str.ofString "told") = some (.ref l1)) (h4 : m (Str.ofString "share") = some (.float y ta)) (h5 : m (Str.ofString "light") = some (.float z tb)) (h6 : nw = (l1, listOf vs.toArray n1) :: (l, listOf ws.toArray n) :: news) (h7 : IntsAre vs acc) (h8 : (acc ++ rs.map fun x => placeX x y z) = (xs.map fun x => placeX x y z)) (h9 : vs.length + rs.length ≤ 1000)
theorem told_c (w : World) (mean : ExcName → Option Value) (mg mb : Str → Option Value) (news : List (Addr × Obj)) (l : Addr) (n : Nat) (ws : List Value) (xs : List Int) (y z : UInt64) (ta tb : Tok) :
    Cl w mean mg mb 156 ((l, listOf ws.toArray n) :: news) [] (IntsAre ws xs ∧ (∀ x ∈ xs, Good x y z) ∧ xs.length ≤ 1000) [.ref l, .float y ta, .float z tb] 2 (fun v new => ∃ l2 vs n, v = .ref l2 ∧ new = [(l2, listOf vs.toArray n)] ∧ IntsAre vs (xs.map fun x => placeX x y z)) := by
  dsimp only [Cl, CbLists, RetL]
  intro dp un gd cn cs a' ccd cl outer A₀ base h₀ L m s Q E k1 k2 k3 k4 k5 k6 hpre kd ku hret
  obtain ⟨hp1, hp2, hp3⟩ := hpre
  refine wpAny_call ?_
  k_dflt cell_enter
  iterate 10 (first | (k_unfold; (try dsimp only)) | (k_end; wrow_close) | walk1 | (dsimp only; walk1) | (leave1; walk_say "STEP leave1"; try dsimp only) | fail "no step")
  rename_i l1 hh1 hL hh2 lF' N0
  have hL2 := hL.2
  refine iter_listTurns (lo := listOf ws.toArray n) (vs := ws) (by rfl) lF' N0 (by k_mem) (by rfl) (by rfl) ?_
  intro I hI
  have hI2 := hI
  k_lt hI2
  have hI3 := hI2.2.2
  refine items_ind (Inv := ToldI l1 l ws n news xs y z ta tb) ?_ ?_ _ _ _ ⟨xs, [], [], 0, hp1, hp2, rfl, rfl, rfl, rfl, .nil, rfl, ?_⟩
  rotate_left 2
  · simpa using hp3
  · rintro v r m nw ⟨rs, acc, vs, n1, hr, hg, hm1, hm2, hm3, rfl, hv, he, hn⟩ it h tk hc F N
    cases hr with
    | cons x t hr =>
    obtain ⟨g0, g1, g2, g3, g4, g5, g6, g7, g8⟩ := hg x (.head _)
    replace F := fr_know3 F hm1 hm2 hm3
    try dsimp only
    k_steps
    · rename Flt.toInt _ _ < _ => hb
      refine unrW_hd (by rename Fr _ _ _ _ => F5; with_unfolding_all exact F5) (by rename News _ _ _ _ => N5; with_unfolding_all exact N5) (by exact hI2) ⟨⟨.tail _ (.head _), trivial⟩, _, acc ++ [placeX x y z], vs ++ [.int (placeX x y z) ?ht], n1 + 1, hr, fun x' hx' => hg x' (.tail _ hx'), rfl, rfl, rfl, push_place (show placeX x y z = _ from if_pos hb), ints_snoc hv, ?ha, ?hb⟩
      · rw [← he]
        simp
      · simp only [List.length_cons, List.length_append, List.length_nil] at hn ⊢
        omega
    · rename ¬ Flt.toInt _ _ < _ => hb
      refine unrW_hd (by rename Fr _ _ _ _ => F5; with_unfolding_all exact F5) (by rename News _ _ _ _ => N5; with_unfolding_all exact N5) (by exact hI2) ⟨⟨.tail _ (.head _), trivial⟩, _, acc ++ [placeX x y z], vs ++ [.int (placeX x y z) ?ht2], n1 + 1, hr, fun x' hx' => hg x' (.tail _ hx'), rfl, rfl, rfl, push_place (show placeX x y z = _ from if_neg hb), ints_snoc hv, ?ha2, ?hb2⟩
      · rw [← he]
        simp
      · simp only [List.length_cons, List.length_append, List.length_nil] at hn ⊢
        omega
  · rintro m nw ⟨rs, acc, vs, n1, hr, hg, hm1, hm2, hm3, rfl, hv, he, hn⟩ h tk F N
    cases hr
    replace F := fr_know3 F hm1 hm2 hm3
    try dsimp only
    k_steps
    rw [List.map_nil, List.append_nil] at he
    exact hret _ [(l1, listOf vs.toArray n1)] _ _ ⟨l1, vs, n1, rfl, rfl, he ▸ hv⟩ (by k_asm) (by assumption)

end
section -- part WHQ
open PySem PySem.W PyProof.Rows
set_option maxRecDepth 100000
set_option linter.unusedVariables false
def frc (v : UInt64) (k : UInt64 → Bool) : Bool := match v.toNat with
  | 0 => k (UInt64.ofNat 0)
  | n + 1 => k (UInt64.ofNat (n + 1))
theorem frc_eq (v : UInt64) (k : UInt64 → Bool) : frc v k = k v := by
  have e : UInt64.ofNat v.toNat = v := UInt64.ofNat_toNat
  unfold frc
  split
  · rename_i h
    rw [← h, e]
  · rename_i n h
    show k (UInt64.ofNat (Nat.succ n)) = k v
    rw [← h, e]
def hsvQ (h y z : UInt64) (k : UInt64 → UInt64 → UInt64 → Bool) : Bool :=
  frc (Float64.mul h 4618441417868443648) fun h6 => frc (Float64.sub h6 (Float64.ofInt (Flt.toInt Float64.truncOf h6))) fun f => frc (Float64.mul z (Float64.sub 4607182418800017408 y)) fun p =>
  if Int.fmod (Flt.toInt Float64.truncOf h6) 6 = 0 then frc (Float64.mul z (Float64.sub 4607182418800017408 (Float64.mul y (Float64.sub 4607182418800017408 f)))) fun t => k z t p
  else if Int.fmod (Flt.toInt Float64.truncOf h6) 6 = 1 then frc (Float64.mul z (Float64.sub 4607182418800017408 (Float64.mul y f))) fun q => k q z p
  else if Int.fmod (Flt.toInt Float64.truncOf h6) 6 = 2 then frc (Float64.mul z (Float64.sub 4607182418800017408 (Float64.mul y (Float64.sub 4607182418800017408 f)))) fun t => k p z t
  else if Int.fmod (Flt.toInt Float64.truncOf h6) 6 = 3 then frc (Float64.mul z (Float64.sub 4607182418800017408 (Float64.mul y f))) fun q => k p q z
  else if Int.fmod (Flt.toInt Float64.truncOf h6) 6 = 4 then frc (Float64.mul z (Float64.sub 4607182418800017408 (Float64.mul y (Float64.sub 4607182418800017408 f)))) fun t => k t p z
  else frc (Float64.mul z (Float64.sub 4607182418800017408 (Float64.mul y f))) fun q => k z p q
theorem hsvQ_eq (h y z : UInt64) (k : UInt64 → UInt64 → UInt64 → Bool) : hsvQ h y z k = k (hsvF h y z).1 (hsvF h y z).2.1 (hsvF h y z).2.2 := by
  simp only [hsvQ, frc_eq, hsvF]
  split
  · rfl
  · split
    · rfl
    · split
      · rfl
      · split
        · rfl
        · split <;> rfl
def rgbC (r g b lo hi : UInt64) : UInt64 :=
  if Float64.cmp r hi == some .eq then Float64.sub (Float64.div (Float64.sub hi b) (Float64.sub hi lo)) (Float64.div (Float64.sub hi g) (Float64.sub hi lo))
  else if Float64.cmp g hi == some .eq then Float64.sub (Float64.add 4611686018427387904 (Float64.div (Float64.sub hi r) (Float64.sub hi lo))) (Float64.div (Float64.sub hi b) (Float64.sub hi lo))
  else Float64.sub (Float64.add 4616189618054758400 (Float64.div (Float64.sub hi g) (Float64.sub hi lo))) (Float64.div (Float64.sub hi r) (Float64.sub hi lo))
theorem rgbC_eq (r g b : UInt64) : rgbH r g b = hueOf (rgbC r g b (mn r g b) (mx r g b)) := rfl
def goodQ (x : Int) (y z : UInt64) : Bool :=
  (x % 256).natAbs.blt (2 ^ 1023) && !(Float64.cmp y 0 == some Ordering.eq) &&
  frc (divF (x % 256)) fun h => frc (Float64.mul h 4618441417868443648) fun h6 =>
    Float64.isFinite h6 && (Flt.toInt Float64.truncOf h6).natAbs.blt (2 ^ 1023) &&
    hsvQ h y z fun r g b => frc (mn r g b) fun lo => frc (mx r g b) fun hi =>
      !(Float64.cmp lo hi == some Ordering.eq) && !(Float64.isZero (Float64.sub hi lo)) && !(Float64.isZero (Float64.add hi lo)) && !(Float64.isZero (Float64.sub (Float64.sub 4611686018427387904 hi) lo)) &&
      frc (rgbC r g b lo hi) fun hc => frc (Float64.div hc 4618441417868443648) fun hd => frc (Float64.mul (Float64.divmod hd 4607182418800017408).2 (Float64.ofInt 256)) fun hu =>
        Float64.isFinite hu && ((if Flt.toInt Float64.nearestOf hu < 128 then Flt.toInt Float64.nearestOf hu else Flt.toInt Float64.nearestOf hu - 256) == x)
theorem blt_lt {a b : Nat} (h : a.blt b = true) : a < b := Nat.lt_of_succ_le (Nat.le_of_ble_eq_true h)
theorem not_f {b : Bool} (h : (!b) = true) : b = false := by cases b <;> simp_all
theorem good_of {x : Int} {y z : UInt64} (h : goodQ x y z = true) : Good x y z ∧ placeX x y z = x := by
  unfold goodQ at h
  simp only [frc_eq, hsvQ_eq] at h
  simp only [Bool.and_eq_true] at h
  obtain ⟨⟨h0, h1⟩, ⟨h2, h3⟩, ⟨⟨⟨h4, h5⟩, h6⟩, h7⟩, h8, h9⟩ := h
  exact ⟨⟨blt_lt h0, not_f h1, h2, blt_lt h3, not_f h4, not_f h5, not_f h6, not_f h7, h8⟩, eq_of_beq h9⟩
def allB (y z : UInt64) : Bool := (List.range 133).all fun k => goodQ ((k : Int) - 84) y z
def allC (y z : UInt64) (i : Nat) : Bool := (List.range 19).all fun k => goodQ (((19 * i + k : Nat) : Int) - 84) y z
theorem allB_of {y z : UInt64} (h : ∀ i, i < 7 → allC y z i = true) : allB y z = true := by
  unfold allB
  rw [List.all_eq_true]
  intro k hk
  have hk := List.mem_range.mp hk
  have := List.all_eq_true.mp (h (k / 19) (by omega)) (k % 19) (List.mem_range.mpr (by omega))
  rw [Nat.div_add_mod] at this
  exact this
theorem all7 {f : Nat → Bool} (h0 : f 0 = true) (h1 : f 1 = true) (h2 : f 2 = true) (h3 : f 3 = true) (h4 : f 4 = true) (h5 : f 5 = true) (h6 : f 6 = true) : ∀ i, i < 7 → f i = true
  | 0, _ => h0
  | 1, _ => h1
  | 2, _ => h2
  | 3, _ => h3
  | 4, _ => h4
  | 5, _ => h5
  | 6, _ => h6
  | n + 7, h => absurd h (by omega)
theorem all_11_0 : allC 4607182418800017408 4607182418800017408 0 = true := by decide +kernel
theorem all_11_1 : allC 4607182418800017408 4607182418800017408 1 = true := by decide +kernel
theorem all_11_2 : allC 4607182418800017408 4607182418800017408 2 = true := by decide +kernel
theorem all_11_3 : allC 4607182418800017408 4607182418800017408 3 = true := by decide +kernel
theorem all_11_4 : allC 4607182418800017408 4607182418800017408 4 = true := by decide +kernel
theorem all_11_5 : allC 4607182418800017408 4607182418800017408 5 = true := by decide +kernel
theorem all_11_6 : allC 4607182418800017408 4607182418800017408 6 = true := by decide +kernel
theorem all_11 : allB 4607182418800017408 4607182418800017408 = true := allB_of (all7 all_11_0 all_11_1 all_11_2 all_11_3 all_11_4 all_11_5 all_11_6)
theorem all_12_0 : allC 4607182418800017408 4602678819172646912 0 = true := by decide +kernel
theorem all_12_1 : allC 4607182418800017408 4602678819172646912 1 = true := by decide +kernel
theorem all_12_2 : allC 4607182418800017408 4602678819172646912 2 = true := by decide +kernel
theorem all_12_3 : allC 4607182418800017408 4602678819172646912 3 = true := by decide +kernel
theorem all_12_4 : allC 4607182418800017408 4602678819172646912 4 = true := by decide +kernel
theorem all_12_5 : allC 4607182418800017408 4602678819172646912 5 = true := by decide +kernel
theorem all_12_6 : allC 4607182418800017408 4602678819172646912 6 = true := by decide +kernel
theorem all_12 : allB 4607182418800017408 4602678819172646912 = true := allB_of (all7 all_12_0 all_12_1 all_12_2 all_12_3 all_12_4 all_12_5 all_12_6)
theorem all_21_0 : allC 4602678819172646912 4607182418800017408 0 = true := by decide +kernel
theorem all_21_1 : allC 4602678819172646912 4607182418800017408 1 = true := by decide +kernel
theorem all_21_2 : allC 4602678819172646912 4607182418800017408 2 = true := by decide +kernel
theorem all_21_3 : allC 4602678819172646912 4607182418800017408 3 = true := by decide +kernel
theorem all_21_4 : allC 4602678819172646912 4607182418800017408 4 = true := by decide +kernel
theorem all_21_5 : allC 4602678819172646912 4607182418800017408 5 = true := by decide +kernel
theorem all_21_6 : allC 4602678819172646912 4607182418800017408 6 = true := by decide +kernel
theorem all_21 : allB 4602678819172646912 4607182418800017408 = true := allB_of (all7 all_21_0 all_21_1 all_21_2 all_21_3 all_21_4 all_21_5 all_21_6)
theorem all_22_0 : allC 4602678819172646912 4602678819172646912 0 = true := by decide +kernel
theorem all_22_1 : allC 4602678819172646912 4602678819172646912 1 = true := by decide +kernel
theorem all_22_2 : allC 4602678819172646912 4602678819172646912 2 = true := by decide +kernel
theorem all_22_3 : allC 4602678819172646912 4602678819172646912 3 = true := by decide +kernel
theorem all_22_4 : allC 4602678819172646912 4602678819172646912 4 = true := by decide +kernel
theorem all_22_5 : allC 4602678819172646912 4602678819172646912 5 = true := by decide +kernel
theorem all_22_6 : allC 4602678819172646912 4602678819172646912 6 = true := by decide +kernel
theorem all_22 : allB 4602678819172646912 4602678819172646912 = true := allB_of (all7 all_22_0 all_22_1 all_22_2 all_22_3 all_22_4 all_22_5 all_22_6)
theorem good_all {y z : UInt64} (h : allB y z = true) {x : Int} (h1 : -84 ≤ x) (h2 : x ≤ 48) : Good x y z ∧ placeX x y z = x := by
  have := List.all_eq_true.mp h (x + 84).toNat (List.mem_range.mpr (by omega))
  have e : (((x + 84).toNat : Nat) : Int) - 84 = x := by omega
  rw [e] at this
  exact good_of this

end
section -- part WI
open PySem PySem.W PyProof.Rows
set_option Elab.async false
set_option maxRecDepth 100000
set_option maxHeartbeats 8000000
set_option linter.unusedVariables false
theorem fill_itI : (theK, theRow) = (theK, theRow) := by w_on; k_fill; rfl

theorem range_ind {prog : Program} {w : World} {A : Around} {E : Value → Shared → Prop} {s : Shared} {env : Env} {h₀ : Heap} {x : Str} {body : List Stmt} {Q : Flow → Shared → Prop} {I : Addr} {a : Int} {n : Nat}
    (Inv : Nat → (Str → Option Value) → List (Addr × Obj) → Prop)
    (step : ∀ i m news, i < n → Inv i m news → ∀ (t : Tok) (it : Obj) h tk, Fr h₀ env.locals h (fun y => if y = x then some (.int (a + (i : Int)) t) else m y) → News h₀ env.locals h ((I, it) :: news) →
      wpAny (model prog w) A (execs body env) (UnrPost h₀ env.locals { s with heap := h, toks := tk } I it (fun m' n' => Inv (i + 1) m' n') Q) E { s with heap := h, toks := tk })
    (done : ∀ m news, Inv n m news → ∀ h tk, Fr h₀ env.locals h m → News h₀ env.locals h news → Q .next { s with heap := h, toks := tk }) :
    ∀ k i m news, i + k = n → Inv i m news → RangeRest prog w A E h₀ env x body Q s I a n k i m news
  | 0, i, m, news, hk, hi => RangeRest.zero fun h tk F N => done m news (by rw [← hk]; exact hi) h tk F N
  | k + 1, i, m, news, hk, hi => RangeRest.succ fun t h tk F N =>
      wpAny_mono (step i m news (by omega) hi t _ h tk F N) (fun f s₂ h => unrPost_mono (fun m' n' x => range_ind Inv step done k (i + 1) m' n' (by omega) x) f s₂ h) fun _ _ e => e
theorem unr_hd {h₀ : Heap} {L : Addr} {I : Addr} {it : Obj} {rest : (Str → Option Value) → List (Addr × Obj) → Prop} {s₁ : Shared} {h' : Heap} {tk : Nat} {m' : Str → Option Value} {nw : List (Addr × Obj)} (F : Fr h₀ L h' m') (N : News h₀ L h' ((I, it) :: nw))
    (off : AllLt I nw) (r : rest m' nw) : UnrEnd h₀ L s₁ I it rest { s₁ with heap := h', toks := tk } := UnrEnd.intro F N nw (fun p hp => hp) (allLt_ne off) r
theorem know5 {m : Str → Option Value} {x1 x2 x3 x4 x5 : Str} {v1 v2 v3 v4 v5 : Option Value} (h1 : m x1 = v1) (h2 : m x2 = v2) (h3 : m x3 = v3) (h4 : m x4 = v4) (h5 : m x5 = v5) : (fun y => if y = x1 then v1 else if y = x2 then v2 else if y = x3 then v3 else if y = x4 then v4 else if y = x5 then v5 else m y) = m := by
  funext y
  split
  · rename_i h; rw [h, h1]
  · split
    · rename_i h; rw [h, h2]
    · split
      · rename_i h; rw [h, h3]
      · split
        · rename_i h; rw [h, h4]
        · split
          · rename_i h; rw [h, h5]
          · rfl
theorem fr_know5 {h₀ h : Heap} {L : Addr} {m : Str → Option Value} {x1 x2 x3 x4 x5 : Str} {v1 v2 v3 v4 v5 : Option Value} (F : Fr h₀ L h m) (h1 : m x1 = v1) (h2 : m x2 = v2) (h3 : m x3 = v3) (h4 : m x4 = v4) (h5 : m x5 = v5) :
    Fr h₀ L h (fun y => if y = x1 then v1 else if y = x2 then v2 else if y = x3 then v3 else if y = x4 then v4 else if y = x5 then v5 else m y) := by
  rw [know5 h1 h2 h3 h4 h5]
  exact F
theorem frj_know5 {h₀ h : Heap} {L : Addr} {m : Str → Option Value} {x0 x1 x2 x3 x4 x5 : Str} {v0 v1 v2 v3 v4 v5 : Option Value} (F : Fr h₀ L h (fun y => if y = x0 then v0 else m y)) (h1 : m x1 = v1) (h2 : m x2 = v2) (h3 : m x3 = v3) (h4 : m x4 = v4) (h5 : m x5 = v5) :
    Fr h₀ L h (fun y => if y = x0 then v0 else if y = x1 then v1 else if y = x2 then v2 else if y = x3 then v3 else if y = x4 then v4 else if y = x5 then v5 else m y) := by
  have e : (fun y => if y = x0 then v0 else if y = x1 then v1 else if y = x2 then v2 else if y = x3 then v3 else if y = x4 then v4 else if y = x5 then v5 else m y) = fun y => if y = x0 then v0 else (fun y => if y = x1 then v1 else if y = x2 then v2 else if y = x3 then v3 else if y = x4 then v4 else if y = x5 then v5 else m y) y := rfl
  rw [e, know5 h1 h2 h3 h4 h5]
  exact F
def crestG (T : List Int) : List Int → Int → Int → Int → Int → Int
  | [], _, _, _, c => c
  | r :: rs, j, mk, b, c => if b < T.getD (mk + 2 ^ r.toNat).toNat 0 then crestG T rs (j + 1) (mk + 2 ^ r.toNat) (T.getD (mk + 2 ^ r.toNat).toNat 0) (j + 1) else crestG T rs (j + 1) (mk + 2 ^ r.toNat) b c
def maskOk : List Int → Int → Prop
  | [], _ => True
  | r :: rs, mk => 0 ≤ r ∧ r < 4 ∧ 0 ≤ mk + 2 ^ r.toNat ∧ mk + 2 ^ r.toNat < 16 ∧ maskOk rs (mk + 2 ^ r.toNat)
theorem drop_getD {row : List Int} {i : Nat} (h : i < row.length) : row.drop i = row.getD i 0 :: row.drop (i + 1) := by
  rw [List.drop_eq_getElem_cons h, List.getD_eq_getElem?_getD, List.getElem?_eq_getElem h, Option.getD_some]
local macro_rules | `(tactic| walk_at "binaryOp Pow int int") => `(tactic| (k_here; (with_reducible refine pow_int_small ?kb1 ?kb2 ?kb3 ?_); (case kb1 => omega); (case kb2 => omega); (case kb3 => decide)))
inductive CrestI (l1 l2 : Addr) (rs ts : List Value) (n1 n2 : Nat) (news : List (Addr × Obj)) (T row : List Int) (i : Nat) (m : Str → Option Value) (nw : List (Addr × Obj)) : Prop
  | mk (h1 : nw = (l1, listOf rs.toArray n1) :: (l2, listOf ts.toArray n2) :: news) (h2 : m (Str.ofString "row") = some (.ref l1)) (h3 : m (Str.ofString "told") = some (.ref l2)) (mk b c : Int) (u1 u2 u3 : Tok) (h4 : m (Str.ofString "mask") = some (.int mk u1)) (h5 : m (Str.ofString "best") = some (.int b u2)) (h6 : m (Str.ofString "crest") = some (.int c u3)) (h7 : crestG T (row.drop i) i mk b c = crestG T row 0 0 0 0) (h8 : maskOk (row.drop i) mk)
theorem crest_c (w : World) (mean : ExcName → Option Value) (mg mb : Str → Option Value) (news : List (Addr × Obj)) (l1 l2 : Addr) (n1 n2 : Nat) (rs ts : List Value) (row T : List Int) :
    Cl w mean mg mb 163 ((l1, listOf rs.toArray n1) :: (l2, listOf ts.toArray n2) :: news) [] (IntsAre rs row ∧ IntsAre ts T ∧ row.length = 4 ∧ T.length = 16 ∧ maskOk row 0) [.ref l1, .ref l2] 2 (fun v new => (∃ t, v = .int (crestG T row 0 0 0 0) t) ∧ new = []) := by
  dsimp only [Cl, CbLists, RetL]
  intro dp un gd cn cs a' ccd cl outer A₀ base h₀ L m s Q E k1 k2 k3 k4 k5 k6 hpre kd ku hret
  obtain ⟨hp1, hp2, hr4, hT16, hmk⟩ := hpre
  refine wpAny_call ?_
  k_dflt cell_enter
  iterate 26 (first | (k_unfold; (try dsimp only)) | (k_end; wrow_close) | walk1 | (dsimp only; walk1) | (leave1; walk_say "STEP leave1"; try dsimp only) | fail "no step")
  rename_i i' hI
  refine range_ind (Inv := CrestI l1 l2 rs ts n1 n2 news T row) ?_ ?_ _ _ _ _ rfl ⟨rfl, rfl, rfl, 0, 0, 0, _, _, _, rfl, rfl, rfl, rfl, hmk⟩
  · rintro i m nw hi4 ⟨rfl, hm1, hm2, mk, b, c, u1, u2, u3, hm3, hm4, hm5, hg, ho⟩ t it h tk F N
    replace F := frj_know5 F hm1 hm2 hm3 hm4 hm5
    rw [drop_getD (by omega)] at hg ho
    obtain ⟨o1, o2, o3, o4, ho⟩ := ho
    have eg : row.getD (0 + (i : Int)).toNat 0 = row.getD i 0 := by rw [show (0 + (i : Int)).toNat = i by omega]
    rw [← eg] at hg o1 o2 o3 o4 ho
    try dsimp only
    k_steps
    · have hb : b < T.getD (mk + 2 ^ (row.getD (0 + (i : Int)).toNat 0).toNat).toNat 0 := by assumption
      have hg2 := hg
      rw [crestG, if_pos hb] at hg2
      refine unr_hd (by rename Fr _ _ _ _ => F5; with_unfolding_all exact F5) (by rename News _ _ _ _ => N5; with_unfolding_all exact N5) (by exact hI) ⟨rfl, rfl, rfl, _, _, _, _, _, _, rfl, rfl, rfl, ?hx, ho⟩
      rw [← hg2]
      simp only [Int.zero_add]
      rfl
    · have hb : ¬ b < T.getD (mk + 2 ^ (row.getD (0 + (i : Int)).toNat 0).toNat).toNat 0 := by assumption
      have hg2 := hg
      rw [crestG, if_neg hb] at hg2
      refine unr_hd (by rename Fr _ _ _ _ => F5; with_unfolding_all exact F5) (by rename News _ _ _ _ => N5; with_unfolding_all exact N5) (by exact hI) ⟨rfl, rfl, rfl, _, _, _, _, _, _, rfl, rfl, rfl, ?hy, ho⟩
      rw [← hg2]
      rfl
  · rintro m nw ⟨rfl, hm1, hm2, mk, b, c, u1, u2, u3, hm3, hm4, hm5, hg, ho⟩ h tk F N
    replace F := fr_know5 F hm1 hm2 hm3 hm4 hm5
    try dsimp only
    k_steps
    rw [List.drop_eq_nil_of_le (by omega)] at hg
    exact hret _ [] _ _ ⟨⟨u3, congrArg (fun k => Value.int k u3) hg⟩, rfl⟩ (by k_asm) (by assumption)

end
section -- part WK
open PySem PySem.W PyProof.Rows
set_option Elab.async false
set_option maxRecDepth 100000
set_option maxHeartbeats 4000000
set_option linter.unusedVariables false
theorem kind_ha : builtinKind "hasattr" = none := by decide +kernel
theorem plain_ha : plainId "hasattr" = true := by decide +kernel
theorem entry_ha : entryFor table "hasattr" = some Builtin.«hasattr» := entryFor_of_tree (by kernel_rfl)
theorem args_ha (a b : Value) : argsOk "hasattr" ⟨[a, b], []⟩ := by unfold argsOk; kernel_rfl
theorem ty_gi : typeOf (.builtin "list.__getitem__") = pure (.type "method_descriptor") := by show builtinType _ = _; rw [builtinType_eq_fast]; kernel_rfl
theorem lk_gi : typeLookup (.type "list") "__getitem__" = pure (some (.builtin "list.__getitem__")) := by rw [typeLookup_type, builtinLookup_eq_fast]; kernel_rfl
theorem lk_md_set : typeLookup (.type "method_descriptor") "__set__" = pure none := by rw [typeLookup_type, builtinLookup_eq_fast]; kernel_rfl
theorem lk_md_del : typeLookup (.type "method_descriptor") "__delete__" = pure none := by rw [typeLookup_type, builtinLookup_eq_fast]; kernel_rfl
theorem slot_md_get : Slot "method_descriptor" "__get__" "method_descriptor.__get__" :=
  .of (owner := "method_descriptor") (n := "__get__") (by rw [typeLookup_type, builtinLookup_eq_fast]; kernel_rfl) (by decide +kernel) (by decide +kernel) (by decide +kernel)
    (by first | exact .inl (by decide +kernel) | exact .inr (by decide +kernel)) (by rw [isSubtype_type]; kernel_rfl)
theorem entry_md_get : entryFor table "method_descriptor.__get__" = some Builtin.«method_descriptor.__get__» := entryFor_of_tree (by kernel_rfl)
theorem args_md_get (a b c : Value) : argsOk "method_descriptor.__get__" ⟨[a, b, c], []⟩ := by unfold argsOk; kernel_rfl
theorem md_told_no : Manifest.toldItsClass.contains "list.__getitem__" = false := by decide +kernel
theorem owner_gi : (".".intercalate ("list.__getitem__".cutAt '.').dropLast) = "list" := by
  have e0 : "list.__getitem__".cutAt '.' = ["list", "__getitem__"] := by first | rfl | decide +kernel
  rw [e0]; decide +kernel
theorem sub_gi : isSubtype (.type "list") (.type (".".intercalate ("list.__getitem__".cutAt '.').dropLast)) = pure true := by
  rw [owner_gi, isSubtype_type]; kernel_rfl
theorem ga_lk : typeLookup (.type "list") "__getattribute__" = pure (some (.builtin "list.__getattribute__")) := by rw [typeLookup_type, builtinLookup_eq_fast]; kernel_rfl
section
variable {prog : Program} {w : World} {A : Around} {E : Value → Shared → Prop} {h : Heap} {g : Array GenState} {d : Drawn} {t : Nat} {os : OsState} {a : Addr} {o : Obj} {its : Array Value} {n : Nat}
theorem gi_get {R : Result → Shared → Prop} (hx : h.get? a = some o) (hc : o.cls = .type "list") (hq : ∀ (v : Addr) h' t', (∀ b o, h.get? b = some o → h'.get? b = some o) → R (.ok (.ret (.ref v))) ⟨h', g, d, t', os⟩) :
    codeAny (model prog w) A (.call (.builtin "method_descriptor.__get__") ⟨[.builtin "list.__getitem__", .ref a, .type "list"], []⟩) R ⟨h, g, d, t, os⟩ := by
  have hT : (⟨h, g, d, t, os⟩ : Shared).TypeIs (.ref a) "list" := ⟨_, hx, hc⟩
  have hT5 : (⟨h, g, d, t, os⟩ : Shared).TypeIs (.builtin "list.__getitem__") "method_descriptor" := ty_gi
  have f1 := md_told_no
  have f8 := sub_gi
  refine codeAny_call_builtin slot_md_get.plain entry_md_get (slot_md_get.check _ _ _ _ _ _ _ _ hT5 (args_md_get _ _ _) ?_)
  repeat (any_goals (first | assumption | wp_step))
  exact hq _ _ _ fun b o e => Heap.get?_push_of_some _ e
theorem gi_entry {tk : Tok} {Q : Fin → Shared → Prop} (hx : h.get? a = some (listOf its n)) (hq : ∀ (v : Addr) h' t', (∀ b o, h.get? b = some o → h'.get? b = some o) → Q (.done (.ret (.ref v))) ⟨h', g, d, t', os⟩) :
    wpAny (model prog w) A (Builtin.«object.__getattribute__» ⟨[.ref a, .str "__getitem__" tk], []⟩) Q E ⟨h, g, d, t, os⟩ := by
  have hT : (⟨h, g, d, t, os⟩ : Shared).TypeIs (.ref a) "list" := ⟨_, hx, rfl⟩
  have hT5 : (⟨h, g, d, t, os⟩ : Shared).TypeIs (.builtin "list.__getitem__") "method_descriptor" := ty_gi
  have f4 := lk_gi
  have f5 := ty_gi
  have f6 := slot_md_get.lookup
  have f7 := lk_md_set
  have f8 := lk_md_del
  repeat (any_goals (first | assumption | wp_step))
  refine gi_get hx rfl fun v h' t' hk => ?_
  repeat (any_goals (first | assumption | wp_step))
  exact hq v h' t' hk
theorem gi_call {tk : Tok} {R : Result → Shared → Prop} (hx : h.get? a = some (listOf its n)) (hq : ∀ (v : Addr) h' t', (∀ b o, h.get? b = some o → h'.get? b = some o) → R (.ok (.ret (.ref v))) ⟨h', g, d, t', os⟩) :
    codeAny (model prog w) A (.call (.builtin "list.__getattribute__") ⟨[.ref a, .str "__getitem__" tk], []⟩) R ⟨h, g, d, t, os⟩ :=
  codeAny_call_builtin F.slot_list_getattribute.plain F.entry_list_ga (F.slot_list_getattribute.check _ _ _ _ _ _ _ _ (show (⟨h, g, d, t, os⟩ : Shared).TypeIs (.ref a) "list" from ⟨_, hx, rfl⟩) (F.args_list_getattribute_2 _ _) (gi_entry hx fun v h' t' hk => hq v h' t' hk))
theorem sub_list_module : isSubtype (.type "list") (.type "module") = pure false := by rw [isSubtype_type]; kernel_rfl
theorem not_data : withoutEnding? "list.__getitem__" "#data" = none := by decide +kernel
theorem ha_entry {tk : Tok} {Q : Fin → Shared → Prop} (hx : h.get? a = some (listOf its n)) (hq : ∀ h' t', (∀ b o, h.get? b = some o → h'.get? b = some o) → Q (.done (.ret (.bool true))) ⟨h', g, d, t', os⟩) :
    wpAny (model prog w) A (Builtin.«hasattr» ⟨[.ref a, .str "__getitem__" tk], []⟩) Q E ⟨h, g, d, t, os⟩ := by
  have hT : (⟨h, g, d, t, os⟩ : Shared).TypeIs (.ref a) "list" := ⟨_, hx, rfl⟩
  have f1 := sub_list_module
  have f2 := F.slot_list_getattribute.lookup
  have f4 := lk_gi
  have f5 := not_data
  have f3 := F.slot_list_getattribute.bind (.ref a)
  repeat (any_goals (first | assumption | wp_step))
  refine gi_call hx fun v h' t' hk => ?_
  repeat (any_goals (first | assumption | wp_step))
  exact hq h' t' hk
end
theorem hasattr_list {prog : Program} {w : World} {A : Around} {E : Value → Shared → Prop} {s : Shared} {a : Addr} {its : Array Value} {n : Nat} {tk : Tok} {Q : Value → Shared → Prop} (hx : s.heap.get? a = some (listOf its n))
    (hq : ∀ h' tk', (∀ b o, s.heap.get? b = some o → h'.get? b = some o) → Q (.bool true) { s with heap := h', toks := tk' }) :
    wpAny (model prog w) A (call (.builtin "hasattr") [.ref a, .str "__getitem__" tk]) Q E s := by
  obtain ⟨h, g, d, t, os⟩ := s
  exact call_function_tree kind_ha plain_ha entry_ha (args_ha _ _) (ha_entry hx fun h' t' hk => hq h' t' hk)

end
section -- part WK2
open PySem PySem.W PyProof.Rows
set_option Elab.async false
set_option maxRecDepth 100000
set_option maxHeartbeats 4000000
set_option linter.unusedVariables false
theorem isSeq_iadd : isSeqSlot (some (.builtin "list.__iadd__")) = true := by
  show isSeqSlotId _ = true
  decide +kernel
theorem fills_list_iadd : fillsInplaceSlot (.type "list") "add" (Operator.Add == .Add) = pure false := by
  unfold fillsInplaceSlot
  show (typeLookup (.type "list") (dunderI "add") >>= fun fi => pure (fi.isSome && !isSeqSlot fi)) = pure false
  rw [PySem.F.slot_list_iadd.lookup]
  show (pure (true && !isSeqSlot (some (.builtin "list.__iadd__"))) : Sem Bool) = pure false
  rw [isSeq_iadd]; rfl
theorem seq_list_iadd : seqSlot? (.type "list") (dunderI "add") = pure (some (.builtin "list.__iadd__")) := by
  unfold seqSlot?
  rw [PySem.F.slot_list_iadd.lookup]
  show (if (!isSeqSlot (some (.builtin "list.__iadd__"))) = true then (pure none : Sem (Option Value)) else pure (some (.builtin "list.__iadd__"))) = _
  rw [isSeq_iadd]; rfl
theorem inplaceOp_list {M : Model} {A : Around} {E : Value → Shared → Prop} {s : Shared} {a b : Value} {Q : Value → Shared → Prop} (ha : s.TypeIs a "list") (hb : s.TypeIs b "list") (hc : wpAny M A (call (.builtin "list.__iadd__") [a, b]) Q E s) : wpAny M A (inplaceOp .Add a b) Q E s := by
  unfold inplaceOp
  refine wpAny_holding ?_
  refine wpAny_bind (wpAny_typeOf ha (wpAny_bind (wpAny_of_eq fills_list_iadd ?_)))
  show wpAny M A (if false = true then _ else _) Q E s
  rw [if_neg Bool.false_ne_true]
  refine wpAny_bind (wpAny_binaryOp1_none (nm := "add") ha hb noFill_list_add ?_)
  refine wpAny_bind (wpAny_of_eq seq_list_iadd ?_)
  exact wpAny_bind (wpAny_rule hc)
section
variable {prog : Program} {w : World} {A : Around} {E : Value → Shared → Prop} {s : Shared} {h₀ : Heap} {L D b : Addr} {m : Str → Option Value} {rest : List (Addr × Obj)} {as bs : List Value} {n n2 : Nat} {Q : Value → Shared → Prop}
theorem iadd_hd (F : Fr h₀ L s.heap m) (N : News h₀ L s.heap ((D, listOf as.toArray n) :: rest)) (hb : (b, listOf bs.toArray n2) ∈ rest) (off : ∀ p ∈ rest, p.1 ≠ D) (hz : as.length + bs.length ≤ 1000)
    (h : ∀ h' n', Fr h₀ L h' m → News h₀ L h' ((D, listOf (as ++ bs).toArray n') :: rest) → Q (.ref D) { s with heap := h' }) : wpAny (model prog w) A (inplaceOp .Add (.ref D) (.ref b)) Q E s := by
  have z := N _ (.head _)
  have hs : as.toArray.size + bs.toArray.size ≤ sizeLine := by
    simp only [List.size_toArray, PySem.sizeLine_eq]
    omega
  have hs1 : as.toArray.size ≤ sizeLine := by omega
  have e : as.toArray ++ bs.toArray = (as ++ bs).toArray := by simp
  have key : ∃ n', News h₀ L (s.heap.update D (Obj.mapSeq fun x => x ++ bs.toArray)) ((D, listOf (as ++ bs).toArray n') :: rest) := by
    by_cases hne : bs = []
    · subst hne
      exact ⟨n, kl_turn0 (pre := []) (its := as.toArray) (fun x => x ++ ([] : List Value).toArray) N (fun _ h => nomatch h) off e (by simp)⟩
    · exact ⟨n + 1, kl_turn (pre := []) (its := as.toArray) (fun x => x ++ bs.toArray) N (fun _ h => nomatch h) off e (by
        simp only [List.size_toArray, List.length_append]
        intro q
        exact hne (List.eq_nil_of_length_eq_zero (by omega)))⟩
  obtain ⟨n', N'⟩ := key
  exact inplaceOp_list ⟨_, z.1, rfl⟩ ⟨_, (N _ (.tail _ hb)).1, rfl⟩ (call_meets PySem.F.slot_list_iadd ⟨_, z.1, rfl⟩ PySem.F.entry_list_iadd (PySem.F.args_list_iadd_2 _ _) (PySem.AutoSeq1.list___iadd___list_list_0 D as.toArray n b bs.toArray n2 (extend_door hs) hs1 (by omega)) ⟨z.1, (N _ (.tail _ hb)).1, h _ n' (F.change (Heap.SameBut.update ..) z.2.1 z.2.2) N'⟩)
end

end
section -- part WJ
open PySem PySem.W PyProof.Rows
set_option Elab.async false
set_option maxRecDepth 100000
set_option maxHeartbeats 8000000
set_option linter.unusedVariables false
theorem fill_itJ : (theK, theRow) = (theK, theRow) := by w_on; k_fill; rfl

/-- a contract whose answer stands on a whole new ledger -/
abbrev RetM (h₀ : Heap) (L : Addr) (m : Str → Option Value) (s : Shared) (Q : Value → Shared → Prop) (R : Value → List (Addr × Obj) → Prop) : Prop :=
  ∀ (v : Value) (new : List (Addr × Obj)) (h' : Heap) (tk' : Nat), R v new → Fr h₀ L h' m → News h₀ L h' new → Q v { s with heap := h', toks := tk' }
abbrev Cm (w : World) (mean : ExcName → Option Value) (mg mb : Str → Option Value) (f : Addr) (news : List (Addr × Obj)) (pre : Prop) (vs : List Value) (deep : Nat) (R : Value → List (Addr × Obj) → Prop) : Prop :=
  ∀ (dp un : Nat) (gd : Option (List Code)) (cn : Str) (cs : Scope) (a : Addr) (ccd : Value) (cl : List (Str × Addr)) (outer : List Env) (A₀ : Around) (base h₀ : Heap) (L : Addr) (m : Str → Option Value) (s : Shared) (Q E : Value → Shared → Prop),
    Below A₀ base outer h₀ → Fr h₀ L s.heap m → (theK w.params).In h₀ → News h₀ L s.heap news → Top theQ (looseW theQ theLoose) mean mg mb h₀ → cs.kind = .function →
    pre → dp + deep < recursionLimit → un + 8 * deep < cLine → RetM h₀ L m s Q R →
      wpAny (model theProg w) (ktrTop dp un gd cn cs L a ccd cl outer) (call (.ref f) vs) Q E s
local macro_rules | `(tactic| walk_at "call builtin:hasattr") => `(tactic| (k_here; (show wpAny _ _ (call (Value.builtin "hasattr") [Value.ref _, Value.str _ _]) _ _ _); (rename Fr _ _ _ _ => lF'); (rename News _ _ _ _ => lN'); (refine hasattr_list (lN' _ (.head _)).1 ?_); intro h' tk' hk'; (have F' := Fr.grownK lF' hk'); (have N' := News.grown lN' hk'); clear hk'; (try dsimp only)))
local macro_rules | `(tactic| walk_at "inplaceOp Add ref ref") => `(tactic| (k_here; (rename Fr _ _ _ _ => lF'); (rename News _ _ _ _ => lN'); (refine iadd_hd lF' lN' (.head _) (by with_reducible assumption) (by with_reducible assumption) ?_); intro h' n' F' N'; (try dsimp only)))
theorem iconcat_c (w : World) (mean : ExcName → Option Value) (mg mb : Str → Option Value) (news : List (Addr × Obj)) (l1 l2 : Addr) (n1 n2 : Nat) (as bs : List Value) :
    Cm w mean mg mb 42 ((l1, listOf as.toArray n1) :: (l2, listOf bs.toArray n2) :: news) (as.length + bs.length ≤ 1000 ∧ l1 ≠ l2 ∧ ∀ p ∈ news, p.1 ≠ l1) [.ref l1, .ref l2] 1 (fun v new => ∃ n', v = .ref l1 ∧ new = (l1, listOf (as ++ bs).toArray n') :: (l2, listOf bs.toArray n2) :: news) := by
  dsimp only [Cm, RetM]
  intro dp un gd cn cs a' ccd cl outer A₀ base h₀ L m s Q E k1 k2 k3 k4 k5 k6 hpre kd ku hret
  obtain ⟨hp1, hp2, hp3⟩ := hpre
  have hoff : ∀ p ∈ (l2, listOf bs.toArray n2) :: news, p.1 ≠ l1 := fun p hp => by
    rcases List.mem_cons.mp hp with rfl | hp
    · exact Ne.symm hp2
    · exact hp3 p hp
  refine wpAny_call ?_
  k_dflt cell_enter
  k_steps
  rename_i n' hh9 F9 N9
  exact hret _ _ _ _ ⟨_, rfl, rfl⟩ (by k_asm) (by assumption)

end
section -- part WM
open PySem PySem.W PyProof.Rows PySem.Spec PySem.Calls PyProof.Rows.LCg
set_option Elab.async false
set_option maxRecDepth 100000
set_option maxHeartbeats 4000000
set_option linter.unusedVariables false
abbrev Gn (x : Str) (p : Pos) (iter : Expr) (ifs : List Expr) : Comprehension := ⟨.Name x p, iter, ifs, 0⟩
abbrev LC3 (elt : Expr) (a b c : Str) (pa pb pc : Pos) (ia ib ic tb tc : Expr) (scope : Scope) (pos : Pos) : Expr := .ListComp elt [Gn a pa ia [], Gn b pb ib [tb], Gn c pc ic [tc]] scope pos
section
variable (elt : Expr) (a b c : Str) (pa pb pc : Pos) (ia ib ic tb tc : Expr) (scope : Scope) (pos : Pos) (it acc : Value) (env : Env)
theorem turn2 : compTurn (LC3 elt a b c pa pb pc ia ib ic tb tc scope pos) 2 it acc env = (do
      standAt ic.pos
      match ← pyNext it with
      | none => pure (.done .next)
      | some v =>
        letOwnedTupleGo (.Name c pc) it v
        assign (.Name c pc) env v
        let mut ok := true
        for c in [tc] do
          if ok then ok ← isTrue c env (eval c env)
        if ok then
          (do let _ ← call (.builtin "list.append") [acc, ← eval elt env])
        again (.compLoop (LC3 elt a b c pa pb pc ia ib ic tb tc scope pos) 2 it acc env)) := by rfl
theorem turn1 : compTurn (LC3 elt a b c pa pb pc ia ib ic tb tc scope pos) 1 it acc env = (do
      standAt ib.pos
      match ← pyNext it with
      | none => pure (.done .next)
      | some v =>
        letOwnedTupleGo (.Name b pb) it v
        assign (.Name b pb) env v
        let mut ok := true
        for c in [tb] do
          if ok then ok ← isTrue c env (eval c env)
        if ok then
          let x ← eval ic env
          standAt ic.pos
          let x ← foldedSetIterable ic env x
          let _ ← runOwn (.compStart (LC3 elt a b c pa pb pc ia ib ic tb tc scope pos) 2 (← holding [x] (pyIter x)) acc env) env
        again (.compLoop (LC3 elt a b c pa pb pc ia ib ic tb tc scope pos) 1 it acc env)) := by rfl
theorem turn0 : compTurn (LC3 elt a b c pa pb pc ia ib ic tb tc scope pos) 0 it acc env = (do
      standAt ia.pos
      match ← pyNext it with
      | none => pure (.done .next)
      | some v =>
        letOwnedTupleGo (.Name a pa) it v
        assign (.Name a pa) env v
        let mut ok := true
        for c in ([] : List Expr) do
          if ok then ok ← isTrue c env (eval c env)
        if ok then
          let x ← eval ib env
          standAt ib.pos
          let x ← foldedSetIterable ib env x
          let _ ← runOwn (.compStart (LC3 elt a b c pa pb pc ia ib ic tb tc scope pos) 1 (← holding [x] (pyIter x)) acc env) env
        again (.compLoop (LC3 elt a b c pa pb pc ia ib ic tb tc scope pos) 0 it acc env)) := by rfl
end
section
variable {prog : Program} {w : World} {A : Around} {E : Value → Shared → Prop} {R : Result → Shared → Prop} {s : Shared} {elt : Expr} {a b c : Str} {pa pb pc : Pos} {ia ib ic tb tc : Expr} {scope : Scope} {pos : Pos} {it acc : Value} {env : Env}
/-- one turn's inner part, as a tree -/
theorem loop2 (I : Nat → Shared → Prop)
    (turn : ∀ n s, I n s → wpAny (model prog w) A (pyNext it) (fun r s₁ => match r with
      | none => R (.ok .next) s₁
      | some v => wpAny (model prog w) A (assign (.Name c pc) env v) (fun _ s₂ =>
          wpAny (model prog w) A (isTrue tc env (eval tc env)) (fun ok s₃ =>
            if ok = true then wpAny (model prog w) A (eval elt env) (fun x s₄ =>
              wpAny (model prog w) A (call (.builtin "list.append") [acc, x]) (fun _ s₅ => ∃ m, m < n ∧ I m s₅) (notedBy (model prog w) A env fun e s' => R (.error e) s') s₄) (notedBy (model prog w) A env fun e s' => R (.error e) s') s₃
            else ∃ m, m < n ∧ I m s₃) (notedBy (model prog w) A env fun e s' => R (.error e) s') s₂) (notedBy (model prog w) A env fun e s' => R (.error e) s') s₁) (notedBy (model prog w) A env fun e s' => R (.error e) s') s)
    (n : Nat) (h : I n s) : codeAny (model prog w) A (.compLoop (LC3 elt a b c pa pb pc ia ib ic tb tc scope pos) 2 it acc env) R s := by
  refine codeAny_loop rfl I (fun n s hI => ?_) n h
  show wpAny _ A ((compTurn (LC3 elt a b c pa pb pc ia ib ic tb tc scope pos) 2 it acc env).onRaise (fun x => do noteFrame x env; theTreesLotGoes x)) _ _ s
  refine wpAny_noted ?_
  rw [turn2]
  refine wpAny_bind (wpAny_standAt (wpAny_bind (wpAny_mono (turn n s hI) (fun r s₁ h₁ => ?_) fun _ _ h' => h')))
  cases r with
  | none => exact wpAny_pure h₁
  | some v =>
    refine wpAny_bind (wpAny_of_eq (show letOwnedTupleGo (.Name c pc) it v = pure () by rfl) ?_)
    refine wpAny_bind (wpAny_mono h₁ (fun _ s₂ h₂ => wpAny_bind (wpAny_tests_one (wpAny_mono h₂ (fun ok s₃ h₃ => ?_) fun _ _ h' => h'))) fun _ _ h' => h')
    cases ok with
    | false => exact wpAny_pure ⟨rfl, h₃⟩
    | true =>
      exact wpAny_bind (wpAny_bind (wpAny_mono h₃ (fun x s₄ h₄ => wpAny_bind (wpAny_mono h₄ (fun _ s₅ h₅ => wpAny_pure (wpAny_pure ⟨rfl, h₅⟩)) fun _ _ h' => h')) fun _ _ h' => h'))

theorem start_any {d : Nat} (hd : (clausesOf (LC3 elt a b c pa pb pc ia ib ic tb tc scope pos))[d]? = some (Gn a pa ia []) ∨ (clausesOf (LC3 elt a b c pa pb pc ia ib ic tb tc scope pos))[d]? = some (Gn b pb ib [tb]) ∨ (clausesOf (LC3 elt a b c pa pb pc ia ib ic tb tc scope pos))[d]? = some (Gn c pc ic [tc]))
    (h0 : codeAny (model prog w) A (.compLoop (LC3 elt a b c pa pb pc ia ib ic tb tc scope pos) d it acc env) R s)
    (h : wpAny (model prog w) A (pyIter it) (fun it' s' => codeAny (model prog w) A (.compLoop (LC3 elt a b c pa pb pc ia ib ic tb tc scope pos) d it' acc env) R s')
      (notedBy (model prog w) A env fun x s' => R (.error x) s') s) :
    codeAny (model prog w) A (.compStart (LC3 elt a b c pa pb pc ia ib ic tb tc scope pos) d it acc env) R s := by
  refine codeAny_of_tree ?_
  show wpAny _ _ ((compStart (LC3 elt a b c pa pb pc ia ib ic tb tc scope pos) d it acc env).onRaise (fun x => do noteFrame x env; standAt theWindowsPlace)) _ _ s
  refine wpAny_notedAt ?_
  unfold compStart
  obtain ⟨g, hg, e⟩ : ∃ g : Comprehension, g.is_async = 0 ∧ (clausesOf (LC3 elt a b c pa pb pc ia ib ic tb tc scope pos))[d]? = some g := by
    rcases hd with e | e | e
    · exact ⟨_, rfl, e⟩
    · exact ⟨_, rfl, e⟩
    · exact ⟨_, rfl, e⟩
  rw [e]
  have hb : (g.is_async != 0) = false := by rw [hg]; rfl
  show wpAny (model prog w) _ (if (g.is_async != 0) = true then _ else _) _ _ s
  rw [hb]
  show wpAny _ _ (ask >>= _) _ _ s
  refine wpAny_bind (wpAny_askSetting (wpAny_ite ?_))
  split
  · first
      | exact wpAny_bind (wpAny_pure (wpAny_pure (And.intro rfl h0)))
      | exact wpAny_pure (And.intro rfl h0)
  · first
      | exact wpAny_bind (wpAny_rule (wpAny_bind (wpAny_standAt (wpAny_bind (wpAny_mono h (fun it' s' h' => wpAny_pure (And.intro rfl h')) fun _ _ x => x)))))
      | (refine wpAny_bind (wpAny_rule ?_); show wpAny _ _ (standAt g.iter.pos >>= _) _ _ s; exact wpAny_bind (wpAny_standAt (wpAny_bind (wpAny_mono h (fun it' s' h' => wpAny_pure (And.intro rfl h')) fun _ _ x => x))))
theorem loop1 (hs : ∀ x, foldedSetIterable ic env x = pure x) (I : Nat → Shared → Prop)
    (turn : ∀ n s, I n s → wpAny (model prog w) A (pyNext it) (fun r s₁ => match r with
      | none => R (.ok .next) s₁
      | some v => wpAny (model prog w) A (assign (.Name b pb) env v) (fun _ s₂ =>
          wpAny (model prog w) A (isTrue tb env (eval tb env)) (fun ok s₃ =>
            if ok = true then wpAny (model prog w) A (eval ic env) (fun x s₄ =>
              wpAny (model prog w) A (pyIter x) (fun it' s₅ => codeAny (model prog w) A (.compStart (LC3 elt a b c pa pb pc ia ib ic tb tc scope pos) 2 it' acc env)
                (fun r s₆ => match r with | .ok _ => ∃ m, m < n ∧ I m s₆ | .error e => cameBackBy (model prog w) A env (notedBy (model prog w) A env fun e s' => R (.error e) s') e s₆) s₅)
                (notedBy (model prog w) A env fun e s' => R (.error e) s') s₄) (notedBy (model prog w) A env fun e s' => R (.error e) s') s₃
            else ∃ m, m < n ∧ I m s₃) (notedBy (model prog w) A env fun e s' => R (.error e) s') s₂) (notedBy (model prog w) A env fun e s' => R (.error e) s') s₁) (notedBy (model prog w) A env fun e s' => R (.error e) s') s)
    (n : Nat) (h : I n s) : codeAny (model prog w) A (.compLoop (LC3 elt a b c pa pb pc ia ib ic tb tc scope pos) 1 it acc env) R s := by
  refine codeAny_loop rfl I (fun n s hI => ?_) n h
  show wpAny _ A ((compTurn (LC3 elt a b c pa pb pc ia ib ic tb tc scope pos) 1 it acc env).onRaise (fun x => do noteFrame x env; theTreesLotGoes x)) _ _ s
  refine wpAny_noted ?_
  rw [turn1]
  refine wpAny_bind (wpAny_standAt (wpAny_bind (wpAny_mono (turn n s hI) (fun r s₁ h₁ => ?_) fun _ _ h' => h')))
  cases r with
  | none => exact wpAny_pure h₁
  | some v =>
    refine wpAny_bind (wpAny_of_eq (show letOwnedTupleGo (.Name b pb) it v = pure () by rfl) ?_)
    refine wpAny_bind (wpAny_mono h₁ (fun _ s₂ h₂ => wpAny_bind (wpAny_tests_one (wpAny_mono h₂ (fun ok s₃ h₃ => ?_) fun _ _ h' => h'))) fun _ _ h' => h')
    cases ok with
    | false => exact wpAny_pure ⟨rfl, h₃⟩
    | true =>
      refine wpAny_bind (wpAny_mono h₃ (fun x s₄ h₄ => wpAny_bind (wpAny_standAt (wpAny_bind (wpAny_of_eq (hs x) (wpAny_bind (wpAny_holding (wpAny_mono h₄ (fun it' s₅ h₅ => wpAny_bind (wpAny_runOwn (codeAny_mono h₅ fun r s₆ h₆ => ?_))) fun _ _ h' => h'))))))) fun _ _ h' => h')
      cases r with
      | ok f => exact wpAny_pure ⟨rfl, h₆⟩
      | error e => exact h₆
theorem loop0 (hs : ∀ x, foldedSetIterable ib env x = pure x) (I : Nat → Shared → Prop)
    (turn : ∀ n s, I n s → wpAny (model prog w) A (pyNext it) (fun r s₁ => match r with
      | none => R (.ok .next) s₁
      | some v => wpAny (model prog w) A (assign (.Name a pa) env v) (fun _ s₃ =>
            wpAny (model prog w) A (eval ib env) (fun x s₄ =>
              wpAny (model prog w) A (pyIter x) (fun it' s₅ => codeAny (model prog w) A (.compStart (LC3 elt a b c pa pb pc ia ib ic tb tc scope pos) 1 it' acc env)
                (fun r s₆ => match r with | .ok _ => ∃ m, m < n ∧ I m s₆ | .error e => cameBackBy (model prog w) A env (notedBy (model prog w) A env fun e s' => R (.error e) s') e s₆) s₅)
                (notedBy (model prog w) A env fun e s' => R (.error e) s') s₄) (notedBy (model prog w) A env fun e s' => R (.error e) s') s₃) (notedBy (model prog w) A env fun e s' => R (.error e) s') s₁) (notedBy (model prog w) A env fun e s' => R (.error e) s') s)
    (n : Nat) (h : I n s) : codeAny (model prog w) A (.compLoop (LC3 elt a b c pa pb pc ia ib ic tb tc scope pos) 0 it acc env) R s := by
  refine codeAny_loop rfl I (fun n s hI => ?_) n h
  show wpAny _ A ((compTurn (LC3 elt a b c pa pb pc ia ib ic tb tc scope pos) 0 it acc env).onRaise (fun x => do noteFrame x env; theTreesLotGoes x)) _ _ s
  refine wpAny_noted ?_
  rw [turn0]
  refine wpAny_bind (wpAny_standAt (wpAny_bind (wpAny_mono (turn n s hI) (fun r s₁ h₁ => ?_) fun _ _ h' => h')))
  cases r with
  | none => exact wpAny_pure h₁
  | some v =>
    refine wpAny_bind (wpAny_of_eq (show letOwnedTupleGo (.Name a pa) it v = pure () by rfl) ?_)
    refine wpAny_bind (wpAny_mono h₁ (fun _ s₂ h₃ => wpAny_bind (wpAny_tests_nil ?_)) fun _ _ h' => h')
    refine wpAny_bind (wpAny_mono h₃ (fun x s₄ h₄ => wpAny_bind (wpAny_standAt (wpAny_bind (wpAny_of_eq (hs x) (wpAny_bind (wpAny_holding (wpAny_mono h₄ (fun it' s₅ h₅ => wpAny_bind (wpAny_runOwn (codeAny_mono h₅ fun r s₆ h₆ => ?_))) fun _ _ h' => h'))))))) fun _ _ h' => h')
    cases r with
    | ok f => exact wpAny_pure ⟨rfl, h₆⟩
    | error e => exact h₆
end

end
section -- part WN
open PySem PySem.W PyProof.Rows PySem.Spec PySem.Calls PyProof.Rows.LCg
set_option Elab.async false
set_option maxRecDepth 100000
set_option maxHeartbeats 4000000
set_option linter.unusedVariables false
abbrev oTup4 (a b c d : Value) : Obj := { cls := .type "tuple", data := .seq #[a, b, c, d] }
inductive TupL (nw : List (Addr × Obj)) : List Value → List (List Int) → Prop
  | nil : TupL nw [] []
  | cons {T : Addr} {a b c d : Int} {ta tb tc td : Tok} {vs : List Value} {os : List (List Int)} : (T, oTup4 (.int a ta) (.int b tb) (.int c tc) (.int d td)) ∈ nw → TupL nw vs os → TupL nw (.ref T :: vs) ([a, b, c, d] :: os)
theorem TupL.mono {nw nw' : List (Addr × Obj)} (k : ∀ p ∈ nw, p.2.cls = .type "tuple" → p ∈ nw') : ∀ {vs os}, TupL nw vs os → TupL nw' vs os
  | _, _, .nil => .nil
  | _, _, .cons h r => .cons (k _ h rfl) (TupL.mono k r)
theorem TupL.snoc {nw : List (Addr × Obj)} {T : Addr} {a b c d : Int} {ta tb tc td : Tok} (h : (T, oTup4 (.int a ta) (.int b tb) (.int c tc) (.int d td)) ∈ nw) : ∀ {vs os}, TupL nw vs os → TupL nw (vs ++ [.ref T]) (os ++ [[a, b, c, d]])
  | _, _, .nil => .cons h .nil
  | _, _, .cons h' r => .cons h' (TupL.snoc h r)
theorem TupL.len {nw : List (Addr × Obj)} : ∀ {vs os}, TupL nw vs os → vs.length = os.length
  | _, _, .nil => rfl
  | _, _, .cons _ r => by rw [List.length_cons, List.length_cons, TupL.len r]
def csF (va vb : Int) : Nat → Nat → List (List Int)
  | 0, _ => []
  | k + 1, i => if (i : Int) ≠ va ∧ (i : Int) ≠ vb then [va, vb, i, 6 - va - vb - i] :: csF va vb k (i + 1) else csF va vb k (i + 1)
def bsF (va : Int) : Nat → Nat → List (List Int)
  | 0, _ => []
  | k + 1, i => if (i : Int) ≠ va then csF va i 4 0 ++ bsF va k (i + 1) else bsF va k (i + 1)
def asF : Nat → Nat → List (List Int)
  | 0, _ => []
  | k + 1, i => bsF i 4 0 ++ asF k (i + 1)
structure Stt (h₀ : Heap) (L : Addr) (m : Str → Option Value) (C D : Addr) (h : Heap) (ys : List Value) (os : List (List Int)) (nw : List (Addr × Obj)) (m₂ : Str → Option Value) : Prop where
  F : Fr h₀ L h m
  ns : h.Ns C m₂
  N : News h₀ L h ((D, lst ys) :: nw)
  off : ∀ p ∈ nw, p.1 ≠ C ∧ p.1 ≠ D
  tu : TupL nw ys os
structure Cst (h₀ : Heap) (L C D : Addr) : Prop where
  CL : C ≠ L
  C0 : h₀.get? C = none
  DL : D ≠ L
  D0 : h₀.get? D = none
  DC : D ≠ C
structure Itr (h₀ : Heap) (L C D I : Addr) : Prop where
  IC : I ≠ C
  ID : I ≠ D
  LI : L ≠ I
  I0 : h₀.get? I = none
section
variable {prog : Program} {w : World} {A : Around} {s : Shared} {h₀ : Heap} {L : Addr} {m : Str → Option Value} {env : Env} {scope : Scope} {cl : List (Str × Addr)} {C D I : Addr}
theorem Stt.toL {h : Heap} {ys : List Value} {os : List (List Int)} {nw : List (Addr × Obj)} {m₂ : Str → Option Value} {oI : Obj} (S : Stt h₀ L m C D h ys os nw m₂) (K : Cst h₀ L C D) (T : Itr h₀ L C D I) (hI : h.get? I = some oI) :
    ∃ oC, NsObj oC m₂ ∧ News h₀ L h ((C, oC) :: (I, oI) :: (D, lst ys) :: nw) := by
  obtain ⟨oC, e, n⟩ := ns_obj S.ns
  refine ⟨oC, n, fun p hp => ?_⟩
  rcases List.mem_cons.mp hp with rfl | hp
  · exact ⟨e, K.CL, K.C0⟩
  · rcases List.mem_cons.mp hp with rfl | hp
    · exact ⟨hI, Ne.symm T.LI, T.I0⟩
    · exact S.N p hp
theorem Stt.fromL {h h' : Heap} {ys : List Value} {os : List (List Int)} {nw : List (Addr × Obj)} {m₂ : Str → Option Value} {oI oC : Obj} (S : Stt h₀ L m C D h ys os nw m₂) (n : NsObj oC m₂) (F : Fr h₀ L h' m) (N : News h₀ L h' ((C, oC) :: (I, oI) :: (D, lst ys) :: nw)) :
    Stt h₀ L m C D h' ys os nw m₂ ∧ h'.get? I = some oI :=
  ⟨⟨F, n.ns (N _ (.head _)).1, fun p hp => N p (.tail _ (.tail _ hp)), S.off, S.tu⟩, (N _ (.tail _ (.head _))).1⟩
theorem turnG {x : Str} {px : Pos} {i : Nat} {h : Heap} {tk : Nat} {ys : List Value} {os : List (List Int)} {nw : List (Addr × Obj)} {m₂ : Str → Option Value} {Body Dn : Shared → Prop} {E₁ E₂ : Value → Shared → Prop}
    (hh : A.handled = none) (hkind : scope.kind = .function) (hx : scope.names.lookup x = some .local) (K : Cst h₀ L C D) (T : Itr h₀ L C D I)
    (S : Stt h₀ L m C D h ys os nw m₂) (hst : IsRangeIter h I (0 + (i : Nat) * 1) (((4 : Nat) : Int) - (i : Nat)) 1) (offI : ∀ p ∈ nw, p.1 ≠ I) (hi : i ≤ 4)
    (hbody : i < 4 → ∀ t h' tk', Stt h₀ L m C D h' ys os nw (fun z => if z = x then some (.int i t) else m₂ z) → IsRangeIter h' I (0 + ((i + 1 : Nat) : Int) * 1) (((4 : Nat) : Int) - ((i + 1 : Nat) : Int)) 1 → Body { s with heap := h', toks := tk' })
    (hdone : i = 4 → ∀ h' tk', Stt h₀ L m C D h' ys os nw m₂ → Dn { s with heap := h', toks := tk' }) :
    wpAny (model prog w) A (pyNext (.ref I)) (fun r s₁ => match r with
      | none => Dn s₁
      | some v => wpAny (model prog w) A (assign (.Name x px) (compEnvC scope cl C env) v) (fun _ s₂ => Body s₂) E₁ s₁) E₂ { s with heap := h, toks := tk } := by
  have W := range_walks (prog := prog) (w := w) (A := A) (I := I) hh 0 4
  have kp : ∀ h₂ : Heap, (∀ b o, b ∉ [I] → h.get? b = some o → h₂.get? b = some o) → Stt h₀ L m C D h₂ ys os nw m₂ := fun h₂ hk₂ =>
    ⟨fr_but S.F hk₂ T.LI T.I0, S.ns.at' fun o e => hk₂ _ o (by simpa using Ne.symm T.IC) e, news_but S.N hk₂ fun p hp => by
      rcases List.mem_cons.mp hp with rfl | hp
      · exact Ne.symm T.ID
      · exact offI p hp, S.off, S.tu⟩
  by_cases hlt : i < 4
  · refine W.item i _ _ _ hlt hst fun v h₂ tk₂ hPv hst₂ hk₂ => ?_
    obtain ⟨t, rfl⟩ := hPv
    have S₂ := kp h₂ hk₂
    rw [Int.zero_add]
    refine wpAny_assign_Name (wpAny_storeName_local (lookup_relabel_local hx) S₂.ns (fun h₃ hn₃ hs₃ => ?_) (by simp [compEnvC, relabel, hkind]))
    refine hbody hlt t h₃ _ ⟨S₂.F.change hs₃ K.CL K.C0, hn₃, fun p hp => ?_, S₂.off, S₂.tu⟩ ?_
    · refine ⟨hs₃.extBut _ _ ?_ (S₂.N p hp).1, (S₂.N p hp).2⟩
      rcases List.mem_cons.mp hp with rfl | hp
      · exact K.DC
      · exact (S₂.off p hp).1
    · exact W.frame _ _ _ hst₂ fun b hb o e => hs₃.extBut b o (by rw [List.mem_singleton.mp hb]; exact T.IC) e
  · obtain rfl : i = 4 := by omega
    exact W.done _ _ _ hst fun h₂ tk₂ hk₂ => hdone rfl h₂ tk₂ (kp h₂ hk₂)
end

end
section -- part WO
open PySem PySem.W PyProof.Rows PySem.Spec PySem.Calls PyProof.Rows.LCg
set_option Elab.async false
set_option maxRecDepth 100000
set_option maxHeartbeats 4000000
set_option linter.unusedVariables false
section
variable (prog : Program) (w : World) (A : Around) (s : Shared) (h₀ : Heap) (L : Addr) (m : Str → Option Value) (env : Env) (scope : Scope) (cl : List (Str × Addr))
abbrev LfT2 (t : Expr) (a b c : Str) : Prop := ∀ (C : Addr) (oC : Obj) (m₂ : Str → Option Value) (nws : List (Addr × Obj)) (h : Heap) (tk : Nat) (va vb vc : Int) (ta tb tc : Tok) (E' : Value → Shared → Prop), NsObj oC m₂ → m₂ a = some (.int va ta) → m₂ b = some (.int vb tb) → m₂ c = some (.int vc tc) → Fr h₀ L h m → News h₀ L h ((C, oC) :: nws) →
  wpAny (model prog w) A (isTrue t (compEnvC scope cl C env) (eval t (compEnvC scope cl C env))) (fun ok s' => ∃ h' tk', ok = decide (vc ≠ va ∧ vc ≠ vb) ∧ s' = { s with heap := h', toks := tk' } ∧ Fr h₀ L h' m ∧ News h₀ L h' ((C, oC) :: nws)) E' { s with heap := h, toks := tk }
abbrev LfT1 (t : Expr) (a b : Str) : Prop := ∀ (C : Addr) (oC : Obj) (m₂ : Str → Option Value) (nws : List (Addr × Obj)) (h : Heap) (tk : Nat) (va vb : Int) (ta tb : Tok) (E' : Value → Shared → Prop), NsObj oC m₂ → m₂ a = some (.int va ta) → m₂ b = some (.int vb tb) → Fr h₀ L h m → News h₀ L h ((C, oC) :: nws) →
  wpAny (model prog w) A (isTrue t (compEnvC scope cl C env) (eval t (compEnvC scope cl C env))) (fun ok s' => ∃ h' tk', ok = decide (vb ≠ va) ∧ s' = { s with heap := h', toks := tk' } ∧ Fr h₀ L h' m ∧ News h₀ L h' ((C, oC) :: nws)) E' { s with heap := h, toks := tk }
abbrev LfE (t : Expr) (a b c : Str) : Prop := ∀ (C : Addr) (oC : Obj) (m₂ : Str → Option Value) (nws : List (Addr × Obj)) (h : Heap) (tk : Nat) (va vb vc : Int) (ta tb tc : Tok) (E' : Value → Shared → Prop), NsObj oC m₂ → m₂ a = some (.int va ta) → m₂ b = some (.int vb tb) → m₂ c = some (.int vc tc) → Fr h₀ L h m → News h₀ L h ((C, oC) :: nws) →
  wpAny (model prog w) A (eval t (compEnvC scope cl C env)) (fun x s' => ∃ T t1 t2 t3 t4 h' tk', x = .ref T ∧ s' = { s with heap := h', toks := tk' } ∧ Fr h₀ L h' m ∧ News h₀ L h' ((T, oTup4 (.int va t1) (.int vb t2) (.int vc t3) (.int (6 - va - vb - vc) t4)) :: (C, oC) :: nws)) E' { s with heap := h, toks := tk }
abbrev LfR (e : Expr) : Prop := ∀ (C : Addr) (oC : Obj) (m₂ : Str → Option Value) (nws : List (Addr × Obj)) (h : Heap) (tk : Nat) (E' : Value → Shared → Prop), NsObj oC m₂ → Fr h₀ L h m → News h₀ L h ((C, oC) :: nws) →
  wpAny (model prog w) A (eval e (compEnvC scope cl C env)) (fun x s' => ∃ r t u v h' tk', x = .ref r ∧ s' = { s with heap := h', toks := tk' } ∧ Fr h₀ L h' m ∧ News h₀ L h' ((C, oC) :: nws) ∧ IsRange h' r 0 4 1 t u v) E' { s with heap := h, toks := tk }
end
section
variable {prog : Program} {w : World} {A : Around} {s : Shared} {h₀ : Heap} {L : Addr} {m : Str → Option Value} {env : Env} {scope : Scope} {cl : List (Str × Addr)} {C D I : Addr} {R : Result → Shared → Prop}
  {elt : Expr} {a b c : Str} {pa pb pc : Pos} {ia ib ic tb tc : Expr} {pos : Pos}
theorem tup_off {h : Heap} {tups nw : List (Addr × Obj)} {x : Addr × Obj} (N : News h₀ L h (x :: (tups ++ nw))) (ht : ∀ p ∈ tups, p.2.cls = .type "tuple") {oI : Obj} (hI : h.get? I = some oI) (hc : oI.cls ≠ .type "tuple") (off : ∀ p ∈ nw, p.1 ≠ I) : ∀ p ∈ tups ++ nw, p.1 ≠ I := fun p hp => by
  rcases List.mem_append.mp hp with hp' | hp'
  · intro e
    have z := (N p (.tail _ hp)).1
    rw [e, hI] at z
    cases z
    exact hc (ht _ hp')
  · exact off p hp'
inductive TI (s : Shared) (h₀ : Heap) (L : Addr) (m : Str → Option Value) (C D I : Addr) (nw : List (Addr × Obj)) (P : (Str → Option Value) → Prop) (F : Nat → List (List Int)) (tot : List (List Int)) : Nat → Shared → Prop
  | mk {i : Nat} {h' : Heap} {tk' : Nat} {ys' : List Value} {os' : List (List Int)} {tups : List (Addr × Obj)} {m' : Str → Option Value} (hi : i ≤ 4) (hst' : IsRangeIter h' I (0 + ((i : Nat) : Int) * 1) (((4 : Nat) : Int) - ((i : Nat) : Int)) 1) (S' : Stt h₀ L m C D h' ys' os' (tups ++ nw) m') (ht : ∀ p ∈ tups, p.2.cls = .type "tuple") (hp : P m') (ho : os' ++ F i = tot) :
    TI s h₀ L m C D I nw P F tot (5 - i) { s with heap := h', toks := tk' }
theorem lev2 (htc : LfT2 prog w A s h₀ L m env scope cl tc a b c) (hel : LfE prog w A s h₀ L m env scope cl elt a b c) (hh : A.handled = none) (hkind : scope.kind = .function) (hx : scope.names.lookup c = some .local) (hca : a ≠ c) (hcb : b ≠ c) (K : Cst h₀ L C D) (T : Itr h₀ L C D I)
    {h : Heap} {tk : Nat} {ys : List Value} {os : List (List Int)} {nw : List (Addr × Obj)} {m₂ : Str → Option Value} {va vb : Int} {ta tb' : Tok}
    (S : Stt h₀ L m C D h ys os nw m₂) (hst : IsRangeIter h I (0 + ((0 : Nat) : Int) * 1) (((4 : Nat) : Int) - ((0 : Nat) : Int)) 1) (offI : ∀ p ∈ nw, p.1 ≠ I) (ma : m₂ a = some (.int va ta)) (mb : m₂ b = some (.int vb tb')) (hsz : (os ++ csF va vb 4 0).length ≤ 1000)
    (fin : ∀ h' tk' ys' tups m', Stt h₀ L m C D h' ys' (os ++ csF va vb 4 0) (tups ++ nw) m' → (∀ p ∈ tups, p.2.cls = .type "tuple") → m' a = some (.int va ta) → m' b = some (.int vb tb') → R (.ok .next) { s with heap := h', toks := tk' }) :
    codeAny (model prog w) A (.compLoop (LC3 elt a b c pa pb pc ia ib ic tb tc scope pos) 2 (.ref I) (.ref D) (compEnvC scope cl C env)) R { s with heap := h, toks := tk } := by
  refine loop2 (TI s h₀ L m C D I nw (fun m' => m' a = some (.int va ta) ∧ m' b = some (.int vb tb')) (fun i => csF va vb (4 - i) i) (os ++ csF va vb 4 0)) ?_ 5 (TI.mk (tups := []) (by decide) hst S (by intro p hp; cases hp) ⟨ma, mb⟩ rfl)
  rintro k s' ⟨hi, hst', S', ht, hp, ho⟩
  rename_i i h' tk' ys' os' tups m'
  have ma' := hp.1
  have mb' := hp.2
  have offI' := tup_off S'.N ht hst' (fun e => absurd (Value.type.inj e) (by decide)) offI
  refine turnG (s := s) hh hkind hx K T S' hst' offI' hi (fun hlt t h₂ tk₂ S₂ hst₂ => ?_) (fun h4 h₂ tk₂ S₂ => ?_)
  · obtain ⟨oC, nC, N₂⟩ := S₂.toL K T hst₂
    have xa : (fun z => if z = c then some (Value.int i t) else m' z) a = some (.int va ta) := by
      show (if a = c then _ else m' a) = _
      rw [if_neg hca]; exact ma'
    have xb : (fun z => if z = c then some (Value.int i t) else m' z) b = some (.int vb tb') := by
      show (if b = c then _ else m' b) = _
      rw [if_neg hcb]; exact mb'
    have xc : (fun z => if z = c then some (Value.int i t) else m' z) c = some (.int i t) := if_pos rfl
    have h41 : 4 - i = (4 - (i + 1)) + 1 := by omega
    rw [h41] at ho
    refine wpAny_mono (htc C oC _ _ h₂ tk₂ va vb i ta tb' t _ nC xa xb xc S₂.F N₂) (fun ok s₃ q₃ => ?_) fun _ _ e => e
    obtain ⟨h₃, tk₃, rfl, rfl, F₃, N₃⟩ := q₃
    obtain ⟨S₃, hI₃⟩ := S₂.fromL nC F₃ N₃
    by_cases hc : (i : Int) ≠ va ∧ (i : Int) ≠ vb
    · rw [if_pos (decide_eq_true hc)]
      refine wpAny_mono (hel C oC _ _ h₃ tk₃ va vb i ta tb' t _ nC xa xb xc F₃ N₃) (fun x s₄ q₄ => ?_) fun _ _ e => e
      obtain ⟨T4, t1, t2, t3, t4, h₄, tk₄, rfl, rfl, F₄, N₄⟩ := q₄
      have zT := N₄ _ (.head _)
      have N₄' : News h₀ L h₄ _ := fun p hp => N₄ p (.tail _ hp)
      obtain ⟨S₄, hI₄⟩ := S₃.fromL nC F₄ N₄'
      have zD := S₄.N _ (.head _)
      have hTC : T4 ≠ C := fun e => by
        have z := (N₄' _ (.head _)).1
        rw [← e] at z
        have q := zT.1.symm.trans z
        obtain ⟨es, ep, hd, _⟩ := nC
        have q2 : oTup4 _ _ _ _ = oC := Option.some.inj q
        rw [← q2] at hd
        cases hd
      have hTD : T4 ≠ D := fun e => by
        have z := zD.1
        rw [← e] at z
        have q := zT.1.symm.trans z
        exact absurd (Value.type.inj (congrArg Obj.cls (Option.some.inj q))) (by decide)
      rw [csF, if_pos hc] at ho
      have hl : ys'.length ≤ 1000 := by
        rw [S'.tu.len]
        have := congrArg List.length ho
        rw [List.length_append] at this
        omega
      refine append_at (hsz := by rw [List.size_toArray, sizeLine_eq]; omega) zD.1 fun h₅ hs₅ hD₅ => ?_
      refine ⟨5 - (i + 1), by omega, TI.mk (ys' := ys' ++ [.ref T4]) (os' := os' ++ [[va, vb, i, 6 - va - vb - i]]) (tups := (T4, oTup4 (.int va t1) (.int vb t2) (.int i t3) (.int (6 - va - vb - i) t4)) :: tups) hlt ?_ ⟨F₄.change hs₅ K.DL K.D0, S₄.ns.sameBut hs₅ (Ne.symm K.DC), ?_, ?_, ?_⟩ ?_ ⟨xa, xb⟩ ?_⟩
      · exact hs₅.extBut _ _ T.ID hI₄
      · intro p hp
        rcases List.mem_cons.mp hp with rfl | hp
        · exact ⟨hD₅.trans (congrArg some (lst_snoc ys' _)), K.DL, K.D0⟩
        · rcases List.mem_cons.mp hp with rfl | hp
          · exact ⟨hs₅.extBut _ _ hTD zT.1, zT.2⟩
          · exact ⟨hs₅.extBut _ _ (S₄.off p hp).2 (S₄.N p (.tail _ hp)).1, (S₄.N p (.tail _ hp)).2⟩
      · intro p hp
        rcases List.mem_cons.mp hp with rfl | hp
        · exact ⟨hTC, hTD⟩
        · exact S₄.off p hp
      · exact TupL.snoc (.head _) (TupL.mono (fun p hp _ => .tail _ hp) S₄.tu)
      · intro p hp
        rcases List.mem_cons.mp hp with rfl | hp
        · rfl
        · exact ht p hp
      · rw [List.append_assoc]
        exact ho
    · rw [if_neg (by rw [decide_eq_true_eq]; exact hc)]
      rw [csF, if_neg hc] at ho
      exact ⟨5 - (i + 1), by omega, TI.mk hlt hI₃ S₃ ht ⟨xa, xb⟩ ho⟩
  · subst h4
    rw [show os' ++ csF va vb (4 - 4) 4 = os' from List.append_nil os'] at ho
    subst ho
    exact fin h₂ tk₂ ys' tups m' S₂ ht ma' mb'
theorem iter_new {r : Addr} {h : Heap} {tk : Nat} {ys : List Value} {os : List (List Int)} {nw : List (Addr × Obj)} {m₂ : Str → Option Value} {oI : Obj} {Q : Value → Shared → Prop} {E : Value → Shared → Prop} {t u v : Tok}
    (S : Stt h₀ L m C D h ys os nw m₂) (K : Cst h₀ L C D) (T : Itr h₀ L C D I) (hI : h.get? I = some oI) (offI : ∀ p ∈ nw, p.1 ≠ I) (hr : IsRange h r 0 4 1 t u v)
    (go : ∀ h' I', Itr h₀ L C D I' → Stt h₀ L m C D h' ys os ((I, oI) :: nw) m₂ → (∀ p ∈ (I, oI) :: nw, p.1 ≠ I') → IsRangeIter h' I' (0 + ((0 : Nat) : Int) * 1) (((4 : Nat) : Int) - ((0 : Nat) : Int)) 1 → Q (.ref I') { s with heap := h', toks := tk }) :
    wpAny (model prog w) A (pyIter (.ref r)) Q E { s with heap := h, toks := tk } := by
  refine wpAny_pyIter_range hr (by decide) ?_
  have up : ∀ b o, h.get? b = some o → (h.push { cls := .type "range_iterator", data := .fields #[rawInt 0, rawInt (Builtin.Range.rangeSize 0 4 1), rawInt 1] }).get? b = some o := fun b o e => Heap.get?_push_of_some _ e
  have lt : ∀ p ∈ (D, lst ys) :: nw, p.1 < h.objs.size := fun p hp => Heap.lt_size (S.N p hp).1
  have hCs : C < h.objs.size := S.ns.lt
  refine go _ h.objs.size ⟨(Nat.ne_of_lt hCs).symm, (Nat.ne_of_lt (lt _ (.head _))).symm, Nat.ne_of_lt S.F.ns.lt, next_is_new S.F⟩ ⟨S.F.keeps up, S.ns.at' fun o e => up _ o e, fun p hp => ?_, fun p hp => ?_, TupL.mono (fun p hp _ => .tail _ hp) S.tu⟩ (fun p hp => ?_) ?_
  · rcases List.mem_cons.mp hp with rfl | hp
    · exact ⟨up _ _ (S.N _ (.head _)).1, (S.N _ (.head _)).2⟩
    · rcases List.mem_cons.mp hp with rfl | hp
      · exact ⟨up _ _ hI, Ne.symm T.LI, T.I0⟩
      · exact ⟨up _ _ (S.N _ (.tail _ hp)).1, (S.N _ (.tail _ hp)).2⟩
  · rcases List.mem_cons.mp hp with rfl | hp
    · exact ⟨T.IC, T.ID⟩
    · exact S.off p hp
  · rcases List.mem_cons.mp hp with rfl | hp
    · exact Nat.ne_of_lt (Heap.lt_size hI)
    · exact Nat.ne_of_lt (lt p (.tail _ hp))
  · exact Heap.get?_push_size _ rfl
theorem drop_it {h : Heap} {ys : List Value} {os : List (List Int)} {tups2 tups nw : List (Addr × Obj)} {m₂ : Str → Option Value} {oI : Obj} (S : Stt h₀ L m C D h ys os (tups2 ++ ((I, oI) :: (tups ++ nw))) m₂) (hc : oI.cls ≠ .type "tuple") :
    Stt h₀ L m C D h ys os ((tups2 ++ tups) ++ nw) m₂ ∧ h.get? I = some oI := by
  have sub : ∀ p ∈ (tups2 ++ tups) ++ nw, p ∈ tups2 ++ ((I, oI) :: (tups ++ nw)) := fun p hp => by
    rw [List.append_assoc] at hp
    rcases List.mem_append.mp hp with hp | hp
    · exact List.mem_append_left _ hp
    · exact List.mem_append_right _ (.tail _ hp)
  refine ⟨⟨S.F, S.ns, fun p hp => ?_, fun p hp => S.off p (sub p hp), TupL.mono (fun p hp hcls => ?_) S.tu⟩, (S.N _ (.tail _ (List.mem_append_right _ (.head _)))).1⟩
  · rcases List.mem_cons.mp hp with rfl | hp
    · exact S.N _ (.head _)
    · exact S.N p (.tail _ (sub p hp))
  · rw [List.append_assoc]
    rcases List.mem_append.mp hp with hp | hp
    · exact List.mem_append_left _ hp
    · rcases List.mem_cons.mp hp with rfl | hp
      · exact absurd hcls hc
      · exact List.mem_append_right _ hp
theorem lev1 (htb : LfT1 prog w A s h₀ L m env scope cl tb a b) (hic : LfR prog w A s h₀ L m env scope cl ic) (hsc : ∀ C x, foldedSetIterable ic (compEnvC scope cl C env) x = pure x)
    (htc : LfT2 prog w A s h₀ L m env scope cl tc a b c) (hel : LfE prog w A s h₀ L m env scope cl elt a b c) (hh : A.handled = none) (hkind : scope.kind = .function) (hxb : scope.names.lookup b = some .local) (hx : scope.names.lookup c = some .local) (hab : a ≠ b) (hca : a ≠ c) (hcb : b ≠ c) (K : Cst h₀ L C D) (T : Itr h₀ L C D I)
    {h : Heap} {tk : Nat} {ys : List Value} {os : List (List Int)} {nw : List (Addr × Obj)} {m₂ : Str → Option Value} {va : Int} {ta : Tok}
    (S : Stt h₀ L m C D h ys os nw m₂) (hst : IsRangeIter h I (0 + ((0 : Nat) : Int) * 1) (((4 : Nat) : Int) - ((0 : Nat) : Int)) 1) (offI : ∀ p ∈ nw, p.1 ≠ I) (ma : m₂ a = some (.int va ta)) (hsz : (os ++ bsF va 4 0).length ≤ 1000)
    (fin : ∀ h' tk' ys' tups m', Stt h₀ L m C D h' ys' (os ++ bsF va 4 0) (tups ++ nw) m' → (∀ p ∈ tups, p.2.cls = .type "tuple") → m' a = some (.int va ta) → R (.ok .next) { s with heap := h', toks := tk' }) :
    codeAny (model prog w) A (.compLoop (LC3 elt a b c pa pb pc ia ib ic tb tc scope pos) 1 (.ref I) (.ref D) (compEnvC scope cl C env)) R { s with heap := h, toks := tk } := by
  refine loop1 (hsc C) (TI s h₀ L m C D I nw (fun m' => m' a = some (.int va ta)) (fun i => bsF va (4 - i) i) (os ++ bsF va 4 0)) ?_ 5 (TI.mk (tups := []) (by decide) hst S (by intro p hp; cases hp) ma rfl)
  rintro k s' ⟨hi, hst', S', ht, ma', ho⟩
  rename_i i h' tk' ys' os' tups m'
  have offI' := tup_off S'.N ht hst' (fun e => absurd (Value.type.inj e) (by decide)) offI
  refine turnG (s := s) hh hkind hxb K T S' hst' offI' hi (fun hlt t h₂ tk₂ S₂ hst₂ => ?_) (fun h4 h₂ tk₂ S₂ => ?_)
  · obtain ⟨oC, nC, N₂⟩ := S₂.toL K T hst₂
    have xa : (fun z => if z = b then some (Value.int i t) else m' z) a = some (.int va ta) := by
      show (if a = b then _ else m' a) = _
      rw [if_neg hab]; exact ma'
    have xb : (fun z => if z = b then some (Value.int i t) else m' z) b = some (.int i t) := if_pos rfl
    have h41 : 4 - i = (4 - (i + 1)) + 1 := by omega
    rw [h41] at ho
    refine wpAny_mono (htb C oC _ _ h₂ tk₂ va i ta t _ nC xa xb S₂.F N₂) (fun ok s₃ q₃ => ?_) fun _ _ e => e
    obtain ⟨h₃, tk₃, rfl, rfl, F₃, N₃⟩ := q₃
    obtain ⟨S₃, hI₃⟩ := S₂.fromL nC F₃ N₃
    by_cases hc : (i : Int) ≠ va
    · rw [if_pos (decide_eq_true hc)]
      rw [bsF, if_pos hc] at ho
      refine wpAny_mono (hic C oC _ _ h₃ tk₃ _ nC F₃ N₃) (fun x s₄ q₄ => ?_) fun _ _ e => e
      obtain ⟨r, t1, t2, t3, h₄, tk₄, rfl, rfl, F₄, N₄, hr⟩ := q₄
      obtain ⟨S₄, hI₄⟩ := S₃.fromL nC F₄ N₄
      refine iter_new S₄ K T hI₄ offI' hr fun h₅ I' T' S₅ off₅ st₅ => ?_
      have hz : (os' ++ csF va i 4 0).length ≤ 1000 := by
        have := congrArg List.length ho
        rw [List.length_append, List.length_append] at this
        rw [List.length_append]
        omega
      have key : ∀ {R' : Result → Shared → Prop}, codeAny (model prog w) A (.compLoop (LC3 elt a b c pa pb pc ia ib ic tb tc scope pos) 2 (.ref I') (.ref D) (compEnvC scope cl C env)) R' { s with heap := h₅, toks := tk₄ } → codeAny (model prog w) A (.compStart (LC3 elt a b c pa pb pc ia ib ic tb tc scope pos) 2 (.ref I') (.ref D) (compEnvC scope cl C env)) R' { s with heap := h₅, toks := tk₄ } := fun go =>
        start_any (.inr (.inr rfl)) go ((range_walks hh 0 4).self 0 _ _ _ st₅ go)
      refine key (lev2 htc hel hh hkind hx hca hcb K T' S₅ st₅ off₅ xa xb hz fun h₆ tk₆ ys₆ tups₆ m₆ S₆ ht₆ ma₆ mb₆ => ?_)
      · obtain ⟨S₇, hI₇⟩ := drop_it S₆ (fun e => absurd (Value.type.inj e) (by decide))
        refine ⟨5 - (i + 1), by omega, TI.mk hlt hI₇ S₇ ?_ ma₆ ?_⟩
        · intro p hp
          rcases List.mem_append.mp hp with hp | hp
          · exact ht₆ p hp
          · exact ht p hp
        · rw [List.append_assoc]
          exact ho
    · rw [if_neg (by rw [decide_eq_true_eq]; exact hc)]
      rw [bsF, if_neg hc] at ho
      exact ⟨5 - (i + 1), by omega, TI.mk hlt hI₃ S₃ ht xa ho⟩
  · subst h4
    rw [show os' ++ bsF va (4 - 4) 4 = os' from List.append_nil os'] at ho
    subst ho
    exact fin h₂ tk₂ ys' tups m' S₂ ht ma'
theorem lev0 (hib : LfR prog w A s h₀ L m env scope cl ib) (hsb : ∀ C x, foldedSetIterable ib (compEnvC scope cl C env) x = pure x) (htb : LfT1 prog w A s h₀ L m env scope cl tb a b) (hic : LfR prog w A s h₀ L m env scope cl ic) (hsc : ∀ C x, foldedSetIterable ic (compEnvC scope cl C env) x = pure x)
    (htc : LfT2 prog w A s h₀ L m env scope cl tc a b c) (hel : LfE prog w A s h₀ L m env scope cl elt a b c) (hh : A.handled = none) (hkind : scope.kind = .function) (hxa : scope.names.lookup a = some .local) (hxb : scope.names.lookup b = some .local) (hx : scope.names.lookup c = some .local) (hab : a ≠ b) (hca : a ≠ c) (hcb : b ≠ c) (K : Cst h₀ L C D) (T : Itr h₀ L C D I)
    {h : Heap} {tk : Nat} {ys : List Value} {os : List (List Int)} {nw : List (Addr × Obj)} {m₂ : Str → Option Value}
    (S : Stt h₀ L m C D h ys os nw m₂) (hst : IsRangeIter h I (0 + ((0 : Nat) : Int) * 1) (((4 : Nat) : Int) - ((0 : Nat) : Int)) 1) (offI : ∀ p ∈ nw, p.1 ≠ I) (hsz : (os ++ asF 4 0).length ≤ 1000)
    (fin : ∀ h' tk' ys' tups m', Stt h₀ L m C D h' ys' (os ++ asF 4 0) (tups ++ nw) m' → (∀ p ∈ tups, p.2.cls = .type "tuple") → R (.ok .next) { s with heap := h', toks := tk' }) :
    codeAny (model prog w) A (.compLoop (LC3 elt a b c pa pb pc ia ib ic tb tc scope pos) 0 (.ref I) (.ref D) (compEnvC scope cl C env)) R { s with heap := h, toks := tk } := by
  refine loop0 (hsb C) (TI s h₀ L m C D I nw (fun m' => True) (fun i => asF (4 - i) i) (os ++ asF 4 0)) ?_ 5 (TI.mk (tups := []) (by decide) hst S (by intro p hp; cases hp) trivial rfl)
  rintro k s' ⟨hi, hst', S', ht, ma', ho⟩
  rename_i i h' tk' ys' os' tups m'
  have offI' := tup_off S'.N ht hst' (fun e => absurd (Value.type.inj e) (by decide)) offI
  refine turnG (s := s) hh hkind hxa K T S' hst' offI' hi (fun hlt t h₂ tk₂ S₂ hst₂ => ?_) (fun h4 h₂ tk₂ S₂ => ?_)
  · obtain ⟨oC, nC, N₂⟩ := S₂.toL K T hst₂
    have xa : (fun z => if z = a then some (Value.int i t) else m' z) a = some (.int i t) := if_pos rfl
    have h41 : 4 - i = (4 - (i + 1)) + 1 := by omega
    rw [h41, asF] at ho
    refine wpAny_mono (hib C oC _ _ h₂ tk₂ _ nC S₂.F N₂) (fun x s₄ q₄ => ?_) fun _ _ e => e
    obtain ⟨r, t1, t2, t3, h₄, tk₄, rfl, rfl, F₄, N₄, hr⟩ := q₄
    obtain ⟨S₄, hI₄⟩ := S₂.fromL nC F₄ N₄
    refine iter_new S₄ K T hI₄ offI' hr fun h₅ I' T' S₅ off₅ st₅ => ?_
    have hz : (os' ++ bsF i 4 0).length ≤ 1000 := by
      have := congrArg List.length ho
      rw [List.length_append, List.length_append] at this
      rw [List.length_append]
      omega
    have key : ∀ {R' : Result → Shared → Prop}, codeAny (model prog w) A (.compLoop (LC3 elt a b c pa pb pc ia ib ic tb tc scope pos) 1 (.ref I') (.ref D) (compEnvC scope cl C env)) R' { s with heap := h₅, toks := tk₄ } → codeAny (model prog w) A (.compStart (LC3 elt a b c pa pb pc ia ib ic tb tc scope pos) 1 (.ref I') (.ref D) (compEnvC scope cl C env)) R' { s with heap := h₅, toks := tk₄ } := fun go =>
      start_any (.inr (.inl rfl)) go ((range_walks hh 0 4).self 0 _ _ _ st₅ go)
    refine key (lev1 htb hic hsc htc hel hh hkind hxb hx hab hca hcb K T' S₅ st₅ off₅ xa hz fun h₆ tk₆ ys₆ tups₆ m₆ S₆ ht₆ ma₆ => ?_)
    · obtain ⟨S₇, hI₇⟩ := drop_it S₆ (fun e => absurd (Value.type.inj e) (by decide))
      refine ⟨5 - (i + 1), by omega, TI.mk hlt hI₇ S₇ ?_ trivial ?_⟩
      · intro p hp
        rcases List.mem_append.mp hp with hp | hp
        · exact ht₆ p hp
        · exact ht p hp
      · rw [List.append_assoc]
        exact ho
  · subst h4
    rw [show os' ++ asF (4 - 4) 4 = os' from List.append_nil os'] at ho
    subst ho
    exact fin h₂ tk₂ ys' tups m' S₂ ht
end

end
section -- part WT
open PySem PySem.W PyProof.Rows PySem.Spec PySem.Calls PyProof.Rows.LCg
set_option Elab.async false
set_option maxRecDepth 100000
set_option maxHeartbeats 4000000
set_option linter.unusedVariables false
theorem Assign_comp3 {prog : Program} {w : World} {A : Around} {E : Value → Shared → Prop} {s : Shared} {h₀ : Heap} {L : Addr} {m : Str → Option Value} {env : Env} {scope : Scope} {cl : List (Str × Addr)} {news : List (Addr × Obj)}
    {elt : Expr} {a b c y : Str} {pa pb pc py : Pos} {ia ib ic tb tc : Expr} {pos spos : Pos} {Q : Flow → Shared → Prop}
    (F₀ : Fr h₀ L s.heap m) (N₀ : News h₀ L s.heap news) (hLe : env.locals = L)
    (hsw : swapsWith (LC3 elt a b c pa pb pc ia ib ic tb tc scope pos) (some (.Name y py)) spos.line env = pure true)
    (hclos : closureFor scope env = pure cl) (hcell : ∀ z ∈ scope.names, z.2 ≠ .cell) (hkind : scope.kind = .function)
    (hnames : ∀ z ∈ scope.names, z.2 = .local → scope.names.lookup z.1 = some .local) (hxa : scope.names.lookup a = some .local) (hxb : scope.names.lookup b = some .local) (hxc : scope.names.lookup c = some .local)
    (hab : a ≠ b) (hca : a ≠ c) (hcb : b ≠ c) (hh : A.handled = none)
    (hy : env.kindOf y = some .local) (hp : (env.scope.kind == .class || (env.scope.kind == .module && env.locals != env.globals)) = false)
    (hia : wpAny (model prog w) A (eval ia env) (fun x s' => ∃ r t u v h' tk', x = .ref r ∧ s' = { s with heap := h', toks := tk' } ∧ Fr h₀ L h' m ∧ News h₀ L h' news ∧ IsRange h' r 0 4 1 t u v) E s)
    (hib : LfR prog w A s h₀ L m env scope cl ib) (htb : LfT1 prog w A s h₀ L m env scope cl tb a b) (hic : LfR prog w A s h₀ L m env scope cl ic)
    (htc : LfT2 prog w A s h₀ L m env scope cl tc a b c) (hel : LfE prog w A s h₀ L m env scope cl elt a b c)
    (hQ : ∀ D ys tups h' tk', Fr h₀ L h' (fun z => if z = y then some (.ref D) else m z) → News h₀ L h' ((D, lst ys) :: (tups ++ news)) → (∀ p ∈ tups, p.2.cls = .type "tuple") → TupL (tups ++ news) ys (asF 4 0) → (∀ p ∈ tups ++ news, p.1 ≠ D) → Q .next { s with heap := h', toks := tk' })
    (hsa : ∀ x, foldedSetIterable ia env x = pure x := by intro _; rfl) (hsb : ∀ C x, foldedSetIterable ib (compEnvC scope cl C env) x = pure x := by intro _ _; rfl) (hsc : ∀ C x, foldedSetIterable ic (compEnvC scope cl C env) x = pure x := by intro _ _; rfl) :
    wpAny (model prog w) A (exec (.Assign [.Name y py] (LC3 elt a b c pa pb pc ia ib ic tb tc scope pos) spos) env) Q E s := by
  subst hLe
  rw [exec_Assign_Name_used _ _ _ _ hsw]
  refine wpAny_bind (wpAny_standAt (wpAny_bind ?_))
  show wpAny _ A (do let _ ← comprehension (LC3 elt a b c pa pb pc ia ib ic tb tc scope pos) scope env _ (newList []) false (eval ia env) (some (assign (.Name y py) env))) _ _ s
  refine wpAny_bind (wpAny_mono (wpAny_comprehension_free (use := some (assign (.Name y py) env)) (Q := fun _ s' => Q .next s') rfl hsa hclos hkind hnames
    (wpAny_mono hia (fun xv s₁ h₁ => ?_) fun _ _ e => e)) (fun _ s' hq => wpAny_pure (wpAny_pure hq)) fun _ _ e => e)
  obtain ⟨r, t, u, v, hg, tkg, rfl, rfl, F, N, hr⟩ := h₁
  refine wpAny_pyIter_range hr (by decide) ?_
  dsimp only
  generalize hH1 : hg.push _ = H1
  have hI : H1.get? hg.objs.size = some { cls := .type "range_iterator", data := .fields #[rawInt 0, rawInt (Builtin.Range.rangeSize 0 4 1), rawInt 1] } := by rw [← hH1]; exact Heap.get?_push_size _ rfl
  have up1 : ∀ b o, hg.get? b = some o → H1.get? b = some o := fun b o e => by rw [← hH1]; exact Heap.get?_push_of_some _ e
  have F1 := F.keeps up1
  have N1 := N.grown up1
  refine wpAny_newObj_type (wpAny_newFunctionEnv hcell (by intro y hy; simp at hy) (fun h₁ hns₁ hsb₁ => ?_) hkind)
  dsimp only at hns₁ hsb₁ ⊢
  generalize hH2 : H1.push { cls := .type "list", dict := none, data := .seq ([] : List Value).toArray } = H2 at hns₁ hsb₁ ⊢
  have hC : H2.objs.size = H1.objs.size + 1 := by rw [← hH2, Heap.size_push]
  have hDC : H1.objs.size ≠ H2.objs.size := by rw [hC]; exact Nat.ne_of_lt (Nat.lt_succ_self _)
  have below : ∀ b, b < H1.objs.size → b ≠ H2.objs.size ∧ b ≠ H1.objs.size := fun b hb => ⟨by rw [hC]; exact Nat.ne_of_lt (Nat.lt_succ_of_lt hb), Nat.ne_of_lt hb⟩
  have old : ∀ b o, H1.get? b = some o → h₁.get? b = some o := fun b o e => hsb₁.extBut b o (below b (Heap.lt_size e)).1 (Heap.get?_push_of_some _ (hH2 ▸ Heap.get?_push_of_some _ e))
  have hacc : h₁.get? H1.objs.size = some (lst []) := hsb₁.extBut _ _ hDC (Heap.get?_push_of_some _ (hH2 ▸ Heap.get?_push_size _ rfl))
  have fresh : ∀ a, H1.objs.size ≤ a → H1.get? a = none := fun a ha => by
    cases e : H1.get? a with
    | none => rfl
    | some o' => exact absurd (Heap.lt_size e) (Nat.not_lt.mpr ha)
  have fresh₀ : ∀ a, H1.objs.size ≤ a → h₀.get? a = none := fun a ha => by
    cases e : h₀.get? a with
    | none => rfl
    | some o' => have := F1.keep a o' e; rw [fresh a ha] at this; cases this
  have hD₀ : h₀.get? H1.objs.size = none := fresh₀ _ (Nat.le_refl _)
  have hC₀ : h₀.get? H2.objs.size = none := fresh₀ _ (by rw [hC]; exact Nat.le_succ _)
  have hLlt : env.locals < H1.objs.size := F1.ns.lt
  have K : Cst h₀ env.locals H2.objs.size H1.objs.size := ⟨Ne.symm (below _ hLlt).1, hC₀, Ne.symm (below _ hLlt).2, hD₀, hDC⟩
  have hIlt := Heap.lt_size hI
  have T : Itr h₀ env.locals H2.objs.size H1.objs.size hg.objs.size := ⟨(below _ hIlt).1, (below _ hIlt).2, Nat.ne_of_lt F.ns.lt, next_is_new F⟩
  have S : Stt h₀ env.locals m H2.objs.size H1.objs.size h₁ [] [] news _ := ⟨F1.keeps old, hns₁, fun p hp => by
    rcases List.mem_cons.mp hp with rfl | hp
    · exact ⟨hacc, K.DL, hD₀⟩
    · exact ⟨old _ _ (N1 p hp).1, (N1 p hp).2⟩, fun p hp => below _ (Heap.lt_size (N1 p hp).1), .nil⟩
  have hst : IsRangeIter h₁ hg.objs.size (0 + ((0 : Nat) : Int) * 1) (((4 : Nat) : Int) - ((0 : Nat) : Int)) 1 := old _ _ hI
  have offI : ∀ p ∈ news, p.1 ≠ hg.objs.size := fun p hp => Nat.ne_of_lt (Heap.lt_size (N p hp).1)
  have key : ∀ {R' : Result → Shared → Prop} {tk : Nat}, codeAny (model prog w) A (.compLoop (LC3 elt a b c pa pb pc ia ib ic tb tc scope pos) 0 (.ref hg.objs.size) (.ref H1.objs.size) (compEnvC scope cl H2.objs.size env)) R' { s with heap := h₁, toks := tk } → codeAny (model prog w) A (.compStart (LC3 elt a b c pa pb pc ia ib ic tb tc scope pos) 0 (.ref hg.objs.size) (.ref H1.objs.size) (compEnvC scope cl H2.objs.size env)) R' { s with heap := h₁, toks := tk } := fun go =>
    start_any (.inl rfl) go ((range_walks hh 0 4).self 0 _ _ _ hst go)
  refine key (lev0 hib hsb htb hic hsc htc hel hh hkind hxa hxb hxc hab hca hcb K T S hst offI (by decide) fun h' tk' ys' tups m' S' ht => ?_)
  show wpAny _ A (assign (.Name y py) env (.ref H1.objs.size)) _ _ _
  refine wpAny_assign_Name (wpAny_storeName_local hy S'.F.ns (fun h₂ hn₂ hs₂ => ?_) hp)
  have hL₀ : h₀.get? env.locals = none := Heap.get?_none_of_le S'.F.above
  have F₂ : Fr h₀ env.locals h₂ (fun z => if z = y then some (.ref H1.objs.size) else m z) := ⟨hn₂, fun b o e => hs₂.extBut b o (fun q => by rw [q, hL₀] at e; cases e) (S'.F.keep b o e), S'.F.above⟩
  refine ⟨m', S'.ns.sameBut hs₂ K.CL, fun h'' hs'' => hQ _ ys' tups h'' _ (F₂.change hs'' K.CL hC₀) (fun p hp => ?_) ht S'.tu (fun p hp => (S'.off p hp).2)⟩
  have z : h₂.get? p.1 = some p.2 := hs₂.extBut _ _ (S'.N p hp).2.1 (S'.N p hp).1
  refine ⟨hs''.extBut _ _ ?_ z, (S'.N p hp).2⟩
  rcases List.mem_cons.mp hp with rfl | hp
  · exact K.DC
  · exact (S'.off p hp).1

end
section -- part WV
open PySem PySem.W PyProof.Rows
set_option Elab.async false
set_option maxRecDepth 100000
set_option maxHeartbeats 4000000
set_option linter.unusedVariables false
def KP {α : Type} (lt : Nat → Nat → Bool) (n : Nat) : KasT α → (α → Prop) → Prop
  | .ret a, Q => Q a
  | .ask i j k, Q => i < n ∧ j < n ∧ KP lt n (k (lt i j)) Q
theorem KP_bind {α β : Type} {lt : Nat → Nat → Bool} {n : Nat} {f : α → KasT β} {Q : β → Prop} : ∀ (t : KasT α), KP lt n t (fun a => KP lt n (f a) Q) → KP lt n (t.bind f) Q
  | .ret _, h => h
  | .ask i j k, h => ⟨h.1, h.2.1, KP_bind (k (lt i j)) h.2.2⟩
theorem KP_mono {α : Type} {lt : Nat → Nat → Bool} {n : Nat} {Q Q' : α → Prop} (hq : ∀ a, Q a → Q' a) : ∀ (t : KasT α), KP lt n t Q → KP lt n t Q'
  | .ret _, h => hq _ h
  | .ask i j k, h => ⟨h.1, h.2.1, KP_mono hq (k (lt i j)) h.2.2⟩
theorem kasWp_KP {α : Type} {lt : Nat → Nat → Bool} {n : Nat} {cmp : Nat → Nat → (Bool → Shared → Prop) → Shared → Prop} {s : Shared} (hc : ∀ i j, i < n → j < n → ∀ C : Bool → Shared → Prop, C (lt i j) s → cmp i j C s) {P : α → Prop} {Q : α → Shared → Prop} (hq : ∀ a, P a → Q a s) :
    ∀ (t : KasT α), KP lt n t P → t.kasWp cmp Q s
  | .ret _, h => hq _ h
  | .ask i j k, h => hc i j h.1 h.2.1 _ (kasWp_KP hc hq (k (lt i j)) h.2.2)
section
variable {ρ : Nat → Int} {N : Nat}
abbrev qv (ρ : Nat → Int) (p : Array Nat) (i : Nat) : Int := ρ (p.getD i 0)
abbrev ltR (ρ : Nat → Int) (i j : Nat) : Bool := decide (ρ i < ρ j)
structure Gd (ρ : Nat → Int) (N : Nat) (p : Array Nat) : Prop where
  size : p.size = N
  lt : ∀ i, i < N → p.getD i 0 < N
  ne : ∀ i j, i < N → j < N → i ≠ j → qv ρ p i ≠ qv ρ p j
def Sd (ρ : Nat → Int) (p : Array Nat) (k : Nat) : Prop := ∀ i j, i < j → j < k → qv ρ p i < qv ρ p j
def Dd (ρ : Nat → Int) (p : Array Nat) (k : Nat) : Prop := ∀ i j, i < j → j < k → qv ρ p j < qv ρ p i
theorem kp_asc {p : Array Nat} (G : Gd ρ N p) : ∀ f n, 1 ≤ n → n + f ≤ N → Sd ρ p n → KP (ltR ρ) N (kas_asc p f n) (fun r => n ≤ r ∧ r ≤ n + f ∧ Sd ρ p r ∧ (r < n + f → qv ρ p r < qv ρ p (r - 1)))
  | 0, n, h1, hn, hs => ⟨Nat.le_refl _, Nat.le_refl _, hs, fun h => absurd h (Nat.lt_irrefl _)⟩
  | f + 1, n, h1, hn, hs => by
    refine ⟨G.lt _ (by omega), G.lt _ (by omega), ?_⟩
    by_cases hc : qv ρ p n < qv ρ p (n - 1)
    · (rw [show ltR ρ (p.getD n 0) (p.getD (n - 1) 0) = true from decide_eq_true hc]; dsimp only; rw [if_pos rfl])
      exact ⟨Nat.le_refl _, by omega, hs, fun _ => hc⟩
    · (rw [show ltR ρ (p.getD n 0) (p.getD (n - 1) 0) = false from decide_eq_false hc]; dsimp only; rw [if_neg Bool.false_ne_true])
      have hne := G.ne (n - 1) n (by omega) (by omega) (by omega)
      refine KP_mono (fun r h => ⟨by omega, by omega, h.2.2.1, fun hr => h.2.2.2 (by omega)⟩) _ (kp_asc G f (n + 1) (by omega) (by omega) fun i j hij hj => ?_)
      by_cases hjn : j < n
      · exact hs i j hij hjn
      · obtain rfl : j = n := by omega
        by_cases hi : i = j - 1
        · subst hi; omega
        · have := hs i (j - 1) (by omega) (by omega)
          omega
theorem kp_desc {p : Array Nat} (G : Gd ρ N p) : ∀ f n, 1 ≤ n → n + f ≤ N → Dd ρ p n → KP (ltR ρ) N (kas_desc f p n 0) (fun r => r.1 = p ∧ r.2.2 = 0 ∧ n ≤ r.2.1 ∧ r.2.1 ≤ n + f ∧ Dd ρ p r.2.1)
  | 0, n, h1, hn, hs => ⟨rfl, rfl, Nat.le_refl _, Nat.le_refl _, hs⟩
  | f + 1, n, h1, hn, hs => by
    refine ⟨G.lt _ (by omega), G.lt _ (by omega), ?_⟩
    have hne := G.ne (n - 1) n (by omega) (by omega) (by omega)
    by_cases hc : qv ρ p n < qv ρ p (n - 1)
    · (rw [show ltR ρ (p.getD n 0) (p.getD (n - 1) 0) = true from decide_eq_true hc]; dsimp only; rw [if_pos rfl, if_neg (Nat.lt_irrefl 0)])
      refine KP_mono (fun r h => ⟨h.1, h.2.1, by omega, by omega, h.2.2.2.2⟩) _ (kp_desc G f (n + 1) (by omega) (by omega) fun i j hij hj => ?_)
      by_cases hjn : j < n
      · exact hs i j hij hjn
      · obtain rfl : j = n := by omega
        by_cases hi : i = j - 1
        · subst hi; omega
        · have := hs i (j - 1) (by omega) (by omega)
          omega
    · (rw [show ltR ρ (p.getD n 0) (p.getD (n - 1) 0) = false from decide_eq_false hc]; dsimp only; rw [if_neg Bool.false_ne_true])
      refine ⟨G.lt _ (by omega), G.lt _ (by omega), ?_⟩
      (rw [show ltR ρ (p.getD (n - 1) 0) (p.getD n 0) = true from decide_eq_true (show qv ρ p (n - 1) < qv ρ p n by omega)]; dsimp only; rw [if_pos rfl])
      exact ⟨rfl, rfl, Nat.le_refl _, Nat.le_add_right _ _, hs⟩
theorem getD_of {p : Array Nat} {i : Nat} : p.getD i 0 = (p[i]?).getD 0 := Array.getD_eq_getD_getElem? ..
theorem rev_get {p : Array Nat} {n : Nat} (hn : n ≤ p.size) (k : Nat) : (kas_rev p 0 n).getD k 0 = if k < n then p.getD (n - 1 - k) 0 else p.getD k 0 := by
  rw [getD_of, kas_rev, show (n - 0) / 2 = (n - 0) / 2 from rfl, getElem?_mirror_all hn]
  by_cases h : k < n
  · rw [if_pos ⟨Nat.zero_le _, h⟩, if_pos h, getD_of, Nat.zero_add]
  · rw [if_neg (fun q => h q.2), if_neg h, getD_of]
theorem rev_perm (p : Array Nat) (n : Nat) : (kas_rev p 0 n).Perm p := mirror_perm _ _ _ _
theorem Gd.rev {p : Array Nat} (G : Gd ρ N p) {n : Nat} (hn : n ≤ N) : Gd ρ N (kas_rev p 0 n) := by
  have hs : n ≤ p.size := by rw [G.size]; exact hn
  refine ⟨by rw [← G.size]; exact mirror_size _ _ _ _, fun i hi => ?_, fun i j hi hj hij => ?_⟩
  · rw [rev_get hs]
    split
    · exact G.lt _ (by omega)
    · exact G.lt _ hi
  · unfold qv
    rw [rev_get hs, rev_get hs]
    split
    · split
      · exact G.ne _ _ (by omega) (by omega) (by omega)
      · exact G.ne _ _ (by omega) hj (by omega)
    · split
      · exact G.ne _ _ hi (by omega) (by omega)
      · exact G.ne _ _ hi hj hij
theorem Sd.rev {p : Array Nat} (G : Gd ρ N p) {n : Nat} (hn : n ≤ N) (h : Dd ρ p n) : Sd ρ (kas_rev p 0 n) n := fun i j hij hj => by
  have hs : n ≤ p.size := by rw [G.size]; exact hn
  unfold qv
  rw [rev_get hs, rev_get hs, if_pos (by omega), if_pos hj]
  exact h _ _ (by omega) (by omega)
theorem kp_count {p : Array Nat} (G : Gd ρ N p) (hN : 1 ≤ N) : KP (ltR ρ) N (kas_count N p) (fun r => Gd ρ N r.2 ∧ Sd ρ r.2 r.1 ∧ r.1 ≤ N ∧ r.2.Perm p) := by
  refine KP_bind _ (KP_mono (fun n h => ?_) _ (kp_asc G (N - 1) 1 (Nat.le_refl _) (by omega) fun i j hij hj => by omega))
  obtain ⟨h1, h2, h3, h4⟩ := h
  by_cases hn : n = N
  · rw [if_pos (by simp [hn])]
    exact ⟨G, h3, by omega, Array.Perm.refl _⟩
  · rw [if_neg (by simp [hn])]
    by_cases hn1 : n > 1
    · rw [if_pos hn1]
      refine ⟨G.lt _ (by omega), G.lt _ (by omega), ?_⟩
      (rw [show ltR ρ (p.getD 0 0) (p.getD (n - 1) 0) = true from decide_eq_true (h3 0 (n - 1) (by omega) (by omega))]; dsimp only; rw [if_pos rfl])
      exact ⟨G, h3, by omega, Array.Perm.refl _⟩
    · rw [if_neg hn1]
      obtain rfl : n = 1 := by omega
      have hd : qv ρ p 1 < qv ρ p 0 := h4 (by omega)
      refine KP_bind _ (KP_mono (fun r h => ?_) _ (kp_desc G (N - (1 + 1)) (1 + 1) (by omega) (by omega) fun i j hij hj => ?_))
      · obtain ⟨e1, e2, r1, r2, hD⟩ := h
        rw [if_neg (by omega), e1]
        have hr : r.2.1 ≤ N := by omega
        refine KP_bind _ (KP_mono (fun m hm => ?_) _ (kp_asc (G.rev hr) (N - r.2.1) r.2.1 (by omega) (by omega) (Sd.rev G hr hD)))
        exact ⟨G.rev hr, hm.2.2.1, by omega, rev_perm _ _⟩
      · obtain rfl : i = 0 := by omega
        obtain rfl : j = 1 := by omega
        exact hd
theorem kp_place {p : Array Nat} (G : Gd ρ N p) {k : Nat} (hk : k < N) (hs : Sd ρ p k) : ∀ f l r, r - l ≤ f → l ≤ r → r ≤ k → (∀ i, i < l → qv ρ p i < qv ρ p k) → (∀ i, r ≤ i → i < k → qv ρ p k < qv ρ p i) →
    KP (ltR ρ) N (kas_place p k f l r) (fun x => x ≤ k ∧ (∀ i, i < x → qv ρ p i < qv ρ p k) ∧ ∀ i, x ≤ i → i < k → qv ρ p k < qv ρ p i)
  | 0, l, r, hf, hlr, hr, ha, hb => ⟨by omega, ha, fun i hi hik => hb i (by omega) hik⟩
  | f + 1, l, r, hf, hlr, hr, ha, hb => by
    unfold kas_place
    by_cases hl : l ≥ r
    · rw [if_pos hl]
      exact ⟨by omega, ha, fun i hi hik => hb i (by omega) hik⟩
    · rw [if_neg hl]
      refine ⟨G.lt _ hk, G.lt _ (by omega), ?_⟩
      by_cases hc : qv ρ p k < qv ρ p ((l + r) / 2)
      · (rw [show ltR ρ (p.getD k 0) (p.getD ((l + r) / 2) 0) = true from decide_eq_true hc]; dsimp only; rw [if_pos rfl])
        refine kp_place G hk hs f l ((l + r) / 2) (by omega) (by omega) (by omega) ha fun i hi hik => ?_
        by_cases e : i = (l + r) / 2
        · subst e; exact hc
        · have := hs ((l + r) / 2) i (by omega) hik
          omega
      · (rw [show ltR ρ (p.getD k 0) (p.getD ((l + r) / 2) 0) = false from decide_eq_false hc]; dsimp only; rw [if_neg Bool.false_ne_true])
        have hne := G.ne k ((l + r) / 2) hk (by omega) (by omega)
        refine kp_place G hk hs f ((l + r) / 2 + 1) r (by omega) (by omega) hr (fun i hi => ?_) hb
        by_cases e : i = (l + r) / 2
        · subst e; omega
        · have := hs i ((l + r) / 2) (by omega) (by omega)
          omega
def tau (k l i : Nat) : Nat := if i = l then k else if l < i ∧ i ≤ k then i - 1 else i
theorem bub_get {p : Array Nat} {k l : Nat} (hk : k < p.size) (hl : l ≤ k) (i : Nat) : (bubble p k (k - l)).getD i 0 = p.getD (tau k l i) 0 := by
  rw [getD_of, getElem?_bubble hk _ (by omega), show k - (k - l) = l by omega, getD_of]
  unfold tau
  by_cases h1 : i = l
  · rw [if_pos h1, if_pos h1]
  · rw [if_neg h1, if_neg h1]
    by_cases h2 : l < i ∧ i ≤ k
    · rw [if_pos h2, if_pos h2]
    · rw [if_neg h2, if_neg h2]
theorem tau_lt {k l i N : Nat} (hk : k < N) (hi : i < N) : tau k l i < N := by
  unfold tau
  repeat' split
  all_goals omega
theorem tau_inj {k l i j : Nat} (hl : l ≤ k) (hij : i ≠ j) : tau k l i ≠ tau k l j := by
  unfold tau
  repeat' split
  all_goals omega
theorem kp_bin : ∀ f (p : Array Nat) k, k + f = N → Gd ρ N p → Sd ρ p k → KP (ltR ρ) N (kas_bin f p k) (fun r => Gd ρ N r ∧ Sd ρ r N ∧ r.Perm p)
  | 0, p, k, hk, G, hs => ⟨G, by rw [← hk]; exact hs, Array.Perm.refl _⟩
  | f + 1, p, k, hk, G, hs => by
    refine KP_bind _ (KP_mono (fun l h => ?_) _ (kp_place G (k := k) (by omega) hs k 0 k (by omega) (by omega) (Nat.le_refl _) (fun i hi => absurd hi (Nat.not_lt_zero _)) fun i hi hik => by omega))
    obtain ⟨hl, ha, hb⟩ := h
    have hks : k < p.size := by rw [G.size]; omega
    have hkN : k < N := by omega
    have G' : Gd ρ N (bubble p k (k - l)) := by
      refine ⟨by rw [bubble_size]; exact G.size, fun i hi => ?_, fun i j hi hj hij => ?_⟩
      · rw [bub_get hks hl]
        exact G.lt _ (tau_lt hkN hi)
      · show ρ _ ≠ ρ _
        rw [bub_get hks hl, bub_get hks hl]
        exact G.ne _ _ (tau_lt hkN hi) (tau_lt hkN hj) (tau_inj hl hij)
    refine KP_mono (fun r h => ⟨h.1, h.2.1, h.2.2.trans (bubble_perm _ _ _)⟩) _ (kp_bin f _ (k + 1) (by omega) G' fun i j hij hj => ?_)
    show ρ _ < ρ _
    rw [bub_get hks hl, bub_get hks hl]
    show qv ρ p _ < qv ρ p _
    by_cases h1 : i = l
    · rw [show tau k l i = k by unfold tau; rw [if_pos h1], show tau k l j = j - 1 by unfold tau; rw [if_neg (by omega), if_pos (by omega)]]
      exact hb _ (by omega) (by omega)
    · by_cases h2 : j = l
      · rw [show tau k l j = k by unfold tau; rw [if_pos h2], show tau k l i = i by unfold tau; rw [if_neg h1, if_neg (by omega)]]
        exact ha _ (by omega)
      · by_cases h3 : l < i
        · rw [show tau k l i = i - 1 by unfold tau; rw [if_neg h1, if_pos (by omega)], show tau k l j = j - 1 by unfold tau; rw [if_neg h2, if_pos (by omega)]]
          exact hs _ _ (by omega) (by omega)
        · rw [show tau k l i = i by unfold tau; rw [if_neg h1, if_neg (by omega)]]
          by_cases h4 : l < j
          · rw [show tau k l j = j - 1 by unfold tau; rw [if_neg h2, if_pos (by omega)]]
            exact hs _ _ (by omega) (by omega)
          · rw [show tau k l j = j by unfold tau; rw [if_neg h2, if_neg (by omega)]]
            exact hs _ _ (by omega) (by omega)
theorem kp_sort (hN : 1 ≤ N) (hd : ∀ i j, i < N → j < N → i ≠ j → ρ i ≠ ρ j) : KP (ltR ρ) N (kas_sort N) (fun r => Gd ρ N r ∧ Sd ρ r N ∧ r.Perm (List.toArray (List.range N))) := by
  have e : ∀ i, i < N → (List.toArray (List.range N)).getD i 0 = i := fun i hi => by
    rw [getD_of]
    simp [hi]
  have G : Gd ρ N (List.toArray (List.range N)) := ⟨by simp, fun i hi => by rw [e i hi]; exact hi, fun i j hi hj hij => by unfold qv; rw [e i hi, e j hj]; exact hd i j hi hj hij⟩
  refine KP_bind _ (KP_mono (fun r h => ?_) _ (kp_count G hN))
  obtain ⟨G', hs, hr, hp⟩ := h
  by_cases hn : r.1 < N
  · rw [if_pos hn]
    refine KP_mono (fun x h => ⟨h.1, h.2.1, h.2.2.trans hp⟩) _ (kp_bin (N - max r.1 1) r.2 (max r.1 1) (by omega) G' fun i j hij hj => ?_)
    by_cases h0 : r.1 = 0
    · omega
    · exact hs i j hij (by omega)
  · rw [if_neg hn]
    have : r.1 = N := by omega
    exact ⟨G', by rw [← this]; exact hs, hp⟩
end

end
section -- part WU
open PySem PySem.W PyProof.Rows PySem.Calls
set_option Elab.async false
set_option maxRecDepth 100000
set_option maxHeartbeats 4000000
set_option linter.unusedVariables false
def code4 : List Int → Int
  | [a, b, c, d] => ((a * 4 + b) * 4 + c) * 4 + d
  | _ => 0
def uncode (n : Int) : List Int := [n / 64, n / 16 % 4, n / 4 % 4, n % 4]
def okO (o : List Int) : Bool := match o with
  | [a, b, c, d] => decide (0 ≤ a) && decide (a < 4) && decide (0 ≤ b) && decide (b < 4) && decide (0 ≤ c) && decide (c < 4) && decide (0 ≤ d) && decide (d < 4) && (uncode (code4 o) == o)
  | _ => false
theorem ords_ok : (asF 4 0).all okO = true := by decide +kernel
theorem ords_sorted : ((asF 4 0).map code4).Pairwise (· ≤ ·) := by decide +kernel
theorem ords_nodup : ((asF 4 0).map code4).Nodup := by decide +kernel
theorem ords_len : (asF 4 0).length = 24 := by decide +kernel
section
variable {prog : Program} {w : World} {A : Around} {E : Value → Shared → Prop} {s : Shared}
theorem katlex4 {a b c d a' b' c' d' : Int} {t0 t1 t2 t3 u0 u1 u2 u3 : Tok} {C : Bool → Shared → Prop} (ha : 0 ≤ a) (hb : 0 ≤ b) (hc : 0 ≤ c) (hd : 0 ≤ d) (ha2 : a < 4) (hb2 : b < 4) (hc2 : c < 4) (hd2 : d < 4) (ka : 0 ≤ a') (kb : 0 ≤ b') (kc : 0 ≤ c') (kd : 0 ≤ d') (ka2 : a' < 4) (kb2 : b' < 4) (kc2 : c' < 4) (kd2 : d' < 4)
    (h : C (decide (code4 [a, b, c, d] < code4 [a', b', c', d'])) s) : KatLex prog w A true false C [(.int a t0, .int a' u0), (.int b t1, .int b' u1), (.int c t2, .int c' u2), (.int d t3, .int d' u3)] 0 s := by
  have fit : ∀ {x y : Bool}, x = y → C y s → C x s := fun e h => e ▸ h
  refine kat_cons (wpAny_eqBool_int ?_)
  replace h : C (decide (((a * 4 + b) * 4 + c) * 4 + d < ((a' * 4 + b') * 4 + c') * 4 + d')) s := h
  by_cases h0 : a = a'
  · subst h0
    rw [beq_self_eq_true]
    refine kat_yes (kat_cons (wpAny_eqBool_int ?_))
    by_cases h1 : b = b'
    · subst h1
      rw [beq_self_eq_true]
      refine kat_yes (kat_cons (wpAny_eqBool_int ?_))
      by_cases h2 : c = c'
      · subst h2
        rw [beq_self_eq_true]
        refine kat_yes (kat_cons (wpAny_eqBool_int ?_))
        by_cases h3 : d = d'
        · subst h3
          rw [beq_self_eq_true]
          refine kat_yes (kat_nil ?_)
          refine fit ?_ h
          exact (decide_eq_false (by omega)).symm
        · rw [beq_false_of_ne h3]
          refine kat_no (kat_one _ _ (lt_int ?_))
          have key : C (decide (d < d')) s := fit (decide_eq_decide.mpr (by omega)) h
          first | exact key | exact ⟨_, rfl, key⟩
      · rw [beq_false_of_ne h2]
        refine kat_no (kat_one _ _ (lt_int ?_))
        have key : C (decide (c < c')) s := fit (decide_eq_decide.mpr (by omega)) h
        first | exact key | exact ⟨_, rfl, key⟩
    · rw [beq_false_of_ne h1]
      refine kat_no (kat_one _ _ (lt_int ?_))
      have key : C (decide (b < b')) s := fit (decide_eq_decide.mpr (by omega)) h
      first | exact key | exact ⟨_, rfl, key⟩
  · rw [beq_false_of_ne h0]
    refine kat_no (oneLt_int ?_)
    exact fit (decide_eq_decide.mpr (by omega)) h
end
theorem tupl_get {nw : List (Addr × Obj)} : ∀ {vs : List Value} {os : List (List Int)}, TupL nw vs os → ∀ i, i < vs.length → ∃ T a b c d ta tb tc td, vs.getD i Value.none = .ref T ∧ os.getD i [] = [a, b, c, d] ∧ (T, oTup4 (.int a ta) (.int b tb) (.int c tc) (.int d td)) ∈ nw
  | _, _, .nil, i, h => absurd h (Nat.not_lt_zero _)
  | _, _, .cons hm r, 0, h => ⟨_, _, _, _, _, _, _, _, _, rfl, rfl, hm⟩
  | _, _, .cons hm r, i + 1, h => tupl_get r i (Nat.lt_of_succ_lt_succ h)
theorem tupl_map {nw : List (Addr × Obj)} {vs : List Value} {os : List (List Int)} (t : TupL nw vs os) : ∀ (is : List Nat), (∀ i ∈ is, i < vs.length) → TupL nw (is.map fun i => vs.getD i Value.none) (is.map fun i => os.getD i [])
  | [], _ => .nil
  | i :: is, h => by
    obtain ⟨T, a, b, c, d, ta, tb, tc, td, e1, e2, hm⟩ := tupl_get t i (h i (.head _))
    rw [List.map_cons, List.map_cons, e1, e2]
    exact .cons hm (tupl_map t is fun j hj => h j (.tail _ hj))
theorem okO_form {o : List Int} (h : okO o = true) : ∃ a b c d, o = [a, b, c, d] ∧ 0 ≤ a ∧ a < 4 ∧ 0 ≤ b ∧ b < 4 ∧ 0 ≤ c ∧ c < 4 ∧ 0 ≤ d ∧ d < 4 ∧ uncode (code4 o) = o := by
  unfold okO at h
  split at h
  · rename_i a b c d
    simp only [Bool.and_eq_true, decide_eq_true_eq, beq_iff_eq] at h
    obtain ⟨⟨⟨⟨⟨⟨⟨⟨h0, h1⟩, h2⟩, h3⟩, h4⟩, h5⟩, h6⟩, h7⟩, h8⟩ := h
    exact ⟨a, b, c, d, rfl, h0, h1, h2, h3, h4, h5, h6, h7, h8⟩
  · cases h
section
variable {prog : Program} {w : World} {A : Around} {E : Value → Shared → Prop} {s : Shared} {h₀ : Heap} {L : Addr} {m : Str → Option Value} {news : List (Addr × Obj)}
theorem katTups {h : Heap} {nw : List (Addr × Obj)} (N : ∀ p ∈ nw, h.get? p.1 = some p.2) : ∀ {vs : List Value} {os : List (List Int)}, TupL nw vs os → ∃ fs, KatTups h vs fs ∧ fs.length = vs.length ∧ ∀ v ∈ fs, ∃ n t, v = .int n t
  | _, _, .nil => ⟨[], .nil, rfl, fun v hv => by cases hv⟩
  | _, _, .cons hm r => by
    obtain ⟨fs, h1, h2, h3⟩ := katTups N r
    refine ⟨_ :: fs, KatTups.cons (N _ hm) rfl rfl rfl h1, by rw [List.length_cons, List.length_cons, h2], fun v hv => ?_⟩
    rcases List.mem_cons.mp hv with rfl | hv
    · exact ⟨_, _, rfl⟩
    · exact h3 v hv
theorem sorted_tups {l : Addr} {Q : Value → Shared → Prop} {vs : List Value} {acc : List (List Int)} {nw : List (Addr × Obj)} (F : Fr h₀ L s.heap m) (N : News h₀ L s.heap news) (hl : s.heap.IsList l vs.toArray) (hnw : ∀ p ∈ nw, p ∈ news) (t : TupL nw vs acc) (hp : acc.Perm (asF 4 0))
    (h : ∀ D h' c vs', Fr h₀ L h' m → News h₀ L h' ((D, listOf (List.toArray vs') c) :: news) → (∀ q ∈ news, q.1 < D) → TupL nw vs' (asF 4 0) → Q (.ref D) { s with heap := h' }) :
    wpAny (model prog w) A (call (.builtin "sorted") [.ref l]) Q E s := by
  have hal : acc.length = 24 := by rw [hp.length_eq]; exact ords_len
  have hvl : vs.length = 24 := by rw [t.len]; exact hal
  refine kat_sorted F N hl (by omega) (by omega) fun D e1 h' F' N' hlt => ?_
  have Nn : ∀ p ∈ nw, h'.get? p.1 = some p.2 := fun p hp => (N' p (.tail _ (hnw p hp))).1
  obtain ⟨fs, k1, k2, k3⟩ := katTups Nn t
  refine kat_kind (s := { s with heap := h' }) (T := .type "int") k1 (by omega) (fun v hv => by obtain ⟨n, t, rfl⟩ := k3 v hv; exact Looks.of_pure rfl) rfl ?_
  rw [hvl]
  have okA : ∀ o ∈ acc, okO o = true := fun o ho => List.all_eq_true.mp ords_ok o (hp.mem_iff.mp ho)
  have okG : ∀ i, i < 24 → okO (acc.getD i []) = true := fun i hi => by
    rw [List.getD_eq_getElem?_getD, List.getElem?_eq_getElem (by omega), Option.getD_some]
    exact okA _ (List.getElem_mem _)
  have hnd : (acc.map code4).Nodup := (hp.map code4).nodup_iff.mpr ords_nodup
  refine kasWp_KP (n := 24) (lt := ltR fun i => code4 (acc.getD i [])) (fun i j hi hj C hC => ?_) (fun p hP => ?_) _ (kp_sort (N := 24) (by omega) fun i j hi hj hij => ?_)
  · obtain ⟨T1, a, b, c, d, ta, tb, tc, td, e1, e2, hm⟩ := tupl_get t i (by omega)
    obtain ⟨T2, a', b', c', d', ua, ub, uc, ud, f1, f2, hm2⟩ := tupl_get t j (by omega)
    obtain ⟨_, _, _, _, q1, x0, x1, x2, x3, x4, x5, x6, x7, _⟩ := okO_form (okG i hi)
    obtain ⟨_, _, _, _, q2, y0, y1, y2, y3, y4, y5, y6, y7, _⟩ := okO_form (okG j hj)
    rw [e2] at q1
    rw [f2] at q2
    cases q1
    cases q2
    unfold kas_ask
    rw [e1, f1]
    refine kat_lt (Nn _ hm) rfl (Nn _ hm2) rfl ?_
    have hC' : C (decide (code4 [a, b, c, d] < code4 [a', b', c', d'])) { s with heap := h' } := by
      rw [← e2, ← f2]
      exact hC
    exact katlex4 x0 x2 x4 x6 x1 x3 x5 x7 y0 y2 y4 y6 y1 y3 y5 y7 hC'
  · obtain ⟨G, S, P⟩ := hP
    have P' : p.toList.Perm (List.range 24) := by
      have := Array.perm_iff_toList_perm.mp P
      simpa using this
    have hlt24 : ∀ i ∈ p.toList, i < vs.length := fun i hi => by
      rw [hvl]
      exact List.mem_range.mp (P'.mem_iff.mp hi)
    have eA : ((List.range 24).map fun i => acc.getD i []) = acc := by
      apply List.ext_getElem?
      intro i
      rw [List.getElem?_map]
      by_cases hi : i < 24
      · rw [List.getElem?_range hi, Option.map_some, List.getD_eq_getElem?_getD, List.getElem?_eq_getElem (by omega), Option.getD_some]
      · rw [List.getElem?_eq_none (by rw [List.length_range]; omega), List.getElem?_eq_none (by omega)]
        rfl
    have pO : (p.toList.map fun i => acc.getD i []).Perm (asF 4 0) := by
      have := P'.map fun i => acc.getD i []
      rw [eA] at this
      exact this.trans hp
    have srt : ((p.toList.map fun i => acc.getD i []).map code4).Pairwise (· ≤ ·) := by
      rw [List.pairwise_iff_getElem]
      intro i j hi hj hij
      simp only [List.getElem_map]
      have hj2 : j < p.size := by simpa using hj
      have hs := S i j hij (by rw [← G.size]; exact hj2)
      have gi : p.getD i 0 = p.toList[i]'(by simpa using hi) := by
        have : i < p.size := by omega
        simp [Array.getD, this]
      have gj : p.getD j 0 = p.toList[j]'(by simpa using hj) := by
        simp [Array.getD, hj2]
      unfold qv at hs
      rw [gi, gj] at hs
      exact Int.le_of_lt hs
    have eq1 := lks_uniq (pO.map code4) srt ords_sorted
    have eq2 : (p.toList.map fun i => acc.getD i []) = asF 4 0 := by
      have un : ∀ {l : List (List Int)}, (∀ o ∈ l, okO o = true) → (l.map code4).map uncode = l := by
        intro l
        induction l with
        | nil => intro _; rfl
        | cons o l ih =>
          intro hh
          obtain ⟨_, _, _, _, _, _, _, _, _, _, _, _, _, e⟩ := okO_form (hh o (.head _))
          rw [List.map_cons, List.map_cons, e, ih fun x hx => hh x (.tail _ hx)]
      have u1 := un (l := p.toList.map fun i => acc.getD i []) fun o ho => List.all_eq_true.mp ords_ok o (pO.mem_iff.mp ho)
      have u2 := un (l := asF 4 0) fun o ho => List.all_eq_true.mp ords_ok o ho
      rw [← u1, eq1, u2]
    have T' := tupl_map t p.toList hlt24
    rw [eq2] at T'
    exact KasFin.intro F' N' (UpdF.head fun q hq => Nat.ne_of_lt (hlt q hq)) fun h'' c F'' N'' => h D h'' c _ F'' N'' hlt T'
  · intro e
    have hi2 : i < (acc.map code4).length := by rw [List.length_map]; omega
    have hj2 : j < (acc.map code4).length := by rw [List.length_map]; omega
    have g : ∀ k, k < 24 → ∀ hk, (acc.map code4)[k]'hk = code4 (acc.getD k []) := fun k hk hk2 => by
      rw [List.getElem_map, List.getD_eq_getElem?_getD, List.getElem?_eq_getElem (by omega), Option.getD_some]
    have hq := List.pairwise_iff_getElem.mp hnd
    rcases Nat.lt_or_gt_of_ne hij with hl | hl
    · exact hq i j hi2 hj2 hl (by rw [g i hi, g j hj]; exact e)
    · exact hq j i hj2 hi2 hl (by rw [g i hi, g j hj]; exact e.symm)
end

end
section -- part WL
open PySem PySem.W PyProof.Rows
set_option Elab.async false
set_option maxRecDepth 100000
set_option maxHeartbeats 8000000
set_option linter.unusedVariables false
theorem fill_itL : (theK, theRow) = (theK, theRow) := by w_on; k_fill; rfl

def Hold (p : Prop) : Prop := p
theorem Hold.mk {p : Prop} (h : p) : Hold p := h
theorem hold {M : Model} {A : Around} {α : Type} {c : Sem α} {Q : α → Shared → Prop} {E : Value → Shared → Prop} {s : Shared} (h : wpAny M A c (fun x s' => Hold (Q x s')) E s) : wpAny M A c Q E s := h
theorem reord {h₀ h : Heap} {L : Addr} {d x : Addr × Obj} {tups news : List (Addr × Obj)} (N : News h₀ L h (d :: (tups ++ (x :: news)))) : News h₀ L h (d :: x :: (tups ++ news)) := fun p hp => by
  rcases List.mem_cons.mp hp with rfl | hp
  · exact N _ (.head _)
  · rcases List.mem_cons.mp hp with rfl | hp
    · exact N _ (.tail _ (List.mem_append_right _ (.head _)))
    · rcases List.mem_append.mp hp with hp | hp
      · exact N _ (.tail _ (List.mem_append_left _ hp))
      · exact N _ (.tail _ (List.mem_append_right _ (.tail _ hp)))
theorem TupL.reord {tups news : List (Addr × Obj)} {x : Addr × Obj} (hx : x.2.cls ≠ .type "tuple") {vs : List Value} {os : List (List Int)} (t : TupL (tups ++ (x :: news)) vs os) : TupL (tups ++ news) vs os :=
  TupL.mono (fun p hp hc => by
    rcases List.mem_append.mp hp with hp | hp
    · exact List.mem_append_left _ hp
    · rcases List.mem_cons.mp hp with rfl | hp
      · exact absurd hc hx
      · exact List.mem_append_right _ hp) t
local macro_rules | `(tactic| walk_at "exec For Name Name cons nil") => `(tactic| (k_here; (rename Fr _ _ _ _ => lF'); (with_unfolding_all refine' For_turns lF' ?_; k_whole)))
theorem cls_off {h₀ h : Heap} {L : Addr} {all : List (Addr × Obj)} (N : News h₀ L h all) {p q : Addr × Obj} (hp : p ∈ all) (hq : q ∈ all) (hc : p.2.cls ≠ q.2.cls) : p.1 ≠ q.1 := fun e => by
  have z1 := (N p hp).1
  have z2 := (N q hq).1
  rw [e, z2] at z1
  exact hc (congrArg Obj.cls (Option.some.inj z1)).symm
def foldO (T : List Int) : List Int → List Int → List Int → Int → List Int × List Int
  | [], f, b, _ => (f, b)
  | k :: ks, f, b, mk => if 0 < T.getD (mk + 2 ^ k.toNat).toNat 0 then foldO T ks (k :: f) b (mk + 2 ^ k.toNat) else foldO T ks f (b ++ [k]) (mk + 2 ^ k.toNat)
def rowF (T o : List Int) : List Int := (foldO T o [] [] 0).1 ++ (foldO T o [] [] 0).2
def aboveF (T o : List Int) : Int := (foldO T o [] [] 0).1.length
theorem fr_know6 {h₀ h : Heap} {L : Addr} {m : Str → Option Value} {x1 x2 x3 x4 x5 x6 : Str} {v1 v2 v3 v4 v5 v6 : Option Value} (F : Fr h₀ L h m) (h1 : m x1 = v1) (h2 : m x2 = v2) (h3 : m x3 = v3) (h4 : m x4 = v4) (h5 : m x5 = v5) (h6 : m x6 = v6) : Fr h₀ L h (fun y => if y = x1 then v1 else if y = x2 then v2 else if y = x3 then v3 else if y = x4 then v4 else if y = x5 then v5 else if y = x6 then v6 else m y) := by
  have e : (fun y => if y = x1 then v1 else if y = x2 then v2 else if y = x3 then v3 else if y = x4 then v4 else if y = x5 then v5 else if y = x6 then v6 else m y) = m := by
    funext y
    split
    · rename_i h; rw [h, h1]
    · skip
      split
      · rename_i h; rw [h, h2]
      · skip
        split
        · rename_i h; rw [h, h3]
        · skip
          split
          · rename_i h; rw [h, h4]
          · skip
            split
            · rename_i h; rw [h, h5]
            · skip
              split
              · rename_i h; rw [h, h6]
              · rfl
  rw [e]
  exact F
local macro_rules | `(tactic| k_all) => `(tactic| first | with_reducible assumption | exact allLt_ne (by with_reducible assumption))
local macro_rules | `(tactic| walk_at "call builtin:list.append") => `(tactic| (k_here; (show wpAny _ _ (call (Value.builtin _) [Value.ref _, _]) _ _ _); k_dflt (refine' append_K ?k1 ?k2 ?k3 ?_ ?z; (case k1 => k_asm); (case k2 => k_asm); (case k3 => k_upd); (case z => size_fits); k_whole); intro h' F' N'))
local macro_rules | `(tactic| size_fits) => `(tactic| (simp only [List.size_toArray, PySem.sizeLine_eq]; omega))
local macro_rules | `(tactic| walk_at "binaryOp Pow int int") => `(tactic| (k_here; (with_reducible refine pow_int_small ?kb1 ?kb2 ?kb3 ?_); (case kb1 => omega); (case kb2 => omega); (case kb3 => decide)))
theorem news_swap {h₀ h : Heap} {L : Addr} {x y : Addr × Obj} {r : List (Addr × Obj)} (N : News h₀ L h (x :: y :: r)) : News h₀ L h (y :: x :: r) := fun p hp => by
  rcases List.mem_cons.mp hp with rfl | hp
  · exact N _ (.tail _ (.head _))
  · rcases List.mem_cons.mp hp with rfl | hp
    · exact N _ (.head _)
    · exact N _ (.tail _ (.tail _ hp))
theorem endA {h₀ : Heap} {L : Addr} {J Y : Addr} {it oY oB : Obj} {x f : Addr × Obj} {Ba : Addr} {rest : (Str → Option Value) → List (Addr × Obj) → Prop} {s₁ : Shared} {h' : Heap} {tk : Nat} {m' : Str → Option Value} {nw : List (Addr × Obj)} (F : Fr h₀ L h' m') (N : News h₀ L h' ((Y, oY) :: x :: (J, it) :: f :: (Ba, oB) :: nw))
    (hY : @LT.lt Nat _ J Y) (hB : AllLt J ((Ba, oB) :: nw)) (r : rest m' ((Y, oY) :: (Ba, oB) :: nw)) : UnrEndW h₀ L s₁ [(J, it)] rest { s₁ with heap := h', toks := tk } :=
  unrW_intro F N _ (.tail _ (.tail _ (.head _))) (fun p hp => by
    rcases List.mem_cons.mp hp with rfl | hp
    · exact .head _
    · exact .tail _ (.tail _ (.tail _ (.tail _ hp)))) (fun p hp => by
    rcases List.mem_cons.mp hp with rfl | hp
    · exact Nat.ne_of_gt hY
    · exact allLt_ne hB p hp) r
theorem endB {h₀ : Heap} {L : Addr} {J Fx : Addr} {it oF : Obj} {rest : (Str → Option Value) → List (Addr × Obj) → Prop} {s₁ : Shared} {h' : Heap} {tk : Nat} {m' : Str → Option Value} {nw : List (Addr × Obj)} (F : Fr h₀ L h' m') (N : News h₀ L h' ((J, it) :: (Fx, oF) :: nw))
    (hY : @Ne Nat Fx J) (hB : AllLt J nw) (r : rest m' ((Fx, oF) :: nw)) : UnrEndW h₀ L s₁ [(J, it)] rest { s₁ with heap := h', toks := tk } :=
  unrW_intro F N _ (.head _) (fun p hp => .tail _ hp) (fun p hp => by
    rcases List.mem_cons.mp hp with rfl | hp
    · exact hY
    · exact allLt_ne hB p hp) r
theorem crest_ord {h₀ h : Heap} {L : Addr} {f b i r d x : Addr × Obj} {rest : List (Addr × Obj)} (N : News h₀ L h (f :: b :: i :: r :: d :: x :: rest)) : News h₀ L h (f :: x :: b :: i :: r :: d :: rest) := fun p hp => by
  simp only [List.mem_cons] at hp
  apply N
  simp only [List.mem_cons]
  rcases hp with h | h | h | h | h | h | h
  · exact .inl h
  · exact .inr (.inr (.inr (.inr (.inr (.inl h)))))
  · exact .inr (.inl h)
  · exact .inr (.inr (.inl h))
  · exact .inr (.inr (.inr (.inl h)))
  · exact .inr (.inr (.inr (.inr (.inl h))))
  · exact .inr (.inr (.inr (.inr (.inr (.inr h)))))
theorem ints_app : ∀ {vs : List Value} {ns : List Int} {ws : List Value} {ms : List Int}, IntsAre vs ns → IntsAre ws ms → IntsAre (vs ++ ws) (ns ++ ms)
  | _, _, _, _, .nil, h => h
  | _, _, _, _, .cons n t r, h => .cons n t (ints_app r h)
theorem endO {h₀ : Heap} {L : Addr} {Dt Fx l Ba I R D : Addr} {oT oF ol oB it oR oD : Obj} {rest : (Str → Option Value) → List (Addr × Obj) → Prop} {s₁ : Shared} {h' : Heap} {tk : Nat} {m' : Str → Option Value} {rt base : List (Addr × Obj)} (F : Fr h₀ L h' m') (N : News h₀ L h' ((Dt, oT) :: (Fx, oF) :: (l, ol) :: (Ba, oB) :: (I, it) :: (R, oR) :: (D, oD) :: (rt ++ base)))
    (hRI : @LT.lt Nat _ R I ∧ @LT.lt Nat _ D I ∧ @LT.lt Nat _ l I ∧ AllLt I base) (hc : it.cls ≠ .type "tuple") (hT : oT.cls = .type "tuple") (ht : ∀ p ∈ rt, p.2.cls = .type "tuple") (r : rest m' ((R, oR) :: (D, oD) :: (l, ol) :: (((Dt, oT) :: rt) ++ base))) : UnrEndW h₀ L s₁ [(I, it)] rest { s₁ with heap := h', toks := tk } := by
  have sub : ∀ p ∈ (R, oR) :: (D, oD) :: (l, ol) :: (((Dt, oT) :: rt) ++ base), p ∈ (Dt, oT) :: (Fx, oF) :: (l, ol) :: (Ba, oB) :: (I, it) :: (R, oR) :: (D, oD) :: (rt ++ base) := fun p hp => by
    rcases List.mem_cons.mp hp with rfl | hp
    · exact .tail _ (.tail _ (.tail _ (.tail _ (.tail _ (.head _)))))
    · rcases List.mem_cons.mp hp with rfl | hp
      · exact .tail _ (.tail _ (.tail _ (.tail _ (.tail _ (.tail _ (.head _))))))
      · rcases List.mem_cons.mp hp with rfl | hp
        · exact .tail _ (.tail _ (.head _))
        · rcases List.mem_cons.mp hp with rfl | hp
          · exact .head _
          · exact .tail _ (.tail _ (.tail _ (.tail _ (.tail _ (.tail _ (.tail _ hp))))))
  have hIm : (I, it) ∈ (Dt, oT) :: (Fx, oF) :: (l, ol) :: (Ba, oB) :: (I, it) :: (R, oR) :: (D, oD) :: (rt ++ base) := .tail _ (.tail _ (.tail _ (.tail _ (.head _))))
  have cl : ∀ p ∈ (R, oR) :: (D, oD) :: (l, ol) :: (((Dt, oT) :: rt) ++ base), p.2.cls = .type "tuple" → p.1 ≠ I := fun p hp hpc => cls_off N (sub p hp) hIm (by rw [hpc]; exact Ne.symm hc)
  refine unrW_intro F N _ hIm sub (fun p hp => ?_) r
  have hp0 := hp
  rcases List.mem_cons.mp hp with rfl | hp
  · exact Nat.ne_of_lt hRI.1
  · rcases List.mem_cons.mp hp with rfl | hp
    · exact Nat.ne_of_lt hRI.2.1
    · rcases List.mem_cons.mp hp with rfl | hp
      · exact Nat.ne_of_lt hRI.2.2.1
      · rcases List.mem_append.mp hp with hp | hp
        · refine cl p hp0 ?_
          rcases List.mem_cons.mp hp with rfl | hp
          · exact hT
          · exact ht p hp
        · exact allLt_ne hRI.2.2.2 p hp
def ordD (os : List (List Int)) : PyData := .list (os.map fun o => PyData.tuple (o.map PyData.int))
theorem ords_shaped : SeqAt.shaped (ordD (asF 4 0)) = true := by decide +kernel
theorem ords_eqv : PyData.eqv (ordD (asF 4 0)) (ordD (asF 4 0)) = true := by decide +kernel
theorem tupl_reads {h : Heap} {nw : List (Addr × Obj)} (N : ∀ p ∈ nw, h.get? p.1 = some p.2) : ∀ {vs : List Value} {os : List (List Int)}, TupL nw vs os → ReadsAll h vs (os.map fun o => PyData.tuple (o.map PyData.int)) []
  | _, _, .nil => .nil
  | _, _, .cons hm r => readsAll_cons_val (reads_tuple_at (N _ hm) rfl rfl (readsAll_cons_val (Reads.int _ _) (readsAll_cons_val (Reads.int _ _) (readsAll_cons_val (Reads.int _ _) (readsAll_cons_val (Reads.int _ _) .nil))))) (tupl_reads N r)
theorem bne_dec (x y : Int) : (x != y) = decide (x ≠ y) := by
  by_cases h : x = y
  · simp [h]
  · simp [h]
theorem gt_use {w : World} {mean : ExcName → Option Value} {mg mb : Str → Option Value} {news : List (Addr × Obj)} {x : Int} {t0 t1 : Tok} {dp un : Nat} {gd : Option (List Code)} {cn : Str} {cs : Scope} {a : Addr} {ccd : Value} {cl : List (Str × Addr)} {outer : List Env} {A₀ : Around} {base h₀ : Heap} {L : Addr} {m : Str → Option Value} {s : Shared} {Q E : Value → Shared → Prop}
    (h : ∀ h' tk', Fr h₀ L h' m → News h₀ L h' news → Q (.bool (decide (0 < x))) { s with heap := h', toks := tk' })
    (k1 : Below A₀ base outer h₀ := by k_asm) (k2 : Fr h₀ L s.heap m := by k_asm) (k3 : (theK w.params).In h₀ := by k_asm) (k4 : News h₀ L s.heap news := by k_asm) (k5 : Top theQ (looseW theQ theLoose) mean mg mb h₀ := by k_asm) (kK : cs.kind = .function := by first | exact rfl | assumption)
    (kd : dp + 1 < recursionLimit := by ktr_room) (ku : un + 8 * 1 < cLine := by ktr_units) :
    wpAny (model theProg w) (ktrTop dp un gd cn cs L a ccd cl outer) (call (.ref 21) [.int x t0, .int 0 t1]) Q E s :=
  gt_c w mean mg mb news x t0 t1 dp un gd cn cs a ccd cl outer A₀ base h₀ L m s Q E k1 k2 k3 k4 k5 kK trivial kd ku fun v new h' tk' hr F N => by
    obtain ⟨hv, hn⟩ := hr
    subst hv hn
    exact h h' tk' F N
local macro_rules | `(tactic| walk_at "call ref") => `(tactic| (k_here; k_dflt (refine gt_use ?_); intro h9 tk9 F9 N9; (try dsimp only)))
theorem iconcat_use {w : World} {mean : ExcName → Option Value} {mg mb : Str → Option Value} {news : List (Addr × Obj)} {l1 l2 : Addr} {n1 n2 : Nat} {as bs : List Value} {dp un : Nat} {gd : Option (List Code)} {cn : Str} {cs : Scope} {a' : Addr} {ccd : Value} {cl : List (Str × Addr)} {outer : List Env} {A₀ : Around} {base h₀ : Heap} {L : Addr} {m : Str → Option Value} {s : Shared} {Q E : Value → Shared → Prop}
    (h : ∀ n' h' tk', Fr h₀ L h' m → News h₀ L h' ((l1, listOf (as ++ bs).toArray n') :: (l2, listOf bs.toArray n2) :: news) → Q (.ref l1) { s with heap := h', toks := tk' })
    (k1 : Below A₀ base outer h₀ := by k_asm) (k2 : Fr h₀ L s.heap m := by k_asm) (k3 : (theK w.params).In h₀ := by k_asm) (k4 : News h₀ L s.heap ((l1, listOf as.toArray n1) :: (l2, listOf bs.toArray n2) :: news) := by k_asm) (k5 : Top theQ (looseW theQ theLoose) mean mg mb h₀ := by k_asm) (kK : cs.kind = .function := by first | exact rfl | assumption)
     (p1 : as.length + bs.length ≤ 1000 := by with_reducible assumption) (p2 : l1 ≠ l2 := by with_reducible assumption) (p3 : ∀ p ∈ news, p.1 ≠ l1 := by with_reducible assumption) (kd : dp + 1 < recursionLimit := by ktr_room) (ku : un + 8 * 1 < cLine := by ktr_units) :
    wpAny (model theProg w) (ktrTop dp un gd cn cs L a' ccd cl outer) (call (.ref 42) [.ref l1, .ref l2]) Q E s :=
  iconcat_c w mean mg mb news l1 l2 n1 n2 as bs dp un gd cn cs a' ccd cl outer A₀ base h₀ L m s Q E k1 k2 k3 k4 k5 kK  ⟨p1, p2, p3⟩ kd ku fun v new h' tk' hr F N => by
    obtain ⟨n', hv, hn⟩ := hr
    subst hv hn
    exact h n' h' tk' F N
local macro_rules | `(tactic| walk_at "call ref") => `(tactic| (k_here; k_dflt (refine iconcat_use ?_); intro m9 h9 tk9 F9 N9; (try dsimp only)))
theorem crest_use {w : World} {mean : ExcName → Option Value} {mg mb : Str → Option Value} {news : List (Addr × Obj)} {l1 l2 : Addr} {n1 n2 : Nat} {rs ts : List Value} {row T : List Int} {dp un : Nat} {gd : Option (List Code)} {cn : Str} {cs : Scope} {a' : Addr} {ccd : Value} {cl : List (Str × Addr)} {outer : List Env} {A₀ : Around} {base h₀ : Heap} {L : Addr} {m : Str → Option Value} {s : Shared} {Q E : Value → Shared → Prop}
    (h : ∀ t h' tk', Fr h₀ L h' m → News h₀ L h' ((l1, listOf rs.toArray n1) :: (l2, listOf ts.toArray n2) :: news) → Q (.int (crestG T row 0 0 0 0) t) { s with heap := h', toks := tk' })
    (k1 : Below A₀ base outer h₀ := by k_asm) (k2 : Fr h₀ L s.heap m := by k_asm) (k3 : (theK w.params).In h₀ := by k_asm) (k4 : News h₀ L s.heap ((l1, listOf rs.toArray n1) :: (l2, listOf ts.toArray n2) :: news) := by exact crest_ord (by k_asm)) (k5 : Top theQ (looseW theQ theLoose) mean mg mb h₀ := by k_asm) (kK : cs.kind = .function := by first | exact rfl | assumption)
     (p1 : IntsAre rs row := by with_reducible assumption) (p2 : IntsAre ts T := by with_reducible assumption) (p3 : row.length = 4 := by with_reducible assumption) (p4 : T.length = 16 := by with_reducible assumption) (p5 : maskOk row 0 := by with_reducible assumption) (kd : dp + 2 < recursionLimit := by ktr_room) (ku : un + 8 * 2 < cLine := by ktr_units) :
    wpAny (model theProg w) (ktrTop dp un gd cn cs L a' ccd cl outer) (call (.ref 163) [.ref l1, .ref l2]) Q E s :=
  crest_c w mean mg mb news l1 l2 n1 n2 rs ts row T dp un gd cn cs a' ccd cl outer A₀ base h₀ L m s Q E k1 k2 k3 k4 k5 kK  ⟨p1, p2, p3, p4, p5⟩ kd ku fun v new h' tk' hr F N => by
    obtain ⟨⟨t, hv⟩, hn⟩ := hr
    subst hv hn
    exact h t h' tk' F N
local macro_rules | `(tactic| walk_at "call ref") => `(tactic| (k_here; k_dflt (refine crest_use ?_); intro t9 h9 tk9 F9 N9; (try dsimp only)))
inductive RowO (T : List Int) (base : List (Addr × Obj)) (l D R : Addr) (ys ts : List Value) (n : Nat) (r : List Value) (m : Str → Option Value) (nw : List (Addr × Obj)) : Prop
  | mk (rs acc : List (List Int)) (rv : List Value) (n1 : Nat) (rt : List (Addr × Obj)) (h1 : TupL base r rs) (h2 : m (Str.ofString "told") = some (.ref l)) (h3 : m (Str.ofString "orders") = some (.ref D)) (h4 : m (Str.ofString "rows") = some (.ref R)) (h5 : nw = (R, listOf rv.toArray n1) :: (D, LCg.lst ys) :: (l, listOf ts.toArray n) :: (rt ++ base)) (h6 : ∀ p ∈ rt, p.2.cls = .type "tuple") (h7 : TupL (rt ++ base) rv acc) (h8 : acc ++ rs.map (rowF T) = (asF 4 0).map (rowF T)) (h9 : ∀ o ∈ rs, o ∈ asF 4 0)
inductive RowI (T : List Int) (l D R Ba J : Addr) (a b c d : Int) (rest : List (Addr × Obj)) (r : List Value) (m : Str → Option Value) (nw : List (Addr × Obj)) : Prop
  | mk (ks fs bs : List Int) (fv bv : List Value) (Fx : Addr) (nf nb : Nat) (mk : Int) (um : Tok) (h1 : IntsAre r ks) (q1 : m (Str.ofString "front") = some (.ref Fx)) (q2 : m (Str.ofString "back") = some (.ref Ba)) (q3 : m (Str.ofString "mask") = some (.int mk um)) (q4 : m (Str.ofString "told") = some (.ref l)) (q5 : m (Str.ofString "orders") = some (.ref D)) (q6 : m (Str.ofString "rows") = some (.ref R))
      (h2 : nw = (Fx, listOf fv.toArray nf) :: (Ba, listOf bv.toArray nb) :: rest) (h3 : IntsAre fv fs) (h4 : IntsAre bv bs) (h5 : foldO T ks fs bs mk = foldO T [a, b, c, d] [] [] 0) (h6 : maskOk ks mk) (h7 : fs.length + bs.length + ks.length ≤ 4) (h8 : @Ne Nat Fx Ba) (h9 : @Ne Nat Fx J) (h10 : ∀ p ∈ rest, p.1 ≠ Fx)
theorem row_c (w : World) (mean : ExcName → Option Value) (mg mb : Str → Option Value) (news : List (Addr × Obj)) (l : Addr) (n : Nat) (ts : List Value) (T : List Int) :
    Cl w mean mg mb 168 ((l, listOf ts.toArray n) :: news) [] (IntsAre ts T ∧ T.length = 16 ∧ (∀ o ∈ asF 4 0, maskOk o 0 ∧ maskOk (rowF T o) 0) ∧ (∀ o ∈ asF 4 0, ∃ r0 r1 r2 r3, rowF T o = [r0, r1, r2, r3]) ∧ (∀ o ∈ asF 4 0, crestG T (rowF T o) 0 0 0 0 = aboveF T o) ∧ ((asF 4 0).map (rowF T)).Perm (asF 4 0)) [.ref l] 12 (fun v new => v = .bool true ∧ new = []) := by
  dsimp only [Cl, CbLists, RetL]
  intro dp un gd cn cs a' ccd cl outer A₀ base h₀ L m s Q E k1 k2 k3 k4 k5 k6 hpre kd ku hret
  obtain ⟨hp1, hp2, hmk, hr4, hcr, hperm⟩ := hpre
  refine wpAny_call ?_
  k_dflt cell_enter
  iterate 2 (first | (k_unfold; (try dsimp only)) | (k_end; wrow_close) | walk1 | (dsimp only; walk1) | (leave1; walk_say "STEP leave1"; try dsimp only) | fail "no step")
  rename_i g' L' hh9 FG F1 N1 B' X' T'
  with_unfolding_all refine Assign_comp3 F1 N1 rfl (by with_unfolding_all rfl) (by rfl) (by decide) (by rfl) (by decide) (by rfl) (by rfl) (by rfl) (by decide) (by decide) (by decide) (by rfl) (by rfl) (by rfl) ?ia ?ib ?tb ?ic ?tc ?el ?Q
  case ia =>
    refine hold ?_
    k_steps
    rename IsRange _ _ _ _ _ _ _ _ => hR
    exact Hold.mk ⟨_, _, _, _, _, _, rfl, rfl, by k_asm, by assumption, hR⟩
  case ib =>
    intro C oC m₂ nws h tk E' nC F N
    refine hold ?_
    k_steps
    rename IsRange _ _ _ _ _ _ _ _ => hR
    exact Hold.mk ⟨_, _, _, _, _, _, rfl, rfl, by k_asm, by assumption, hR⟩
  case ic =>
    intro C oC m₂ nws h tk E' nC F N
    refine hold ?_
    k_steps
    rename IsRange _ _ _ _ _ _ _ _ => hR
    exact Hold.mk ⟨_, _, _, _, _, _, rfl, rfl, by k_asm, by assumption, hR⟩
  case tb =>
    intro C oC m₂ nws h tk va vb ta tb E' nC ha hb F N
    refine hold ?_
    k_steps
    exact Hold.mk ⟨_, _, bne_dec _ _, rfl, by k_asm, by assumption⟩
  case tc =>
    intro C oC m₂ nws h tk va vb vc ta tb tc E' nC ha hb hc F N
    refine hold ?_
    k_steps
    · exact Hold.mk ⟨_, _, (decide_eq_true ⟨by assumption, by assumption⟩).symm, rfl, by k_asm, by assumption⟩
    · exact Hold.mk ⟨_, _, (decide_eq_false (fun q => q.2 (by assumption))).symm, rfl, by k_asm, by assumption⟩
    · exact Hold.mk ⟨_, _, (decide_eq_false (fun q => q.1 (by assumption))).symm, rfl, by k_asm, by assumption⟩
  case el =>
    intro C oC m₂ nws h tk va vb vc ta tb tc E' nC ha hb hc F N
    refine hold ?_
    k_steps
    exact Hold.mk ⟨_, _, _, _, _, _, _, rfl, rfl, by k_asm, by assumption⟩
  case Q =>
    intro D ys tups h' tk' F N ht htu hoff
    replace N := reord N
    replace htu := TupL.reord (fun e => absurd (Value.type.inj e) (by decide)) htu
    have hlD : l ≠ D := hoff _ (List.mem_append_right _ (.head _))
    replace hoff : ∀ p ∈ tups ++ news, p.1 ≠ D := fun p hp => hoff p (by
      rcases List.mem_append.mp hp with hp | hp
      · exact List.mem_append_left _ hp
      · exact List.mem_append_right _ (.tail _ hp))
    obtain ⟨base, hbase⟩ : ∃ base, base = tups ++ news := ⟨_, rfl⟩
    have hnb : ∀ p ∈ news, p ∈ base := fun p hp => hbase ▸ List.mem_append_right _ hp
    rw [← hbase] at N htu hoff
    clear hbase ht
    try dsimp only
    k_steps
    rename_i R hhR lR hhR2 lF' N0
    refine iter_listTurns (lo := LCg.lst ys) (vs := ys) (n := ys.length) (by rfl) lF' N0 (by k_mem) (by rfl) (by rfl) ?_
    intro I hI
    have hI2 := hI
    k_lt hI2
    refine items_ind (Inv := RowO T base l D R ys ts n) ?_ ?_ _ _ _ ⟨asF 4 0, [], [], 0, [], htu, rfl, rfl, rfl, rfl, (by intro p hp; cases hp), .nil, rfl, fun o ho => ho⟩
    · rintro v r m nw ⟨rs, acc, rv, n1, rt, hr, hm1, hm2, hm3, rfl, ht, hv, he, ho⟩ it h tk hc F N
      cases hr with
      | @cons T0 a b c d ta tb tc td _ os hmem hr =>
      replace F := fr_know3 F hm1 hm2 hm3
      try dsimp only
      k_steps
      rename_i Fa hx1 lFa hx2 tkx Ba hx3 lBa hx4 tky hx5 lF1 N1
      have hBa3 := lBa.2.2.2.2.2
      replace N1 : News g' L' hx5 ((Fa, listOf #[] 0) :: (Ba, listOf #[] 0) :: (I, it) :: (R, listOf rv.toArray n1) :: (D, LCg.lst ys) :: (l, listOf ts.toArray n) :: (rt ++ base)) := news_swap N1
      obtain ⟨hmo, hmo2⟩ := hmk _ (ho _ (.head _))
      refine iter_tupTurns (lo := oTup4 (.int a ta) (.int b tb) (.int c tc) (.int d td)) (vs := [.int a ta, .int b tb, .int c tc, .int d td]) (n := 0) (by rfl) lF1 N1 (.tail _ (.tail _ (.tail _ (.tail _ (.tail _ (.tail _ (List.mem_append_right _ hmem))))))) (by rfl) (by rfl) ?_
      intro J hJ
      have hJ2 := hJ
      k_lt hJ2
      clear hJ
      refine items_ind (Inv := RowI T l D R Ba J a b c d ((I, it) :: (R, listOf rv.toArray n1) :: (D, LCg.lst ys) :: (l, listOf ts.toArray n) :: (rt ++ base))) ?_ ?_ _ _ _
        ⟨[a, b, c, d], [], [], [], [], Fa, 0, 0, 0, _, .cons _ _ (.cons _ _ (.cons _ _ (.cons _ _ .nil))), rfl, rfl, rfl, rfl, rfl, rfl, rfl, .nil, .nil, rfl, hmo, by simp, Nat.ne_of_lt lBa.1, Nat.ne_of_lt hJ2.1, allLt_ne (by exact lFa)⟩
      · rintro v r m nw ⟨ks, fs, bs, fv, bv, Fx, nf, nb, mk, um, hr, q1, q2, q3, q4, q5, q6, rfl, hf, hb, hg, hmk', hlen, hFB, hFJ, hFx⟩ it2 h tk hc2 F N
        cases hr with
        | cons k t hr =>
        obtain ⟨o1, o2, o3, o4, hmk'⟩ := hmk'
        replace F := fr_know6 F q1 q2 q3 q4 q5 q6
        try dsimp only
        k_steps
        · have hb0 : 0 < T.getD (mk + 2 ^ k.toNat).toNat 0 := by assumption
          rw [foldO, if_pos hb0] at hg
          rename (_ < _ ∧ _ < _ ∧ _ < _ ∧ _ < _ ∧ _ < _ ∧ _ < _ ∧ _ < _ ∧ _ < _ ∧ AllLt _ _) => hY8
          rename IntsAre _ ([k] ++ fs) => hI8
          refine endA (by rename Fr _ _ _ _ => F5; with_unfolding_all exact F5) (by rename News _ _ _ _ => N5; with_unfolding_all exact N5) hY8.2.1 (by exact hJ2.2) ⟨⟨.tail _ (.tail _ (.tail _ (.tail _ (.tail _ (.tail _ (List.mem_append_right _ hmem)))))), trivial⟩, _, k :: fs, bs, _, bv, _, 0, nb, mk + 2 ^ k.toNat, _, hr, rfl, rfl, rfl, rfl, rfl, rfl, rfl, hI8, hb, hg, hmk', ?hl1, Nat.ne_of_gt hY8.2.2.2.1, Nat.ne_of_gt hY8.2.1, allLt_ne (by exact hY8.2.2.2.2)⟩
          simp only [List.length_cons] at hlen ⊢
          omega
        · have hb0 : ¬ 0 < T.getD (mk + 2 ^ k.toNat).toNat 0 := by first | assumption | omega
          rw [foldO, if_neg hb0] at hg
          refine endB (by rename Fr _ _ _ _ => F5; with_unfolding_all exact F5) (by rename News _ _ _ _ => N5; with_unfolding_all exact N5) hFJ (by exact hJ2.2) ⟨⟨.tail _ (.tail _ (.tail _ (.tail _ (.tail _ (.tail _ (List.mem_append_right _ hmem)))))), trivial⟩, _, fs, bs ++ [k], fv, bv ++ [.int k t], Fx, nf, nb + 1, mk + 2 ^ k.toNat, _, hr, rfl, rfl, rfl, rfl, rfl, rfl, ?hn2, hf, ints_snoc hb, hg, hmk', ?hl2, hFB, hFJ, hFx⟩
          · rw [List.push_toArray]
          · simp only [List.length_cons, List.length_append, List.length_nil] at hlen ⊢
            omega
      · rintro m nw ⟨ks, fs, bs, fv, bv, Fx, nf, nb, mk, um, hr, q1, q2, q3, q4, q5, q6, rfl, hf, hb, hg, hmk', hlen, hFB, hFJ, hFx⟩ h tk F N
        cases hr
        replace F := fr_know6 F q1 q2 q3 q4 q5 q6
        rw [foldO] at hg
        have hrowE : rowF T [a, b, c, d] = fs ++ bs := by unfold rowF; rw [← hg]
        have haboveE : aboveF T [a, b, c, d] = fs.length := by unfold aboveF; rw [← hg]
        have hlen2 : fv.length + bv.length ≤ 1000 := by
          have e1 := hf.length
          have e2 := hb.length
          simp only [List.length_nil] at hlen
          omega
        have hrow : IntsAre (fv ++ bv) (rowF T [a, b, c, d]) := by rw [hrowE]; exact ints_app hf hb
        obtain ⟨r0, r1, r2, r3, hR4⟩ := hr4 _ (ho _ (.head _))
        have hlen4 : (rowF T [a, b, c, d]).length = 4 := by rw [hR4]; rfl
        have hcr1 := hcr _ (ho _ (.head _))
        rw [haboveE] at hcr1
        have hFx2 : ∀ p ∈ (I, it) :: (R, listOf rv.toArray n1) :: (D, LCg.lst ys) :: (l, listOf ts.toArray n) :: (rt ++ base), p.1 ≠ Fx := hFx
        try dsimp only
        have hFR : @Ne Nat Fx R := Ne.symm (hFx _ (.tail _ (.head _)))
        have hRoff : ∀ p ∈ rt ++ base, p.1 ≠ R := fun p hp => by
          rcases List.mem_append.mp hp with hp' | hp'
          · exact cls_off (q := (R, listOf rv.toArray n1)) N (.tail _ (.tail _ (.tail _ (.tail _ (.tail _ (.tail _ hp)))))) (.tail _ (.tail _ (.tail _ (.head _)))) (by rw [ht _ hp']; exact fun e => absurd (Value.type.inj e) (by decide))
          · exact allLt_ne lR.2.2 p hp'
        have hrvl : rv.length ≤ 1000 := by
          rw [hv.len]
          have := congrArg List.length he
          rw [List.length_append] at this
          have e2 : ((asF 4 0).map (rowF T)).length = 24 := by rw [List.length_map]; rfl
          omega
        k_steps
        · rename crestG _ _ _ _ _ _ ≠ _ => hbad
          exact absurd hcr1 hbad
        · show wpAny _ _ (call (Value.builtin _) [Value.ref _, _]) _ _ _
          rename News _ _ _ _ => N7
          have hTR := cls_off (q := (R, listOf rv.toArray n1)) N7 (.head _) (.tail _ (.tail _ (.tail _ (.tail _ (.tail _ (.head _)))))) (fun e => absurd (Value.type.inj e) (by decide))
          replace hTR : @Ne Nat _ R := hTR
          refine' append_K ?k1 ?k2 ?k3 ?xF ?z
          case k1 => k_asm
          case k2 => k_asm
          case k3 => k_upd
          case z => size_fits
          clear N7
          intro h7 F7 N7
          k_steps
          rw [hR4] at hrow
          obtain ⟨t0, t1, t2, t3, hfv⟩ := ints_four hrow
          refine endO (by rename Fr _ _ _ _ => F5; with_unfolding_all exact F5) (by rename News _ _ _ _ => N5; with_unfolding_all exact N5) (by exact hI2) (by rw [hc]; exact fun e => absurd (Value.type.inj e) (by decide)) rfl ht ⟨⟨.tail _ (.head _), trivial⟩, os, acc ++ [[r0, r1, r2, r3]], rv ++ [.ref ?yT], n1 + 1, ?yd :: rt, hr, rfl, rfl, rfl, ?zn2, ?zcl, ?ztu, ?zeq, fun o' ho' => ho o' (.tail _ ho')⟩
          case zn2 => rw [List.push_toArray]
          case zcl =>
            intro p hp
            rcases List.mem_cons.mp hp with rfl | hp
            · rfl
            · exact ht p hp
          case ztu =>
            refine TupL.snoc (ta := t0) (tb := t1) (tc := t2) (td := t3) ?_ (TupL.mono (fun p hp _ => .tail _ hp) hv)
            rw [hfv]
            exact .head _
          case zeq =>
            rw [← he, List.map_cons, hR4, List.append_assoc]
            rfl
    · rintro m nw ⟨rs, acc, rv, n1, rt, hr, hm1, hm2, hm3, rfl, ht, hv, he, ho⟩ h tk F N
      cases hr
      replace F := fr_know3 F hm1 hm2 hm3
      rw [List.map_nil, List.append_nil] at he
      subst he
      try dsimp only
      k_steps
      show wpAny _ _ (call (Value.builtin "sorted") [Value.ref R]) _ _ _
      rename News _ _ _ _ => N8
      rename Fr _ _ _ _ => F8
      refine sorted_tups (nw := rt ++ base) F8 N8 (News.isList N8 (.head _)) (fun p hp => .tail _ (.tail _ (.tail _ hp))) hv hperm fun D2 h2 c2 vs2 F2 N2 lt2 T2 => ?_
      clear N8 F8
      iterate 1 (first | (k_unfold; (try dsimp only)) | (k_end; wrow_close) | walk1 | (dsimp only; walk1) | (leave1; walk_say "STEP leave1"; try dsimp only) | fail "no step")
      have nwg : ∀ p ∈ rt ++ base, h2.get? p.1 = some p.2 := fun p hp => (N2 p (.tail _ (.tail _ (.tail _ (.tail _ hp))))).1
      refine eq_dataH (reads_list_at (N2 _ (.head _)).1 rfl rfl (tupl_reads nwg T2)) (reads_list_at (N2 _ (.tail _ (.tail _ (.head _)))).1 rfl rfl (tupl_reads nwg (TupL.mono (fun p hp _ => List.mem_append_right _ hp) htu))) ords_shaped ords_shaped (by first | ke_room | ktr_units) ?_
      have eE : (PyData.list ((asF 4 0).map fun o => PyData.tuple (o.map PyData.int))).eqv (PyData.list ((asF 4 0).map fun o => PyData.tuple (o.map PyData.int))) = true := ords_eqv
      rw [eE]
      k_steps
      rename News _ _ _ _ => N9
      refine hret _ [] _ _ ⟨rfl, rfl⟩ (by k_asm) (fun p hp => N9 p ?_)
      rcases List.mem_cons.mp hp with rfl | hp
      · exact .tail _ (.tail _ (.tail _ (.head _)))
      · exact .tail _ (.tail _ (.tail _ (.tail _ (List.mem_append_right _ (hnb p hp)))))

end
section -- part WA
open PySem PySem.W PyProof.Rows
set_option Elab.async false
set_option maxRecDepth 100000
set_option maxHeartbeats 8000000
set_option linter.unusedVariables false
theorem fill_itA : (theK, theRow) = (theK, theRow) := by w_on; k_fill; rfl

local macro_rules | `(tactic| walk_at "exec For Name Name cons nil") => `(tactic| (k_here; (rename Fr _ _ _ _ => lF'); (with_unfolding_all refine' For_turns lF' ?_; k_whole)))
theorem ne_succ {r : List (Addr × Obj)} {L : Addr} (h : ∀ p ∈ r, p.1 < L) : ∀ p ∈ r, p.1 ≠ L + 1 := fun p hp e => by
  have := h p hp
  rw [e] at this
  exact absurd (Nat.lt_of_succ_lt this) (Nat.lt_irrefl _)
theorem unrw5 {h₀ : Heap} {L : Addr} {rest : (Str → Option Value) → List (Addr × Obj) → Prop} {s₁ : Shared} {h' : Heap} {tk : Nat} {m' : Str → Option Value} {D D1 I l1 c l : Addr} {o o1 it o2 oc ol : Obj} {news : List (Addr × Obj)}
    (F : Fr h₀ L h' m') (N : News h₀ L h' ((D, o) :: (D1, o1) :: (I, it) :: (l1, o2) :: (c, oc) :: (l, ol) :: news)) (hD : I < D) (hB : c < I ∧ l < I ∧ AllLt I news)
    (r : rest m' ((D, o) :: (c, oc) :: (l, ol) :: news)) : UnrEndW h₀ L s₁ [(I, it)] rest { s₁ with heap := h', toks := tk } := by
  refine ⟨h', tk, m', _, rfl, F, ?_, ?_, r⟩
  · intro p hp
    simp only [List.cons_append, List.nil_append, List.mem_cons] at hp
    apply N
    simp only [List.mem_cons]
    rcases hp with h | h | h | h | h
    · exact .inr (.inr (.inl h))
    · exact .inl h
    · exact .inr (.inr (.inr (.inr (.inl h))))
    · exact .inr (.inr (.inr (.inr (.inr (.inl h)))))
    · exact .inr (.inr (.inr (.inr (.inr (.inr h)))))
  · intro p hp q hq
    obtain rfl := List.mem_singleton.mp hq
    simp only [List.mem_cons] at hp
    rcases hp with rfl | rfl | rfl | hp
    · exact Nat.ne_of_gt hD
    · exact Nat.ne_of_lt hB.1
    · exact Nat.ne_of_lt hB.2.1
    · exact allLt_ne hB.2.2 p hp
local macro_rules | `(tactic| walk_at "UnrEndW") => `(tactic| ((rename News _ _ _ _ => N5); (rename (_ < _ ∧ _ < _ ∧ _ < _ ∧ _ < _ ∧ _ < _ ∧ AllLt _ _) => hA5); refine unrw5 (by assumption) N5 hA5.2.1 (by assumption) ⟨⟨by k_mem, trivial⟩, ?_⟩; clear N5))
local macro_rules | `(tactic| k_updF) => `(tactic| (refine' UpdF.head ?a; (case a => exact ne_succ (by assumption))))
def sumsF (steps : List Int) : List Int := steps.foldl (fun acc k => acc ++ acc.map fun x => x + k) [0]
theorem news_drop2 {h₀ h : Heap} {L : Addr} {x y : Addr × Obj} {r : List (Addr × Obj)} (N : News h₀ L h (x :: y :: r)) : News h₀ L h (x :: r) := fun p hp => by
  rcases List.mem_cons.mp hp with rfl | hp
  · exact N _ (.head _)
  · exact N _ (.tail _ (.tail _ hp))
theorem sums_c (w : World) (mean : ExcName → Option Value) (mg mb : Str → Option Value) (news : List (Addr × Obj)) (l : Addr) (n : Nat) (a b c d : Int) (t0 t1 t2 t3 : Tok) :
    Cl w mean mg mb 149 ((l, listOf #[.int a t0, .int b t1, .int c t2, .int d t3] n) :: news) [] True [.ref l] 2 (fun v new => ∃ l2 ws n, v = .ref l2 ∧ new = [(l2, listOf ws.toArray n)] ∧ IntsAre ws (sumsF [a, b, c, d])) := by
  dsimp only [Cl, CbLists, RetL]
  intros
  rename_i hret
  refine wpAny_call ?_
  k_dflt (refine' code_defC ?k1 ?k2 ?k3 ?k4 ?k5 ?kA ?kF ?kK ?k6 ?k7 ?k8 ?k9 ?kB ?kD ?_ ?c2 ?c3 ?c4; (case kA => exact rfl); (case kF => exact rfl); (case kK => first | exact rfl | assumption); (case k1 => k_asm); (case k2 => k_asm); (case k3 => k_asm); (case k4 => k_asm); (case k5 => k_asm); (case k6 => k_is); (case k7 => k_is); (case k8 => ktr_room); (case k9 => exact BindsTo.of_eq rfl); (case kB => exact rfl); (case kD => decide +kernel); (case c2 => exact rfl); (case c3 => exact rfl); (case c4 => exact rfl); k_whole; intro g' L' h' tk' cells' FG' F' N' Y' B' X' T' l1; have lE := l1; (try k_lt l1); k_cells Y'; (try simp only [List.cons_append, List.nil_append] at N'); (try dsimp only); (try k_lift B'); (try k_fold))
  iterate 12 (first | (k_unfold; (try dsimp only)) | (k_end; wrow_close) | walk1 | (dsimp only; walk1) | (leave1; walk_say "STEP leave1"; try dsimp only) | fail "no step")
  rename Fr _ _ _ _ => lF'
  rename News _ _ _ _ => N0
  refine iter_listTurns (lo := listOf #[.int a t0, .int b t1, .int c t2, .int d t3] n) (vs := [.int a t0, .int b t1, .int c t2, .int d t3]) (by rfl) lF' N0 (by k_mem) (by rfl) (by rfl) ?_
  clear lF'
  intro i' l1
  have lI := l1
  (try k_lt l1)
  have l2 := l1.2
  (with_unfolding_all refine ItemsRest.val (fun h' tk' F' => ?_)); ktu_objs
  iterate 104 (first | (k_unfold; (try dsimp only)) | (k_end; wrow_close) | walk1 | (dsimp only; walk1) | (leave1; walk_say "STEP leave1"; try dsimp only) | fail "no step")
  rename News _ _ _ _ => N9
  rename IntsAre _ _ => I9
  refine hret _ [(_, _)] _ _ ⟨_, _, _, rfl, rfl, I9⟩ (by k_asm) (news_drop2 N9)

end
section -- part WY
open PySem PySem.W PyProof.Rows
set_option Elab.async false
set_option maxRecDepth 100000
set_option maxHeartbeats 4000000
set_option linter.unusedVariables false
def crestS : List Int → Int → Int → Int → Int → Int
  | [], _, _, _, c => c
  | y :: ys, j, s, b, c => if b < s + y then crestS ys (j + 1) (s + y) (s + y) (j + 1) else crestS ys (j + 1) (s + y) b c
def foldS : List Int → List Int → List Int → Int → List Int × List Int
  | [], f, b, _ => (f, b)
  | y :: ys, f, b, s => if 0 < s + y then foldS ys (y :: f) b (s + y) else foldS ys f (b ++ [y]) (s + y)
def sumL : List Int → Int
  | [] => 0
  | y :: ys => y + sumL ys
/-- every proper beginning stays under t -/
def PF (t : Int) : List Int → Int → Prop
  | [], _ => True
  | y :: ys, a => a < t ∧ PF t ys (a + y)
/-- every beginning stays at nought or under -/
def PB : List Int → Int → Prop
  | [], _ => True
  | z :: zs, a => a + z ≤ 0 ∧ PB zs (a + z)
theorem PF_shift (t y : Int) : ∀ (f : List Int) (a : Int), PF t f a → PF (y + t) f (y + a)
  | [], _, _ => trivial
  | x :: xs, a, h => ⟨by have := h.1; omega, by
    have := PF_shift t y xs (a + x) h.2
    rw [← Int.add_assoc] at this
    exact this⟩
theorem PB_snoc : ∀ (b : List Int) (a y : Int), PB b a → a + sumL b + y ≤ 0 → PB (b ++ [y]) a
  | [], a, y, _, h => ⟨by simp only [sumL] at h; omega, trivial⟩
  | x :: xs, a, y, h, hy => ⟨h.1, PB_snoc xs (a + x) y h.2 (by simp only [sumL] at hy; omega)⟩
theorem PB_sum : ∀ (b : List Int) (a : Int), PB b a → a ≤ 0 → a + sumL b ≤ 0
  | [], a, _, h => by simp only [sumL]; omega
  | x :: xs, a, h, _ => by
    have := PB_sum xs (a + x) h.2 h.1
    simp only [sumL]
    omega
theorem sumL_snoc : ∀ (b : List Int) (y : Int), sumL (b ++ [y]) = sumL b + y
  | [], y => by simp only [List.nil_append, sumL]; omega
  | x :: xs, y => by
    have := sumL_snoc xs y
    simp only [List.cons_append, sumL]
    omega
theorem crest_front (zs : List Int) : ∀ (f : List Int) (j s b c t : Int), f ≠ [] → t = s + sumL f → b < t → PF t f s → crestS (f ++ zs) j s b c = crestS zs (j + f.length) t t (j + f.length)
  | [], _, _, _, _, _, h, _, _, _ => absurd rfl h
  | [y], j, s, b, c, t, _, ht, hb, _ => by
    simp only [sumL] at ht
    have e : s + y = t := by omega
    show (if b < s + y then _ else _) = _
    rw [e, if_pos hb]
    rfl
  | y :: y2 :: ys, j, s, b, c, t, _, ht, hb, hp => by
    have h2 : s + y < t := hp.2.1
    have ht2 : t = (s + y) + sumL (y2 :: ys) := by
      rw [ht]
      show s + (y + sumL (y2 :: ys)) = _
      omega
    have el : j + ((y :: y2 :: ys).length : Int) = (j + 1) + ((y2 :: ys).length : Int) := by
      simp only [List.length_cons]
      omega
    rw [el]
    show (if b < s + y then crestS ((y2 :: ys) ++ zs) (j + 1) (s + y) (s + y) (j + 1) else crestS ((y2 :: ys) ++ zs) (j + 1) (s + y) b c) = _
    split
    · exact crest_front zs (y2 :: ys) _ _ _ _ _ (List.cons_ne_nil _ _) ht2 h2 hp.2
    · exact crest_front zs (y2 :: ys) _ _ _ _ _ (List.cons_ne_nil _ _) ht2 hb hp.2
theorem crest_back : ∀ (z : List Int) (j a t c : Int), PB z a → crestS z j (t + a) t c = c
  | [], _, _, _, _, _ => rfl
  | x :: xs, j, a, t, c, h => by
    show (if t < t + a + x then _ else _) = _
    rw [if_neg (by have := h.1; omega), Int.add_assoc]
    exact crest_back xs _ _ _ _ h.2
theorem fold_inv : ∀ (ys f b : List Int) (s : Int), s = sumL f + sumL b → PF (sumL f) f 0 → PB b 0 → 0 ≤ sumL f → (∃ f' b', foldS ys f b s = (f', b') ∧ PF (sumL f') f' 0 ∧ PB b' 0)
  | [], f, b, s, _, hf, hb, _ => ⟨f, b, rfl, hf, hb⟩
  | y :: ys, f, b, s, hs, hf, hb, h0 => by
    show ∃ f' b', (if 0 < s + y then foldS ys (y :: f) b (s + y) else foldS ys f (b ++ [y]) (s + y)) = (f', b') ∧ _
    have hB := PB_sum b 0 hb (Int.le_refl 0)
    by_cases h : 0 < s + y
    · rw [if_pos h]
      refine fold_inv ys (y :: f) b (s + y) (by simp only [sumL]; omega) ⟨by simp only [sumL]; omega, ?_⟩ hb (by simp only [sumL]; omega)
      have := PF_shift (sumL f) y f 0 hf
      rw [Int.add_zero] at this
      rw [Int.zero_add]
      exact this
    · rw [if_neg h]
      exact fold_inv ys f (b ++ [y]) (s + y) (by rw [sumL_snoc]; omega) hf (PB_snoc b 0 y hb (by omega)) h0
theorem crest_pure (ys : List Int) : crestS ((foldS ys [] [] 0).1 ++ (foldS ys [] [] 0).2) 0 0 0 0 = (foldS ys [] [] 0).1.length := by
  obtain ⟨f, b, e, hf, hb⟩ := fold_inv ys [] [] 0 rfl trivial trivial (Int.le_refl 0)
  rw [e]
  show crestS (f ++ b) 0 0 0 0 = f.length
  by_cases hn : f = []
  · subst hn
    exact crest_back b 0 0 0 0 hb
  · have hp : 0 < sumL f := by
      cases f with
      | nil => exact absurd rfl hn
      | cons x xs => exact hf.1
    rw [crest_front b f 0 0 0 0 (sumL f) hn (Int.zero_add _).symm hp hf, Int.zero_add]
    have := crest_back b (f.length : Int) 0 (sumL f) (f.length : Int) hb
    rw [Int.add_zero] at this
    exact this
/-- every step of a list of places adds the place's value -/
def stepOk (T : List Int) (xv : Int → Int) : List Int → Int → Prop
  | [], _ => True
  | k :: ks, mk => T.getD (mk + 2 ^ k.toNat).toNat 0 = T.getD mk.toNat 0 + xv k ∧ stepOk T xv ks (mk + 2 ^ k.toNat)
theorem fold_link (T : List Int) (xv : Int → Int) : ∀ (o f b : List Int) (mk : Int), stepOk T xv o mk → (foldO T o f b mk).1.map xv = (foldS (o.map xv) (f.map xv) (b.map xv) (T.getD mk.toNat 0)).1 ∧ (foldO T o f b mk).2.map xv = (foldS (o.map xv) (f.map xv) (b.map xv) (T.getD mk.toNat 0)).2
  | [], f, b, mk, _ => ⟨rfl, rfl⟩
  | k :: ks, f, b, mk, h => by
    obtain ⟨h1, h2⟩ := h
    have ih := fun f b => fold_link T xv ks f b _ h2
    simp only [foldO, List.map_cons, foldS, ← h1]
    split
    · exact ih (k :: f) b
    · have := ih f (b ++ [k])
      rw [List.map_append] at this
      exact this
theorem crest_link (T : List Int) (xv : Int → Int) : ∀ (r : List Int) (j mk b c : Int), stepOk T xv r mk → crestG T r j mk b c = crestS (r.map xv) j (T.getD mk.toNat 0) b c
  | [], _, _, _, _, _ => rfl
  | k :: ks, j, mk, b, c, h => by
    obtain ⟨h1, h2⟩ := h
    simp only [crestG, List.map_cons, crestS, ← h1]
    split
    · exact crest_link T xv ks _ _ _ _ h2
    · exact crest_link T xv ks _ _ _ _ h2
theorem crest_above {T : List Int} {xv : Int → Int} {o : List Int} (ho : ∃ a b c d, o = [a, b, c, d]) (h0 : T.getD 0 0 = 0) (h1 : stepOk T xv o 0) (h2 : stepOk T xv (rowF T o) 0) : crestG T (rowF T o) 0 0 0 0 = aboveF T o := by
  obtain ⟨a, b, c, d, rfl⟩ := ho
  have e0 : T.getD (0 : Int).toNat 0 = 0 := h0
  rw [crest_link T xv _ _ _ _ _ h2, e0]
  obtain ⟨l1, l2⟩ := fold_link T xv [a, b, c, d] [] [] 0 h1
  rw [e0] at l1 l2
  unfold rowF aboveF
  rw [List.map_append, l1, l2, ← List.length_map (f := xv), l1]
  exact crest_pure _
/-- the same with the signs alone -/
def foldQ : List Int → List Bool → List Int → List Int → List Int × List Int
  | k :: ks, true :: bs, f, b => foldQ ks bs (k :: f) b
  | k :: ks, false :: bs, f, b => foldQ ks bs f (b ++ [k])
  | _, _, f, b => (f, b)
def bitsOf (T : List Int) : List Int → Int → List Bool
  | [], _ => []
  | k :: ks, mk => decide (0 < T.getD (mk + 2 ^ k.toNat).toNat 0) :: bitsOf T ks (mk + 2 ^ k.toNat)
theorem fold_bits (T : List Int) : ∀ (o f b : List Int) (mk : Int), foldO T o f b mk = foldQ o (bitsOf T o mk) f b
  | [], _, _, _ => rfl
  | k :: ks, f, b, mk => by
    simp only [foldO, bitsOf]
    split
    · rename_i h
      rw [decide_eq_true h]
      exact fold_bits T ks _ _ _
    · rename_i h
      rw [decide_eq_false h]
      exact fold_bits T ks _ _ _
def rowOk (o : List Int) (bs : List Bool) : Bool := (asF 4 0).contains ((foldQ o bs [] []).1 ++ (foldQ o bs [] []).2)
def bools : List Bool := [true, false]
theorem rows_ok : ((asF 4 0).all fun o => bools.all fun b1 => bools.all fun b2 => bools.all fun b3 => bools.all fun b4 => rowOk o [b1, b2, b3, b4]) = true := by decide +kernel
theorem bool_mem (b : Bool) : b ∈ bools := by cases b <;> decide
theorem row_mem (T : List Int) {o : List Int} (ho : o ∈ asF 4 0) : rowF T o ∈ asF 4 0 := by
  obtain ⟨a, b, c, d, rfl, _⟩ := okO_form (List.all_eq_true.mp ords_ok o ho)
  have h := List.all_eq_true.mp rows_ok _ ho
  have h1 := List.all_eq_true.mp h _ (bool_mem (decide (0 < T.getD ((0 : Int) + 2 ^ a.toNat).toNat 0)))
  have h2 := List.all_eq_true.mp h1 _ (bool_mem (decide (0 < T.getD ((0 : Int) + 2 ^ a.toNat + 2 ^ b.toNat).toNat 0)))
  have h3 := List.all_eq_true.mp h2 _ (bool_mem (decide (0 < T.getD ((0 : Int) + 2 ^ a.toNat + 2 ^ b.toNat + 2 ^ c.toNat).toNat 0)))
  have h4 := List.all_eq_true.mp h3 _ (bool_mem (decide (0 < T.getD ((0 : Int) + 2 ^ a.toNat + 2 ^ b.toNat + 2 ^ c.toNat + 2 ^ d.toNat).toNat 0)))
  unfold rowF
  rw [fold_bits]
  exact List.contains_iff_mem.mp h4
theorem nodup_perm : ∀ {l₁ l₂ : List (List Int)}, l₁.Nodup → (∀ x ∈ l₁, x ∈ l₂) → l₂.length ≤ l₁.length → l₁.Perm l₂
  | [], l₂, _, _, h => by
    rw [List.eq_nil_of_length_eq_zero (Nat.le_zero.mp h)]
  | a :: l, l₂, hn, hs, hl => by
    have ha := hs a (.head _)
    obtain ⟨hn1, hn2⟩ := List.nodup_cons.mp hn
    have hlen := List.length_erase_of_mem ha
    refine (List.Perm.cons a (nodup_perm hn2 (fun x hx => ?_) ?_)).trans (List.perm_cons_erase ha).symm
    · exact (List.mem_erase_of_ne (fun e : x = a => hn1 (by rw [← e]; exact hx))).mpr (hs x (.tail _ hx))
    · rw [hlen]
      simp only [List.length_cons] at hl
      omega
def sum15 (o : List Int) : Bool := match o with
  | [a, b, c, d] => (0 : Int) + 2 ^ a.toNat + 2 ^ b.toNat + 2 ^ c.toNat + 2 ^ d.toNat == 15
  | _ => false
theorem ords_15 : (asF 4 0).all sum15 = true := by decide +kernel
theorem ords_nodup0 : (asF 4 0).Nodup := by decide +kernel
def insR (T : List Int) (m k : Int) (x : List Int) : List Int := if 0 < T.getD m.toNat 0 then k :: x else x ++ [k]
theorem ins_inj {T : List Int} {m m' k k' : Int} {x x' : List Int} (hm : m = m') (hx : x.length = x'.length) (h : insR T m k x = insR T m' k' x') : k = k' ∧ x = x' := by
  subst hm
  unfold insR at h
  by_cases c : 0 < T.getD m.toNat 0
  · rw [if_pos c, if_pos c] at h
    injection h with h1 h2
    exact ⟨h1, h2⟩
  · rw [if_neg c, if_neg c] at h
    obtain ⟨h1, h2⟩ := List.append_inj h hx
    injection h2 with h2 _
    exact ⟨h2, h1⟩
theorem ins_len {T : List Int} {m k : Int} {x : List Int} : (insR T m k x).length = x.length + 1 := by
  unfold insR
  split
  · rfl
  · rw [List.length_append]; rfl
theorem row_ins (T : List Int) (a b c d : Int) : rowF T [a, b, c, d] = insR T ((0 : Int) + 2 ^ a.toNat + 2 ^ b.toNat + 2 ^ c.toNat + 2 ^ d.toNat) d (insR T ((0 : Int) + 2 ^ a.toNat + 2 ^ b.toNat + 2 ^ c.toNat) c (insR T ((0 : Int) + 2 ^ a.toNat + 2 ^ b.toNat) b [a])) := by
  unfold rowF insR
  simp only [foldO]
  by_cases h1 : 0 < T.getD ((0 : Int) + 2 ^ a.toNat).toNat 0 <;> by_cases h2 : 0 < T.getD ((0 : Int) + 2 ^ a.toNat + 2 ^ b.toNat).toNat 0 <;> by_cases h3 : 0 < T.getD ((0 : Int) + 2 ^ a.toNat + 2 ^ b.toNat + 2 ^ c.toNat).toNat 0 <;> by_cases h4 : 0 < T.getD ((0 : Int) + 2 ^ a.toNat + 2 ^ b.toNat + 2 ^ c.toNat + 2 ^ d.toNat).toNat 0 <;>
    simp only [h1, h2, h3, h4, if_true, if_false, List.nil_append, List.cons_append, List.append_nil, List.append_assoc]
theorem row_inj (T : List Int) {o o' : List Int} (ho : o ∈ asF 4 0) (ho' : o' ∈ asF 4 0) (h : rowF T o = rowF T o') : o = o' := by
  obtain ⟨a, b, c, d, rfl, _⟩ := okO_form (List.all_eq_true.mp ords_ok o ho)
  obtain ⟨a', b', c', d', rfl, _⟩ := okO_form (List.all_eq_true.mp ords_ok o' ho')
  have s1 : (0 : Int) + 2 ^ a.toNat + 2 ^ b.toNat + 2 ^ c.toNat + 2 ^ d.toNat = 15 := eq_of_beq (List.all_eq_true.mp ords_15 _ ho)
  have s2 : (0 : Int) + 2 ^ a'.toNat + 2 ^ b'.toNat + 2 ^ c'.toNat + 2 ^ d'.toNat = 15 := eq_of_beq (List.all_eq_true.mp ords_15 _ ho')
  rw [row_ins, row_ins] at h
  obtain ⟨e4, g4⟩ := ins_inj (s1.trans s2.symm) (by simp only [ins_len, List.length_cons, List.length_nil]) h
  subst e4
  obtain ⟨e3, g3⟩ := ins_inj (by omega) (by simp only [ins_len, List.length_cons, List.length_nil]) g4
  subst e3
  obtain ⟨e2, g2⟩ := ins_inj (by omega) (by simp only [List.length_cons, List.length_nil]) g3
  subst e2
  injection g2 with g1 _
  rw [g1]
theorem rows_perm (T : List Int) : ((asF 4 0).map (rowF T)).Perm (asF 4 0) := by
  refine nodup_perm ?_ (fun x hx => ?_) (by rw [List.length_map]; exact Nat.le_refl _)
  · have key : ∀ l : List (List Int), l.Nodup → (∀ o ∈ l, o ∈ asF 4 0) → (l.map (rowF T)).Nodup := by
      intro l
      induction l with
      | nil => intro _ _; exact List.nodup_nil
      | cons o l ih =>
        intro hn hs
        obtain ⟨h1, h2⟩ := List.nodup_cons.mp hn
        rw [List.map_cons]
        refine List.nodup_cons.mpr ⟨fun hm => ?_, ih h2 fun x hx => hs x (.tail _ hx)⟩
        obtain ⟨o', ho', e⟩ := List.mem_map.mp hm
        exact h1 (row_inj T (hs o (.head _)) (hs o' (.tail _ ho')) e.symm ▸ ho')
    exact key _ ords_nodup0 fun o ho => ho
  · obtain ⟨o, ho, rfl⟩ := List.mem_map.mp hx
    exact row_mem T ho
def maskB : List Int → Int → Bool
  | [], _ => true
  | r :: rs, mk => decide (0 ≤ r) && decide (r < 4) && decide (0 ≤ mk + 2 ^ r.toNat) && decide (mk + 2 ^ r.toNat < 16) && maskB rs (mk + 2 ^ r.toNat)
theorem mask_of : ∀ (r : List Int) (mk : Int), maskB r mk = true → maskOk r mk
  | [], _, _ => trivial
  | r :: rs, mk, h => by
    simp only [maskB, Bool.and_eq_true, decide_eq_true_eq] at h
    obtain ⟨⟨⟨⟨h1, h2⟩, h3⟩, h4⟩, h5⟩ := h
    exact ⟨h1, h2, h3, h4, mask_of rs _ h5⟩
theorem ords_mask : ((asF 4 0).all fun o => maskB o 0) = true := by decide +kernel
theorem mask_all {o : List Int} (ho : o ∈ asF 4 0) : maskOk o 0 := mask_of o 0 (List.all_eq_true.mp ords_mask o ho)
/-- the sums of four steps -/
def xvF (x0 x1 x2 x3 : Int) (k : Int) : Int := if k = 0 then x0 else if k = 1 then x1 else if k = 2 then x2 else x3
def sum16 (x0 x1 x2 x3 : Int) : List Int := [0, x0, x1, x0 + x1, x2, x0 + x2, x1 + x2, x0 + x1 + x2, x3, x0 + x3, x1 + x3, x0 + x1 + x3, x2 + x3, x0 + x2 + x3, x1 + x2 + x3, x0 + x1 + x2 + x3]
theorem sums_16 (x0 x1 x2 x3 : Int) : sumsF [x0, x1, x2, x3] = sum16 x0 x1 x2 x3 := by
  show [0, 0 + x0, 0 + x1, 0 + x0 + x1, 0 + x2, 0 + x0 + x2, 0 + x1 + x2, 0 + x0 + x1 + x2, 0 + x3, 0 + x0 + x3, 0 + x1 + x3, 0 + x0 + x1 + x3, 0 + x2 + x3, 0 + x0 + x2 + x3, 0 + x1 + x2 + x3, 0 + x0 + x1 + x2 + x3] = _
  simp only [Int.zero_add]
  rfl
/-- the value of a mask as a number of each place -/
def bitV (m : Int) (i : Nat) : Int := m / 2 ^ i % 2
def stepB : List Int → Int → Bool
  | [], _ => true
  | k :: ks, mk => decide (0 ≤ mk) && decide (mk + 2 ^ k.toNat < 16) && decide (0 ≤ k) && decide (k < 4) && (bitV (mk + 2 ^ k.toNat) 0 == bitV mk 0 + (if k = 0 then 1 else 0)) && (bitV (mk + 2 ^ k.toNat) 1 == bitV mk 1 + (if k = 1 then 1 else 0)) && (bitV (mk + 2 ^ k.toNat) 2 == bitV mk 2 + (if k = 2 then 1 else 0)) && (bitV (mk + 2 ^ k.toNat) 3 == bitV mk 3 + (if k = 3 then 1 else 0)) && stepB ks (mk + 2 ^ k.toNat)
theorem ords_step : ((asF 4 0).all fun o => stepB o 0) = true := by decide +kernel
theorem sum16_bits (x0 x1 x2 x3 : Int) : ∀ m : Nat, m < 16 → (sum16 x0 x1 x2 x3).getD m 0 = bitV m 0 * x0 + bitV m 1 * x1 + bitV m 2 * x2 + bitV m 3 * x3 := by
  intro m hm
  match m, hm with
  | 0, _ => show (0 : Int) = 0 * x0 + 0 * x1 + 0 * x2 + 0 * x3; simp only [Int.one_mul, Int.zero_mul, Int.add_zero, Int.zero_add]
  | 1, _ => show x0 = 1 * x0 + 0 * x1 + 0 * x2 + 0 * x3; simp only [Int.one_mul, Int.zero_mul, Int.add_zero, Int.zero_add]
  | 2, _ => show x1 = 0 * x0 + 1 * x1 + 0 * x2 + 0 * x3; simp only [Int.one_mul, Int.zero_mul, Int.add_zero, Int.zero_add]
  | 3, _ => show x0 + x1 = 1 * x0 + 1 * x1 + 0 * x2 + 0 * x3; simp only [Int.one_mul, Int.zero_mul, Int.add_zero, Int.zero_add]
  | 4, _ => show x2 = 0 * x0 + 0 * x1 + 1 * x2 + 0 * x3; simp only [Int.one_mul, Int.zero_mul, Int.add_zero, Int.zero_add]
  | 5, _ => show x0 + x2 = 1 * x0 + 0 * x1 + 1 * x2 + 0 * x3; simp only [Int.one_mul, Int.zero_mul, Int.add_zero, Int.zero_add]
  | 6, _ => show x1 + x2 = 0 * x0 + 1 * x1 + 1 * x2 + 0 * x3; simp only [Int.one_mul, Int.zero_mul, Int.add_zero, Int.zero_add]
  | 7, _ => show x0 + x1 + x2 = 1 * x0 + 1 * x1 + 1 * x2 + 0 * x3; simp only [Int.one_mul, Int.zero_mul, Int.add_zero, Int.zero_add]
  | 8, _ => show x3 = 0 * x0 + 0 * x1 + 0 * x2 + 1 * x3; simp only [Int.one_mul, Int.zero_mul, Int.add_zero, Int.zero_add]
  | 9, _ => show x0 + x3 = 1 * x0 + 0 * x1 + 0 * x2 + 1 * x3; simp only [Int.one_mul, Int.zero_mul, Int.add_zero, Int.zero_add]
  | 10, _ => show x1 + x3 = 0 * x0 + 1 * x1 + 0 * x2 + 1 * x3; simp only [Int.one_mul, Int.zero_mul, Int.add_zero, Int.zero_add]
  | 11, _ => show x0 + x1 + x3 = 1 * x0 + 1 * x1 + 0 * x2 + 1 * x3; simp only [Int.one_mul, Int.zero_mul, Int.add_zero, Int.zero_add]
  | 12, _ => show x2 + x3 = 0 * x0 + 0 * x1 + 1 * x2 + 1 * x3; simp only [Int.one_mul, Int.zero_mul, Int.add_zero, Int.zero_add]
  | 13, _ => show x0 + x2 + x3 = 1 * x0 + 0 * x1 + 1 * x2 + 1 * x3; simp only [Int.one_mul, Int.zero_mul, Int.add_zero, Int.zero_add]
  | 14, _ => show x1 + x2 + x3 = 0 * x0 + 1 * x1 + 1 * x2 + 1 * x3; simp only [Int.one_mul, Int.zero_mul, Int.add_zero, Int.zero_add]
  | 15, _ => show x0 + x1 + x2 + x3 = 1 * x0 + 1 * x1 + 1 * x2 + 1 * x3; simp only [Int.one_mul, Int.zero_mul, Int.add_zero, Int.zero_add]
  | n + 16, h => exact absurd h (by omega)
theorem step_of (x0 x1 x2 x3 : Int) : ∀ (o : List Int) (mk : Int), stepB o mk = true → stepOk (sum16 x0 x1 x2 x3) (xvF x0 x1 x2 x3) o mk
  | [], _, _ => trivial
  | k :: ks, mk, h => by
    simp only [stepB, Bool.and_eq_true, decide_eq_true_eq, beq_iff_eq] at h
    obtain ⟨⟨⟨⟨⟨⟨⟨⟨h1, h2⟩, h3⟩, h4⟩, b0⟩, b1⟩, b2⟩, b3⟩, hr⟩ := h
    refine ⟨?_, step_of x0 x1 x2 x3 ks _ hr⟩
    have hp : (0 : Int) < 2 ^ k.toNat := Int.pow_pos (by decide)
    have e1 : ((mk.toNat : Nat) : Int) = mk := Int.toNat_of_nonneg h1
    have e2 : (((mk + 2 ^ k.toNat).toNat : Nat) : Int) = mk + 2 ^ k.toNat := Int.toNat_of_nonneg (by omega)
    rw [sum16_bits _ _ _ _ _ (by omega), sum16_bits _ _ _ _ _ (by omega), e1, e2, b0, b1, b2, b3]
    unfold xvF
    have hk : k = 0 ∨ k = 1 ∨ k = 2 ∨ k = 3 := by omega
    rcases hk with rfl | rfl | rfl | rfl
    · simp [Int.add_mul]; omega
    · simp [Int.add_mul]; omega
    · simp [Int.add_mul]; omega
    · simp [Int.add_mul]; omega
theorem row_pre (x0 x1 x2 x3 : Int) : (sum16 x0 x1 x2 x3).length = 16 ∧ (∀ o ∈ asF 4 0, maskOk o 0 ∧ maskOk (rowF (sum16 x0 x1 x2 x3) o) 0) ∧ (∀ o ∈ asF 4 0, ∃ r0 r1 r2 r3, rowF (sum16 x0 x1 x2 x3) o = [r0, r1, r2, r3]) ∧ (∀ o ∈ asF 4 0, crestG (sum16 x0 x1 x2 x3) (rowF (sum16 x0 x1 x2 x3) o) 0 0 0 0 = aboveF (sum16 x0 x1 x2 x3) o) ∧ ((asF 4 0).map (rowF (sum16 x0 x1 x2 x3))).Perm (asF 4 0) := by
  have form : ∀ {o : List Int}, o ∈ asF 4 0 → ∃ a b c d, o = [a, b, c, d] := fun ho => by
    obtain ⟨a, b, c, d, e, _⟩ := okO_form (List.all_eq_true.mp ords_ok _ ho)
    exact ⟨a, b, c, d, e⟩
  have st : ∀ {o : List Int}, o ∈ asF 4 0 → stepOk (sum16 x0 x1 x2 x3) (xvF x0 x1 x2 x3) o 0 := fun ho => step_of _ _ _ _ _ 0 (List.all_eq_true.mp ords_step _ ho)
  exact ⟨rfl, fun o ho => ⟨mask_all ho, mask_all (row_mem _ ho)⟩, fun o ho => form (row_mem _ ho), fun o ho => crest_above (form ho) rfl (st ho) (st (row_mem _ ho)), rows_perm _⟩

end
section -- part W5h
open PySem PySem.W PyProof.Rows
set_option Elab.async false
set_option maxRecDepth 100000
set_option maxHeartbeats 8000000
set_option linter.unusedVariables false
open Mine
theorem fill_it5 : (theK, theRow) = (theK, theRow) := by w_on; k_fill; rfl

theorem numbers_use {w : World} {mean : ExcName → Option Value} {mg mb : Str → Option Value} {news : List (Addr × Obj)} {l : Addr} {vs : List Value} {ns : List Int} {dp un : Nat} {gd : Option (List Code)} {cn : Str} {cs : Scope} {a' : Addr} {ccd : Value} {cl : List (Str × Addr)} {outer : List Env} {A₀ : Around} {base h₀ : Heap} {L : Addr} {m : Str → Option Value} {s : Shared} {Q E : Value → Shared → Prop}
    (h : ∀ l' a b c d e t0 t1 t2 t3 t4 h' tk', 0 ≤ a → a < 1000000 → 0 ≤ b → b < 1000000 → 0 ≤ c → c < 1000000 → 0 ≤ d → d < 1000000 → 0 ≤ e → e < 1000000 → Fr h₀ L h' m → News h₀ L h' ((l', listOf #[.int a t0, .int b t1, .int c t2, .int d t3, .int e t4] 0) :: news) → Q (.ref l') { s with heap := h', toks := tk' })
    (k1 : Below A₀ base outer h₀ := by k_asm) (k2 : Fr h₀ L s.heap m := by k_asm) (k3 : (theK w.params).In h₀ := by k_asm) (k4 : News h₀ L s.heap (news) := by k_asm) (k5 : Top theQ (looseW theQ theLoose) mean mg mb h₀ := by k_asm) (kK : cs.kind = .function := by first | exact rfl | assumption)
    (k7 : base.IsList l vs.toArray := by k_asm) (k8 : IntsAre vs ns := by l_ints) (k9 : ns.length < 2 ^ 62 := by omega) (kp : ns.length ≤ 16777216 := by first | trivial | omega) (kd : dp + 2 < recursionLimit := by ktr_room) (ku : un + 8 * 2 < cLine := by ktr_units) :
    wpAny (model theProg w) (ktrTop dp un gd cn cs L a' ccd cl outer) (call (.ref 125) [.ref l]) Q E s :=
  numbers_d w mean mg mb news l vs ns dp un gd cn cs a' ccd cl outer A₀ base h₀ L m s Q E k1 k2 k3 k4 k5 kK k7 k8 k9 kp kd ku fun v new h' tk' hr F N => by
    obtain ⟨l', a, b, c, d, e, t0, t1, t2, t3, t4, hv, hn, hr⟩ := hr
    subst hv hn
    exact h l' a b c d e t0 t1 t2 t3 t4 h' tk' hr.1.1 hr.1.2 hr.2.1.1 hr.2.1.2 hr.2.2.1.1 hr.2.2.1.2 hr.2.2.2.1.1 hr.2.2.2.1.2 hr.2.2.2.2.1 hr.2.2.2.2.2 F N
local macro_rules | `(tactic| walk_at "call ref") => `(tactic| (k_here; k_dflt (refine numbers_use ?_); intro l9 na nb nc nd ne t0 t1 t2 t3 t4 h9 tk9 a0 a1 b0 b1 c0 c1 d0 d1 e0 e1 F9 N9; (try dsimp only)))
theorem spelled_use {w : World} {mean : ExcName → Option Value} {mg mb : Str → Option Value} {news : List (Addr × Obj)} {v : Int} {tv : Tok} {dp un : Nat} {gd : Option (List Code)} {cn : Str} {cs : Scope} {a' : Addr} {ccd : Value} {cl : List (Str × Addr)} {outer : List Env} {A₀ : Around} {base h₀ : Heap} {L : Addr} {m : Str → Option Value} {s : Shared} {Q E : Value → Shared → Prop}
    (h : ∀ t h' tk', Fr h₀ L h' m → News h₀ L h' (news) → Q (.str (spellF v) t) { s with heap := h', toks := tk' })
    (k1 : Below A₀ base outer h₀ := by k_asm) (k2 : Fr h₀ L s.heap m := by k_asm) (k3 : (theK w.params).In h₀ := by k_asm) (k4 : News h₀ L s.heap (news) := by k_asm) (k5 : Top theQ (looseW theQ theLoose) mean mg mb h₀ := by k_asm) (kK : cs.kind = .function := by first | exact rfl | assumption)
     (p1 : 0 ≤ v := by first | assumption | omega) (p2 : v < 1000000 := by first | assumption | omega) (kd : dp + 1 < recursionLimit := by ktr_room) (ku : un + 8 < cLine := by ktr_units) :
    wpAny (model theProg w) (ktrTop dp un gd cn cs L a' ccd cl outer) (call (.ref 132) [.int v tv]) Q E s :=
  spelled_c w mean mg mb news v tv dp un gd cn cs a' ccd cl outer A₀ base h₀ L m s Q E k1 k2 k3 k4 k5 kK  ⟨p1, p2⟩ kd ku h
local macro_rules | `(tactic| walk_at "call ref") => `(tactic| (k_here; k_dflt (refine spelled_use ?_); intro t9 h9 tk9 F9 N9; (try dsimp only)))
theorem step_use {w : World} {mean : ExcName → Option Value} {mg mb : Str → Option Value} {news : List (Addr × Obj)} {v : Int} {tv : Tok} {dp un : Nat} {gd : Option (List Code)} {cn : Str} {cs : Scope} {a' : Addr} {ccd : Value} {cl : List (Str × Addr)} {outer : List Env} {A₀ : Around} {base h₀ : Heap} {L : Addr} {m : Str → Option Value} {s : Shared} {Q E : Value → Shared → Prop}
    (h : ∀ t h' tk', Fr h₀ L h' m → News h₀ L h' (news) → Q (.int (stepF v) t) { s with heap := h', toks := tk' })
    (k1 : Below A₀ base outer h₀ := by k_asm) (k2 : Fr h₀ L s.heap m := by k_asm) (k3 : (theK w.params).In h₀ := by k_asm) (k4 : News h₀ L s.heap (news) := by k_asm) (k5 : Top theQ (looseW theQ theLoose) mean mg mb h₀ := by k_asm) (kK : cs.kind = .function := by first | exact rfl | assumption)
     (p1 : 0 ≤ v := by first | assumption | omega) (kd : dp + 1 < recursionLimit := by ktr_room) (ku : un + 8 < cLine := by ktr_units) :
    wpAny (model theProg w) (ktrTop dp un gd cn cs L a' ccd cl outer) (call (.ref 139) [.int v tv]) Q E s :=
  step_c w mean mg mb news v tv dp un gd cn cs a' ccd cl outer A₀ base h₀ L m s Q E k1 k2 k3 k4 k5 kK  p1 kd ku h
local macro_rules | `(tactic| walk_at "call ref") => `(tactic| (k_here; k_dflt (refine step_use ?_); intro t9 h9 tk9 F9 N9; (try dsimp only)))
local macro_rules | `(tactic| walk_at "call builtin:str.join") => `(tactic| (k_here; (with_reducible show wpAny _ _ (call (Value.builtin _) [Value.str _ _, Value.ref _]) _ _ _); k_dflt (refine join_listW (ys := [spellF _, spellF _, spellF _, spellF _]) (News.isList (by k_asm) (by k_mem)) (by kct_strs) (by decide +kernel) (spell_four _ _ _ _) ?_); intro t8 k8))
theorem read_use {w : World} {mean : ExcName → Option Value} {mg mb : Str → Option Value} {news : List (Addr × Obj)} {a b c d : Int} {t : Tok} {dp un : Nat} {gd : Option (List Code)} {cn : Str} {cs : Scope} {a' : Addr} {ccd : Value} {cl : List (Str × Addr)} {outer : List Env} {A₀ : Around} {base h₀ : Heap} {L : Addr} {m : Str → Option Value} {s : Shared} {Q E : Value → Shared → Prop}
    (h : ∀ l n t0 t1 t2 t3 h' tk', Fr h₀ L h' m → News h₀ L h' ((l, listOf #[.int (stepF a) t0, .int (stepF b) t1, .int (stepF c) t2, .int (stepF d) t3] n) :: news) → Q (.ref l) { s with heap := h', toks := tk' })
    (k1 : Below A₀ base outer h₀ := by k_asm) (k2 : Fr h₀ L s.heap m := by k_asm) (k3 : (theK w.params).In h₀ := by k_asm) (k4 : News h₀ L s.heap (news) := by k_asm) (k5 : Top theQ (looseW theQ theLoose) mean mg mb h₀ := by k_asm) (kK : cs.kind = .function := by first | exact rfl | assumption)
    (h64 : h₀.get? 64 = some (o64 w.params) := by first | assumption | exact Fr.keep (by assumption) _ _ (by assumption)) (tb : Tab h₀ 75 bigTab := by first | assumption | exact Tab.keeps (by assumption) (Fr.keep (by assumption)))  (kd : dp + 3 < recursionLimit := by ktr_room) (ku : un + 8 * 3 < cLine := by ktr_units) :
    wpAny (model theProg w) (ktrTop dp un gd cn cs L a' ccd cl outer) (call (.ref 144) [.str (Txt.join (Str.ofString "") [spellF a, spellF b, spellF c, spellF d]) t]) Q E s :=
  read_d w mean mg mb news a b c d t dp un gd cn cs a' ccd cl outer A₀ base h₀ L m s Q E k1 k2 k3 k4 k5 kK h64 tb trivial kd ku fun v new h' tk' hr F N => by
    obtain ⟨l, n, t0, t1, t2, t3, hv, hn⟩ := hr
    subst hv hn
    exact h l n t0 t1 t2 t3 h' tk' F N
local macro_rules | `(tactic| walk_at "call ref") => `(tactic| (k_here; k_dflt (refine read_use ?_); intro l9 z9 t0 t1 t2 t3 h9 tk9 F9 N9; (try dsimp only)))
theorem news_front {h₀ h : Heap} {L : Addr} {x : Addr × Obj} {all : List (Addr × Obj)} (N : News h₀ L h all) (hx : x ∈ all) : News h₀ L h (x :: all) := fun p hp => by
  rcases List.mem_cons.mp hp with rfl | hp
  · exact N _ hx
  · exact N p hp
def lamp (i : Int) : UInt64 := if i = 0 then 4607182418800017408 else 4602678819172646912
theorem lamp_item {prog : Program} {w : World} {A : Around} {E : Value → Shared → Prop} {s : Shared} {value slice : Expr} {t : Addr} {k : Int} {u ta tb : Tok} {Q : Value → Shared → Prop} (ht : IsTup s.heap t (List.toArray [.float 4607182418800017408 ta, .float 4602678819172646912 tb]))
    (h0 : 0 ≤ k) (h1 : k < 2) (h : ∀ t', Q (.float (lamp k) t') s)
    (hs : ∀ k, subscripted slice false (.ref t) (.int k u) = operate [.ref t, .int k u] (getItem (.ref t) (.int k u)) := by intro _; with_unfolding_all rfl) :
    wpAny (model prog w) A (subscriptTail value slice (.ref t) (.int k u)) Q E s := by
  have hk : k = 0 ∨ k = 1 := by omega
  rcases hk with rfl | rfl
  · exact item_tupleT (j := 0) (x := .float 4607182418800017408 ta) ht (by decide) (by decide) rfl rfl (h ta) (hs _)
  · exact item_tupleT (j := 1) (x := .float 4602678819172646912 tb) ht (by decide) (by decide) rfl rfl (h tb) (hs _)
theorem fmod2 (x : Int) : 0 ≤ x.fmod 2 ∧ x.fmod 2 < 2 := by
  rw [Int.fmod_eq_emod_of_nonneg _ (by decide : (0 : Int) ≤ 2)]
  omega
theorem all_lamps (i j : Int) : allB (lamp i) (lamp j) = true := by
  unfold lamp
  by_cases hi : i = 0
  · rw [if_pos hi]
    by_cases hj : j = 0
    · rw [if_pos hj]; exact all_11
    · rw [if_neg hj]; exact all_12
  · rw [if_neg hi]
    by_cases hj : j = 0
    · rw [if_pos hj]; exact all_21
    · rw [if_neg hj]; exact all_22
theorem step_range (v : Int) : -21 ≤ stepF v ∧ stepF v ≤ 12 := by
  have h1 : 0 ≤ v.fmod 30 ∧ v.fmod 30 < 30 := by
    rw [Int.fmod_eq_emod_of_nonneg _ (by decide : (0 : Int) ≤ 30)]
    omega
  unfold stepF
  generalize v.fmod 30 = w at h1
  split
  · have h2 : w = 26 ∨ w = 27 ∨ w = 28 ∨ w = 29 := by omega
    rcases h2 with rfl | rfl | rfl | rfl <;> decide
  · omega
theorem sum16_range {x0 x1 x2 x3 : Int} (h0 : -21 ≤ x0 ∧ x0 ≤ 12) (h1 : -21 ≤ x1 ∧ x1 ≤ 12) (h2 : -21 ≤ x2 ∧ x2 ≤ 12) (h3 : -21 ≤ x3 ∧ x3 ≤ 12) : ∀ x ∈ sum16 x0 x1 x2 x3, -84 ≤ x ∧ x ≤ 48 := by
  intro x hx
  simp only [sum16, List.mem_cons, List.not_mem_nil, or_false] at hx
  omega
theorem told_pre {a b c d : Int} {y z : UInt64} (h : allB y z = true) : ∀ x ∈ sum16 (stepF a) (stepF b) (stepF c) (stepF d), Good x y z := fun x hx => by
  obtain ⟨h1, h2⟩ := sum16_range (step_range a) (step_range b) (step_range c) (step_range d) x hx
  exact (good_all h h1 h2).1
theorem told_post {a b c d : Int} {y z : UInt64} {vs : List Value} (h : allB y z = true) (hi : IntsAre vs ((sum16 (stepF a) (stepF b) (stepF c) (stepF d)).map fun x => placeX x y z)) : IntsAre vs (sum16 (stepF a) (stepF b) (stepF c) (stepF d)) := by
  have e : ((sum16 (stepF a) (stepF b) (stepF c) (stepF d)).map fun x => placeX x y z) = sum16 (stepF a) (stepF b) (stepF c) (stepF d) := by
    refine (List.map_congr_left fun x hx => ?_).trans (List.map_id _)
    obtain ⟨h1, h2⟩ := sum16_range (step_range a) (step_range b) (step_range c) (step_range d) x hx
    exact (good_all h h1 h2).2
  rw [← e]
  exact hi
theorem told_kp {a b c d : Int} {y z : UInt64} {vs : List Value} (hi : IntsAre vs (sum16 (stepF a) (stepF b) (stepF c) (stepF d))) (h : allB y z = true) : IntsAre vs (sum16 (stepF a) (stepF b) (stepF c) (stepF d)) ∧ (∀ x ∈ sum16 (stepF a) (stepF b) (stepF c) (stepF d), Good x y z) ∧ (sum16 (stepF a) (stepF b) (stepF c) (stepF d)).length ≤ 1000 := ⟨hi, told_pre h, Nat.le_of_ble_eq_true rfl⟩
theorem sums_post {a b c d : Int} {vs : List Value} (hi : IntsAre vs (sumsF [a, b, c, d])) : IntsAre vs (sum16 a b c d) := by
  rw [← sums_16]
  exact hi
theorem sums_use {w : World} {mean : ExcName → Option Value} {mg mb : Str → Option Value} {news : List (Addr × Obj)} {l : Addr} {n : Nat} {a b c d : Int} {t0 t1 t2 t3 : Tok} {dp un : Nat} {gd : Option (List Code)} {cn : Str} {cs : Scope} {a' : Addr} {ccd : Value} {cl : List (Str × Addr)} {outer : List Env} {A₀ : Around} {base h₀ : Heap} {L : Addr} {m : Str → Option Value} {s : Shared} {Q E : Value → Shared → Prop}
    (h : ∀ l2 ws n2 h' tk', IntsAre ws (sum16 a b c d) → Fr h₀ L h' m → News h₀ L h' ((l2, listOf ws.toArray n2) :: news) → Q (.ref l2) { s with heap := h', toks := tk' })
    (k1 : Below A₀ base outer h₀ := by k_asm) (k2 : Fr h₀ L s.heap m := by k_asm) (k3 : (theK w.params).In h₀ := by k_asm) (k4 : News h₀ L s.heap (news) := by k_asm) (k5 : Top theQ (looseW theQ theLoose) mean mg mb h₀ := by k_asm) (kK : cs.kind = .function := by first | exact rfl | assumption)
    (hx : (l, listOf #[.int a t0, .int b t1, .int c t2, .int d t3] n) ∈ news := by k_mem)  (kd : dp + 2 < recursionLimit := by ktr_room) (ku : un + 8 * 2 < cLine := by ktr_units) :
    wpAny (model theProg w) (ktrTop dp un gd cn cs L a' ccd cl outer) (call (.ref 149) [.ref l]) Q E s :=
  sums_c w mean mg mb news l n a b c d t0 t1 t2 t3 dp un gd cn cs a' ccd cl outer A₀ base h₀ L m s Q E k1 k2 k3 (news_front k4 hx) k5 kK  trivial kd ku fun v new h' tk' hr F N => by
    obtain ⟨l2, ws, n2, hv, hn, hi⟩ := hr
    subst hv hn
    exact h l2 ws n2 h' tk' (sums_post hi) F (news_drop2 N)
local macro_rules | `(tactic| walk_at "call ref") => `(tactic| (k_here; k_dflt (refine sums_use ?_); intro l9 ws9 m9 h9 tk9 hi9 F9 N9; (try dsimp only)))
local macro_rules | `(tactic| walk_at "subscriptTail") => `(tactic| (k_here; (with_reducible show wpAny _ _ (subscriptTail _ _ (Value.ref _) (Value.int _ _)) _ _ _); k_dflt (refine lamp_item (News.isTup (by k_asm) (by k_mem)) (fmod2 _).1 (fmod2 _).2 ?_); intro t9))
theorem told_use {w : World} {mean : ExcName → Option Value} {mg mb : Str → Option Value} {news : List (Addr × Obj)} {l : Addr} {n : Nat} {ws : List Value} {a b c d : Int} {y z : UInt64} {ta tb : Tok} {dp un : Nat} {gd : Option (List Code)} {cn : Str} {cs : Scope} {a' : Addr} {ccd : Value} {cl : List (Str × Addr)} {outer : List Env} {A₀ : Around} {base h₀ : Heap} {L : Addr} {m : Str → Option Value} {s : Shared} {Q E : Value → Shared → Prop}
    (h : ∀ l2 vs n2 h' tk', IntsAre vs (sum16 (stepF a) (stepF b) (stepF c) (stepF d)) → Fr h₀ L h' m → News h₀ L h' ((l2, listOf vs.toArray n2) :: news) → Q (.ref l2) { s with heap := h', toks := tk' })
    (k1 : Below A₀ base outer h₀ := by k_asm) (k2 : Fr h₀ L s.heap m := by k_asm) (k3 : (theK w.params).In h₀ := by k_asm) (k4 : News h₀ L s.heap (news) := by k_asm) (k5 : Top theQ (looseW theQ theLoose) mean mg mb h₀ := by k_asm) (kK : cs.kind = .function := by first | exact rfl | assumption)
    (hx : (l, listOf ws.toArray n) ∈ news := by k_mem) (p1 : IntsAre ws (sum16 (stepF a) (stepF b) (stepF c) (stepF d)) := by with_reducible assumption) (p2 : allB y z = true := by exact all_lamps _ _) (kd : dp + 2 < recursionLimit := by ktr_room) (ku : un + 8 * 2 < cLine := by ktr_units) :
    wpAny (model theProg w) (ktrTop dp un gd cn cs L a' ccd cl outer) (call (.ref 156) [.ref l, .float y ta, .float z tb]) Q E s :=
  told_c w mean mg mb news l n ws (sum16 (stepF a) (stepF b) (stepF c) (stepF d)) y z ta tb dp un gd cn cs a' ccd cl outer A₀ base h₀ L m s Q E k1 k2 k3 (news_front k4 hx) k5 kK  (told_kp p1 p2) kd ku fun v new h' tk' hr F N => by
    obtain ⟨l2, vs, n2, hv, hn, hi⟩ := hr
    subst hv hn
    exact h l2 vs n2 h' tk' (told_post p2 hi) F (news_drop2 N)
local macro_rules | `(tactic| walk_at "call ref") => `(tactic| (k_here; k_dflt (refine told_use ?_); intro l9 ws9 m9 h9 tk9 hi9 F9 N9; (try dsimp only)))
theorem row_use {w : World} {mean : ExcName → Option Value} {mg mb : Str → Option Value} {news : List (Addr × Obj)} {l : Addr} {n : Nat} {ts : List Value} {a b c d : Int} {dp un : Nat} {gd : Option (List Code)} {cn : Str} {cs : Scope} {a' : Addr} {ccd : Value} {cl : List (Str × Addr)} {outer : List Env} {A₀ : Around} {base h₀ : Heap} {L : Addr} {m : Str → Option Value} {s : Shared} {Q E : Value → Shared → Prop}
    (h : ∀  h' tk', Fr h₀ L h' m → News h₀ L h' (news) → Q (.bool true) { s with heap := h', toks := tk' })
    (k1 : Below A₀ base outer h₀ := by k_asm) (k2 : Fr h₀ L s.heap m := by k_asm) (k3 : (theK w.params).In h₀ := by k_asm) (k4 : News h₀ L s.heap (news) := by k_asm) (k5 : Top theQ (looseW theQ theLoose) mean mg mb h₀ := by k_asm) (kK : cs.kind = .function := by first | exact rfl | assumption)
    (hx : (l, listOf ts.toArray n) ∈ news := by k_mem) (p1 : IntsAre ts (sum16 (stepF a) (stepF b) (stepF c) (stepF d)) := by with_reducible assumption) (kd : dp + 12 < recursionLimit := by ktr_room) (ku : un + 8 * 12 < cLine := by ktr_units) :
    wpAny (model theProg w) (ktrTop dp un gd cn cs L a' ccd cl outer) (call (.ref 168) [.ref l]) Q E s :=
  row_c w mean mg mb news l n ts (sum16 (stepF a) (stepF b) (stepF c) (stepF d)) dp un gd cn cs a' ccd cl outer A₀ base h₀ L m s Q E k1 k2 k3 (news_front k4 hx) k5 kK  ⟨p1, row_pre _ _ _ _⟩ kd ku fun v new h' tk' hr F N => by
    obtain ⟨hv, hn⟩ := hr
    subst hv hn
    exact h  h' tk' F (drop_one N)
local macro_rules | `(tactic| walk_at "call ref") => `(tactic| (k_here; k_dflt (refine row_use ?_); intro h9 tk9 F9 N9; (try dsimp only)))
local macro_rules | `(tactic| lcg_off) => `(tactic| (simp only [LCg.Off3, and_true]; with_reducible assumption))
theorem law_walk : WalkO theQ theLoose (XL theQ []) Says lawRow theD [] fun f vs => PySem.call f vs := by
  intro w s₀ s₁ mg mb G Y fa o pm cd doc dV kV ho hd hcd hD hmg hg args vals as hpre hlay hrd hwl hlo
  have KX := Y.inK
  have KT := Y.tab
  have KS := Y.set
  k_behind G ho hd hcd hD hmg hpre hlay hrd hwl hlo cd
  (all_goals try k_fold)
  dsimp only [theD, theDs]
  iterate 240 (first | done | (k_unfold; (try dsimp only)) | (k_end; wrow_close) | walk1 | (dsimp only; walk1) | (leave1; walk_say "STEP leave1"; try dsimp only) | fail "no step")

end
end Mine
end
open Mine PySem PySem.W PyProof.Rows
set_option maxRecDepth 100000
set_option maxHeartbeats 8000000
theorem PySem.Challenge.cw_to0040_01_holds : PySem.Challenge.rw_to0040_01.Holds := by
  w_on
  o_law
  refine law_holds (by assumption) ?hw ⟨rfl, rfl, rfl, rfl, rfl, by decide +kernel⟩ law_walk
  case hw => w_witness2
