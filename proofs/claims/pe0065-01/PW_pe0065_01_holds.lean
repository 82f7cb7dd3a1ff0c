import PyProof.Rows.All
import Wide.All
import OpenK.AllK
import Wide.FinOn
import PySem.Challenge.RW_pe0065_01
set_option Elab.async false

/-! W0 -/
section
open PySem PySem.W PySem.Calls PyProof.Rows
set_option maxRecDepth 100000
namespace Mine
open PySem.Sem (wp)
/-- the claim's caller stands below -/
def PB (Γ : PySem.Ctx) : Prop := (Γ.below.map (·.1)).any Code.isCaller = true
def PC (Γ : PySem.Ctx) : Prop := (Γ.code :: Γ.below.map (·.1)).any Code.isCaller = true
theorem PB.pc {Γ : PySem.Ctx} (h : PB Γ) : PC Γ := by
  unfold PC; rw [List.any_cons, show (Γ.below.map (·.1)).any Code.isCaller = true from h, Bool.or_true]
/-- as wpAny, where the claim's caller stands in the stack -/
def wpC {α : Type} (M : Model) (A : Around) (t : Sem α) (Q : α → Shared → Prop) (E : Value → Shared → Prop) (s : Shared) : Prop :=
  ∀ Γ p, Γ.In A → PC Γ → wp M Γ t (fun a _ s' => Q a s') (fun e _ s' => E e s') p s
section
variable {α β : Type} {M : Model} {A : Around} {E : Value → Shared → Prop} {s : Shared}
theorem wpC_of {t : Sem α} {Q : α → Shared → Prop} (h : wpAny M A t Q E s) : wpC M A t Q E s := fun Γ p hΓ _ => h Γ p hΓ
theorem wpC_pure {a : α} {Q : α → Shared → Prop} (h : Q a s) : wpC M A (pure a) Q E s := fun _ _ _ _ => h
theorem wpC_mono {t : Sem α} {Q Q' : α → Shared → Prop} {E' : Value → Shared → Prop} (h : wpC M A t Q E s)
    (hQ : ∀ a s, Q a s → Q' a s) (hE : ∀ e s, E e s → E' e s) : wpC M A t Q' E' s :=
  fun Γ p hΓ hP => Sem.wp_mono M Γ t (fun a _ s => hQ a s) (fun e _ s => hE e s) p s (h Γ p hΓ hP)
theorem wpC_bind {m : Sem α} {f : α → Sem β} {Q : β → Shared → Prop} (h : wpC M A m (fun a s' => wpC M A (f a) Q E s') E s) :
    wpC M A (m >>= f) Q E s := fun Γ p hΓ hP => by
  rw [Sem.wp_bind']
  exact Sem.wp_mono M Γ m (fun a p' s' h' => h' Γ p' hΓ hP) (fun _ _ _ h' => h') p s (h Γ p hΓ hP)
end
/-- t where the claim's caller stands in the stack, u elsewhere: a wpAny of this is a wpC of t, so that the library's own head meets a walk under the caller -/
def atCaller {α : Type} (t u : Sem α) : Sem α := .stack fun l => if (l.map (·.1)).any Code.isCaller = true then t else u
section
variable {α : Type} {M : Model} {A : Around} {E : Value → Shared → Prop} {s : Shared} {t u : Sem α} {Q : α → Shared → Prop}
theorem wp_atCaller {Γ : Ctx} {p : Pos} {F : α → Pos → Shared → Prop} {G : Value → Pos → Shared → Prop} (hc : PC Γ) : wp M Γ (atCaller t u) F G p s = wp M Γ t F G p s := by
  rw [atCaller, Sem.wp_stack]
  exact congrArg (fun x => wp M Γ x F G p s) (if_pos hc)
theorem wp_atNoCaller {Γ : Ctx} {p : Pos} {F : α → Pos → Shared → Prop} {G : Value → Pos → Shared → Prop} (hc : ¬ PC Γ) : wp M Γ (atCaller t u) F G p s = wp M Γ u F G p s := by
  rw [atCaller, Sem.wp_stack]
  exact congrArg (fun x => wp M Γ x F G p s) (if_neg hc)
theorem wpAny_atCaller (h : wpC M A t Q E s) (k : wpAny M A u Q E s) : wpAny M A (atCaller t u) Q E s := fun Γ p hΓ => by
  by_cases hc : PC Γ
  · rw [wp_atCaller hc]; exact h Γ p hΓ hc
  · rw [wp_atNoCaller hc]; exact k Γ p hΓ
/-- a turn of the tree round a guarded step: the guard is pulled ahead of the tree -/
theorem wpAny_pulled {β : Type} {T : Sem β} {a : α} {b : β} {R : β → Shared → Prop} (h : wpAny M A (atCaller t (pure a)) Q E s) (hT : wpC M A t Q E s → wpC M A T R E s) (hp : Q a s → R b s) :
    wpAny M A (atCaller T (pure b)) R E s := by
  refine fun Γ p hΓ => ?_
  by_cases hc : PC Γ
  · rw [wp_atCaller hc]
    exact hT (fun Δ q hΔ hP => wp_atCaller hP ▸ h Δ q hΔ) Γ p hΓ hc
  · have k := h Γ p hΓ
    rw [wp_atNoCaller hc] at k ⊢
    exact hp k
end
/-- the guard costs one step and no more: what the guarded thread ends with, the thread itself ends with -/
theorem sched_atCaller {den : Code → Sem PySem.Fin} {q : Program} {w : World} {n : Nat} {s s' : Shared} {t u : Sem PySem.Fin} {o : Outcome} (hz : s.asleep)
    (h : schedN den q w n (.single s ⟨atCaller t u, .builtin "claim.caller" {}, default, []⟩) = .halted o s') : ∃ m, schedN den q w m (.single s ⟨t, .builtin "claim.caller" {}, default, []⟩) = .halted o s' := by
  cases n with
  | zero => cases h
  | succ m =>
    have e := (sstep_single den q w s ⟨atCaller t u, .builtin "claim.caller" {}, default, []⟩ rfl hz).resolve_right (fun x => by cases x)
    refine ⟨m, ?_⟩
    rw [schedN, e] at h
    exact h

abbrev WalkC (q : Program) (loose : List Str) (XP : (Str → Option Value) → Heap → Prop) (YP : World → Heap → Prop) (r : RowW) (d : DefRec) (kwd : List (Str × PySem.Expr)) : Prop :=
  ∀ (w : World) (s₀ s₁ : Shared) (mg mb : Str → Option Value), Ground q loose r.records XP w s₀ mg mb s₁.heap → YP w s₁.heap → ∀ (a : Addr) (o : Obj) (pm cd doc dV kV : Value), s₁.heap.get? a = some o →
    o.data = .func { docDef d.name d.params d.body d.scope pm cd doc with defaults := dV, kwdefaults := kV } → s₁.heap.CodeRec cd d.name → Dflts mg s₁.heap d.params kwd dV kV → mg d.name = some (.ref a) → s₁.gens = #[] →
    ∀ (args : List WData) (vals : List Value) (as : List Addr), r.claim.pre args = true → WData.layableAll args = true → ReadsAllW r.records (classAt s₀.heap) s₁.heap vals args as → WellAll w.params s₁.heap vals args → (∀ a ∈ as, (a == sysModules) = false) →
      wpC (model r.prog w) callerA (PySem.call (.ref a) vals) (fun v s' => GoodWG r.claim (classAt s₀.heap) (ExcName.means s₀.heap) args s₁ (.ok (.ret v)) s')
        (fun e s' => GoodWG r.claim (classAt s₀.heap) (ExcName.means s₀.heap) args s₁ (.error e) s') s₁ ∧ GoodWG r.claim (classAt s₀.heap) (ExcName.means s₀.heap) args s₁ (.ok (.ret (.bool true))) s₁

namespace PySem.W
/-- the head of an open law, its walk under the claim's caller -/
theorem holds_open {r : OpenRow} {q : Program} {loose : List Str} {Xt : Shared → Bool} {XP : (Str → Option Value) → Heap → Prop} {α : Type} {Yf : Shared → α} {Ya : World → α} {YP : World → Heap → Prop} {d : DefRec} {kwd : List (Str × PySem.Expr)} {N : Nat}
    (left : LeftO r.prog q loose Xt Yf Ya N) (hY : ∀ w s, Yf s = Ya w → YP w s.heap) (hYk : ∀ w h h', YP w h → (∀ b o, h.get? b = some o → h'.get? b = some o) → YP w h')
    (hX : ∀ s, Xt s = true → XP (s.heap.nsMap mainGlobals) s.heap) (hXk : ∀ mg h h', XP mg h → (∀ b o, h.get? b = some o → h'.get? b = some o) → XP mg h')
    (hdef : defOf q r.name = some (d, kwd)) (hp : r.prog.theDef r.name = some (d.params, d.body, d.scope)) (hk : kwWritten? d.params.kwonlyargs d.params.kw_defaults = some kwd) (hRf : ∀ s, Xt s = true → RecFacts r.records s.heap) (hwr : (!r.writes || r.records.isEmpty) = true)
    (k1 : r.wellSaid = true) (ok : (chainsOk q && opensWell r.prog && (frees r.toRowW && r.within.isEmpty)) = true) (hb : r.prog.bare) (hw : r.toRowW.promised)
    (call : WalkC q loose XP YP r.toRowW d kwd) : r.Holds := by
  have H := open_anyG (r := r.toRowW) (defs := if r.pinned then [r.name] else []) (kps := r.keeps) (writes := r.writes) (run := fun f vs => atCaller (PySem.call f vs) (pure (.bool true))) (tree := fun vs => atCaller (callStub r.name vs).cur (pure (.done (.ret (.bool true)))))
    left hY hYk hX hXk hRf hwr ok hb hw
    (fun vs w s mg f Q E hg hf h => wpAny_pulled h (fun k => wpC_bind (wpC_of (wpAny_nsGet hg (by rw [hf]; exact wpC_bind (wpC_mono k (fun _ _ x => wpC_pure x) fun _ _ x => x))))) fun k => k)
    (fun w s hg G n hn => by
      obtain rfl : n = r.name := by split at hn <;> simp_all
      exact pinned_of_view hg G hdef hp hk)
    (fun w s₀ s₁ mg mb G Y args vs as hpre hlay L low => by
      obtain ⟨a, o, pm, cd, doc, dV, kV, h1, h2, h3, h4, h5⟩ := G.fn hdef
      have c := call w s₀ s₁ mg mb G Y a o pm cd doc dV kV h2 h3 h4 h5 (defOf_name hdef ▸ h1) L.gens args vs as hpre hlay L.reads L.well (L.low low)
      exact ⟨.ref a, h1, wpAny_atCaller c.1 (wpAny_pure c.2)⟩)
  have hch : chainsOk q = true := (Bool.and_eq_true_iff.mp (Bool.and_eq_true_iff.mp ok).1).1
  refine ⟨k1, hw, H.1, H.2.1, fun w => ⟨(H.2.2 w).1, fun s hs => ?_⟩⟩
  obtain ⟨b₀, e, g, b₁, hT, c1, c2, c3, c4⟩ := (H.2.2 w).2 s hs
  obtain ⟨d₀, e', _, d₁, hT', hz, _⟩ := (left.behind hX hch w).2 s hs
  obtain rfl : b₀ = d₀ := Option.some.inj (e.symm.trans e')
  refine ⟨b₀, e, g, b₁, hT, c1, c2, c3, fun args hpre hlay ord hord => ?_⟩
  obtain ⟨vs, s₁, hl, n, o, s', run, more⟩ := c4 args hpre hlay ord hord
  have hlife : s₁.heap.life = d₁.heap.life := ((layAllW_rest _ _ _ hl).2.2.2.trans hT.2.1).trans hT'.2.1.symm
  obtain ⟨m, run'⟩ := sched_atCaller (Shared.asleep_of_life hlife hz) run
  exact ⟨vs, s₁, hl, m, o, s', run', more⟩
end PySem.W
end Mine
end

/-! HD -/
section
open PySem PySem.W PyProof.Rows
namespace Mine
set_option maxRecDepth 100000
set_option maxHeartbeats 8000000
open_top hd for PySem.Challenge.rw_pe0065_01
end Mine
end

/-! MB -/
section
open PySem PySem.W PySem.Spec PySem.Calls PyProof.Rows
set_option maxRecDepth 100000
namespace Mine

theorem Fr.see {h₀ h : Heap} {L : Addr} {m : Str → Option Value} {x : Str} {v : Value} (F : Fr h₀ L h m) (hx : m x = some v) : Fr h₀ L h (fun y => if y = x then some v else m y) := by
  have : (fun y => if y = x then some v else m y) = m := by
    funext y; by_cases e : y = x
    · subst e; simp [hx]
    · simp [e]
  rw [this]; exact F

theorem Fr.map {h₀ h : Heap} {L : Addr} {m m' : Str → Option Value} (F : Fr h₀ L h m) (e : ∀ y, m y = m' y) : Fr h₀ L h m' := by
  have : m = m' := funext e
  exact this ▸ F

theorem Fr.see2 {h₀ h : Heap} {L : Addr} {m : Str → Option Value} {x0 x1 : Str} {v0 v1 : Value} (F : Fr h₀ L h m) (h0 : m x0 = some v0) (h1 : m x1 = some v1) : Fr h₀ L h (fun y => if y = x0 then some v0 else if y = x1 then some v1 else m y) := by
  refine Fr.map F (fun y => Eq.symm ?_)
  by_cases e0 : y = x0
  · subst e0; rw [if_pos rfl]; exact h0.symm
  rw [if_neg e0]
  by_cases e1 : y = x1
  · subst e1; rw [if_pos rfl]; exact h1.symm
  rw [if_neg e1]
theorem Fr.see3 {h₀ h : Heap} {L : Addr} {m : Str → Option Value} {x0 x1 x2 : Str} {v0 v1 v2 : Value} (F : Fr h₀ L h m) (h0 : m x0 = some v0) (h1 : m x1 = some v1) (h2 : m x2 = some v2) : Fr h₀ L h (fun y => if y = x0 then some v0 else if y = x1 then some v1 else if y = x2 then some v2 else m y) := by
  refine Fr.map F (fun y => Eq.symm ?_)
  by_cases e0 : y = x0
  · subst e0; rw [if_pos rfl]; exact h0.symm
  rw [if_neg e0]
  by_cases e1 : y = x1
  · subst e1; rw [if_pos rfl]; exact h1.symm
  rw [if_neg e1]
  by_cases e2 : y = x2
  · subst e2; rw [if_pos rfl]; exact h2.symm
  rw [if_neg e2]
theorem Fr.see4 {h₀ h : Heap} {L : Addr} {m : Str → Option Value} {x0 x1 x2 x3 : Str} {v0 v1 v2 v3 : Value} (F : Fr h₀ L h m) (h0 : m x0 = some v0) (h1 : m x1 = some v1) (h2 : m x2 = some v2) (h3 : m x3 = some v3) : Fr h₀ L h (fun y => if y = x0 then some v0 else if y = x1 then some v1 else if y = x2 then some v2 else if y = x3 then some v3 else m y) := by
  refine Fr.map F (fun y => Eq.symm ?_)
  by_cases e0 : y = x0
  · subst e0; rw [if_pos rfl]; exact h0.symm
  rw [if_neg e0]
  by_cases e1 : y = x1
  · subst e1; rw [if_pos rfl]; exact h1.symm
  rw [if_neg e1]
  by_cases e2 : y = x2
  · subst e2; rw [if_pos rfl]; exact h2.symm
  rw [if_neg e2]
  by_cases e3 : y = x3
  · subst e3; rw [if_pos rfl]; exact h3.symm
  rw [if_neg e3]
theorem Fr.see5 {h₀ h : Heap} {L : Addr} {m : Str → Option Value} {x0 x1 x2 x3 x4 : Str} {v0 v1 v2 v3 v4 : Value} (F : Fr h₀ L h m) (h0 : m x0 = some v0) (h1 : m x1 = some v1) (h2 : m x2 = some v2) (h3 : m x3 = some v3) (h4 : m x4 = some v4) : Fr h₀ L h (fun y => if y = x0 then some v0 else if y = x1 then some v1 else if y = x2 then some v2 else if y = x3 then some v3 else if y = x4 then some v4 else m y) := by
  refine Fr.map F (fun y => Eq.symm ?_)
  by_cases e0 : y = x0
  · subst e0; rw [if_pos rfl]; exact h0.symm
  rw [if_neg e0]
  by_cases e1 : y = x1
  · subst e1; rw [if_pos rfl]; exact h1.symm
  rw [if_neg e1]
  by_cases e2 : y = x2
  · subst e2; rw [if_pos rfl]; exact h2.symm
  rw [if_neg e2]
  by_cases e3 : y = x3
  · subst e3; rw [if_pos rfl]; exact h3.symm
  rw [if_neg e3]
  by_cases e4 : y = x4
  · subst e4; rw [if_pos rfl]; exact h4.symm
  rw [if_neg e4]
theorem Fr.see6 {h₀ h : Heap} {L : Addr} {m : Str → Option Value} {x0 x1 x2 x3 x4 x5 : Str} {v0 v1 v2 v3 v4 v5 : Value} (F : Fr h₀ L h m) (h0 : m x0 = some v0) (h1 : m x1 = some v1) (h2 : m x2 = some v2) (h3 : m x3 = some v3) (h4 : m x4 = some v4) (h5 : m x5 = some v5) : Fr h₀ L h (fun y => if y = x0 then some v0 else if y = x1 then some v1 else if y = x2 then some v2 else if y = x3 then some v3 else if y = x4 then some v4 else if y = x5 then some v5 else m y) := by
  refine Fr.map F (fun y => Eq.symm ?_)
  by_cases e0 : y = x0
  · subst e0; rw [if_pos rfl]; exact h0.symm
  rw [if_neg e0]
  by_cases e1 : y = x1
  · subst e1; rw [if_pos rfl]; exact h1.symm
  rw [if_neg e1]
  by_cases e2 : y = x2
  · subst e2; rw [if_pos rfl]; exact h2.symm
  rw [if_neg e2]
  by_cases e3 : y = x3
  · subst e3; rw [if_pos rfl]; exact h3.symm
  rw [if_neg e3]
  by_cases e4 : y = x4
  · subst e4; rw [if_pos rfl]; exact h4.symm
  rw [if_neg e4]
  by_cases e5 : y = x5
  · subst e5; rw [if_pos rfl]; exact h5.symm
  rw [if_neg e5]
theorem Fr.see7 {h₀ h : Heap} {L : Addr} {m : Str → Option Value} {x0 x1 x2 x3 x4 x5 x6 : Str} {v0 v1 v2 v3 v4 v5 v6 : Value} (F : Fr h₀ L h m) (h0 : m x0 = some v0) (h1 : m x1 = some v1) (h2 : m x2 = some v2) (h3 : m x3 = some v3) (h4 : m x4 = some v4) (h5 : m x5 = some v5) (h6 : m x6 = some v6) : Fr h₀ L h (fun y => if y = x0 then some v0 else if y = x1 then some v1 else if y = x2 then some v2 else if y = x3 then some v3 else if y = x4 then some v4 else if y = x5 then some v5 else if y = x6 then some v6 else m y) := by
  refine Fr.map F (fun y => Eq.symm ?_)
  by_cases e0 : y = x0
  · subst e0; rw [if_pos rfl]; exact h0.symm
  rw [if_neg e0]
  by_cases e1 : y = x1
  · subst e1; rw [if_pos rfl]; exact h1.symm
  rw [if_neg e1]
  by_cases e2 : y = x2
  · subst e2; rw [if_pos rfl]; exact h2.symm
  rw [if_neg e2]
  by_cases e3 : y = x3
  · subst e3; rw [if_pos rfl]; exact h3.symm
  rw [if_neg e3]
  by_cases e4 : y = x4
  · subst e4; rw [if_pos rfl]; exact h4.symm
  rw [if_neg e4]
  by_cases e5 : y = x5
  · subst e5; rw [if_pos rfl]; exact h5.symm
  rw [if_neg e5]
  by_cases e6 : y = x6
  · subst e6; rw [if_pos rfl]; exact h6.symm
  rw [if_neg e6]
theorem Fr.see8 {h₀ h : Heap} {L : Addr} {m : Str → Option Value} {x0 x1 x2 x3 x4 x5 x6 x7 : Str} {v0 v1 v2 v3 v4 v5 v6 v7 : Value} (F : Fr h₀ L h m) (h0 : m x0 = some v0) (h1 : m x1 = some v1) (h2 : m x2 = some v2) (h3 : m x3 = some v3) (h4 : m x4 = some v4) (h5 : m x5 = some v5) (h6 : m x6 = some v6) (h7 : m x7 = some v7) : Fr h₀ L h (fun y => if y = x0 then some v0 else if y = x1 then some v1 else if y = x2 then some v2 else if y = x3 then some v3 else if y = x4 then some v4 else if y = x5 then some v5 else if y = x6 then some v6 else if y = x7 then some v7 else m y) := by
  refine Fr.map F (fun y => Eq.symm ?_)
  by_cases e0 : y = x0
  · subst e0; rw [if_pos rfl]; exact h0.symm
  rw [if_neg e0]
  by_cases e1 : y = x1
  · subst e1; rw [if_pos rfl]; exact h1.symm
  rw [if_neg e1]
  by_cases e2 : y = x2
  · subst e2; rw [if_pos rfl]; exact h2.symm
  rw [if_neg e2]
  by_cases e3 : y = x3
  · subst e3; rw [if_pos rfl]; exact h3.symm
  rw [if_neg e3]
  by_cases e4 : y = x4
  · subst e4; rw [if_pos rfl]; exact h4.symm
  rw [if_neg e4]
  by_cases e5 : y = x5
  · subst e5; rw [if_pos rfl]; exact h5.symm
  rw [if_neg e5]
  by_cases e6 : y = x6
  · subst e6; rw [if_pos rfl]; exact h6.symm
  rw [if_neg e6]
  by_cases e7 : y = x7
  · subst e7; rw [if_pos rfl]; exact h7.symm
  rw [if_neg e7]
theorem Fr.insee1 {h₀ h : Heap} {L : Addr} {m : Str → Option Value} {x x0 : Str} {v v0 : Value} (F : Fr h₀ L h (fun y => if y = x then some v else m y)) (h0 : m x0 = some v0) : Fr h₀ L h (fun y => if y = x then some v else if y = x0 then some v0 else m y) := by
  refine Fr.map F (fun y => ?_)
  by_cases e : y = x
  · rw [if_pos e, if_pos e]
  rw [if_neg e, if_neg e]
  by_cases e0 : y = x0
  · subst e0; rw [if_pos rfl, h0]
  rw [if_neg e0]
theorem Fr.insee2 {h₀ h : Heap} {L : Addr} {m : Str → Option Value} {x x0 x1 : Str} {v v0 v1 : Value} (F : Fr h₀ L h (fun y => if y = x then some v else m y)) (h0 : m x0 = some v0) (h1 : m x1 = some v1) : Fr h₀ L h (fun y => if y = x then some v else if y = x0 then some v0 else if y = x1 then some v1 else m y) := by
  refine Fr.map F (fun y => ?_)
  by_cases e : y = x
  · rw [if_pos e, if_pos e]
  rw [if_neg e, if_neg e]
  by_cases e0 : y = x0
  · subst e0; rw [if_pos rfl, h0]
  rw [if_neg e0]
  by_cases e1 : y = x1
  · subst e1; rw [if_pos rfl, h1]
  rw [if_neg e1]
theorem Fr.insee3 {h₀ h : Heap} {L : Addr} {m : Str → Option Value} {x x0 x1 x2 : Str} {v v0 v1 v2 : Value} (F : Fr h₀ L h (fun y => if y = x then some v else m y)) (h0 : m x0 = some v0) (h1 : m x1 = some v1) (h2 : m x2 = some v2) : Fr h₀ L h (fun y => if y = x then some v else if y = x0 then some v0 else if y = x1 then some v1 else if y = x2 then some v2 else m y) := by
  refine Fr.map F (fun y => ?_)
  by_cases e : y = x
  · rw [if_pos e, if_pos e]
  rw [if_neg e, if_neg e]
  by_cases e0 : y = x0
  · subst e0; rw [if_pos rfl, h0]
  rw [if_neg e0]
  by_cases e1 : y = x1
  · subst e1; rw [if_pos rfl, h1]
  rw [if_neg e1]
  by_cases e2 : y = x2
  · subst e2; rw [if_pos rfl, h2]
  rw [if_neg e2]
theorem Fr.insee4 {h₀ h : Heap} {L : Addr} {m : Str → Option Value} {x x0 x1 x2 x3 : Str} {v v0 v1 v2 v3 : Value} (F : Fr h₀ L h (fun y => if y = x then some v else m y)) (h0 : m x0 = some v0) (h1 : m x1 = some v1) (h2 : m x2 = some v2) (h3 : m x3 = some v3) : Fr h₀ L h (fun y => if y = x then some v else if y = x0 then some v0 else if y = x1 then some v1 else if y = x2 then some v2 else if y = x3 then some v3 else m y) := by
  refine Fr.map F (fun y => ?_)
  by_cases e : y = x
  · rw [if_pos e, if_pos e]
  rw [if_neg e, if_neg e]
  by_cases e0 : y = x0
  · subst e0; rw [if_pos rfl, h0]
  rw [if_neg e0]
  by_cases e1 : y = x1
  · subst e1; rw [if_pos rfl, h1]
  rw [if_neg e1]
  by_cases e2 : y = x2
  · subst e2; rw [if_pos rfl, h2]
  rw [if_neg e2]
  by_cases e3 : y = x3
  · subst e3; rw [if_pos rfl, h3]
  rw [if_neg e3]
theorem Fr.insee5 {h₀ h : Heap} {L : Addr} {m : Str → Option Value} {x x0 x1 x2 x3 x4 : Str} {v v0 v1 v2 v3 v4 : Value} (F : Fr h₀ L h (fun y => if y = x then some v else m y)) (h0 : m x0 = some v0) (h1 : m x1 = some v1) (h2 : m x2 = some v2) (h3 : m x3 = some v3) (h4 : m x4 = some v4) : Fr h₀ L h (fun y => if y = x then some v else if y = x0 then some v0 else if y = x1 then some v1 else if y = x2 then some v2 else if y = x3 then some v3 else if y = x4 then some v4 else m y) := by
  refine Fr.map F (fun y => ?_)
  by_cases e : y = x
  · rw [if_pos e, if_pos e]
  rw [if_neg e, if_neg e]
  by_cases e0 : y = x0
  · subst e0; rw [if_pos rfl, h0]
  rw [if_neg e0]
  by_cases e1 : y = x1
  · subst e1; rw [if_pos rfl, h1]
  rw [if_neg e1]
  by_cases e2 : y = x2
  · subst e2; rw [if_pos rfl, h2]
  rw [if_neg e2]
  by_cases e3 : y = x3
  · subst e3; rw [if_pos rfl, h3]
  rw [if_neg e3]
  by_cases e4 : y = x4
  · subst e4; rw [if_pos rfl, h4]
  rw [if_neg e4]
theorem Fr.insee6 {h₀ h : Heap} {L : Addr} {m : Str → Option Value} {x x0 x1 x2 x3 x4 x5 : Str} {v v0 v1 v2 v3 v4 v5 : Value} (F : Fr h₀ L h (fun y => if y = x then some v else m y)) (h0 : m x0 = some v0) (h1 : m x1 = some v1) (h2 : m x2 = some v2) (h3 : m x3 = some v3) (h4 : m x4 = some v4) (h5 : m x5 = some v5) : Fr h₀ L h (fun y => if y = x then some v else if y = x0 then some v0 else if y = x1 then some v1 else if y = x2 then some v2 else if y = x3 then some v3 else if y = x4 then some v4 else if y = x5 then some v5 else m y) := by
  refine Fr.map F (fun y => ?_)
  by_cases e : y = x
  · rw [if_pos e, if_pos e]
  rw [if_neg e, if_neg e]
  by_cases e0 : y = x0
  · subst e0; rw [if_pos rfl, h0]
  rw [if_neg e0]
  by_cases e1 : y = x1
  · subst e1; rw [if_pos rfl, h1]
  rw [if_neg e1]
  by_cases e2 : y = x2
  · subst e2; rw [if_pos rfl, h2]
  rw [if_neg e2]
  by_cases e3 : y = x3
  · subst e3; rw [if_pos rfl, h3]
  rw [if_neg e3]
  by_cases e4 : y = x4
  · subst e4; rw [if_pos rfl, h4]
  rw [if_neg e4]
  by_cases e5 : y = x5
  · subst e5; rw [if_pos rfl, h5]
  rw [if_neg e5]
theorem Fr.insee7 {h₀ h : Heap} {L : Addr} {m : Str → Option Value} {x x0 x1 x2 x3 x4 x5 x6 : Str} {v v0 v1 v2 v3 v4 v5 v6 : Value} (F : Fr h₀ L h (fun y => if y = x then some v else m y)) (h0 : m x0 = some v0) (h1 : m x1 = some v1) (h2 : m x2 = some v2) (h3 : m x3 = some v3) (h4 : m x4 = some v4) (h5 : m x5 = some v5) (h6 : m x6 = some v6) : Fr h₀ L h (fun y => if y = x then some v else if y = x0 then some v0 else if y = x1 then some v1 else if y = x2 then some v2 else if y = x3 then some v3 else if y = x4 then some v4 else if y = x5 then some v5 else if y = x6 then some v6 else m y) := by
  refine Fr.map F (fun y => ?_)
  by_cases e : y = x
  · rw [if_pos e, if_pos e]
  rw [if_neg e, if_neg e]
  by_cases e0 : y = x0
  · subst e0; rw [if_pos rfl, h0]
  rw [if_neg e0]
  by_cases e1 : y = x1
  · subst e1; rw [if_pos rfl, h1]
  rw [if_neg e1]
  by_cases e2 : y = x2
  · subst e2; rw [if_pos rfl, h2]
  rw [if_neg e2]
  by_cases e3 : y = x3
  · subst e3; rw [if_pos rfl, h3]
  rw [if_neg e3]
  by_cases e4 : y = x4
  · subst e4; rw [if_pos rfl, h4]
  rw [if_neg e4]
  by_cases e5 : y = x5
  · subst e5; rw [if_pos rfl, h5]
  rw [if_neg e5]
  by_cases e6 : y = x6
  · subst e6; rw [if_pos rfl, h6]
  rw [if_neg e6]
theorem Fr.insee8 {h₀ h : Heap} {L : Addr} {m : Str → Option Value} {x x0 x1 x2 x3 x4 x5 x6 x7 : Str} {v v0 v1 v2 v3 v4 v5 v6 v7 : Value} (F : Fr h₀ L h (fun y => if y = x then some v else m y)) (h0 : m x0 = some v0) (h1 : m x1 = some v1) (h2 : m x2 = some v2) (h3 : m x3 = some v3) (h4 : m x4 = some v4) (h5 : m x5 = some v5) (h6 : m x6 = some v6) (h7 : m x7 = some v7) : Fr h₀ L h (fun y => if y = x then some v else if y = x0 then some v0 else if y = x1 then some v1 else if y = x2 then some v2 else if y = x3 then some v3 else if y = x4 then some v4 else if y = x5 then some v5 else if y = x6 then some v6 else if y = x7 then some v7 else m y) := by
  refine Fr.map F (fun y => ?_)
  by_cases e : y = x
  · rw [if_pos e, if_pos e]
  rw [if_neg e, if_neg e]
  by_cases e0 : y = x0
  · subst e0; rw [if_pos rfl, h0]
  rw [if_neg e0]
  by_cases e1 : y = x1
  · subst e1; rw [if_pos rfl, h1]
  rw [if_neg e1]
  by_cases e2 : y = x2
  · subst e2; rw [if_pos rfl, h2]
  rw [if_neg e2]
  by_cases e3 : y = x3
  · subst e3; rw [if_pos rfl, h3]
  rw [if_neg e3]
  by_cases e4 : y = x4
  · subst e4; rw [if_pos rfl, h4]
  rw [if_neg e4]
  by_cases e5 : y = x5
  · subst e5; rw [if_pos rfl, h5]
  rw [if_neg e5]
  by_cases e6 : y = x6
  · subst e6; rw [if_pos rfl, h6]
  rw [if_neg e6]
  by_cases e7 : y = x7
  · subst e7; rw [if_pos rfl, h7]
  rw [if_neg e7]
def Ext (h h' : Heap) : Prop := ∀ b o, h.get? b = some o → h'.get? b = some o
theorem Ext.refl (h : Heap) : Ext h h := fun _ _ e => e
theorem Ext.trans {h h' h'' : Heap} (a : Ext h h') (b : Ext h' h'') : Ext h h'' := fun x o e => b x o (a x o e)

theorem frExt {h₀ h h' : Heap} {L : Addr} {m : Str → Option Value} (F : Fr h₀ L h m) (k : Ext h h') : Fr h₀ L h' m := ⟨F.ns.keeps k, fun b o e => k b o (F.keep b o e), F.above⟩
theorem newsExt {h₀ h h' : Heap} {L : Addr} {news : List (Addr × Obj)} (N : News h₀ L h news) (k : Ext h h') : News h₀ L h' news := fun p hp => ⟨k _ _ (N p hp).1, (N p hp).2⟩

theorem newsNew {h₀ h h' : Heap} {L D : Addr} {m : Str → Option Value} {o : Obj} {news : List (Addr × Obj)} (F : Fr h₀ L h m) (N : News h₀ L h news) (k : Ext h h') (hD : h.get? D = none) (ho : h'.get? D = some o) : News h₀ L h' ((D, o) :: news) := by
  intro p hp
  rcases List.mem_cons.mp hp with rfl | hp
  · refine ⟨ho, ?_, ?_⟩
    · intro e
      obtain ⟨oL, _, _, hL, _⟩ := F.ns
      have e : D = L := e
      rw [← e, hD] at hL; cases hL
    · cases e : h₀.get? D with
      | none => rfl
      | some o' => rw [F.keep _ _ e] at hD; cases hD
  · exact newsExt N k p hp

structure AOk (A : Around) (k : Nat) : Prop where
  han : A.handled = none
  dep : A.depth + k < recursionLimit
  uni : A.units + 8 * k < cLine

theorem AOk.le {A : Around} {k j : Nat} (h : AOk A k) (e : j ≤ k) : AOk A j := ⟨h.han, by have := h.dep; omega, by have := h.uni; omega⟩
theorem AOk.deeper {A : Around} {k : Nat} (h : AOk A (k + 1)) (env : Env) : AOk (A.deeper env) k :=
  ⟨h.han, by have := h.dep; show A.depth + 1 + k < _; omega, by have := h.uni; show A.units + 3 + 8 * k < _; omega⟩

def HInt (m : Str → Option Value) (x : Str) (i : Int) : Prop := ∃ t, m x = some (.int i t)
def HStr (m : Str → Option Value) (x : Str) (i : Str) : Prop := ∃ t, m x = some (.str i t)
def HByt (m : Str → Option Value) (x : Str) (i : Array UInt8) : Prop := ∃ t, m x = some (.bytes i t)
theorem HInt.of {m : Str → Option Value} {x : Str} {i j : Int} {t : Tok} (h : m x = some (.int j t)) (e : j = i) : HInt m x i := ⟨t, e ▸ h⟩
theorem HByt.of {m : Str → Option Value} {x : Str} {i j : Array UInt8} {t : Tok} (h : m x = some (.bytes j t)) (e : j = i) : HByt m x i := ⟨t, e ▸ h⟩
theorem HStr.of {m : Str → Option Value} {x : Str} {i j : Str} {t : Tok} (h : m x = some (.str j t)) (e : j = i) : HStr m x i := ⟨t, e ▸ h⟩

section
variable {prog : Program} {w : World} {A : Around} {s : Shared} {K : Frag} {p : Program} {loose : List Str} {mg mb : Str → Option Value} {Q E : Value → Shared → Prop}
  {name qual : Str} {params : Arguments} {body : List Stmt} {scope : Scope} {dV kV doc pm cdv ct oc : Value} {an od : Option Addr} {osl : Array (Option Value)} {f : Addr} {args : List Value} {binds : List (Str × Value)}
/-- a call of one of the text's own defs that does not raise -/
theorem enter (X : K.In s.heap) (T : TopRead p loose mg mb s.heap) (ho : K.lookup f = some ⟨oc, od, .func (fnOf name qual params body scope dV kV doc pm an cdv ct), osl⟩) (hcd : codeIn K cdv qual = true)
    (hroom : A.depth < recursionLimit) (hbind : BindsTo s (fnOf name qual params body scope dV kV doc pm an cdv ct) ⟨args, []⟩ binds) (hloc : ∀ y ∈ binds, scope.names.lookup y.1 = some .local)
    (hcell : ∀ x ∈ scope.names, x.2 ≠ .cell) (hco : scope.isCoroutine = false) (hgen : scope.isGenerator = false) (hk : scope.kind = .function)
    (h : ∀ L' h₁ tk, Fr s.heap L' h₁ (fun y => binds.reverse.lookup y) → News s.heap L' h₁ [] →
      wpAny (model prog w) (A.deeper (envOf qual scope L' f cdv)) (execs body (envOf qual scope L' f cdv))
        (fun fl s' => Q (match fl with | .ret v => v | _ => .none) s') (fun _ _ => False) { s with heap := h₁, toks := tk }) :
    wpAny (model prog w) A (call (.ref f) args) Q E s := by
  refine wpAny_call (codeAny_call_def (fd := fnOf name qual params body scope dV kV doc pm an cdv ct) hroom (X _ _ ho) rfl T.nolimit (codeRec_of X hcd) rfl hbind hcell hloc (fun h₁ hns hk₁ => ?_) hco hgen hk)
  refine wpAny_mono (h _ h₁ (s.toks + binds.length) ⟨hns, hk₁, Nat.le_refl _⟩ News.nil) (fun fl s' hl => hl) fun _ _ y => y.elim
end

section
variable {prog : Program} {w : World} {A : Around} {s : Shared} {K : Frag} {p : Program} {loose : List Str} {mg mb : Str → Option Value} {Q E : Value → Shared → Prop}
  {name qual : Str} {params : Arguments} {body : List Stmt} {scope : Scope} {dV kV doc pm cdv ct oc : Value} {an od : Option Addr} {osl : Array (Option Value)} {f : Addr} {args : List Value} {binds : List (Str × Value)}
/-- the same for a def with cells -/
theorem enterC (X : K.In s.heap) (T : TopRead p loose mg mb s.heap) (ho : K.lookup f = some ⟨oc, od, .func (fnOf name qual params body scope dV kV doc pm an cdv ct), osl⟩) (hcd : codeIn K cdv qual = true)
    (hroom : A.depth < recursionLimit) (hbind : BindsTo s (fnOf name qual params body scope dV kV doc pm an cdv ct) ⟨args, []⟩ binds)
    (hkind : (binds.all fun y => scope.names.lookup y.1 == some .local || scope.names.lookup y.1 == some .cell) = true) (hnd : ((cellsFrom 0 scope.names []).map (·.1)).Nodup)
    (hco : scope.isCoroutine = false) (hgen : scope.isGenerator = false) (hk : scope.kind = .function)
    (h : ∀ L' h₁ tk cells, Fr s.heap L' h₁ (bindL (envOfC qual scope L' f cdv).kindOf binds fun _ => none) → News s.heap L' h₁ cells → CellsAre (bindC (envOfC qual scope L' f cdv).kindOf binds fun _ => none) (cellsFrom (L' + 1) scope.names []) cells →
      wpAny (model prog w) (A.deeper (envOfC qual scope L' f cdv)) (execs body (envOfC qual scope L' f cdv))
        (fun fl s' => Q (match fl with | .ret v => v | _ => .none) s') (fun _ _ => False) { s with heap := h₁, toks := tk }) :
    wpAny (model prog w) A (call (.ref f) args) Q E s := by
  refine wpAny_call (codeAny_call_function (fd := fnOf name qual params body scope dV kV doc pm an cdv ct) hroom (X _ _ ho) rfl hco hgen rfl (codeRec_of X hcd) (hbind _ _ _ _ ?_))
  refine wpAny_newFunctionEnv_cells hk (kindsX hkind _) fun env' he s' x => ?_
  subst he
  refine ⟨T.nolimit.keeps x.toInCall.keep, codeAny_func ?_⟩
  obtain ⟨h₁, tk, rfl, _⟩ := x.done
  obtain ⟨cells, NC, Y⟩ := Cl.news (h₀ := s.heap) (Nat.le_refl _) fun n c hm => ⟨x.cell n c (lookup_of_mem_nodup (cellsFrom_names scope.names 0 (s.heap.objs.size + 1) [] [] rfl ▸ hnd) hm), x.above n c hm⟩
  exact wpAny_mono (h _ h₁ tk cells ⟨x.toInCall.ns, x.toInCall.keep, Nat.le_refl _⟩ NC Y) (fun fl s' hl => hl) fun _ _ y => y.elim
end

theorem whileEnd {h₀ h' : Heap} {L : Addr} {s : Shared} {J : Nat → (Str → Option Value) → List (Addr × Obj) → Prop} {Q : Flow → Shared → Prop} {n n' : Nat} {m₂ : Str → Option Value} {news₂ nn : List (Addr × Obj)} {tk : Nat}
    (F : Fr h₀ L h' m₂) (N : News h₀ L h' nn) (hs : ∀ p ∈ news₂, p ∈ nn) (hlt : n' < n) (hj : J n' m₂ news₂) : WhileStep2 h₀ L s J Q n .next { s with heap := h', toks := tk } :=
  ⟨h', tk, m₂, news₂, n', rfl, F, fun p hp => N p (hs p hp), hlt, hj⟩
end Mine
end

/-! ML -/
section
open PySem PySem.W PySem.Spec PySem.Calls PyProof.Rows
set_option maxRecDepth 100000
namespace Mine

/-- a list comprehension over any iterator, in a frame with a ledger -/
theorem lcomp {prog : Program} {w : World} {A : Around} {E : Value → Shared → Prop} {s : Shared} {env : Env} {h₀ : Heap} {m : Str → Option Value} {news : List (Addr × Obj)}
    {elt iter : Expr} {x : Str} {px : Pos} {ifs : List Expr} {scope : Scope} {cl : List (Str × Addr)} {pos : Pos} {Q : Value → Shared → Prop} (p : Value → Bool) (R : Value → Value → Prop) (_F : Fr h₀ env.locals s.heap m) (_N : News h₀ env.locals s.heap news)
    (hclos : closureFor scope env = pure cl) (hcell : ∀ y ∈ scope.names, y.2 ≠ .cell) (hkind : scope.kind = .function)
    (hnames : ∀ y ∈ scope.names, y.2 = .local → scope.names.lookup y.1 = some .local) (hx : scope.names.lookup x = some .local)
    (h : wpAny (model prog w) A (eval iter env) (fun xv s₁ => wpAny (model prog w) A (pyIter xv) (fun it s₂ => ∃ I fp n P St, it = .ref I ∧ Walks prog w A I fp [I] n P St ∧ n ≤ sizeLine ∧ St 0 s₂.heap ∧ (∀ b ∈ fp, b < s₂.heap.objs.size) ∧
      Fr h₀ env.locals s₂.heap m ∧ News h₀ env.locals s₂.heap news ∧ h₀.get? I = none ∧ I ≠ env.locals ∧ (∀ p ∈ news, p.1 ≠ I) ∧
      (∀ C i v s₃ m₃ E', P i v → Fr h₀ C s₃.heap m₃ → News h₀ C s₃.heap news → m₃ x = some v →
        wpAny (model prog w) A (forIn ifs true fun c r => if r = true then do let ok ← isTrue c (compEnvC scope cl C env) (eval c (compEnvC scope cl C env)); pure (ForInStep.yield ok) else pure (ForInStep.yield r))
          (fun ok s₄ => ok = p v ∧ Keeps s₃ s₄) E' s₃) ∧
      (∀ C i v s₃ m₃ E', P i v → p v = true → Fr h₀ C s₃.heap m₃ → News h₀ C s₃.heap news → m₃ x = some v →
        wpAny (model prog w) A (eval elt (compEnvC scope cl C env)) (fun y s₄ => R v y ∧ Keeps s₃ s₄) E' s₃) ∧
      (∀ D h' tk ys c (vs : List Value), Fr h₀ env.locals h' m → News h₀ env.locals h' ((D, listOf ys c) :: news) → (∀ p ∈ news, p.1 ≠ D) → vs.length = n → (∀ j v, vs[j]? = some v → P j v) → Paired R (vs.filter p) ys.toList →
        Q (.ref D) { s₂ with heap := h', toks := tk })) E s₁) E s)
    (hs : ∀ x, foldedSetIterable iter env x = pure x) :
    wpAny (model prog w) A (eval (.ListComp elt [⟨.Name x px, iter, ifs, 0⟩] scope pos) env) Q E s := by
  refine wpAny_ListComp_free p R hclos hcell hkind hnames hx (wpAny_mono h (fun xv s₁ h₁ => wpAny_mono h₁ (fun it s₂ h₂ => ?_) fun _ _ e => e) fun _ _ e => e) hs
  obtain ⟨I, fp, n, P, St, rfl, W, hn, hst, hfp, F, N, hI, hIL, hIn, ht, he, hQ⟩ := h₂
  have up : ∀ s₃ : Shared, (∀ b o, b ∉ [I] → s₂.heap.get? b = some o → s₃.heap.get? b = some o) → ∀ C m₃, s₂.heap.objs.size ≤ C → s₃.heap.Ns C m₃ → Fr h₀ C s₃.heap m₃ ∧ News h₀ C s₃.heap news := by
    intro s₃ hk C m₃ hC hns
    refine ⟨⟨hns, fun b o e => hk b o ?_ (F.keep b o e), ?_⟩, fun p hp => ⟨hk _ _ ?_ (N p hp).1, ?_, (N p hp).2.2⟩⟩
    · intro hb
      rw [List.mem_singleton.mp hb, hI] at e; cases e
    · exact Nat.le_trans F.above (Nat.le_trans (Nat.le_of_lt F.ns.lt) hC)
    · intro hb
      exact hIn p hp (List.mem_singleton.mp hb)
    · have := Heap.lt_size (N p hp).1
      exact Nat.ne_of_lt (Nat.lt_of_lt_of_le this hC)
  refine ⟨I, fp, [I], n, P, St, rfl, W, hn, hst, hfp, ⟨?_, ?_⟩, ?_⟩
  · intro C i v s₃ m₃ E' hC hP hns hm hk _
    obtain ⟨F3, N3⟩ := up s₃ hk C m₃ hC hns
    exact ht C i v s₃ m₃ E' hP F3 N3 hm
  · intro C i v s₃ m₃ E' hC hP hpv hns hm hk _
    obtain ⟨F3, N3⟩ := up s₃ hk C m₃ hC hns
    exact he C i v s₃ m₃ E' hP hpv F3 N3 hm
  · intro D h' tk ys vs hD hl hpl hlen hP hpr hk
    obtain ⟨c, hpl⟩ := hpl
    have old : ∀ b o, s₂.heap.get? b = some o → b ≠ I → h'.get? b = some o := fun b o e hb => hk b o (by simpa using hb) e
    obtain ⟨oL, a1, a2, hL, a3⟩ := F.ns
    refine hQ D h' tk ys c vs ⟨⟨oL, a1, a2, old _ _ hL (Ne.symm hIL), a3⟩, fun b o e => old b o (F.keep b o e) ?_, F.above⟩ ?_ ?_ hlen hP hpr
    · intro hb; rw [hb, hI] at e; cases e
    · intro p hp
      rcases List.mem_cons.mp hp with rfl | hp
      · refine ⟨hpl, ?_, ?_⟩
        · intro e
          have e : D = env.locals := e
          rw [e, hL] at hD; cases hD
        · cases e : h₀.get? D with
          | none => rfl
          | some o => rw [F.keep _ _ e] at hD; cases hD
      · exact ⟨old _ _ (N p hp).1 (hIn p hp), (N p hp).2.1, (N p hp).2.2⟩
    · intro p hp e
      rw [← e, (N p hp).1] at hD; cases hD

section
variable {M : Model} {A : Around} {E : Value → Shared → Prop} {s : Shared} {K : Frag} {h₀ : Heap} {L : Addr} {env : Env} {m mg mb : Str → Option Value} {p : Program} {loose : List Str}
  {x : Str} {pos : Pos} {v : Value} {Q : Value → Shared → Prop}
theorem nmK (F : Fr h₀ L s.heap m) (X : K.In h₀) (T : TopRead p loose mg mb h₀) (hx : env.kindOf x = some .globalImplicit) (e : nsIn K mainGlobals x = some (some v)) (hk : env.scope.kind = .function) (hg : env.globals = mainGlobals)
    (hd : (x == ("__debug__" : Str)) = false) (h : Q v s) :
    wpAny M A (eval (.Name x pos) env) Q E s := Name_function_global hk hx (loadGlobal_global (hg ▸ T.g.keeps F.keep) (mg_of X T.g e) h) hd
theorem nmB (F : Fr h₀ L s.heap m) (X : K.In h₀) (T : TopRead p loose mg mb h₀) (hx : env.kindOf x = some .globalImplicit) (e : nsIn K mainGlobals x = some none) (hv : bootBuiltins x = some v) (hk : env.scope.kind = .function) (hg : env.globals = mainGlobals) (hb : env.builtins = builtinsNs)
    (hd : (x == ("__debug__" : Str)) = false) (hn : x ≠ "__name__") (h : Q v s) :
    wpAny M A (eval (.Name x pos) env) Q E s :=
  Name_function_global hk hx (loadGlobal_builtin (hg ▸ T.g.keeps F.keep) (mg_none_of X T.g e) (hb ▸ T.b.keeps F.keep) ((T.builtins x hn).trans hv) h) hd
theorem nmC {news : List (Addr × Obj)} {c : Addr} {o : Obj} (N : News h₀ L s.heap news) (hx : env.kindOf x = some .cell) (hc : env.cells.lookup x = some c) (hm : (c, o) ∈ news) (hv : o.data = .cell (some v)) (hk : env.scope.kind = .function) (hd : (x == ("__debug__" : Str)) = false) (h : Q v s) :
    wpAny M A (eval (.Name x pos) env) Q E s := wpAny_Name (wpAny_loadName_cell hk hx hc ⟨o, N.get hm, hv⟩ h) hd
theorem nmL (F : Fr h₀ L s.heap m) (hv : m x = some v) (hl : env.locals = L) (hx : env.kindOf x = some .local) (hk : env.scope.kind = .function) (hd : (x == ("__debug__" : Str)) = false) (h : Q v s) :
    wpAny M A (eval (.Name x pos) env) Q E s := wpAny_Name (wpAny_loadName_local hk hx (hl ▸ F.ns) hv h) hd
end

/-- what a turn of a for must leave behind -/
def ForEnd (h₀ : Heap) (L I : Addr) (oI : Obj) (J : (Str → Option Value) → List (Addr × Obj) → Prop) (s₂ : Shared) (Q : Flow → Shared → Prop) (f : Flow) (s₄ : Shared) : Prop :=
  match f with
  | .brk => Q .next s₄
  | .ret v => Q (.ret v) s₄
  | _ => ∃ h' tk m' news' nn, s₄ = { s₂ with heap := h', toks := tk } ∧ Fr h₀ L h' m' ∧ News h₀ L h' nn ∧ (I, oI) ∈ nn ∧ (∀ p ∈ news', p ∈ nn ∧ p.1 ≠ I) ∧ J m' news'

theorem for_l {prog : Program} {w : World} {A : Around} {s : Shared} {env : Env} {h₀ : Heap} {x : Str} {px pos : Pos} {iter : Expr} {body : List Stmt} {Q : Flow → Shared → Prop}
    (J : Nat → (Str → Option Value) → List (Addr × Obj) → Prop) (hx : env.kindOf x = some .local) (hkind : env.scope.kind = .function)
    (h : wpAny (model prog w) A (eval iter env) (fun xv s₁ => wpAny (model prog w) A (pyIter xv) (fun it s₂ => ∃ I fp n P St m₀ news₀, it = .ref I ∧ Walks prog w A I fp [I] n P St ∧ St 0 s₂.heap ∧ (∀ i h, St i h → ∃ o, h.get? I = some o) ∧
      Fr h₀ env.locals s₂.heap m₀ ∧ News h₀ env.locals s₂.heap news₀ ∧ h₀.get? I = none ∧ I ≠ env.locals ∧ J 0 m₀ news₀ ∧ (∀ p ∈ news₀, p.1 ≠ I) ∧
      (∀ b ∈ fp, b = I ∨ (∃ o, h₀.get? b = some o) ∨ ∃ o, ∀ i m₁ news₁, J i m₁ news₁ → (b, o) ∈ news₁) ∧
      (∀ i v m₁ news₁ h tk oI, i < n → P i v → J i m₁ news₁ → (∀ p ∈ news₁, p.1 ≠ I) → Fr h₀ env.locals h (fun y => if y = x then some v else m₁ y) → News h₀ env.locals h ((I, oI) :: news₁) →
        wpAny (model prog w) A (execs body env) (ForEnd h₀ env.locals I oI (J (i + 1)) s₂ Q) (fun _ _ => False) { s₂ with heap := h, toks := tk }) ∧
      (∀ m₁ news₁ h tk, J n m₁ news₁ → Fr h₀ env.locals h m₁ → News h₀ env.locals h news₁ → Q .next { s₂ with heap := h, toks := tk })) (fun _ _ => False) s₁) (fun _ _ => False) s)
    (hs : ∀ x, foldedSetIterable iter env x = pure x) :
    wpAny (model prog w) A (exec (.For (.Name x px) iter body [] pos) env) Q (fun _ _ => False) s := by
  refine wpAny_For (wpAny_mono h (fun xv s₁ h₁ => wpAny_mono h₁ (fun it s₂ h₂ => ?_) fun _ _ e => e) fun _ _ e => e) hs
  obtain ⟨I, fp, n, P, St, m₀, news₀, rfl, W, hst, hI, F, N, hnI, hIL, hJ, hnew, hfp, turn, done⟩ := h₂
  refine codeAny_forLoop (fun k s' => ∃ i h tk m₁ news₁ oI, i ≤ n ∧ k = n - i ∧ s' = { s₂ with heap := h, toks := tk } ∧ St i h ∧ Fr h₀ env.locals h m₁ ∧ News h₀ env.locals h ((I, oI) :: news₁) ∧ (∀ p ∈ news₁, p.1 ≠ I) ∧ J i m₁ news₁) ?_ n ?_
  · rintro k s' ⟨i, h, tk, m₁, news₁, oI, hi, rfl, rfl, hst', F', N', hne, hJ'⟩
    have nI : ∀ p ∈ ((I, oI) :: news₁), p.1 = I → p = (I, oI) := by
      intro p hp e
      rcases List.mem_cons.mp hp with rfl | hp
      · rfl
      · exact absurd e (hne p hp)
    have step : ∀ h' : Heap, (∀ b o, b ∉ [I] → h.get? b = some o → h'.get? b = some o) → Fr h₀ env.locals h' m₁ ∧ News h₀ env.locals h' news₁ := by
      intro h' hk
      have hk' : ∀ b o, b ≠ I → h.get? b = some o → h'.get? b = some o := fun b o hb e => hk b o (by simpa using hb) e
      obtain ⟨oL, a1, a2, hL, a3⟩ := F'.ns
      refine ⟨⟨⟨oL, a1, a2, hk' _ _ (Ne.symm hIL) hL, a3⟩, fun b o e => hk' b o ?_ (F'.keep b o e), F'.above⟩, fun p hp => ⟨hk' _ _ (hne p hp) (N' p (.tail _ hp)).1, (N' p (.tail _ hp)).2⟩⟩
      intro hb; rw [hb, hnI] at e; cases e
    by_cases hlt : i < n
    · refine W.item i _ _ _ hlt hst' ?_
      intro v h' tk' hP hst'' hk
      obtain ⟨F1, N1⟩ := step h' hk
      obtain ⟨oI', hoI'⟩ := hI _ _ hst''
      have N2 : News h₀ env.locals h' ((I, oI') :: news₁) := by
        intro p hp
        rcases List.mem_cons.mp hp with rfl | hp
        · exact ⟨hoI', hIL, hnI⟩
        · exact N1 p hp
      refine wpAny_assign_Name (wpAny_storeName_local hx F1.ns (fun h₂ hn hs => ?_) (by rw [hkind]; rfl))
      have F3 := F1.set hn hs
      have N3 := N2.set hs
      have hst3 : St (i + 1) h₂ := W.frame _ _ _ hst'' (fun b hb o e => by
        by_cases hbL : b = env.locals
        · rcases hfp b hb with rfl | ⟨o', ho'⟩ | ⟨o', ho'⟩
          · exact absurd hbL hIL
          · rw [hbL] at ho'
            exact absurd (Nat.lt_of_lt_of_le (Heap.lt_size ho') F1.above) (Nat.lt_irrefl _)
          · exact absurd hbL (N' _ (.tail _ (ho' i m₁ news₁ hJ'))).2.1
        · exact (hs.2 b hbL).trans e)
      refine wpAny_mono (turn i v m₁ news₁ h₂ _ oI' hlt hP hJ' hne F3 N3) (fun f s₄ h₄ => ?_) fun _ _ x => x.elim
      have fin : (∃ h' tk m' news' nn, s₄ = { s₂ with heap := h', toks := tk } ∧ Fr h₀ env.locals h' m' ∧ News h₀ env.locals h' nn ∧ (I, oI') ∈ nn ∧ (∀ p ∈ news', p ∈ nn ∧ p.1 ≠ I) ∧ J (i + 1) m' news') →
          ∃ m, m < n - i ∧ ∃ i' h tk m₁ news₁ oI, i' ≤ n ∧ m = n - i' ∧ s₄ = { s₂ with heap := h, toks := tk } ∧ St i' h ∧ Fr h₀ env.locals h m₁ ∧ News h₀ env.locals h ((I, oI) :: news₁) ∧ (∀ p ∈ news₁, p.1 ≠ I) ∧ J i' m₁ news₁ := by
        rintro ⟨h5, tk5, m5, news5, nn, rfl, F5, N5, hIn, hsub, hJ5⟩
        refine ⟨n - (i + 1), by omega, i + 1, h5, tk5, m5, news5, oI', hlt, rfl, rfl, ?_, F5, ?_, fun p hp => (hsub p hp).2, hJ5⟩
        · refine W.frame _ _ _ hst3 (fun b hb o e => ?_)
          rcases hfp b hb with rfl | ⟨o', ho'⟩ | ⟨o', ho'⟩
          · have e1 := (N3 _ (.head _)).1
            have e1 : h₂.get? b = some oI' := e1
            rw [e1] at e
            rw [← Option.some.inj e]
            exact (N5 _ hIn).1
          · rw [F3.keep _ _ ho'] at e
            rw [← Option.some.inj e]
            exact F5.keep _ _ ho'
          · have e1 := (N3 _ (.tail _ (ho' i m₁ news₁ hJ'))).1
            have e1 : h₂.get? b = some o' := e1
            rw [e1] at e
            rw [← Option.some.inj e]
            exact (N5 _ (hsub _ (ho' _ _ _ hJ5)).1).1
        · intro p hp
          rcases List.mem_cons.mp hp with rfl | hp
          · exact N5 _ hIn
          · exact N5 _ (hsub p hp).1
      cases f with
      | ret v => exact h₄
      | brk => exact h₄
      | next => exact fin h₄
      | cont => exact fin h₄
    · have hin : i = n := by omega
      subst hin
      refine W.done _ _ _ hst' ?_
      intro h' tk' hk
      obtain ⟨F1, N1⟩ := step h' hk
      exact wpAny_execs_nil (done m₁ news₁ h' tk' hJ' F1 N1)
  · obtain ⟨oI, hoI⟩ := hI _ _ hst
    refine ⟨0, s₂.heap, s₂.toks, m₀, news₀, oI, Nat.zero_le _, rfl, rfl, hst, F, ?_, hnew, hJ⟩
    intro p hp
    rcases List.mem_cons.mp hp with rfl | hp
    · exact ⟨hoI, hIL, hnI⟩
    · exact N p hp

/-- what for_l asks behind the iterator's making -/
def ForAt (prog : Program) (w : World) (A : Around) (h₀ : Heap) (env : Env) (x : Str) (body : List Stmt) (J : Nat → (Str → Option Value) → List (Addr × Obj) → Prop) (Q : Flow → Shared → Prop) (it : Value) (s₂ : Shared) : Prop :=
  ∃ I fp n P St m₀ news₀, it = .ref I ∧ Walks prog w A I fp [I] n P St ∧ St 0 s₂.heap ∧ (∀ i h, St i h → ∃ o, h.get? I = some o) ∧
      Fr h₀ env.locals s₂.heap m₀ ∧ News h₀ env.locals s₂.heap news₀ ∧ h₀.get? I = none ∧ I ≠ env.locals ∧ J 0 m₀ news₀ ∧ (∀ p ∈ news₀, p.1 ≠ I) ∧
      (∀ b ∈ fp, b = I ∨ (∃ o, h₀.get? b = some o) ∨ ∃ o, ∀ i m₁ news₁, J i m₁ news₁ → (b, o) ∈ news₁) ∧
      (∀ i v m₁ news₁ h tk oI, i < n → P i v → J i m₁ news₁ → (∀ p ∈ news₁, p.1 ≠ I) → Fr h₀ env.locals h (fun y => if y = x then some v else m₁ y) → News h₀ env.locals h ((I, oI) :: news₁) →
        wpAny (model prog w) A (execs body env) (ForEnd h₀ env.locals I oI (J (i + 1)) s₂ Q) (fun _ _ => False) { s₂ with heap := h, toks := tk }) ∧
      (∀ m₁ news₁ h tk, J n m₁ news₁ → Fr h₀ env.locals h m₁ → News h₀ env.locals h news₁ → Q .next { s₂ with heap := h, toks := tk })

theorem for_at {prog : Program} {w : World} {A : Around} {s : Shared} {env : Env} (h₀ : Heap) {x : Str} {px pos : Pos} {iter : Expr} {body : List Stmt} {Q : Flow → Shared → Prop}
    (J : Nat → (Str → Option Value) → List (Addr × Obj) → Prop) (hx : env.kindOf x = some .local) (hkind : env.scope.kind = .function)
    (h : wpAny (model prog w) A (eval iter env) (fun xv s₁ => wpAny (model prog w) A (pyIter xv) (ForAt prog w A h₀ env x body J Q) (fun _ _ => False) s₁) (fun _ _ => False) s)
    (hs : ∀ x, foldedSetIterable iter env x = pure x) :
    wpAny (model prog w) A (exec (.For (.Name x px) iter body [] pos) env) Q (fun _ _ => False) s := for_l J hx hkind h hs

theorem at_list {prog : Program} {w : World} {A : Around} {s : Shared} {E : Value → Shared → Prop} {env : Env} {h₀ : Heap} {x : Str} {body : List Stmt} {Q : Flow → Shared → Prop} {l : Addr} {items : Array Value} {m₀ : Str → Option Value} {news₀ : List (Addr × Obj)}
    {J : Nat → (Str → Option Value) → List (Addr × Obj) → Prop} (hh : A.handled = none) (F : Fr h₀ env.locals s.heap m₀) (N : News h₀ env.locals s.heap news₀) (hl : s.heap.IsList l items)
    (hlb : (∃ o, h₀.get? l = some o) ∨ ∃ o, ∀ i m₁ news₁, J i m₁ news₁ → (l, o) ∈ news₁) (hJ : J 0 m₀ news₀)
    (turn : ∀ i v m₁ news₁ h tk I oI, items[i]? = some v → J i m₁ news₁ → (∀ p ∈ news₁, p.1 ≠ I) → Fr h₀ env.locals h (fun y => if y = x then some v else m₁ y) → News h₀ env.locals h ((I, oI) :: news₁) →
        wpAny (model prog w) A (execs body env) (ForEnd h₀ env.locals I oI (J (i + 1)) s Q) (fun _ _ => False) { s with heap := h, toks := tk })
    (done : ∀ m₁ news₁ h tk, J items.size m₁ news₁ → Fr h₀ env.locals h m₁ → News h₀ env.locals h news₁ → Q .next { s with heap := h, toks := tk }) :
    wpAny (model prog w) A (pyIter (.ref l)) (ForAt prog w A h₀ env x body J Q) E s := by
  obtain ⟨ol, hol, hol'⟩ := id hl
  have hlt : l < s.heap.objs.size := Heap.lt_size hol
  refine wpAny_pyIter_list hl ⟨_, _, _, _, _, m₀, news₀, rfl, Walks.list hh s.heap.objs.size l (Nat.ne_of_lt hlt) items, ⟨⟨_, Heap.get?_push_size _ rfl, rfl, rfl⟩, hl.at fun o e => Heap.get?_push_of_some _ e⟩, ?_,
    frExt F (fun b o e => Heap.get?_push_of_some _ e), newsExt N (fun b o e => Heap.get?_push_of_some _ e), next_is_new F, Nat.ne_of_gt F.ns.lt, hJ, ?_, ?_, ?_, done⟩
  · rintro i h ⟨⟨o, ho, _⟩, _⟩; exact ⟨o, ho⟩
  · intro p hp; exact Nat.ne_of_lt (Heap.lt_size (N p hp).1)
  · intro b hb
    rcases List.mem_cons.mp hb with e | hb
    · exact .inl e
    · rw [List.mem_singleton.mp hb]; exact .inr hlb
  · intro i v m₁ news₁ h tk oI _ hP hJ1 hne F1 N1
    exact turn i v m₁ news₁ h tk _ oI hP hJ1 hne F1 N1

theorem forEnd {h₀ h' : Heap} {L I : Addr} {oI : Obj} {J : (Str → Option Value) → List (Addr × Obj) → Prop} {s₂ : Shared} {Q : Flow → Shared → Prop} {m' : Str → Option Value} {nn news' : List (Addr × Obj)} {tk : Nat}
    (F : Fr h₀ L h' m') (N : News h₀ L h' nn) (hI : (I, oI) ∈ nn) (hs : ∀ p ∈ news', p ∈ nn ∧ p.1 ≠ I) (hj : J m' news') : ForEnd h₀ L I oI J s₂ Q .next { s₂ with heap := h', toks := tk } :=
  ⟨h', tk, m', news', nn, rfl, F, N, hI, hs, hj⟩
theorem forEnd1 {h₀ h' : Heap} {L I D : Addr} {oI o : Obj} {J : (Str → Option Value) → List (Addr × Obj) → Prop} {s₂ : Shared} {Q : Flow → Shared → Prop} {m' : Str → Option Value} {tk : Nat} {more : List (Addr × Obj)}
    (F : Fr h₀ L h' m') (N : News h₀ L h' ((I, oI) :: (D, o) :: more)) (hID : I ≠ D) (hj : J m' [(D, o)]) : ForEnd h₀ L I oI J s₂ Q .next { s₂ with heap := h', toks := tk } :=
  forEnd F N (.head _) (fun p hp => by rw [List.mem_singleton.mp hp]; exact ⟨.tail _ (.head _), fun e => hID e.symm⟩) hj

section
variable {prog : Program} {w : World} {A : Around} {E : Value → Shared → Prop} {s : Shared} {h₀ : Heap} {L D b : Addr} {m : Str → Option Value} {news news' : List (Addr × Obj)} {its its2 : Array Value} {n n2 : Nat} {Q : Value → Shared → Prop}
theorem tooLong_no {a b : Nat} {x : Bool} (hz : a + b ≤ 100000) : ¬(x && Builtin.List.listTooLong (a + b)) = true := by
  unfold Builtin.List.listTooLong
  rw [sizeLine_eq, decide_eq_false (by omega)]; simp
theorem extendL (F : Fr h₀ L s.heap m) (N : News h₀ L s.heap news) (hb : (b, listOf its2 n2) ∈ news) (hne : its2.size ≠ 0) (U : Upd D (listOf its n) (listOf (its.toList ++ its2.toList).toArray (n + 1)) news news') (hz : its.size + its2.size ≤ 100000)
    (h : ∀ h', Fr h₀ L h' m → News h₀ L h' news' → Q .none { s with heap := h' }) : wpAny (model prog w) A (call (.builtin "list.extend") [.ref D, .ref b]) Q E s :=
  kl_extend F N hb rfl (by simpa using hne) U (tooLong_no hz) (by rw [Array.length_toList, sizeLine_eq]; omega) (by rw [sizeLine_eq]; omega) h
theorem extendT (F : Fr h₀ L s.heap m) (N : News h₀ L s.heap news) (hb : (b, ({ cls := .type "tuple", data := .seq its2 n2 } : Obj)) ∈ news) (hne : its2.size ≠ 0) (U : Upd D (listOf its n) (listOf (its.toList ++ its2.toList).toArray (n + 1)) news news') (hz : its.size + its2.size ≤ 100000)
    (h : ∀ h', Fr h₀ L h' m → News h₀ L h' news' → Q .none { s with heap := h' }) : wpAny (model prog w) A (call (.builtin "list.extend") [.ref D, .ref b]) Q E s :=
  kup_extend F N hb rfl (by simpa using hne) U (tooLong_no hz) (by rw [Array.length_toList, sizeLine_eq]; omega) (by rw [sizeLine_eq]; omega) h
end

theorem at_range {prog : Program} {w : World} {A : Around} {s : Shared} {E : Value → Shared → Prop} {env : Env} {h₀ : Heap} {x : Str} {body : List Stmt} {Q : Flow → Shared → Prop} {r : Addr} {a b c : Int} {t u v : Tok} {m₀ : Str → Option Value} {news₀ : List (Addr × Obj)}
    {J : Nat → (Str → Option Value) → List (Addr × Obj) → Prop} (n : Nat) (hh : A.handled = none) (F : Fr h₀ env.locals s.heap m₀) (N : News h₀ env.locals s.heap news₀) (hr : IsRange s.heap r a b c t u v)
    (hsmall : Builtin.Range.small a b c = true) (hn : (Builtin.Range.rangeSize a b c : Int) = (n : Int)) (hJ : J 0 m₀ news₀)
    (turn : ∀ i tv m₁ news₁ h tk I oI, i < n → J i m₁ news₁ → (∀ p ∈ news₁, p.1 ≠ I) → Fr h₀ env.locals h (fun y => if y = x then some (.int (a + i * c) tv) else m₁ y) → News h₀ env.locals h ((I, oI) :: news₁) →
        wpAny (model prog w) A (execs body env) (ForEnd h₀ env.locals I oI (J (i + 1)) s Q) (fun _ _ => False) { s with heap := h, toks := tk })
    (done : ∀ m₁ news₁ h tk, J n m₁ news₁ → Fr h₀ env.locals h m₁ → News h₀ env.locals h news₁ → Q .next { s with heap := h, toks := tk }) :
    wpAny (model prog w) A (pyIter (.ref r)) (ForAt prog w A h₀ env x body J Q) E s := by
  refine wpAny_pyIter_range hr hsmall ?_
  rw [hn]
  refine ⟨_, _, n, _, _, m₀, news₀, rfl, Walks.range hh s.heap.objs.size a c n, ?_, ?_,
    frExt F (fun b o e => Heap.get?_push_of_some _ e), newsExt N (fun b o e => Heap.get?_push_of_some _ e), next_is_new F, Nat.ne_of_gt F.ns.lt, hJ, ?_, ?_, ?_, done⟩
  · show (s.heap.push _).get? _ = _
    rw [Heap.get?_push_size _ rfl]
    simp [rawInt]
  · intro i h st; exact ⟨_, st⟩
  · intro p hp; exact Nat.ne_of_lt (Heap.lt_size (N p hp).1)
  · intro b hb; exact .inl (List.mem_singleton.mp hb)
  · rintro i v m₁ news₁ h tk oI hlt ⟨tv, rfl⟩ hJ1 hne F1 N1
    exact turn i tv m₁ news₁ h tk _ oI hlt hJ1 hne F1 N1

theorem item {prog : Program} {w : World} {A : Around} {s : Shared} {E : Value → Shared → Prop} {value slice : PySem.Expr} {l : Addr} {items : Array Value} {k : Int} {u : Tok} {v : Value} {Q : Value → Shared → Prop}
    (hl : s.heap.IsList l items) (h0 : 0 ≤ k) (hhi : k < 2 ^ 63) (hx : items[k.toNat]? = some v) (h : Q v s)
    (hs : subscripted slice false (.ref l) (.int k u) = operate [.ref l, .int k u] (getItem (.ref l) (.int k u)) := by with_unfolding_all rfl) :
    wpAny (model prog w) A (subscriptTail value slice (.ref l) (.int k u)) Q E s :=
  item_litK (vs := items.toList) (by rw [Array.toArray_toList]; exact hl) h0 hhi (by rw [Array.getElem?_toList]; exact hx) h hs
end Mine
end

/-! SR -/
section
open PySem PySem.W PySem.Spec PySem.Calls PyProof.Rows
set_option maxRecDepth 100000
set_option maxHeartbeats 4000000
namespace Mine
open PySem.Sre
abbrev CD : Array Nat := #[14, 4, 0, 1, 4294967295, 17, 0, 7, 14, 24, 10, 1, 4294967295, 13, 5, 22, 48, 57, 0, 1, 15, 17, 15, 13, 11, 9, 0, 26624, 2147483648, 0, 0, 0, 0, 0, 0, 15, 2, 0, 17, 1, 1]

def st0 (T : Array Nat) (L s hn : Nat) (o o' : Bool) (a b : Option Nat) (seen : Sre.Seen) : M :=
  { code := CD, text := T, lim := L, start := s, lastStart := L, pc := 5, pos := s, handed := hn, outermost := o, marks := #[a, b], frames := [{ wait := .nextStart, pc := 5, pos := s, outermost := o' }], weight := 1, seen := seen }

theorem search_st {T : Array Nat} {L pos : Nat} (h : pos < L) : ∃ seen, forSearch CD T 1 pos L false = st0 T L pos pos true true none none seen := by
  refine ⟨({} : Sre.Seen).add 14, ?_⟩
  have h1 : (decide (pos > L) || decide (L - pos < 1)) = false := by simp; omega
  unfold forSearch
  show (if (decide (pos > L) || decide (L - pos < 1)) = true then _ else _) = _
  rw [h1]
  rfl


def ns (s : Nat) (o' : Bool) : Sre.Frame := { wait := .nextStart, pc := 5, pos := s, outermost := o' }
def nb (s pc : Nat) (o : Bool) : Sre.Frame := { wait := .nextBranch, pc := pc, pos := s, outermost := o, kept := { lastmark := 0 } }
def st2 (T : Array Nat) (L s : Nat) (o o' : Bool) (b : Option Nat) (seen : Sre.Seen) : M :=
  { code := CD, text := T, lim := L, start := s, lastStart := L, pc := 9, pos := s, handed := s, outermost := o, marks := #[some s, b], lastmark := 0, frames := [nb s 8 o, ns s o'], weight := 2, seen := seen }
theorem to2 {T : Array Nat} {L s hn : Nat} {o o' : Bool} {a b : Option Nat} {seen : Sre.Seen} : M.runFor 2 (st0 T L s hn o o' a b seen) = st2 T L s o o' b ((seen.add 17).add 7) := rfl

def isD (c : Nat) : Bool := decide (48 ≤ c) && decide (c ≤ 57)
def isP (c : Nat) : Bool := decide (c < 256) && (CD.getD (26 + c / 32) 0).testBit (c % 32)
theorem acc13 (c : Nat) (seen : Sre.Seen) : ∃ seen', accepts CD 13 c seen = .ok (isD c, seen') := by
  by_cases h : isD c = true
  · refine ⟨seen.add 22, ?_⟩
    show (if (decide (48 ≤ c) && decide (c ≤ 57)) = true then Except.ok (true, seen.add 22) else inSet CD c 40 18 true (seen.add 22)) = _
    rw [h, if_pos (show (decide (48 ≤ c) && decide (c ≤ 57)) = true from h)]
  · refine ⟨(seen.add 22).add 0, ?_⟩
    show (if (decide (48 ≤ c) && decide (c ≤ 57)) = true then Except.ok (true, seen.add 22) else Except.ok (false, (seen.add 22).add 0)) = _
    rw [if_neg (show ¬ (decide (48 ≤ c) && decide (c ≤ 57)) = true from h)]; simp only [Bool.not_eq_true] at h; rw [h]
theorem acc23 (c : Nat) (seen : Sre.Seen) : ∃ seen', accepts CD 23 c seen = .ok (isP c, seen') := by
  by_cases h : isP c = true
  · refine ⟨seen.add 9, ?_⟩
    show (if (decide (c < 256) && (CD.getD (25 + (1 + c / 32)) 0).testBit (c % 32)) = true then Except.ok (true, seen.add 9) else Except.ok (false, (seen.add 9).add 0)) = _
    rw [show 25 + (1 + c / 32) = 26 + c / 32 by omega]
    rw [h, if_pos (show (decide (c < 256) && (CD.getD (26 + c / 32) 0).testBit (c % 32)) = true from h)]
  · refine ⟨(seen.add 9).add 0, ?_⟩
    show (if (decide (c < 256) && (CD.getD (25 + (1 + c / 32)) 0).testBit (c % 32)) = true then Except.ok (true, seen.add 9) else Except.ok (false, (seen.add 9).add 0)) = _
    rw [show 25 + (1 + c / 32) = 26 + c / 32 by omega]
    rw [if_neg (show ¬ (decide (c < 256) && (CD.getD (26 + c / 32) 0).testBit (c % 32)) = true from h)]; simp only [Bool.not_eq_true] at h; rw [h]
/-- the figures at p and behind, k at most -/
def lead (T : Array Nat) : Nat → Nat → Nat
  | 0, _ => 0
  | k + 1, p => if isD (T.getD p 0) then lead T k (p + 1) + 1 else 0
theorem run13 (T : Array Nat) : ∀ (k p found : Nat) (seen : Sre.Seen), ∃ seen', Sre.run CD T 13 k p found seen = .ok (found + lead T k p, seen')
  | 0, p, found, seen => ⟨seen, rfl⟩
  | k + 1, p, found, seen => by
    obtain ⟨s1, h1⟩ := acc13 (T.getD p 0) seen
    show ∃ seen', (do let (yes, seen) ← accepts CD 13 (T.getD p 0) seen; if yes then Sre.run CD T 13 k (p + 1) (found + 1) seen else pure (found, seen)) = _
    rw [h1]
    show ∃ seen', (if isD (T.getD p 0) = true then Sre.run CD T 13 k (p + 1) (found + 1) s1 else Except.ok (found, s1)) = _
    by_cases h : isD (T.getD p 0) = true
    · obtain ⟨s2, h2⟩ := run13 T k (p + 1) (found + 1) s1
      refine ⟨s2, ?_⟩
      rw [if_pos h, h2, lead, if_pos h]
      congr 2; omega
    · exact ⟨s1, by rw [if_neg h, lead, if_neg h]; rfl⟩

def st3f (T : Array Nat) (L s : Nat) (o o' : Bool) (b : Option Nat) (seen : Sre.Seen) : M := { st2 T L s o o' b seen with answer := some false }
/-- a state of the machine behind a fall or a hit -/
def stx (T : Array Nat) (L s pc pos hn : Nat) (o : Bool) (mk : Array (Option Nat)) (lm li : Int) (fs : List Sre.Frame) (wt : Nat) (an : Option Bool) (ou : Option Sre.Outcome) (seen : Sre.Seen) : M :=
  { code := CD, text := T, lim := L, start := s, lastStart := L, pc := pc, pos := pos, handed := hn, outermost := o, marks := mk, lastmark := lm, lastindex := li, frames := fs, weight := wt, answer := an, outcome := ou, seen := seen }
def gb (s n : Nat) (o : Bool) : Sre.Frame := { wait := .giveBack, pc := 9, pos := s + n, outermost := o, count := (n : Int), kept := { lastmark := 0 } }
theorem step3_end {T : Array Nat} {L s : Nat} {o o' : Bool} {b : Option Nat} {seen : Sre.Seen} (h : L ≤ s) : (st2 T L s o o' b seen).step = st3f T L s o o' b (seen.add 24) := by
  show (if ((1 : Nat) : Int) > (L : Int) - (s : Int) then _ else _) = _
  rw [if_pos (by omega)]; rfl
theorem step3 {T : Array Nat} {L s : Nat} {o o' : Bool} {b : Option Nat} {seen : Sre.Seen} (h : s < L) (hL : L - s ≤ 4294967295) :
    ∃ seen', (st2 T L s o o' b seen).step = if lead T (L - s) s = 0 then st3f T L s o o' b seen' else stx T L s 20 (s + lead T (L - s) s) (s + lead T (L - s) s) o #[some s, b] 0 (-1) [gb s (lead T (L - s) s) o, nb s 8 o, ns s o'] 3 none none seen' := by
  obtain ⟨s1, h1⟩ := run13 T (L - s) s 0 ((seen.add 24).add 13)
  refine ⟨s1, ?_⟩
  show (if ((1 : Nat) : Int) > (L : Int) - (s : Int) then _ else match Sre.run CD T 13 (min 4294967295 ((L : Int) - (s : Int)).toNat) s 0 ((seen.add 24).add 13) with
    | .error why => _
    | .ok (n, seen) => _) = _
  rw [if_neg (by omega), show min 4294967295 ((L : Int) - (s : Int)).toNat = L - s by omega, h1]
  show (if 0 + lead T (L - s) s < 1 then _ else _) = _
  by_cases e : lead T (L - s) s = 0
  · rw [if_pos (by omega), if_pos e]; rfl
  · rw [if_neg (by omega), if_neg e, Nat.zero_add]; rfl
/-- behind the first branch's fall -/
def st4 (T : Array Nat) (L s : Nat) (o o' : Bool) (b : Option Nat) (seen : Sre.Seen) : M :=
  { code := CD, text := T, lim := L, start := s, lastStart := L, pc := 23, pos := s, handed := s, outermost := o, marks := #[some s, b], lastmark := 0, frames := [nb s 22 o, ns s o'], weight := 2, seen := seen }
theorem step4 {T : Array Nat} {L s : Nat} {o o' : Bool} {b : Option Nat} {seen : Sre.Seen} : (st3f T L s o o' b seen).step = st4 T L s o o' b seen := rfl
theorem step5_end {T : Array Nat} {L s : Nat} {o o' : Bool} {b : Option Nat} {seen : Sre.Seen} (h : L ≤ s) : (st4 T L s o o' b seen).step = stx T L s 23 s s o #[some s, b] 0 (-1) [nb s 22 o, ns s o'] 2 (some false) none (seen.add 13) := by
  show (if s ≥ L then _ else _) = _
  rw [if_pos h]; rfl
theorem step5 {T : Array Nat} {L s : Nat} {o o' : Bool} {b : Option Nat} {seen : Sre.Seen} (h : s < L) : ∃ seen', (st4 T L s o o' b seen).step =
    if isP (T.getD s 0) = true then stx T L s 35 (s + 1) s o #[some s, b] 0 (-1) [nb s 22 o, ns s o'] 2 none none seen' else stx T L s 23 s s o #[some s, b] 0 (-1) [nb s 22 o, ns s o'] 2 (some false) none seen' := by
  obtain ⟨s1, h1⟩ := acc23 (T.getD s 0) (seen.add 13)
  refine ⟨s1, ?_⟩
  show (if s ≥ L then _ else match accepts CD 23 (T.getD s 0) (seen.add 13) with
    | .error why => _
    | .ok (false, seen) => _
    | .ok (true, seen) => _) = _
  rw [if_neg (by omega), h1]
  cases isP (T.getD s 0) <;> rfl

section
variable {T : Array Nat} {L s n : Nat} {o o' : Bool} {b : Option Nat} {mk : Array (Option Nat)} {seen : Sre.Seen} {hn : Nat}
theorem f1 : (stx T L s 23 s s o #[some s, b] 0 (-1) [nb s 22 o, ns s o'] 2 (some false) none seen).step = stx T L s 22 s s o #[some s, b] 0 (-1) [ns s o'] 1 (some false) none seen := by kernel_rfl
theorem f2 : (stx T L s 22 s s o #[some s, b] 0 (-1) [ns s o'] 1 (some false) none seen).step =
    (if s < L then st0 T L (s + 1) (s + 1) false false (some s) b seen else stx T L s 5 s s o' #[some s, b] 0 (-1) [] 0 (some false) none seen) := by kernel_rfl
theorem f3 : (stx T L s 5 s s o' #[some s, b] 0 (-1) [] 0 (some false) none seen).step = stx T L s 5 s s o' #[some s, b] 0 (-1) [] 0 (some false) (some .failed) seen := by kernel_rfl
theorem j35 : (stx T L s 35 (s + 1) s o #[some s, b] 0 (-1) [nb s 22 o, ns s o'] 2 none none seen).step = stx T L s 38 (s + 1) s o #[some s, b] 0 (-1) [nb s 22 o, ns s o'] 2 none none (seen.add 15) := by kernel_rfl
theorem m38 {pos wt : Nat} {fs : List Sre.Frame} : (stx T L s 38 pos hn o #[some s, b] 0 (-1) fs wt none none seen).step = stx T L s 40 pos hn o #[some s, some pos] 1 1 fs wt none none (seen.add 17) := by kernel_rfl
theorem s40 {pos wt : Nat} {fs : List Sre.Frame} : (stx T L s 40 pos hn o #[some s, some pos] 1 1 fs wt none none seen).step = stx T L s 40 pos pos o #[some s, some pos] 1 1 fs wt (some true) none (seen.add 1) := by cases o <;> kernel_rfl
theorem r22 {pos e pc p' : Nat} : (stx T L s pc pos e o #[some s, some e] 1 1 [nb s p' o, ns s o'] 2 (some true) none seen).step = stx T L s p' s e o #[some s, some e] 1 1 [ns s o'] 1 (some true) none seen := by kernel_rfl
theorem r5 {pos e pc : Nat} : (stx T L s pc pos e o #[some s, some e] 1 1 [ns s o'] 1 (some true) none seen).step = stx T L s 5 s e o' #[some s, some e] 1 1 [] 0 (some true) none seen := by kernel_rfl
theorem rE {e : Nat} : (stx T L s 5 s e o' #[some s, some e] 1 1 [] 0 (some true) none seen).step = stx T L s 5 s e o' #[some s, some e] 1 1 [] 0 (some true) (some .matched) seen := by kernel_rfl
theorem j20 : (stx T L s 20 (s + n) (s + n) o #[some s, b] 0 (-1) [gb s n o, nb s 8 o, ns s o'] 3 none none seen).step = stx T L s 38 (s + n) (s + n) o #[some s, b] 0 (-1) [gb s n o, nb s 8 o, ns s o'] 3 none none (seen.add 15) := by kernel_rfl
theorem r9 {pos e pc : Nat} : (stx T L s pc pos e o #[some s, some e] 1 1 [gb s n o, nb s 8 o, ns s o'] 3 (some true) none seen).step = stx T L s 9 (s + n) e o #[some s, some e] 1 1 [nb s 8 o, ns s o'] 2 (some true) none seen := by kernel_rfl
end
theorem runFor_done : ∀ (n : Nat) (m : M), m.outcome.isSome = true → M.runFor n m = m
  | 0, _, _ => rfl
  | n + 1, m, h => by rw [M.runFor, if_pos h]
theorem runFor_succ {n : Nat} {m m' : M} (h : m.outcome = none) (e : m.step = m') : M.runFor (n + 1) m = M.runFor n m' := by
  rw [M.runFor, h, e]; rfl
theorem fall {T : Array Nat} {L s : Nat} {o o' : Bool} {b : Option Nat} {seen : Sre.Seen} (h : s < L) : M.runFor 2 (stx T L s 23 s s o #[some s, b] 0 (-1) [nb s 22 o, ns s o'] 2 (some false) none seen) = st0 T L (s + 1) (s + 1) false false (some s) b seen := by
  rw [runFor_succ rfl f1, runFor_succ rfl f2, if_pos h]; rfl
theorem fall_end {T : Array Nat} {L s : Nat} {o o' : Bool} {b : Option Nat} {seen : Sre.Seen} (h : L ≤ s) : (M.runFor 3 (stx T L s 23 s s o #[some s, b] 0 (-1) [nb s 22 o, ns s o'] 2 (some false) none seen)).outcome = some .failed := by
  rw [runFor_succ rfl f1, runFor_succ rfl f2, if_neg (by omega), runFor_succ rfl f3]; rfl
structure Hit (m : M) (s e : Nat) : Prop where
  out : m.outcome = some .matched
  start : m.start = s
  handed : m.handed = e
  last : m.lastmark = 1
  marks : m.marks = #[some s, some e]
theorem hitP {T : Array Nat} {L s : Nat} {o o' : Bool} {b : Option Nat} {seen : Sre.Seen} : Hit (M.runFor 6 (stx T L s 35 (s + 1) s o #[some s, b] 0 (-1) [nb s 22 o, ns s o'] 2 none none seen)) s (s + 1) := by
  rw [runFor_succ rfl j35, runFor_succ rfl m38, runFor_succ rfl s40, runFor_succ rfl r22, runFor_succ rfl r5, runFor_succ rfl rE]
  exact ⟨rfl, rfl, rfl, rfl, rfl⟩
theorem hitD {T : Array Nat} {L s n : Nat} {o o' : Bool} {b : Option Nat} {seen : Sre.Seen} : Hit (M.runFor 7 (stx T L s 20 (s + n) (s + n) o #[some s, b] 0 (-1) [gb s n o, nb s 8 o, ns s o'] 3 none none seen)) s (s + n) := by
  rw [runFor_succ rfl j20, runFor_succ rfl m38, runFor_succ rfl s40, runFor_succ rfl r9, runFor_succ rfl r22, runFor_succ rfl r5, runFor_succ rfl rE]
  exact ⟨rfl, rfl, rfl, rfl, rfl⟩
theorem runFor_add : ∀ (a b : Nat) (m : M), M.runFor (a + b) m = M.runFor b (M.runFor a m)
  | 0, b, m => by rw [Nat.zero_add]; rfl
  | a + 1, b, m => by
    by_cases h : m.outcome.isSome = true
    · rw [runFor_done _ _ h, runFor_done _ _ h, runFor_done _ _ h]
    · rw [show a + 1 + b = (a + b) + 1 by omega, M.runFor, if_neg h, runFor_add a b, M.runFor, if_neg h]
theorem runFor_one {m : M} (h : m.outcome = none) : M.runFor 1 m = m.step := by
  rw [M.runFor, h]; rfl
def firstTok (T : Array Nat) : Nat → Nat → Option (Nat × Nat)
  | 0, _ => none
  | d + 1, s => if isD (T.getD s 0) then some (s, s + lead T (d + 1) s) else if isP (T.getD s 0) then some (s, s + 1) else firstTok T d (s + 1)
def Ends (m : M) : Option (Nat × Nat) → Prop
  | none => m.outcome = some .failed
  | some (s, e) => Hit m s e
theorem search_run (T : Array Nat) (L : Nat) (hL : L ≤ 4294967295) : ∀ (d s hn : Nat) (o o' : Bool) (a b : Option Nat) (seen : Sre.Seen), s + d = L → ∃ N, N ≤ 20 * (d + 1) ∧ Ends (M.runFor N (st0 T L s hn o o' a b seen)) (firstTok T d s)
  | 0, s, hn, o, o', a, b, seen, hs => by
    have hle : L ≤ s := by omega
    refine ⟨2 + (1 + (1 + (1 + 3))), by omega, ?_⟩
    rw [runFor_add, to2, runFor_add, runFor_one rfl, step3_end hle, runFor_add, runFor_one rfl, step4, runFor_add, runFor_one rfl, step5_end hle]
    exact fall_end hle
  | d + 1, s, hn, o, o', a, b, seen, hs => by
    have hlt : s < L := by omega
    obtain ⟨s3, h3⟩ := step3 (T := T) (o := o) (o' := o') (b := b) (seen := (seen.add 17).add 7) hlt (by omega)
    rw [show L - s = d + 1 by omega] at h3
    rw [firstTok]
    by_cases hD : isD (T.getD s 0) = true
    · rw [if_pos hD]
      have hl : lead T (d + 1) s ≠ 0 := by rw [lead, if_pos hD]; omega
      rw [if_neg hl] at h3
      refine ⟨2 + (1 + 7), by omega, ?_⟩
      rw [runFor_add, to2, runFor_add, runFor_one rfl, h3]
      exact hitD
    · rw [if_neg hD]
      have hl : lead T (d + 1) s = 0 := by rw [lead, if_neg hD]
      rw [if_pos hl] at h3
      obtain ⟨s5, h5⟩ := step5 (T := T) (o := o) (o' := o') (b := b) (seen := s3) hlt
      by_cases hP : isP (T.getD s 0) = true
      · rw [if_pos hP]
        rw [if_pos hP] at h5
        refine ⟨2 + (1 + (1 + (1 + 6))), by omega, ?_⟩
        rw [runFor_add, to2, runFor_add, runFor_one rfl, h3, runFor_add, runFor_one rfl, step4, runFor_add, runFor_one rfl, h5]
        exact hitP
      · rw [if_neg hP]
        rw [if_neg hP] at h5
        obtain ⟨N, hN, hE⟩ := search_run T L hL d (s + 1) (s + 1) false false (some s) b s5 (by omega)
        refine ⟨2 + (1 + (1 + (1 + (2 + N)))), by omega, ?_⟩
        rw [runFor_add, to2, runFor_add, runFor_one rfl, h3, runFor_add, runFor_one rfl, step4, runFor_add, runFor_one rfl, h5, runFor_add, fall hlt]
        exact hE
end Mine
end

/-! RE -/
section
open PySem PySem.W PySem.Spec PySem.Calls PyProof.Rows
set_option maxRecDepth 100000
set_option maxHeartbeats 4000000
namespace Mine
open PySem.Builtin.Re

theorem slot_re_split : Slot "re.Pattern" "split" "re.Pattern.split" :=
  .of (owner := "re.Pattern") (n := "split") (by rw [typeLookup_type, builtinLookup_eq_fast]; kernel_rfl) (by decide +kernel) (by decide +kernel) (by decide +kernel)
    (by first | exact .inl (by decide +kernel) | exact .inr (by decide +kernel)) (by rw [isSubtype_type]; kernel_rfl)
theorem type_re_split : typeOf (.builtin "re.Pattern.split") = pure (.type "method_descriptor") := by show builtinType _ = _; rw [builtinType_eq_fast]; kernel_rfl
theorem entry_re_split : entryFor table "re.Pattern.split" = some Builtin.«re.Pattern.split» := entryFor_of_tree (by kernel_rfl)
theorem args_re_split (a b : Value) : argsOk "re.Pattern.split" ⟨[a, b], []⟩ := by unfold argsOk; kernel_rfl
theorem plainAttrs_re : PlainAttrs "re.Pattern" where
  ga := ⟨"object.__getattribute__", by rw [typeLookup_type, builtinLookup_eq_fast]; kernel_rfl, by decide +kernel⟩
  noGetattr := by rw [typeLookup_type, builtinLookup_eq_fast]; kernel_rfl

section
variable {M : Model} {A : Around} {E : Value → Shared → Prop} {s : Shared}
theorem drive_wp {Q : Sre.M → Shared → Prop} : ∀ (T : Nat) (m : Sre.M), (Sre.M.runFor (4 * (T + 1)) m).outcome.isSome = true → Q (Sre.M.runFor (4 * (T + 1)) m) s → wpAny M A (reDrive (T + 1) m) Q E s := by
  intro T
  induction T with
  | zero =>
    intro m h q
    rw [reDrive]
    show wpAny M A (if (Sre.M.runFor 4 m).outcome.isSome = true then pure (Sre.M.runFor 4 m) else _) Q E s
    rw [if_pos h]
    exact wpAny_pure q
  | succ T ih =>
    intro m h q
    rw [reDrive]
    show wpAny M A (if (Sre.M.runFor 4 m).outcome.isSome = true then pure (Sre.M.runFor 4 m) else _) Q E s
    have e : Sre.M.runFor (4 * (T + 1 + 1)) m = Sre.M.runFor (4 * (T + 1)) (Sre.M.runFor 4 m) := by
      rw [show 4 * (T + 1 + 1) = 4 + 4 * (T + 1) by omega, runFor_add]
    rw [e] at h q
    by_cases hd : (Sre.M.runFor 4 m).outcome.isSome = true
    · rw [if_pos hd]
      rw [runFor_done _ _ hd] at q
      exact wpAny_pure q
    · rw [if_neg hd]
      exact wpAny_bind (wpAny_rule (ih _ h q))
theorem rules_wp {m : Sre.M} {Q : PUnit → Shared → Prop} (l : List Nat) (h : Q ⟨⟩ s) :
    wpAny M A (forIn l PUnit.unit fun i _ => if m.seen.has i = true then do rule (Sre.names.getD i ""); pure (ForInStep.yield PUnit.unit) else pure (ForInStep.yield PUnit.unit)) Q E s := by
  refine wpAny_forIn_list _ (fun _ _ s' => s' = s) Q ?_ ?_ l _ rfl
  · rintro x rest b s' rfl
    by_cases hc : m.seen.has x = true
    · rw [if_pos hc]; exact wpAny_bind (wpAny_rule (wpAny_pure rfl))
    · rw [if_neg hc]; exact wpAny_pure rfl
  · rintro b s' rfl; exact h
theorem end_wp {Q : Option Sre.M → Shared → Prop} {m : Sre.M} {N : Nat} {r : Option (Nat × Nat)} (hN : N ≤ 2 ^ 64) (hE : Ends (Sre.M.runFor N m) r) (q0 : r = none → Q none s) (q1 : ∀ b e, r = some (b, e) → Q (some (Sre.M.runFor N m)) s) :
    wpAny M A (reRunToEnd m) Q E s := by
  have hsome : (Sre.M.runFor N m).outcome.isSome = true := by
    cases r with
    | none => rw [show (Sre.M.runFor N m).outcome = some .failed from hE]; rfl
    | some be => rw [show (Sre.M.runFor N m).outcome = some .matched from Hit.out hE]; rfl
  obtain ⟨K, hK⟩ : ∃ K : Nat, 2 ^ 64 = K + 1 := ⟨2 ^ 64 - 1, by decide⟩
  have e : Sre.M.runFor (4 * (K + 1)) m = Sre.M.runFor N m := by
    rw [hK] at hN
    rw [show 4 * (K + 1) = N + (4 * (K + 1) - N) by omega, runFor_add, runFor_done _ _ hsome]
  unfold reRunToEnd
  rw [hK]
  refine wpAny_bind (drive_wp K m (by rw [e]; exact hsome) ?_)
  rw [e]
  refine wpAny_bind (rules_wp _ ?_)
  cases r with
  | none =>
    rw [show (Sre.M.runFor N m).outcome = some .failed from hE]
    exact wpAny_pure (q0 rfl)
  | some be =>
    rw [show (Sre.M.runFor N m).outcome = some .matched from Hit.out hE]
    exact wpAny_pure (q1 be.1 be.2 rfl)
theorem next_wp {Q : Option Sre.M → Shared → Prop} {t : ReTarget} {T : Array Nat} {L start : Nat} (h1 : t.code = CD) (h2 : t.text = T) (h3 : t.groups = 1) (h4 : t.lim = L) (hs : start ≤ L) (hL : L ≤ 1000000)
    (q0 : firstTok T (L - start) start = none → Q none s) (q1 : ∀ m b e, firstTok T (L - start) start = some (b, e) → Hit m b e → Q (some m) s) : wpAny M A (reNextFound t start false) Q E s := by
  unfold reNextFound
  rw [h1, h2, h3, h4]
  by_cases hlt : start < L
  · obtain ⟨seen, e⟩ := search_st (T := T) hlt
    obtain ⟨N, hN, hE⟩ := search_run T L (by omega) (L - start) start start true true none none seen (by omega)
    have hb : N ≤ 2 ^ 64 := Nat.le_trans hN (Nat.le_trans (Nat.mul_le_mul_left 20 (by omega : L - start + 1 ≤ 1000001)) (by decide))
    rw [← e] at hE
    generalize Sre.forSearch CD T 1 start L false = m0 at *
    generalize hr : firstTok T (L - start) start = r at *
    exact end_wp hb hE q0 (fun b e' he => q1 _ b e' he (by rw [he] at hE; exact hE))
  · have hse : start = L := by omega
    subst hse
    rw [Nat.sub_self] at q0 q1
    have hE : Ends (Sre.M.runFor 1 (Sre.forSearch CD T 1 start start false)) none := by
      have h1 : (decide (start > start) || decide (start - start < 1)) = true := by simp
      have e : Sre.forSearch CD T 1 start start false = (Sre.forSearch CD T 1 start start false).say false := by
        unfold Sre.forSearch
        show (if (decide (start > start) || decide (start - start < 1)) = true then _ else _) = (if (decide (start > start) || decide (start - start < 1)) = true then _ else _ : Sre.M).say false
        rw [if_pos h1]; rfl
      rw [e]
      unfold Sre.forSearch
      show (Sre.M.runFor 1 ((if (decide (start > start) || decide (start - start < 1)) = true then _ else _ : Sre.M).say false)).outcome = _
      rw [if_pos h1]
      kernel_rfl
    exact end_wp (N := 1) (by decide) hE (fun _ => q0 rfl) (fun b e' he => by cases he)
end
end Mine
end

/-! SP -/
section
open PySem PySem.W PySem.Spec PySem.Calls PyProof.Rows
set_option maxRecDepth 100000
set_option maxHeartbeats 4000000
namespace Mine
open PySem.Builtin.Re

theorem lead_le (T : Array Nat) : ∀ d s, lead T d s ≤ d
  | 0, s => by simp [lead]
  | d + 1, s => by
    have := lead_le T d (s + 1)
    rw [lead]; split <;> omega
theorem firstTok_le (T : Array Nat) : ∀ d s b e, firstTok T d s = some (b, e) → s ≤ b ∧ b < e ∧ e ≤ s + d
  | 0, s, b, e, h => by simp [firstTok] at h
  | d + 1, s, b, e, h => by
    rw [firstTok] at h
    by_cases h1 : isD (T.getD s 0) = true
    · rw [if_pos h1] at h
      cases h
      have := lead_le T d (s + 1)
      rw [lead, if_pos h1]
      omega
    · rw [if_neg h1] at h
      by_cases h2 : isP (T.getD s 0) = true
      · rw [if_pos h2] at h
        cases h
        omega
      · rw [if_neg h2] at h
        have := firstTok_le T d (s + 1) b e h
        omega
def cuts (T : Array Nat) (L : Nat) : Nat → Nat → List (Nat × Nat)
  | 0, _ => []
  | f + 1, st => match firstTok T (L - st) st with
    | none => [(st, L)]
    | some (b, e) => (st, b) :: (b, e) :: cuts T L f e
theorem cuts_fuel (T : Array Nat) (L : Nat) : ∀ f g st, st ≤ L → L - st < f → L - st < g → cuts T L f st = cuts T L g st
  | 0, _, _, _, h, _ => by omega
  | _, 0, _, _, _, h => by omega
  | f + 1, g + 1, st, hs, hf, hg => by
    rw [cuts, cuts]
    cases hq : firstTok T (L - st) st with
    | none => rfl
    | some be =>
      obtain ⟨b, e⟩ := be
      have := firstTok_le T _ _ _ _ hq
      show (st, b) :: (b, e) :: cuts T L f e = (st, b) :: (b, e) :: cuts T L g e
      rw [cuts_fuel T L f g e (by omega) (by omega) (by omega)]
def cutS (x : Str) : List Str := (cuts x.cps x.cps.size (x.cps.size + 1) 0).map fun q => ⟨x.cps.extract q.1 q.2⟩

section
variable {M : Model} {A : Around} {E : Value → Shared → Prop} {s : Shared}
theorem named1 {x : Str} {t : Tok} : reNamed "re.Pattern.split" "split" ["string", "maxsplit"] 1 [.str x t] [] = pure [some (.str x t), none] := by kernel_rfl
theorem whole_wp {x : Str} {t tk : Tok} {vs : Array Value} {cs : Array Value} {n : Nat} {o o2 : Obj} {Q : ReTarget → Shared → Prop} (ho : s.heap.get? 36 = some o) (hd : o.data = .fields vs) (hv : vs.getD 6 .none = .int 0 tk) (hv5 : vs.getD 5 .none = .ref 35)
   (h2 : s.heap.get? 35 = some o2) (hd2 : o2.data = .seq cs n) (q : Q { pattern := .ref 36, string := .str x t, code := (cs.map reRawOf).map (·.toNat), text := x.cps, kind := 0, groups := reRawNat (vs.getD 2 .none), pos := 0, lim := x.cps.size } s) :
   wpAny M A (reWholeTarget (.ref 36) (.str x t)) Q E s := by
  unfold reWholeTarget
  refine wpAny_bind (wpAny_fieldsOf ho hd ?_)
  rw [hv, hv5]
  show wpAny M A (reRawItems _ >>= _) _ _ _
  unfold reRawItems
  refine wpAny_bind (wpAny_bind (wpAny_seqItems h2 hd2 ?_))
  exact wpAny_pure (wpAny_pure q)
theorem slice_wp {T : Array Nat} {b e : Nat} {Q : Value → Shared → Prop} (hT : T.size ≤ 1000000) (h : Q (.str ⟨T.extract b e⟩ s.toks) { s with toks := s.toks + 1 }) : wpAny M A (reSlice T 0 b e) Q E s := by
  show wpAny M A (mkStr ⟨T.extract b e⟩) Q E s
  refine wpAny_mkStr h ?_
  show (T.extract b e).size ≤ sizeLine
  rw [Array.size_extract]
  exact Nat.le_trans (by omega : min e T.size - b ≤ 1000000) (by decide)
theorem SA.snoc : ∀ {vs : List Value} {ts : List Str} {y : Str} {t : Tok}, StrsAre vs ts → StrsAre (vs ++ [.str y t]) (ts ++ [y])
  | _, _, _, _, .nil => .cons _ _ .nil
  | _, _, _, _, .cons y' t' h => .cons y' t' (SA.snoc h)
theorem SA.len : ∀ {vs : List Value} {ts : List Str}, StrsAre vs ts → vs.length = ts.length
  | _, _, .nil => rfl
  | _, _, .cons _ _ h => congrArg (· + 1) (SA.len h)
theorem SA.push {items : Array Value} {ts : List Str} {y : Str} {t : Tok} (h : StrsAre items.toList ts) : StrsAre (items.push (.str y t)).toList (ts ++ [y]) := by
  rw [Array.toList_push]; exact SA.snoc h
theorem split_wp {x : Str} {t tk0 : Tok} {vs : Array Value} {cs : Array Value} {n : Nat} {o o2 : Obj} {Q : Fin → Shared → Prop} (ho : s.heap.get? 36 = some o) (hd : o.data = .fields vs) (hv : vs.getD 6 .none = .int 0 tk0) (hv5 : vs.getD 5 .none = .ref 35) (hv2 : reRawNat (vs.getD 2 .none) = 1)
   (h2 : s.heap.get? 35 = some o2) (hd2 : o2.data = .seq cs n) (hcs : (cs.map reRawOf).map (·.toNat) = CD) (hL : x.cps.size ≤ 1000000)
    (hret : ∀ tk items, StrsAre items.toList (cutS x) → Q (.done (.ret (.ref s.heap.objs.size))) { s with heap := s.heap.push { cls := .type "list", data := .seq items }, toks := tk }) :
  wpAny M A (Builtin.«re.Pattern.split» ⟨[.ref 36, .str x t], []⟩) Q E s := by
  unfold Builtin.«re.Pattern.split»
  dsimp only
  rw [named1]
  refine wpAny_bind (wpAny_pure ?_)
  dsimp only
  refine wpAny_bind (wpAny_pure ?_)
  refine wpAny_bind (whole_wp ho hd hv hv5 h2 hd2 ?_)
  rw [hcs, hv2]
  unfold cutS at hret
  generalize x.cps = T at *
  generalize ht : ({ pattern := .ref 36, string := .str x t, code := CD, text := T, kind := 0, groups := 1, pos := 0, lim := T.size } : ReTarget) = tg
  have h1 : tg.code = CD := by rw [← ht]
  have h2 : tg.text = T := by rw [← ht]
  have h3 : tg.groups = 1 := by rw [← ht]
  have h4 : tg.lim = T.size := by rw [← ht]
  have h5 : tg.kind = 0 := by rw [← ht]
  clear ht
  generalize hC : cuts T T.size (T.size + 1) 0 = C at hret
  refine wpAny_bind (wpAny_mono (wpAny_forIn_list _ (fun rest (b : Array Value × Nat × Nat × Bool × Int × Bool) s' => ∃ st done tk, b.2.1 = st ∧ b.2.2.1 = st ∧ b.2.2.2.1 = false ∧ st ≤ T.size ∧ done.length ≤ 2 * st ∧ s' = { s with toks := tk } ∧ done ++ cuts T T.size (T.size + 1) st = C ∧ StrsAre b.1.toList (done.map fun q => ⟨T.extract q.1 q.2⟩) ∧
      ((b.2.2.2.2.2 = true ∧ cuts T T.size (T.size + 1) st = [(st, T.size)]) ∨ (b.2.2.2.2.2 = false ∧ T.size - st + 1 ≤ rest.length)))
     (fun b s' => ∃ st done tk, b.2.1 = st ∧ b.2.2.1 = st ∧ b.2.2.2.1 = false ∧ st ≤ T.size ∧ done.length ≤ 2 * st ∧ s' = { s with toks := tk } ∧ done ++ [(st, T.size)] = C ∧ StrsAre b.1.toList (done.map fun q => ⟨T.extract q.1 q.2⟩) ∧ b.2.2.2.2.2 = true) ?_ ?_ _ _ ?_) ?_ (fun _ _ h => h))
  · rintro x rest ⟨out, start, last, must, n, over⟩ s' ⟨st, done, tk, e1, e2, e3, hst, hdl, es, hd, hs, ho⟩
    dsimp only at e1 e2 e3 hs ho ⊢
    subst e1; subst e2; subst e3; subst es
    rcases ho with ⟨ho, hc⟩ | ⟨ho, hr⟩
    · subst ho
      exact wpAny_pure ⟨_, done, tk, rfl, rfl, rfl, hst, hdl, rfl, hd, hs, .inl ⟨rfl, hc⟩⟩
    · subst ho
      show wpAny M A (reNextFound tg _ false >>= _) _ _ _
      refine wpAny_bind (next_wp h1 h2 h3 h4 hst hL ?_ ?_)
      · intro hn
        refine wpAny_pure ⟨_, done, tk, rfl, rfl, rfl, hst, hdl, rfl, hd, hs, .inl ⟨rfl, ?_⟩⟩
        rw [cuts, hn]
      · intro m b e hn hm
        obtain ⟨g1, g2, g3⟩ := firstTok_le T _ _ _ _ hn
        dsimp only
        rw [h2, h5, h3, hm.start, hm.handed]
        refine wpAny_bind (slice_wp hL ?_)
        show wpAny M A (forIn (List.range 1) _ _ >>= _) _ _ _
        rw [show List.range 1 = [0] from rfl, List.forIn_cons]
        refine wpAny_bind (wpAny_bind (wpAny_bind ?_))
        unfold reMachineGroup
        rw [hm.last, hm.marks, h2, h5]
        show wpAny M A (if ((0 : Nat) : Int) ≥ 1 then _ else if e < b then _ else reSlice T 0 b e) _ _ _
        rw [if_neg (by decide), if_neg (by omega)]
        refine slice_wp hL (wpAny_pure ?_)
        dsimp only
        rw [List.forIn_nil]
        refine wpAny_pure (wpAny_pure ?_)
        refine ⟨e, done ++ [(last, b), (b, e)], tk + 1 + 1, rfl, rfl, ?_, by omega, by simp only [List.length_append, List.length_cons, List.length_nil]; omega, rfl, ?_, ?_, .inr ⟨rfl, ?_⟩⟩
        · show (e == b) = false
          simp; omega
        · rw [← hd]
          conv => rhs; rw [cuts, hn]
          show _ = done ++ ((last, b) :: (b, e) :: cuts T T.size T.size e)
          rw [cuts_fuel T T.size (T.size + 1) T.size e (by omega) (by omega) (by omega)]
          simp
        · have h' := SA.push (y := ⟨T.extract b e⟩) (t := tk + 1) (SA.push (y := ⟨T.extract last b⟩) (t := tk) hs)
          rw [List.map_append]
          simpa using h'
        · simp at hr; omega
  · rintro ⟨out, start, last, must, n, over⟩ s' ⟨st, done, tk, e1, e2, e3, hst, hdl, es, hd, hs, ho⟩
    rcases ho with ⟨ho, hc⟩ | ⟨ho, hr⟩
    · exact ⟨st, done, tk, e1, e2, e3, hst, hdl, es, by rw [hc] at hd; exact hd, hs, ho⟩
    · simp at hr
  · refine ⟨0, [], s.toks, rfl, rfl, rfl, Nat.zero_le _, Nat.le_refl _, rfl, hC, .nil, .inr ⟨rfl, ?_⟩⟩
    rw [List.length_range]; unfold reMostMatches; rw [h2]; omega
  · rintro ⟨out, start, last, must, n, over⟩ s' ⟨st, done, tk, e1, e2, e3, hst, hdl, es, hd, hs, ho⟩
    dsimp only at e1 e2 e3 hs ho ⊢
    subst e1; subst e2; subst e3; subst es; subst ho
    show wpAny M A (reSlice tg.text tg.kind _ tg.lim >>= _) _ _ _
    rw [h2, h5, h4]
    refine wpAny_bind (slice_wp hL ?_)
    refine wpAny_bind (wpAny_newList ?_ ?hz)
    case hz =>
      have := SA.len hs
      rw [List.length_map, Array.length_toList] at this
      rw [Array.length_toList, Array.size_push]
      exact Nat.le_trans (by omega : out.size + 1 ≤ 2000001) (by decide)
    refine wpAny_pure ?_
    rw [Array.toArray_toList]
    refine hret _ _ ?_
    rw [← hd, List.map_append]
    exact SA.push hs
end
end Mine
end

/-! CW -/
section
open PySem PySem.W PySem.Spec PySem.Calls PyProof.Rows
set_option maxRecDepth 100000
set_option maxHeartbeats 4000000
namespace Mine
open PySem.Sem (wp)

def codeC (M : Model) (A : Around) (c : Code) (R : Result → Shared → Prop) (s : Shared) : Prop :=
  ∀ Γ p, Γ.code = c → Γ.Below A → PB Γ → wpCode M Γ R p s

abbrev NoE : Value → Shared → Prop := fun _ _ => False

section
variable {α β : Type} {M : Model} {A : Around} {E : Value → Shared → Prop} {s : Shared}
theorem wpC_map {m : Sem α} {f : α → β} {Q : β → Shared → Prop} (h : wpC M A m (fun a s' => Q (f a) s') E s) :
    wpC M A (f <$> m) Q E s := fun Γ p hΓ hP => by rw [Sem.wp_map]; exact h Γ p hΓ hP
theorem wpC_standAt {pos : Pos} {Q : Unit → Shared → Prop} (h : Q () s) : wpC M A (standAt pos) Q E s := fun _ _ _ _ => h
theorem wpC_holding {vs : List Value} {m : Sem α} {Q : α → Shared → Prop} (h : wpC M A m Q E s) : wpC M A (holding vs m) Q E s :=
  fun Γ p hΓ hP => by rw [Sem.wp_holding]; exact h Γ p hΓ hP
theorem wpC_onRaise {m : Sem α} {k : Value → Sem Unit} {Q : α → Shared → Prop}
    (h : wpC M A m Q (fun e s' => wpC M A (k e) (fun _ s'' => E e s'') E s') s) : wpC M A (m.onRaise k) Q E s := fun Γ p hΓ hP => by
  rw [Sem.wp_onRaise]
  exact Sem.wp_mono M Γ m (fun _ _ _ h' => h') (fun e p' s' h' => h' Γ p' hΓ hP) p s (h Γ p hΓ hP)
theorem wpC_attempt {m : Sem α} {Q : Except Value α → Shared → Prop} (h : wpC M A m (fun a => Q (.ok a)) (fun e => Q (.error e)) s) :
    wpC M A m.attempt Q E s := fun Γ p hΓ hP => by rw [Sem.wp_attempt]; exact h Γ p hΓ hP
theorem wpC_stack {Q : List (Code × Pos) → Shared → Prop} (h : ∀ st : List (Code × Pos), (st.map (·.1)).any Code.isCaller = true → Q st s) : wpC M A stack Q E s :=
  fun Γ p _ hP => h ((Γ.code, p) :: Γ.below) hP
theorem wpC_of_eq {m m' : Sem α} {Q : α → Shared → Prop} (e : m = m') (h : wpC M A m' Q E s) : wpC M A m Q E s := e ▸ h
theorem PB.enter {Γ : PySem.Ctx} (h : PC Γ) (c : Code) (hd : Option Value) (p : Pos) : PB (Γ.enter c hd p) := h
theorem wpC_run {c : Code} {h : Option Value} {Q : Flow → Shared → Prop}
    (hc : codeC M (A.mark h) c (fun r s' => match r with | .ok f => Q f s' | .error e => E e s') s) (hnb : h ≠ some byPass := by intro x; cases x) :
    wpC M A (run c h) Q E s :=
  fun Γ p hΓ hP => by rw [Sem.wp_run]; exact hc _ p rfl (hΓ.enter c h p hnb) (PB.enter hP c h p)
theorem wpC_runValue {c : Code} {Q : Value → Shared → Prop}
    (hc : codeC M A c (fun r s' => match r with | .ok (.ret v) => Q v s' | .ok _ => False | .error e => E e s') s) :
    wpC M A (runValue c) Q E s := fun Γ p hΓ hP => by rw [Sem.wp_runValue]; exact hc _ p rfl (hΓ.enter c none p (by intro x; cases x)) (PB.enter hP c none p)
theorem wpC_call {f : Value} {pos : List Value} {kw : List (Str × Value)} {Q : Value → Shared → Prop}
    (hc : codeC M A (.call f ⟨pos, kw⟩) (fun r s' => match r with | .ok (.ret v) => Q v s' | .ok _ => False | .error e => E e s') s) :
    wpC M A (call f pos kw) Q E s := wpC_runValue hc
theorem codeC_of_tree {c : Code} {R : Result → Shared → Prop}
    (h : wpC M (A.under c) (M.den c) (fun fin s' => match fin with | .done f => R (.ok f) s' | .again c' => c'.quiet = true ∧ codeC M A c' R s')
      (fun e s' => R (.error e) s') s) : codeC M A c R s := fun Γ p hc hΓ hP => by
  rw [wpCode_iff_wp, hc]
  refine Sem.wp_mono M Γ _ (fun fin p' s' h' => ?_) (fun _ _ _ h' => h') p s (h Γ p (hc ▸ hΓ.in) hP.pc)
  cases fin with
  | done f => exact h'
  | again c' => exact ⟨h'.1, h'.2 (Γ.goto c') p' rfl (hΓ.goto c') hP⟩
theorem codeC_loop {c : Code} {R : Result → Shared → Prop} (hq : c.quiet = true) (I : Nat → Shared → Prop)
    (turn : ∀ n s, I n s → wpC M (A.under c) (M.den c)
      (fun fin s' => match fin with
        | .done f => R (.ok f) s'
        | .again c' => (c' = c ∧ ∃ m, m < n ∧ I m s') ∨ (c'.quiet = true ∧ codeC M A c' R s')) (fun e s' => R (.error e) s') s)
    (n : Nat) (h : I n s) : codeC M A c R s := by
  induction n using Nat.strongRecOn generalizing s with
  | ind n ih =>
    refine codeC_of_tree (wpC_mono (turn n s h) (fun fin s' hf => ?_) fun _ _ h' => h')
    cases fin with
    | done f => exact hf
    | again c' =>
      rcases hf with ⟨rfl, m, hm, hI⟩ | hf
      · exact ⟨hq, ih m hm hI⟩
      · exact hf
theorem wpC_execs_nil {env : Env} {Q : Flow → Shared → Prop} (h : Q .next s) : wpC M A (execs [] env) Q E s := fun _ _ _ _ => h
theorem wpC_execs_cons {env : Env} {st rest} {Q : Flow → Shared → Prop}
    (h : wpC M A (exec st env) (fun f s' => match f with | .next => wpC M A (execs rest env) Q E s' | f => Q f s') E s) :
    wpC M A (execs (st :: rest) env) Q E s := fun Γ p hΓ hP => by
  rw [execs_cons, Sem.wp_bind']
  refine Sem.wp_mono M Γ _ (fun f p' s' h' => ?_) (fun _ _ _ h' => h') _ _ (h Γ p hΓ hP)
  cases f <;> first | exact h' Γ p' hΓ hP | exact h'
theorem wpC_If {env : Env} {test body orelse pos} {Q : Flow → Shared → Prop}
    (h : wpC M A (isTrue test env (eval test env))
      (fun b s₂ => if b then wpC M A (execs body env) Q E s₂ else wpC M A (execs orelse env) Q E s₂) E s) :
    wpC M A (exec (.If test body orelse pos) env) Q E s := fun Γ p hΓ hP => by
  simp only [exec_If, Sem.wp_bind', Sem.wp_cmd_standAt]
  refine Sem.wp_mono M Γ _ (fun b p₂ s₂ h₂ => ?_) (fun _ _ _ h' => h') _ _ (h Γ _ hΓ hP)
  cases b <;> exact h₂ Γ p₂ hΓ hP
theorem wpC_runOwn {env : Env} {c : Code} {Q : Flow → Shared → Prop}
    (hc : codeC M A c (fun r s' => match r with | .ok f => Q f s' | .error e => False) s) :
    wpC M A (runOwn c env none) Q NoE s := by
  unfold runOwn
  refine wpC_onRaise (wpC_mono (E := NoE) (wpC_run (h := none) ?_) (fun _ _ h => h) fun _ _ h => h.elim)
  exact hc
end

section
variable {prog : Program} {w : World} {A : Around} {R : Result → Shared → Prop} {s : Shared}
theorem codeC_func {body env}
    (h : wpC (model prog w) (A.deeper env) (execs body env) (fun f s' => R (.ok (.ret (match f with | .ret v => v | _ => .none))) s') NoE s) :
    codeC (model prog w) A (.func body env) R s := by
  refine codeC_of_tree ?_
  show wpC _ (A.deeper env) (do point; match ← (execs body env).onRaise (leaving env) with | .ret v => ret v | _ => ret .none) _ _ s
  refine wpC_bind (wpC_of (wpAny_point (wpC_bind (wpC_onRaise (wpC_mono h (fun f s' h' => ?_) fun _ _ h' => h'.elim)))))
  cases f <;> exact wpC_pure h'
theorem codeC_call_function {a : Addr} {args : Args} {o : Obj} {fd : FuncData} {body : List Stmt} (hroom : A.depth < recursionLimit)
    (ho : s.heap.get? a = some o)
    (hd' : o.data = .func fd) (hco : fd.scope.isCoroutine = false) (hgen : fd.scope.isGenerator = false) (hbody : fd.body = .stmts body) (hcd : s.heap.CodeRec fd.code fd.qualname)
    (h : wpAny (model prog w) A.in1 (bindArgs fd args) (fun binds s₁ =>
      wpAny (model prog w) A.in1 (newFunctionEnv fd.scope fd.globals fd.closure binds (fd.qualname ++ ".<locals>.") (some a) fd.code none fd.builtins)
        (fun env s₂ => s₂.heap.NoLimit ∧ codeC (model prog w) A (.func body env) R s₂) (fun e s' => R (.error e) s') s₁) (fun e s' => R (.error e) s') s) :
    codeC (model prog w) A (.call (.ref a) args) R s := by
  refine codeC_of_tree (wpC_of ?_)
  show wpAny _ A.in1 (callAny (.ref a) args) _ _ s
  simp only [callAny]
  refine wpAny_bind (wpAny_load ho ?_)
  obtain ⟨c, oc, vs, tq, hc, hoc, hdc, hq⟩ := hcd
  simp only [hd', callFunction, hco, hgen, hbody, hc]
  rw [hc] at h
  refine wpAny_bind (m := field (.ref c) 1) (wpAny_field hoc hdc hq (wpAny_bind (wpAny_pure ?_)))
  exact wpAny_bind (wpAny_mono h (fun binds s₁ h₁ => wpAny_bind (wpAny_mono h₁ (fun env s₂ h₂ => wpAny_bind (wpAny_enterFrame h₂.1 hroom
    (wpAny_pure (And.intro rfl h₂.2)))) fun _ _ h' => h')) fun _ _ h' => h')
theorem codeC_forLoop {target it body orelse env} (I : Nat → Shared → Prop)
    (turn : ∀ n s, I n s → wpAny (model prog w) A (pyNext it) (fun r s₁ => match r with
      | none => wpAny (model prog w) A (execs orelse env) (fun f s₃ => R (.ok f) s₃) NoE s₁
      | some v => wpAny (model prog w) A (assign target env v) (fun _ s₂ => wpC (model prog w) A (execs body env) (fun f s₃ => match f with
          | .next | .cont => ∃ m, m < n ∧ I m s₃
          | .brk => R (.ok .next) s₃
          | .ret v => R (.ok (.ret v)) s₃) NoE s₂) NoE s₁) NoE s)
    (n : Nat) (h : I n s) (ht : ∀ v, letOwnedTupleGo target it v = pure () := by intro _; rfl) : codeC (model prog w) A (.forLoop target it body orelse env) R s := by
  refine codeC_loop rfl I (fun n s hI => ?_) n h
  show wpC _ _ ((forTurn target it body orelse env).onRaise (fun x => do noteFrame x env; theTreesLotGoes x)) _ _ s
  refine wpC_onRaise (wpC_mono (E := NoE) ?_ (fun _ _ h => h) fun _ _ h => h.elim)
  simp only [forTurn]
  refine wpC_bind (wpC_standAt (wpC_bind (wpC_onRaise (wpC_mono (wpC_of (turn n s hI)) (fun r s₁ h₁ => ?_) fun _ _ h' => h'.elim))))
  cases r with
  | none =>
    refine wpC_pure (.inr ⟨rfl, ?_⟩)
    intro Γ p hc hΓ hP
    exact (codeAny_block (wpAny_mono h₁ (fun _ _ h => h) fun _ _ h => h.elim)) Γ p hc hΓ
  | some v =>
    refine wpC_bind (wpC_of_eq (ht v) (wpC_pure ?_))
    refine wpC_bind (wpC_mono (wpC_of h₁) (fun _ s₂ h₂ => wpC_bind (wpC_mono h₂ (fun f s₃ h₃ => ?_) fun _ _ h' => h')) fun _ _ h' => h')
    cases f with
    | next => exact wpC_pure (.inl ⟨rfl, h₃⟩)
    | cont => exact wpC_pure (.inl ⟨rfl, h₃⟩)
    | brk => exact wpC_pure h₃
    | ret v => exact wpC_pure h₃
theorem wpC_For {env : Env} {target iter body orelse pos} {Q : Flow → Shared → Prop}
    (h : wpAny (model prog w) A (eval iter env) (fun x s₁ => wpAny (model prog w) A (pyIter x) (fun it s₂ =>
      codeC (model prog w) A (.forLoop target it body orelse env) (fun r s' => match r with | .ok f => Q f s' | .error e => False) s₂) NoE s₁) NoE s)
    (hs : ∀ x, foldedSetIterable iter env x = pure x := by intro _; rfl) :
    wpC (model prog w) A (exec (.For target iter body orelse pos) env) Q NoE s := by
  rw [exec_For]
  exact wpC_bind (wpC_standAt (wpC_bind (wpC_mono (wpC_of h) (fun x s₁ h₁ => wpC_bind (wpC_of_eq (hs x) (wpC_pure (wpC_bind (wpC_standAt (wpC_bind (wpC_holding
    (wpC_mono (wpC_of h₁) (fun it s₂ h₂ => wpC_runOwn h₂) fun _ _ h' => h')))))))) fun _ _ h' => h')))
theorem wpC_Try {env : Env} {E : Value → Shared → Prop} {body orelse : List Stmt} {h₀ : ExceptHandler} {hs : List ExceptHandler} {pos : Pos} {Q : Flow → Shared → Prop}
    (h : wpC (model prog w) A (execs body env) (fun f s₁ => match f with | .next => wpC (model prog w) A (execs orelse env) Q E s₁ | f => Q f s₁)
      (fun e s₁ => wpAny (model prog w) A (noteFrame e env) (fun _ s₂ => wpAny (model prog w) A (setFlight e none) (fun _ s₃ => wpAny (model prog w) A (handleBy e env (h₀ :: hs)) Q E s₃) E s₂) E s₁) s) :
    wpC (model prog w) A (exec (.Try body (h₀ :: hs) orelse [] pos) env) Q E s := by
  rw [arm_exec_Try]
  refine wpC_bind (wpC_standAt ?_)
  unfold tryStmt
  simp only [List.isEmpty_nil, if_true, List.isEmpty_cons, Bool.false_and, Bool.false_eq_true, if_false]
  refine wpC_bind (wpC_attempt (wpC_mono h (fun f s₁ h₁ => ?_) fun e s₁ h₁ => ?_))
  · cases f <;> first | exact h₁ | exact wpC_pure h₁
  · exact wpC_of (wpAny_bind (wpAny_mono h₁ (fun _ _ h₂ => wpAny_bind h₂) fun _ _ x => x))
end
end Mine
end

/-! IN -/
section
open PySem PySem.W PySem.Spec PySem.Calls PyProof.Rows
set_option maxRecDepth 100000
set_option maxHeartbeats 4000000
namespace Mine
theorem typeCall_int_2 (a b : Value) : checkTypeCall "int" ⟨[a, b], []⟩ = pure () := by kernel_rfl
theorem newCall_int_2 (a b : Value) : checkBuiltinCall "int.__new__" ⟨[.type "int", a, b], []⟩ = pure () := by kernel_rfl
theorem args_object_init_3 (a b c : Value) : argsOk "object.__init__" ⟨[a, b, c], []⟩ := by unfold argsOk; kernel_rfl
theorem idx10 {n : Int} {t : Tok} : Builtin.Int.intIndex "int.__new__" (.int n t) = pure n := rfl
theorem new_eq {x : Str} {u t : Tok} (hx : x.cps.all (· < 128) = true) : Builtin.«int.__new__» ⟨[.type "int", .str x u, .int 10 t], []⟩ =
   ((int_private% "intFromText") (.str x u) x.cps.toList 10 >>= fun v => ret v : Sem PySem.Fin) := by
  unfold Builtin.«int.__new__»
  have f1 := F.conv_sub_int
  have f2 := F.madeHere_int
  dsimp only
  show (isSubtype (.type "int") (.type "int") >>= _) = _
  rw [f1]
  show (Bind.madeHere "int.__new__" (.type "int") >>= _) = _
  rw [f2]
  have e : (if x.cps.all (· < 128) then x.cps.toList else Unicode.numberText x.cps.toList) = x.cps.toList := if_pos hx
  rw [← e]
  rfl

section
variable {prog : Program} {w : World} {A : Around} {E : Value → Shared → Prop} {s : Shared} {Q : Value → Shared → Prop}
theorem read_digit : ∀ d : Nat, d < 10 → (int_private% "readNumeral") 0 10 [48 + d] = (int_private% "Numeral.value") (d : Int)
  | 0, _ => rfl | 1, _ => rfl | 2, _ => rfl | 3, _ => rfl | 4, _ => rfl | 5, _ => rfl | 6, _ => rfl | 7, _ => rfl | 8, _ => rfl | 9, _ => rfl
  | n + 10, h => by omega
theorem gives_digit {d : Nat} {u t : Tok} (hd : d < 10) : Gives (Builtin.«int.__new__» ⟨[.type "int", .str ⟨#[48 + d]⟩ u, .int 10 t], []⟩) (.int d) :=
  .of_wp fun M A E s Q h => by
    rw [new_eq (by simp; omega)]
    have tw : ([48 + d] : List Nat).takeWhile (· != 0) = [48 + d] := by simp
    refine wpAny_bind (KIN.wp_text (n := (d : Int)) ?_ ?_ ?_ (wpAny_pure ⟨_, rfl, h⟩))
    · show (([48 + d] : List Nat).takeWhile (· != 0)).length ≤ 640
      rw [tw]; exact (by decide : 1 ≤ 640)
    · show (int_private% "readNumeral") 0 10 (([48 + d] : List Nat).takeWhile (· != 0)) = _
      rw [tw]; exact read_digit d hd
    · show ((([48 + d] : List Nat).takeWhile (· != 0)).length == ([48 + d] : List Nat).length) = true
      rw [tw]; rfl
theorem int_digit {d : Nat} {u t : Tok} (hd : d < 10) (h : Q (.int d s.toks) { s with toks := s.toks + 1 }) : wpAny (model prog w) A (call (.type "int") [.str ⟨#[48 + d]⟩ u, .int 10 t]) Q E s :=
  callType_new F.called_int F.newNe_int (typeCall_int_2 _ _) (newCall_int_2 _ _) (fun obj => args_object_init_3 obj _ _) F.entry_int_new (gives_digit hd).meets (show (Made.int d).post _ s from ⟨rfl, h⟩)

/-- a text whose first sign is a letter and that holds no blank -/
theorem read_word {c : Nat} {cs : List Nat} (hc : (65 ≤ c ∧ c ≤ 90) ∨ (97 ≤ c ∧ c ≤ 122)) (hcs : ∀ x ∈ cs, (65 ≤ x ∧ x ≤ 90) ∨ (97 ≤ x ∧ x ≤ 122)) : (int_private% "readNumeral") 0 10 (c :: cs) = int_private% "Numeral.invalid" := by
  rw [NumText.readNumeral_ten]
  have nb : ∀ x, ((65 ≤ x ∧ x ≤ 90) ∨ (97 ≤ x ∧ x ≤ 122)) → NumText.blank x = false := by
    intro x hx
    unfold NumText.blank
    simp; omega
  have e1 : (c :: cs).dropWhile NumText.blank = c :: cs := by rw [List.dropWhile_cons, nb c hc]; rfl
  have e2 : NumText.sign (c :: cs) = (false, c :: cs) := by
    unfold NumText.sign
    split
    · rename_i h; cases h; omega
    · rename_i h; cases h; omega
    · rfl
  have e3 : ((c :: cs).reverse.dropWhile NumText.blank).reverse = c :: cs := by
    cases hr : (c :: cs).reverse with
    | nil => simp at hr
    | cons y ys =>
      have hy : y ∈ (c :: cs) := by rw [← List.mem_reverse, hr]; exact .head _
      have : NumText.blank y = false := by
        rcases List.mem_cons.mp hy with rfl | h
        · exact nb _ hc
        · exact nb _ (hcs _ h)
      rw [List.dropWhile_cons, this]
      show (y :: ys).reverse = _
      rw [← hr, List.reverse_reverse]
  have e4 : NumText.core (c :: cs) = c :: cs := by
    unfold NumText.core
    rw [e1, e2, e3]
  have e5 : NumText.digits? 10 (c :: cs) = none := by
    unfold NumText.digits?
    rw [List.foldlM_cons]
    have : NumText.step 10 (#[], false) c = none := by
      unfold NumText.step NumText.digit?
      rcases hc with hc | hc
      · rw [if_neg (by simp; omega), if_neg (by simp; omega), if_neg (by simp; omega), if_pos (by simp; omega)]
        show (if c - 55 < 10 then _ else _) = _
        rw [if_neg (by omega)]
      · rw [if_neg (by simp; omega), if_neg (by simp; omega), if_pos (by simp; omega)]
        show (if c - 87 < 10 then _ else _) = _
        rw [if_neg (by omega)]
    rw [this]; rfl
  rw [e4, e5]
  rfl

theorem mark_none {own : List String} {e : Value} {Q : Unit → Shared → Prop} (h : Q () s) : wpC (model prog w) A (markTheRefusal own e) Q E s := by
  unfold markTheRefusal
  refine wpC_bind (wpC_stack fun st hst => ?_)
  have : pythonCodeMadeTheCall own (st.map (·.1)) = false := by
    show (!((st.map (·.1)).any Code.isCaller) && _ && _) = false
    rw [hst]; rfl
  rw [this]
  exact wpC_pure h
theorem codeC_builtin {R : Result → Shared → Prop} {id : String} {args : Args} {b : Builtin} (hb : entryFor table id = some b)
    (h : wpC (model prog w) (A.under (.builtin id args)) (b args)
      (fun fin s' => match fin with | .done f => R (.ok f) s' | .again c' => c'.quiet = true ∧ codeC (model prog w) A c' R s') (fun e s' => R (.error e) s') s) :
    codeC (model prog w) A (.builtin id args) R s := by
  refine codeC_of_tree ?_
  show wpC _ _ (match entryFor table id with | some b => b args | none => unsupported ((withoutEnding? id "#data").getD id)) _ _ s
  rw [hb]; exact h
theorem codeC_call_builtin {R : Result → Shared → Prop} {id : String} {args : Args} {b : Builtin} (hq : plainId id = true) (hb : entryFor table id = some b) (hk : checkBuiltinCall id args = pure ())
    (h : wpC (model prog w) A.in1 (b args) (fun fin s' => match fin with | .done f => R (.ok f) s' | .again c' => c'.quiet = true ∧ codeC (model prog w) A c' R s') (fun e s' => R (.error e) s') s) :
    codeC (model prog w) A (.call (.builtin id) args) R s := by
  refine codeC_of_tree ?_
  show wpC _ A.in1 (do checkBuiltinCall id args; again (.builtin id args)) _ _ s
  rw [hk]
  refine wpC_bind (wpC_pure (wpC_pure (And.intro (plainId_quiet hq args) (codeC_builtin hb ?_))))
  rw [Around.under_plainId hq args]; exact h
theorem text_bad {x : Str} {u : Tok} {c : Nat} {cs : List Nat} (hx : x.cps = (c :: cs).toArray) (hh : A.handled = none) (hl : (reprText x).length ≤ sizeLine) (hn : cs.length ≤ 100)
    (hc : (65 ≤ c ∧ c ≤ 90) ∨ (97 ≤ c ∧ c ≤ 122)) (hcs : ∀ x ∈ cs, (65 ≤ x ∧ x ≤ 90) ∨ (97 ≤ x ∧ x ≤ 122))
    (h : ∀ h' e v tk, Heap.MadeExc s.heap h' e "ValueError" [v] → E (.ref e) { s with heap := h', toks := tk }) :
    wpC (model prog w) A ((int_private% "intFromText") (.str x u) x.cps.toList 10) Q E s := by
  have tw : (c :: cs).takeWhile (· != 0) = c :: cs := by
    have all : ∀ l : List Nat, (∀ y ∈ l, y ≠ 0) → l.takeWhile (· != 0) = l := by
      intro l
      induction l with
      | nil => intro _; rfl
      | cons y l ih =>
        intro h
        rw [List.takeWhile_cons, if_pos (by simpa using h y (.head _)), ih fun z hz => h z (.tail _ hz)]
    refine all _ fun y hy => ?_
    rcases List.mem_cons.mp hy with rfl | h
    · omega
    · have := hcs _ h; omega
  rw [hx, List.toList_toArray]
  show wpC _ _ (if ((c :: cs).takeWhile (· != 0)).length ≤ 640 then _ else _) _ _ _
  rw [tw, if_pos (by simp; omega)]
  refine wpC_bind (wpC_pure ?_)
  dsimp only
  rw [read_word hc hcs]
  show wpC _ _ (rule "int.__new__.invalid-literal" >>= _) _ _ _
  refine wpC_bind (wpC_of (wpAny_rule ?_))
  show wpC _ _ (pyRepr (Value.str x u) >>= _) _ _ _
  refine wpC_bind (wpC_of (wpAny_pyRepr_str ?_ hl))
  refine wpC_bind (wpC_of (wpAny_mkStr ?_ ?_))
  · refine wpC_bind (wpC_of (wpAny_newExc_plain plainExc_ValueError fun h' e hm => ?_))
    refine wpC_bind (mark_none (wpC_of (wpAny_raiseNew_none hh (h h' e _ _ hm))))
  · show (Str.ofString (toString "invalid literal for int() with base " ++ toString 10 ++ toString ": ") ++ ⟨(reprText x).cps.extract 0 200⟩ : Str).cps.size ≤ sizeLine
    show (Array.append _ _).size ≤ _
    rw [Array.append_eq_append, Array.size_append, Array.size_extract]
    refine Nat.le_trans (Nat.add_le_add_left (by omega : _ ≤ 200) _) ?_
    decide
theorem type_call_bad {x : Str} {u t : Tok} {c : Nat} {cs : List Nat} (hx : x.cps = (c :: cs).toArray) (hh : A.handled = none) (hl : (reprText x).length ≤ sizeLine) (hn : cs.length ≤ 100)
    (hc : (65 ≤ c ∧ c ≤ 90) ∨ (97 ≤ c ∧ c ≤ 122)) (hcs : ∀ x ∈ cs, (65 ≤ x ∧ x ≤ 90) ∨ (97 ≤ x ∧ x ≤ 122))
    (h : ∀ h' e v tk, Heap.MadeExc s.heap h' e "ValueError" [v] → E (.ref e) { s with heap := h', toks := tk }) :
    wpC (model prog w) A (call (.type "int") [.str x u, .int 10 t]) Q E s := by
  obtain ⟨cm, tl, hmro⟩ := F.called_int.mro
  have hmade := F.called_int.made
  have hsub := F.called_int.sub
  refine wpC_call (codeC_of_tree ?_)
  show wpC _ _ (callAny (.type "int") _) _ _ _
  refine wpC_pure ⟨Code.quiet_builtin _ (by decide +kernel), codeC_builtin F.entry_type_call ?_⟩
  rw [Around.under_plain (weight_type_call_type "int" _ []) (units_type_call_type "int" _ [])]
  have h1 := F.called_int.notType
  have h2 := F.called_int.canCreate
  show wpC _ _ (Builtin.«type.__call__» _) _ _ _
  unfold Builtin.«type.__call__»
  dsimp only
  rw [if_neg (by rw [h1]; exact Bool.false_ne_true), if_neg (by rw [h2]; exact Bool.false_ne_true), typeCall_int_2]
  refine wpC_bind (wpC_pure ?_)
  rw [hmro]
  refine wpC_bind (wpC_pure ?_)
  rw [if_neg (by simp)]
  rw [hmade]
  refine wpC_bind (wpC_pure ?_)
  dsimp only
  refine wpC_bind (wpC_pure ?_)
  refine wpC_bind (wpC_holding (wpC_call (codeC_call_builtin F.called_int.plain F.entry_int_new (newCall_int_2 _ _) ?_)))
  have hx8 : x.cps.all (· < 128) = true := by
    rw [hx]
    simp only [List.all_toArray, List.all_cons, List.all_eq_true, Bool.and_eq_true, decide_eq_true_eq]
    exact ⟨by omega, fun y hy => by have := hcs y hy; omega⟩
  rw [new_eq hx8]
  refine wpC_bind (text_bad hx hh hl hn hc hcs ?_)
  intro h' e v tk hm
  exact h h' e v tk hm
end
end Mine
end

/-! CA -/
section
open PySem PySem.W PySem.Spec PySem.Calls PyProof.Rows
set_option maxRecDepth 100000
set_option maxHeartbeats 4000000
namespace Mine
/-- B is H but for the slots of the object at a -/
structure Slot1 (H : Heap) (a : Addr) (B : Heap) : Prop where
  same : ∀ b, b ≠ a → B.get? b = H.get? b
  at_ : ∀ o, H.get? a = some o → ∃ sl, B.get? a = some { o with slots := sl }
  size : B.objs.size = H.objs.size
theorem Slot1.refl (H : Heap) (a : Addr) : Slot1 H a H := ⟨fun _ _ => rfl, fun o e => ⟨o.slots, e⟩, rfl⟩
theorem Slot1.trans {H B C : Heap} {a : Addr} (x : Slot1 H a B) (y : Slot1 B a C) : Slot1 H a C :=
  ⟨fun b hb => (y.same b hb).trans (x.same b hb), fun o e => by
    obtain ⟨sl, e1⟩ := x.at_ o e
    obtain ⟨sl', e2⟩ := y.at_ _ e1
    exact ⟨sl', e2⟩, y.size.trans x.size⟩
theorem Slot1.make {H : Heap} {a : Addr} {o : Obj} (e : H.get? a = some o) (sl : Array (Option Value)) : ∃ B, Slot1 H a B ∧ B.get? a = some { o with slots := sl } := by
  have hf : ({ o with slots := sl } : Obj).isFreed = false := by
    have := (Heap.get?_some_iff.mp e).2
    obtain ⟨c, d, dt, q⟩ := o
    cases dt <;> first | rfl | (simp [Obj.isFreed] at this)
  refine ⟨H.update a fun x => { x with slots := sl }, ⟨fun b hb => Heap.get?_update_other H _ (Ne.symm hb), fun o' e' => ?_, Heap.size_after_update ..⟩, Heap.get?_update_self _ e hf⟩
  rw [e] at e'; cases e'
  exact ⟨sl, Heap.get?_update_self _ e hf⟩
theorem Slot1.keep {H B : Heap} {a : Addr} (x : Slot1 H a B) {b : Addr} {o : Obj} (hb : b ≠ a) (e : H.get? b = some o) : B.get? b = some o := (x.same b hb).trans e
theorem Slot1.none {H B : Heap} {a b : Addr} (x : Slot1 H a B) (hb : b ≠ a) (e : H.get? b = none) : B.get? b = none := (x.same b hb).trans e

section
variable {prog : Program} {w : World} {A₀ : Around} {s' : Shared} {B h : Heap} {envW : Env} {L Lw a e : Addr} {m : Str → Option Value} {name : Str} {scope : Scope} {cd v : Value}
  {b₀ : Stmt} {suite : List Stmt} {pos np : Pos} {rest : List ExceptHandler} {Q : Flow → Shared → Prop} {news : List (Addr × Obj)} {oW : Obj}
  {p : Program} {loose : List Str} {mg mb : Str → Option Value} {x : Str} {X T' : String}
theorem caughtV (hfr : A₀.frames = some [envW]) (hW : envW.frame = some Lw) (hWk : envW.scope.kind ≠ .module) (hoW : B.get? Lw = some oW) (hWd : ∀ vs, oW.data ≠ .fields vs)
    (F : Fr B L h m) (N : News B L h news) (hx : Heap.MadeExcOf h s'.heap e (.type X) [v])
    (T : TopRead p loose mg mb B) (hgW : mainGlobals ≠ Lw) (hbW : builtinsNs ≠ Lw) (hv : bootBuiltins x = some (.type T'))
    (hexc : isSubtype (.type T') (.type "BaseException") = pure true) (hnt : isSubtype (.type ((Manifest.find? T').elim "type" fun y => y.metatype)) (.type "tuple") = pure false) (hsub : isSubtype (.type X) (.type T') = pure true)
    (k : ∀ B' h', Slot1 B Lw B' → Fr B' L h' m → News B' L h' news →
      wpAny (model prog w) ((A₀.deeper (envOf name scope L a cd)).mark (some (.ref e))) (execs (b₀ :: suite) (envOf name scope L a cd)) Q (fun _ _ => False) { s' with heap := h' })
    (hfree : mg x = none) (hn : x ≠ "__name__" := by decide +kernel)
    (hk : scope.kind = .function := by rfl) (hxk : (envOf name scope L a cd).kindOf x = some .globalImplicit := by rfl) (hd : (x == ("__debug__" : Str)) = false := by decide) :
    wpAny (model prog w) (A₀.deeper (envOf name scope L a cd)) (noteFrame (.ref e) (envOf name scope L a cd))
      (fun _ s₂ => wpAny (model prog w) (A₀.deeper (envOf name scope L a cd)) (setFlight (.ref e) none) (fun _ s₃ =>
        wpAny (model prog w) (A₀.deeper (envOf name scope L a cd)) (handleBy (.ref e) (envOf name scope L a cd) (.ExceptHandler (some (.Name x np)) none (b₀ :: suite) pos :: rest)) Q (fun _ _ => False) s₃) (fun _ _ => False) s₂) (fun _ _ => False) s' := by
  obtain ⟨t, he, htn, ht⟩ := hx.there
  have hLW : L ≠ Lw := fun q => absurd (Nat.lt_of_lt_of_le (Heap.lt_size hoW) F.above) (by rw [q]; exact Nat.lt_irrefl _)
  -- the base: everything but the two frames' names
  generalize hB0 : hideAll h [L, Lw] = B0
  have st0 : B0.StaysIn h := fun b o q => by rw [← hB0] at q; exact of_hideAll _ q
  have nL : B0.get? L = none := by rw [← hB0]; exact hideAll_none _ (.head _)
  have nW : B0.get? Lw = none := by rw [← hB0]; exact hideAll_none _ (.tail _ (.head _))
  have inB0 : ∀ b o, h.get? b = some o → b ≠ L → b ≠ Lw → B0.get? b = some o := fun b o q q1 q2 => by
    rw [← hB0]; exact hideAll_get _ q (by simp [q1, q2])
  have fresh : ∀ b, h.get? b = none → B0.get? b = none := fun b hb => by
    cases hq : B0.get? b with
    | none => rfl
    | some o' => have := st0 b o' hq; rw [hb] at this; cases this
  have ff : s'.heap.FunFrames B0 [envOf name scope L a cd, envW] := by
    have f1 : h.FunFrames B0 [envOf name scope L a cd, envW] :=
      Heap.FunFrames.cons (by show scope.kind ≠ _; rw [hk]; decide) rfl F.ns nL ⟨hWk, ⟨Lw, oW, hW, nW, F.keep _ _ hoW, hWd⟩, trivial⟩
    exact f1.of_keeps fun b o hb _ => ⟨o, hx.keeps b o hb, rfl⟩
  unfold noteFrame
  simp only [show (envOf name scope L a cd).frame = some L from rfl]
  refine wpAny_bind (wpAny_field he rfl rfl ?_)
  rw [if_neg (by simp)]
  refine wpAny_entryW (base := B0) (a0 := .ref t) (Around.frames_deeper hfr) ff rfl he (fun b o hb => hx.keeps b o (st0 b o hb)) (fresh e hx.new) rfl (by simp) rfl fun h₄ hN => ?_
  obtain ⟨k1, k2, k3, k4⟩ := hN
  have hheld : Heap.HeldW B0 [envOf name scope L a cd, envW] e (.type X) (.ref t) L h₄ := ⟨k1, fresh e hx.new, k2, k3⟩
  refine wpAny_landsW hheld fun h₅ hfl5 sm5 => ?_
  have sm5' : h.UpToSlots h₅ := ((Heap.UpToSlots.of_keeps hx.keeps).trans k4).trans sm5
  -- from a heap to a base
  have toB : ∀ h₆ : Heap, B0.StaysIn h₆ → h.UpToSlots h₆ → ∃ B', Slot1 B Lw B' ∧ Fr B' L h₆ m ∧ News B' L h₆ news := by
    intro h₆ st6 sm6
    obtain ⟨sl, hsl⟩ := sm6 Lw oW (F.keep _ _ hoW) hWd
    obtain ⟨B', hB', hat⟩ := Slot1.make hoW sl
    refine ⟨B', hB', ⟨sm6.ns F.ns, fun b o q => ?_, by rw [hB'.size]; exact F.above⟩, fun q hq => ?_⟩
    · by_cases hb : b = Lw
      · subst hb; rw [hat] at q; cases q; exact hsl
      · have q' := (hB'.same b hb).symm.trans q
        refine st6 b o (inB0 b o (F.keep _ _ q') (fun z => ?_) hb)
        subst z
        exact absurd (Nat.lt_of_lt_of_le (Heap.lt_size q') F.above) (Nat.lt_irrefl _)
    · obtain ⟨n1, n2, n3⟩ := N q hq
      have nw : q.1 ≠ Lw := fun z => by rw [z, hoW] at n3; cases n3
      exact ⟨st6 _ _ (inB0 _ _ n1 n2 nw), n2, hB'.none nw n3⟩
  obtain ⟨B5, hB5, F5, N5⟩ := toB h₅ hfl5.1 sm5'
  obtain ⟨ob, hob, hobc⟩ := hfl5.there
  have T5g : B5.Ns mainGlobals mg := Heap.Ns.at T.g fun o q => hB5.keep hgW q
  have T5b : B5.Ns builtinsNs mb := Heap.Ns.at T.b fun o q => hB5.keep hbW q
  refine wpAny_handleBy_builtin (X := X) (T := T') (b := true) hexc hnt hsub (ld_builtin_at F5 T5g hfree T5b ((T.builtins x hn).trans hv) ⟨rfl, ⟨ob, hob, hobc⟩, ?_⟩ hk hxk hd)
  refine lands_againW hfl5 fun h₆ hfl6 sm6 => ?_
  obtain ⟨B6, hB6, F6, N6⟩ := toB h₆ hfl6.1 (sm5'.trans sm6)
  exact wpAny_mono (k B6 h₆ hB6 F6 N6) (fun _ _ q => q) fun _ _ q => q.elim
end
end Mine
end

/-! FC -/
section
open PySem PySem.W PySem.Spec PySem.Calls PyProof.Rows
set_option maxRecDepth 100000
set_option maxHeartbeats 4000000
namespace Mine
/-- what a turn of a for must leave behind, where the base may change -/
def ForEndV (Bs : Heap → Prop) (G : Array GenState → Prop) (L I : Addr) (oI : Obj) (J : (Str → Option Value) → List (Addr × Obj) → Prop) (s₂ : Shared) (Q : Flow → Shared → Prop) (f : Flow) (s₄ : Shared) : Prop :=
  match f with
  | .brk => Q .next s₄
  | .ret v => Q (.ret v) s₄
  | _ => ∃ B h' tk g m' news' nn, s₄ = { s₂ with heap := h', toks := tk, gens := g } ∧ Bs B ∧ G g ∧ Fr B L h' m' ∧ News B L h' nn ∧ (I, oI) ∈ nn ∧ (∀ p ∈ news', p ∈ nn ∧ p.1 ≠ I) ∧ J m' news'

def ForAtV (prog : Program) (w : World) (A : Around) (Bs : Heap → Prop) (G : Array GenState → Prop) (env : Env) (x : Str) (body : List Stmt) (J : Nat → (Str → Option Value) → List (Addr × Obj) → Prop) (Q : Flow → Shared → Prop) (it : Value) (s₂ : Shared) : Prop :=
  ∃ I fp n P St B₀ m₀ news₀, it = .ref I ∧ Walks prog w A I fp [I] n P St ∧ St 0 s₂.heap ∧ (∀ i h, St i h → ∃ o, h.get? I = some o) ∧
      Bs B₀ ∧ G s₂.gens ∧ Fr B₀ env.locals s₂.heap m₀ ∧ News B₀ env.locals s₂.heap news₀ ∧ (∀ B, Bs B → B.get? I = none) ∧ I ≠ env.locals ∧ J 0 m₀ news₀ ∧ (∀ p ∈ news₀, p.1 ≠ I) ∧
      (∀ b ∈ fp, b = I ∨ (∃ o, ∀ B, Bs B → B.get? b = some o) ∨ ∃ o, ∀ i m₁ news₁, J i m₁ news₁ → (b, o) ∈ news₁) ∧
      (∀ i v B m₁ news₁ h tk g oI, i < n → P i v → J i m₁ news₁ → Bs B → G g → (∀ p ∈ news₁, p.1 ≠ I) → Fr B env.locals h (fun y => if y = x then some v else m₁ y) → News B env.locals h ((I, oI) :: news₁) →
        wpC (model prog w) A (execs body env) (ForEndV Bs G env.locals I oI (J (i + 1)) s₂ Q) NoE { s₂ with heap := h, toks := tk, gens := g }) ∧
      (∀ B m₁ news₁ h tk g, J n m₁ news₁ → Bs B → G g → Fr B env.locals h m₁ → News B env.locals h news₁ → Q .next { s₂ with heap := h, toks := tk, gens := g })

def ForSomeV (prog : Program) (w : World) (A : Around) (Bs : Heap → Prop) (G : Array GenState → Prop) (env : Env) (x : Str) (body : List Stmt) (Q : Flow → Shared → Prop) (it : Value) (s₂ : Shared) : Prop :=
  ∃ J, ForAtV prog w A Bs G env x body J Q it s₂

theorem for_V {prog : Program} {w : World} {A : Around} {s : Shared} {env : Env} (Bs : Heap → Prop) (G : Array GenState → Prop) {x : Str} {px pos : Pos} {iter : Expr} {body : List Stmt} {Q : Flow → Shared → Prop}
    (hx : env.kindOf x = some .local) (hkind : env.scope.kind = .function)
    (h : wpAny (model prog w) A (eval iter env) (fun xv s₁ => wpAny (model prog w) A (pyIter xv) (ForSomeV prog w A Bs G env x body Q) NoE s₁) NoE s)
    (hs : ∀ x, foldedSetIterable iter env x = pure x) :
    wpC (model prog w) A (exec (.For (.Name x px) iter body [] pos) env) Q NoE s := by
  refine wpC_For (wpAny_mono h (fun xv s₁ h₁ => wpAny_mono h₁ (fun it s₂ h₂ => ?_) fun _ _ e => e) fun _ _ e => e) hs
  obtain ⟨J, I, fp, n, P, St, B₀, m₀, news₀, rfl, W, hst, hI, hB₀, hG₀, F, N, hnI, hIL, hJ, hnew, hfp, turn, done⟩ := h₂
  refine codeC_forLoop (fun k s' => ∃ i B h tk g m₁ news₁ oI, i ≤ n ∧ k = n - i ∧ s' = { s₂ with heap := h, toks := tk, gens := g } ∧ Bs B ∧ G g ∧ St i h ∧ Fr B env.locals h m₁ ∧ News B env.locals h ((I, oI) :: news₁) ∧ (∀ p ∈ news₁, p.1 ≠ I) ∧ J i m₁ news₁) ?_ n ?_
  · rintro k s' ⟨i, B, h, tk, g, m₁, news₁, oI, hi, rfl, rfl, hB, hG, hst', F', N', hne, hJ'⟩
    have step : ∀ h' : Heap, (∀ b o, b ∉ [I] → h.get? b = some o → h'.get? b = some o) → Fr B env.locals h' m₁ ∧ News B env.locals h' news₁ := by
      intro h' hk
      have hk' : ∀ b o, b ≠ I → h.get? b = some o → h'.get? b = some o := fun b o hb e => hk b o (by simpa using hb) e
      obtain ⟨oL, a1, a2, hL, a3⟩ := F'.ns
      refine ⟨⟨⟨oL, a1, a2, hk' _ _ (Ne.symm hIL) hL, a3⟩, fun b o e => hk' b o ?_ (F'.keep b o e), F'.above⟩, fun p hp => ⟨hk' _ _ (hne p hp) (N' p (.tail _ hp)).1, (N' p (.tail _ hp)).2⟩⟩
      intro hb; rw [hb, hnI B hB] at e; cases e
    by_cases hlt : i < n
    · refine W.item i _ _ _ hlt hst' ?_
      intro v h' tk' hP hst'' hk
      obtain ⟨F1, N1⟩ := step h' hk
      obtain ⟨oI', hoI'⟩ := hI _ _ hst''
      have N2 : News B env.locals h' ((I, oI') :: news₁) := by
        intro p hp
        rcases List.mem_cons.mp hp with rfl | hp
        · exact ⟨hoI', hIL, hnI B hB⟩
        · exact N1 p hp
      refine wpAny_assign_Name (wpAny_storeName_local hx F1.ns (fun h₂ hn hs => ?_) (by rw [hkind]; rfl))
      have F3 := F1.set hn hs
      have N3 := N2.set hs
      have hst3 : St (i + 1) h₂ := W.frame _ _ _ hst'' (fun b hb o e => by
        by_cases hbL : b = env.locals
        · rcases hfp b hb with rfl | ⟨o', ho'⟩ | ⟨o', ho'⟩
          · exact absurd hbL hIL
          · have ho' := ho' B hB
            rw [hbL] at ho'
            exact absurd (Nat.lt_of_lt_of_le (Heap.lt_size ho') F1.above) (Nat.lt_irrefl _)
          · exact absurd hbL (N' _ (.tail _ (ho' i m₁ news₁ hJ'))).2.1
        · exact (hs.2 b hbL).trans e)
      refine wpC_mono (turn i v B m₁ news₁ h₂ _ g oI' hlt hP hJ' hB hG hne F3 N3) (fun f s₄ h₄ => ?_) fun _ _ x => x.elim
      have fin : (∃ B h' tk g m' news' nn, s₄ = { s₂ with heap := h', toks := tk, gens := g } ∧ Bs B ∧ G g ∧ Fr B env.locals h' m' ∧ News B env.locals h' nn ∧ (I, oI') ∈ nn ∧ (∀ p ∈ news', p ∈ nn ∧ p.1 ≠ I) ∧ J (i + 1) m' news') →
          ∃ m, m < n - i ∧ ∃ i' B h tk g m₁ news₁ oI, i' ≤ n ∧ m = n - i' ∧ s₄ = { s₂ with heap := h, toks := tk, gens := g } ∧ Bs B ∧ G g ∧ St i' h ∧ Fr B env.locals h m₁ ∧ News B env.locals h ((I, oI) :: news₁) ∧ (∀ p ∈ news₁, p.1 ≠ I) ∧ J i' m₁ news₁ := by
        rintro ⟨B5, h5, tk5, g5, m5, news5, nn, rfl, hB5, hG5, F5, N5, hIn, hsub, hJ5⟩
        refine ⟨n - (i + 1), by omega, i + 1, B5, h5, tk5, g5, m5, news5, oI', hlt, rfl, rfl, hB5, hG5, ?_, F5, ?_, fun p hp => (hsub p hp).2, hJ5⟩
        · refine W.frame _ _ _ hst3 (fun b hb o e => ?_)
          rcases hfp b hb with rfl | ⟨o', ho'⟩ | ⟨o', ho'⟩
          · have e1 := (N3 _ (.head _)).1
            have e1 : h₂.get? b = some oI' := e1
            rw [e1] at e
            rw [← Option.some.inj e]
            exact (N5 _ hIn).1
          · rw [F3.keep _ _ (ho' B hB)] at e
            rw [← Option.some.inj e]
            exact F5.keep _ _ (ho' B5 hB5)
          · have e1 := (N3 _ (.tail _ (ho' i m₁ news₁ hJ'))).1
            have e1 : h₂.get? b = some o' := e1
            rw [e1] at e
            rw [← Option.some.inj e]
            exact (N5 _ (hsub _ (ho' _ _ _ hJ5)).1).1
        · intro p hp
          rcases List.mem_cons.mp hp with rfl | hp
          · exact N5 _ hIn
          · exact N5 _ (hsub p hp).1
      cases f with
      | ret v => exact h₄
      | brk => exact h₄
      | next => exact fin h₄
      | cont => exact fin h₄
    · have hin : i = n := by omega
      subst hin
      refine W.done _ _ _ hst' ?_
      intro h' tk' hk
      obtain ⟨F1, N1⟩ := step h' hk
      exact wpAny_execs_nil (done B m₁ news₁ h' tk' g hJ' hB hG F1 N1)
  · obtain ⟨oI, hoI⟩ := hI _ _ hst
    refine ⟨0, B₀, s₂.heap, s₂.toks, s₂.gens, m₀, news₀, oI, Nat.zero_le _, rfl, rfl, hB₀, hG₀, hst, F, ?_, hnew, hJ⟩
    intro p hp
    rcases List.mem_cons.mp hp with rfl | hp
    · exact ⟨hoI, hIL, hnI B₀ hB₀⟩
    · exact N p hp

theorem at_listV {prog : Program} {w : World} {A : Around} {s : Shared} {E : Value → Shared → Prop} {env : Env} {Bs : Heap → Prop} {G : Array GenState → Prop} {x : Str} {body : List Stmt} {Q : Flow → Shared → Prop} {l : Addr} {items : Array Value} {B₀ : Heap} {m₀ : Str → Option Value} {news₀ : List (Addr × Obj)}
    {J : Nat → (Str → Option Value) → List (Addr × Obj) → Prop} (hh : A.handled = none) (hB₀ : Bs B₀) (hG : G s.gens) (hsz : ∀ B, Bs B → B.objs.size = B₀.objs.size) (F : Fr B₀ env.locals s.heap m₀) (N : News B₀ env.locals s.heap news₀) (hl : s.heap.IsList l items)
    (hlb : (∃ o, ∀ B, Bs B → B.get? l = some o) ∨ ∃ o, ∀ i m₁ news₁, J i m₁ news₁ → (l, o) ∈ news₁) (hJ : J 0 m₀ news₀)
    (turn : ∀ i v B m₁ news₁ h tk g I oI, items[i]? = some v → J i m₁ news₁ → Bs B → G g → (∀ p ∈ news₁, p.1 ≠ I) → Fr B env.locals h (fun y => if y = x then some v else m₁ y) → News B env.locals h ((I, oI) :: news₁) →
        wpC (model prog w) A (execs body env) (ForEndV Bs G env.locals I oI (J (i + 1)) s Q) NoE { s with heap := h, toks := tk, gens := g })
    (done : ∀ B m₁ news₁ h tk g, J items.size m₁ news₁ → Bs B → G g → Fr B env.locals h m₁ → News B env.locals h news₁ → Q .next { s with heap := h, toks := tk, gens := g }) :
    wpAny (model prog w) A (pyIter (.ref l)) (ForSomeV prog w A Bs G env x body Q) E s := by
  obtain ⟨ol, hol, hol'⟩ := id hl
  have hlt : l < s.heap.objs.size := Heap.lt_size hol
  refine wpAny_pyIter_list hl ⟨J, _, _, _, _, _, B₀, m₀, news₀, rfl, Walks.list hh s.heap.objs.size l (Nat.ne_of_lt hlt) items, ⟨⟨_, Heap.get?_push_size _ rfl, rfl, rfl⟩, hl.at fun o e => Heap.get?_push_of_some _ e⟩, ?_,
    hB₀, hG, frExt F (fun b o e => Heap.get?_push_of_some _ e), newsExt N (fun b o e => Heap.get?_push_of_some _ e), ?_, Nat.ne_of_gt F.ns.lt, hJ, ?_, ?_, ?_, ?_⟩
  · rintro i h ⟨⟨o, ho, _⟩, _⟩; exact ⟨o, ho⟩
  · intro B hB
    have h1 : B₀.objs.size ≤ s.heap.objs.size := Nat.le_trans F.above (Nat.le_of_lt F.ns.lt)
    exact Heap.get?_none_of_le (by rw [hsz B hB]; exact h1)
  · intro p hp; exact Nat.ne_of_lt (Heap.lt_size (N p hp).1)
  · intro b hb
    rcases List.mem_cons.mp hb with e | hb
    · exact .inl e
    · rcases List.mem_cons.mp hb with e | hb
      · subst e
        exact .inr hlb
      · cases hb
  · intro i v B m₁ news₁ h tk g oI hi hP hJ' hB hG' hne F' N'
    exact turn i v B m₁ news₁ h tk g _ oI (by first | exact hP | exact hP.symm | simpa using hP) hJ' hB hG' hne F' N'
  · exact done
section
variable {prog : Program} {w : World} {A : Around} {s : Shared} {K : Frag} {p : Program} {loose : List Str} {mg mb : Str → Option Value} {Q E : Value → Shared → Prop}
  {name qual : Str} {params : Arguments} {body : List Stmt} {scope : Scope} {dV kV doc pm cdv ct oc : Value} {an od : Option Addr} {osl : Array (Option Value)} {f : Addr} {args : List Value} {binds : List (Str × Value)}
theorem enterV (X : K.In s.heap) (T : TopRead p loose mg mb s.heap) (ho : K.lookup f = some ⟨oc, od, .func (fnOf name qual params body scope dV kV doc pm an cdv ct), osl⟩) (hcd : codeIn K cdv qual = true)
    (hroom : A.depth < recursionLimit) (hbind : BindsTo s (fnOf name qual params body scope dV kV doc pm an cdv ct) ⟨args, []⟩ binds) (hloc : ∀ y ∈ binds, scope.names.lookup y.1 = some .local)
    (hcell : ∀ x ∈ scope.names, x.2 ≠ .cell) (hco : scope.isCoroutine = false) (hgen : scope.isGenerator = false) (hk : scope.kind = .function)
    (h : ∀ L' h₁ tk, Fr s.heap L' h₁ (fun y => binds.reverse.lookup y) → News s.heap L' h₁ [] →
      wpC (model prog w) (A.deeper (envOf qual scope L' f cdv)) (execs body (envOf qual scope L' f cdv))
        (fun fl s' => Q (match fl with | .ret v => v | _ => .none) s') NoE { s with heap := h₁, toks := tk }) :
    wpC (model prog w) A (call (.ref f) args) Q E s := by
  refine wpC_call (codeC_call_function (fd := fnOf name qual params body scope dV kV doc pm an cdv ct) hroom (X _ _ ho) rfl hco hgen rfl (codeRec_of X hcd) (hbind _ _ _ _ ?_))
  refine wpAny_newFunctionEnv hcell hloc (fun h₀ hns₀ hsb₀ => ⟨T.nolimit.fresh _ hsb₀, codeC_func ?_⟩) hk
  refine wpC_mono (h _ h₀ (s.toks + binds.length) ⟨hns₀, fun b o e => ?_, Nat.le_refl _⟩ News.nil) (fun fl s' hl => hl) fun _ _ y => y.elim
  exact hsb₀.extBut b o (Nat.ne_of_lt (Heap.lt_size e)) (Heap.get?_push_of_some _ e)
end
end Mine
end

/-! CC -/
section
open PySem PySem.W PySem.Spec PySem.Calls PyProof.Rows
set_option maxRecDepth 100000
set_option maxHeartbeats 4000000
namespace Mine
open PySem.Sem (wp)
section
variable {M : Model} {A : Around} {E : Value → Shared → Prop} {s : Shared} {env : Env}
theorem wpC_Assign {x pos' value pos} {Q : Flow → Shared → Prop}
    (h : wpC M A (eval value env) (fun v s₁ => wpAny M A (storeName env x v) (fun _ => Q .next) E s₁) E s)
    (hs : swapsWith value (some (.Name x pos')) pos.line env = pure false := by rfl) :
    wpC M A (exec (.Assign [.Name x pos'] value pos) env) Q E s := fun Γ p hΓ hP => by
  simp only [exec_Assign_Name env x pos' value pos hs, Sem.wp_bind', Sem.wp_cmd_standAt, Sem.wp_bindName, Sem.wp_pure']
  exact Sem.wp_mono M Γ _ (fun v _ s₁ h₁ => h₁ Γ _ hΓ) (fun _ _ _ h' => h') _ _ (h Γ _ hΓ hP)
theorem wpC_Call_Name {id : Str} {p pos : Pos} {args : List Expr} {Q : Value → Shared → Prop}
    (h : wpAny M A (eval (.Name id p) env) (fun f s₁ => wpC M A (callWith pos f [] (backTo pos (starEach args env)) []) Q E s₁) E s) :
    wpC M A (eval (.Call (.Name id p) args [] pos) env) Q E s := by
  rw [arm_eval_Call_Name']
  exact wpC_bind (wpC_of h)
theorem wpC_callWith_type {pos : Pos} {T : String} {args : List (Bool × Sem Value)} {Q : Value → Shared → Prop}
    (hplain : args.any (·.1) = false)
    (h : wpAny M A (evalArgs (.type T) true args []) (fun a s₁ => wpC M A (call (.type T) a.pos a.kw) Q E s₁) E s) :
    wpC M A (callWith pos (.type T) [] args []) Q E s := by
  unfold callWith
  refine wpC_bind (wpC_holding (wpC_mono (wpC_of h) (fun a s₁ h₁ => wpC_bind (wpC_standAt ?_)) fun _ _ x => x))
  simp only [hplain, List.any_nil, Bool.or_false]
  refine wpC_bind (wpC_pure ?_)
  exact wpC_bind (wpC_mono h₁ (fun r s₂ hr => wpC_bind (wpC_holding (wpC_of (wpAny_point (wpC_pure hr))))) fun _ _ x => x)
theorem wpC_callWith_type1 {pos : Pos} {T : String} {e : Expr} {rest : List Expr} {Q : Value → Shared → Prop}
    (h : wpAny M A (spliced (backTo pos (starEach (e :: rest) env))) (fun vs s₁ => wpC M A (call (.type T) vs) Q E s₁) E s)
    (he : starEach (e :: rest) env = (false, eval e env) :: starEach rest env := by rfl)
    (hplain : (backTo pos (starEach rest env)).any (·.1) = false := by rfl) :
    wpC M A (callWith pos (.type T) [] (backTo pos (starEach (e :: rest) env)) []) Q E s := by
  rw [he] at h ⊢
  exact wpC_callWith_type (by show (false || (backTo pos (starEach rest env)).any (·.1)) = false; rw [hplain]; rfl) (evalArgs_plain h)
theorem wpC_keep {α : Type} {vs : List Value} {m : Sem α} {Q : α → Shared → Prop} (h : wpC M A m Q E s) : wpC M A (m.keep vs) Q E s :=
  fun Γ p hΓ hP => by rw [Sem.wp_keep]; exact h Γ p hΓ hP
theorem wpC_callWith_fn {pos : Pos} {f : Addr} {args : List (Bool × Sem Value)} {Q : Value → Shared → Prop}
    (hplain : args.any (·.1) = false) (hlen : args.length ≤ 30)
    (h : wpAny M A (evalArgs (.ref f) true args []) (fun a s₁ => (∃ o fd, s₁.heap.get? f = some o ∧ o.data = .func fd) ∧ wpC M A (call (.ref f) a.pos a.kw) Q E s₁) E s) :
    wpC M A (callWith pos (.ref f) [] args []) Q E s := by
  unfold callWith
  refine wpC_bind (wpC_holding (wpC_mono (wpC_of h) (fun a s₁ h₁ => wpC_bind (wpC_standAt ?_)) fun _ _ x => x))
  obtain ⟨⟨o, fd, ho, hd⟩, h₁⟩ := h₁
  simp only [hplain, List.any_nil, Bool.or_false]
  unfold keeperOf
  refine wpC_bind (wpC_bind (wpC_of (wpAny_load ho ?_)))
  rw [hd]
  refine wpC_pure ?_
  dsimp only
  rw [if_neg (by simp; omega)]
  refine wpC_bind (wpC_mono (wpC_keep h₁) (fun r s₂ hr => wpC_bind (wpC_holding (wpC_of (wpAny_point (wpC_pure hr))))) fun _ _ x => x)
theorem wpC_callWith_fn1 {pos : Pos} {f : Addr} {e : Expr} {rest : List Expr} {Q : Value → Shared → Prop}
    (h : wpAny M A (spliced (backTo pos (starEach (e :: rest) env))) (fun vs s₁ => (∃ o fd, s₁.heap.get? f = some o ∧ o.data = .func fd) ∧ wpC M A (call (.ref f) vs) Q E s₁) E s)
    (he : starEach (e :: rest) env = (false, eval e env) :: starEach rest env := by rfl)
    (hplain : (backTo pos (starEach rest env)).any (·.1) = false := by rfl) (hlen : (backTo pos (starEach rest env)).length ≤ 29 := by decide) :
    wpC M A (callWith pos (.ref f) [] (backTo pos (starEach (e :: rest) env)) []) Q E s := by
  rw [he] at h ⊢
  exact wpC_callWith_fn (by show (false || (backTo pos (starEach rest env)).any (·.1)) = false; rw [hplain]; rfl) (by show (backTo pos (starEach rest env)).length + 1 ≤ 30; omega) (evalArgs_plain h)
end
end Mine
end

/-! FT -/
section
open PySem PySem.W PySem.Spec PySem.Calls PyProof.Rows
set_option maxRecDepth 100000
set_option maxHeartbeats 4000000
namespace Mine
theorem slot_filter_init : Slot "filter" "__init__" "object.__init__" :=
  .of (owner := "object") (n := "__init__") (by rw [typeLookup_type, builtinLookup_eq_fast]; kernel_rfl) (by decide +kernel) (by decide +kernel) (by decide +kernel)
    (by first | exact .inl (by decide +kernel) | exact .inr (by decide +kernel)) (by rw [isSubtype_type]; kernel_rfl)
theorem slot_filter_iter : Slot "filter" "__iter__" "filter.__iter__" :=
  .of (owner := "filter") (n := "__iter__") (by rw [typeLookup_type, builtinLookup_eq_fast]; kernel_rfl) (by decide +kernel) (by decide +kernel) (by decide +kernel)
    (by first | exact .inl (by decide +kernel) | exact .inr (by decide +kernel)) (by rw [isSubtype_type]; kernel_rfl)
theorem slot_filter_next : Slot "filter" "__next__" "filter.__next__" :=
  .of (owner := "filter") (n := "__next__") (by rw [typeLookup_type, builtinLookup_eq_fast]; kernel_rfl) (by decide +kernel) (by decide +kernel) (by decide +kernel)
    (by first | exact .inl (by decide +kernel) | exact .inr (by decide +kernel)) (by rw [isSubtype_type]; kernel_rfl)
theorem entry_filter_next : entryFor table "filter.__next__" = some Builtin.«filter.__next__» := entryFor_of_tree (by kernel_rfl)
theorem entry_filter_new : entryFor table "filter.__new__" = some Builtin.«filter.__new__» := entryFor_of_tree (by kernel_rfl)
theorem entry_filter_iter : entryFor table "filter.__iter__" = some Builtin.«dict_keyiterator.__iter__» :=
  entryFor_alias (id' := "dict_keyiterator.__iter__") (by kernel_rfl) (by first | rfl | decide +kernel | (unfold String.splitOn; simp +decide [String.splitOnAux])) (by decide +kernel) (by kernel_rfl)
theorem args_filter_iter (a : Value) : argsOk "filter.__iter__" ⟨[a], []⟩ := by unfold argsOk; kernel_rfl
theorem args_filter_next (a : Value) : argsOk "filter.__next__" ⟨[a], []⟩ := by unfold argsOk; kernel_rfl
theorem args_obj_init_3 (a b c : Value) : argsOk "object.__init__" ⟨[a, b, c], []⟩ := by unfold argsOk; kernel_rfl
theorem mro_filter : mroOf (.type "filter") = pure [.type "filter", .type "object"] := by rw [mroOf_type]; kernel_rfl
theorem lookup_filter_new : typeLookup (.type "filter") "__new__" = pure (some (.builtin "filter.__new__")) := by rw [typeLookup_type, builtinLookup_eq_fast]; kernel_rfl
theorem sub_filter : isSubtype (.type "filter") (.type "filter") = pure true := by rw [isSubtype_type]; kernel_rfl
theorem called_filter : TypeCalled "filter" "filter.__new__" "object.__init__" :=
  ⟨by decide +kernel, by decide +kernel, ⟨_, _, mro_filter⟩, madeBy_type mro_filter lookup_filter_new (by decide +kernel), by decide +kernel, sub_filter, slot_filter_init⟩
theorem typeCall_filter (a b : Value) : checkTypeCall "filter" ⟨[a, b], []⟩ = pure () := by kernel_rfl
theorem newCall_filter (a b : Value) : checkBuiltinCall "filter.__new__" ⟨[.type "filter", a, b], []⟩ = pure () := by kernel_rfl

abbrev filterObj (it : Addr) : Obj := { cls := .type "filter", data := .fields #[.builtin "len", .ref it] }
theorem meets_filter_new (l : Addr) (items : Array Value) :
    Meets (Builtin.«filter.__new__» ⟨[.type "filter", .builtin "len", .ref l], []⟩) (fun _ R s => s.heap.IsTuple l items ∧
      R (.ok (.ret (.ref (s.heap.push { cls := .type "tuple_iterator", data := .fields #[.ref l, .int 0 0] }).objs.size)))
        { s with heap := (s.heap.push { cls := .type "tuple_iterator", data := .fields #[.ref l, .int 0 0] }).push (filterObj s.heap.objs.size) }) :=
  .of_wp fun prog w A R s h => by
    obtain ⟨hl, h⟩ := h
    have hsub := sub_filter
    unfold Builtin.«filter.__new__» Builtin.SmallTypes.newClass
    dsimp only
    show wpAny _ _ ((isSubtype (.type "filter") (.type "filter") >>= _) >>= _) _ _ _
    rw [hsub]
    show wpAny _ _ (pyIter (.ref l) >>= _) _ _ _
    refine wpAny_bind (wpAny_pyIter_tuple hl ?_)
    show wpAny _ _ (newObj (.type "filter") (.fields #[.builtin "len", .ref s.heap.objs.size]) >>= _) _ _ _
    refine wpAny_bind (wpAny_newObj_type ?_ (by size_fits))
    exact wpAny_pure ⟨_, rfl, h⟩
section
variable {prog : Program} {w : World} {A : Around} {E : Value → Shared → Prop} {s : Shared}
theorem call_filter {l : Addr} {items : Array Value} {Q : Value → Shared → Prop} (hl : s.heap.IsTuple l items)
    (q : Q (.ref (s.heap.objs.size + 1)) { s with heap := (s.heap.push { cls := .type "tuple_iterator", data := .fields #[.ref l, .int 0 0] }).push (filterObj s.heap.objs.size) }) :
    wpAny (model prog w) A (call (.type "filter") [.builtin "len", .ref l]) Q E s := by
  refine callType_new called_filter (by decide) (typeCall_filter _ _) (newCall_filter _ _) (fun obj => args_obj_init_3 obj _ _) entry_filter_new (meets_filter_new l items) ⟨hl, ?_, ?_⟩
  · exact ⟨_, Heap.get?_push_size _ rfl, rfl⟩
  · rw [Heap.size_push]; exact q
theorem len_text {x : Str} {t : Tok} {Q : Value → Shared → Prop} (hx : x.length < 1000000) (h : ∀ tk tk', Q (.int x.length tk) { s with toks := tk' }) : wpAny (model prog w) A (call (.builtin "len") [.str x t]) Q E s :=
  len_str (by omega) (h _ _)
/-- the next item of the inner iterator: as the model's callSpecial? -/
theorem inner_item {it l : Addr} {i : Nat} {items : Array Value} {x : Value} {Q : Option Value → Shared → Prop} (hit : s.heap.IsTupleIter it l i) (ht : s.heap.IsTuple l items) (hx : items[i]? = some x)
    (hQ : ∀ h', h'.IsTupleIter it l (i + 1) → Heap.SameBut it s.heap h' → Q (some x) { s with heap := h' }) :
    wpAny (model prog w) A (callSpecial? (.ref it) "__next__") Q E s := by
  obtain ⟨o, ho, hc, hd⟩ := id hit
  obtain ⟨ol, hol, _, nl, hdl⟩ := ht
  refine wpAny_callSpecial?_slot (name := Str.ofString "__next__") hit.typeIs F.slot_tuple_iterator_next
    (wpAny_call_entry F.slot_tuple_iterator_next hit.typeIs F.entry_tuple_iterator_next ?_ (F.args_tuple_iterator_next_1 _))
  show wpAny _ _ (field (.ref it) 0 >>= _) _ _ s
  refine wpAny_bind (wpAny_field ho hd (x := .ref l) rfl ?_)
  show wpAny _ _ (if (Value.ref l == Value.none) = true then _ else _) _ _ s
  rw [if_neg (show ¬ ((Value.ref l == Value.none) = true) from Bool.false_ne_true)]
  show wpAny _ _ (field (.ref it) 1 >>= _) _ _ s
  refine wpAny_bind (wpAny_field ho hd (x := .int i 0) rfl ?_)
  show wpAny _ _ (seqItems? (.ref l) >>= _) _ _ s
  refine wpAny_bind (wpAny_seqItems hol hdl ?_)
  simp only [Int.toNat_natCast, hx]
  refine wpAny_bind (wpAny_setField ho hd (by simp) (wpAny_pure ⟨x, rfl, hQ _ ?_ (Heap.SameBut.update ..)⟩))
  exact ⟨_, Heap.get?_update_self _ ho (Obj.isFreed_of_fields (Obj.data_mapFields hd _)), (Obj.cls_mapFields ..).trans hc, by
    rw [Obj.data_mapFields hd]; simp [rawInt]⟩
theorem inner_end {it l : Addr} {i : Nat} {items : Array Value} {Q : Option Value → Shared → Prop} (hh : A.handled = none) (hit : s.heap.IsTupleIter it l i) (ht : s.heap.IsTuple l items) (hx : items[i]? = none)
    (hE : ∀ h' e, Heap.ExtBut it s.heap h' → (∃ o, h'.get? e = some o ∧ o.cls = .type "StopIteration") → E (.ref e) { s with heap := h' }) :
    wpAny (model prog w) A (callSpecial? (.ref it) "__next__") Q E s := by
  obtain ⟨o, ho, hc, hd⟩ := id hit
  obtain ⟨ol, hol, _, nl, hdl⟩ := ht
  refine wpAny_callSpecial?_slot (name := Str.ofString "__next__") hit.typeIs F.slot_tuple_iterator_next
    (wpAny_call_entry F.slot_tuple_iterator_next hit.typeIs F.entry_tuple_iterator_next ?_ (F.args_tuple_iterator_next_1 _))
  show wpAny _ _ (field (.ref it) 0 >>= _) _ _ s
  refine wpAny_bind (wpAny_field ho hd (x := .ref l) rfl ?_)
  show wpAny _ _ (if (Value.ref l == Value.none) = true then _ else _) _ _ s
  rw [if_neg (show ¬ ((Value.ref l == Value.none) = true) from Bool.false_ne_true)]
  show wpAny _ _ (field (.ref it) 1 >>= _) _ _ s
  refine wpAny_bind (wpAny_field ho hd (x := .int i 0) rfl ?_)
  show wpAny _ _ (seqItems? (.ref l) >>= _) _ _ s
  refine wpAny_bind (wpAny_seqItems hol hdl ?_)
  simp only [Int.toNat_natCast, hx]
  refine wpAny_bind (wpAny_rule (wpAny_bind (wpAny_setField ho hd (by simp) ?_)))
  show wpAny _ _ (newExc (.type "StopIteration") [] >>= _) _ _ _
  refine wpAny_bind ?_
  simp only [newExc, newTuple]
  refine wpAny_bind (wpAny_newObj_type ?_ (by size_fits))
  refine wpAny_bind (m := firstArgMember _ _) (wpAny_of_eq (a := Value.none) (by first | rfl | (simp only [firstArgMember]; rfl)) ?_)
  refine wpAny_newObj_type ?_ (by size_fits)
  simp only [raiseNew]
  refine wpAny_bind (wpAny_handled ?_)
  first | rw [show A.in1.handled = none from hh] | rw [hh]
  refine wpAny_bind (wpAny_pure (wpAny_throw ?_))
  exact hE _ _ (((Heap.SameBut.update ..).extBut.push _).push _) ⟨_, Heap.get?_push_size _ rfl, rfl⟩
theorem truthy_pos {n : Int} {t : Tok} {Q : Bool → Shared → Prop} (hn : n ≠ 0) (h : Q true s) : wpAny (model prog w) A (truthy (.int n t)) Q E s := by
  refine PyProof.Rows.truthy_int ?_
  rw [show (n != 0) = true by simpa using hn]
  exact h
theorem walks_filter (hh : A.handled = none) (I it l : Addr) (h1 : it ≠ I) (h2 : l ≠ it) (items : Array Value) (hs : ∀ (i : Nat) (v : Value), items[i]? = some v → ∃ x t, v = Value.str x t ∧ 0 < x.length ∧ x.length < 1000000) :
    Walks prog w A I [I, it, l] [it] items.size (fun i v => items[i]? = some v) (fun i h => h.get? I = some (filterObj it) ∧ h.IsTupleIter it l i ∧ h.IsTuple l items) where
  sub := fun b hb => by simp at hb; simp [hb]
  frame := fun _ _ _ st hk => ⟨hk I (by simp) _ st.1, st.2.1.at fun o e => hk it (by simp) o e, st.2.2.at fun o e => hk l (by simp) o e⟩
  item := fun i s Q E hi st hQ => by
    obtain ⟨hI, hit, hl⟩ := st
    have hT : s.TypeIs (.ref I) "filter" := ⟨_, hI, rfl⟩
    obtain ⟨x, t, hv, hx0, hx1⟩ := hs i items[i] (by simp [hi])
    unfold pyNext
    refine wpAny_bind (wpAny_attempt (wpAny_callSpecial?_slot (name := Str.ofString "__next__") hT slot_filter_next
      (wpAny_call_entry slot_filter_next hT entry_filter_next ?_ (args_filter_next _))))
    show wpAny _ _ (field (.ref I) 0 >>= _) _ _ s
    refine wpAny_bind (wpAny_field hI rfl (x := .builtin "len") rfl ?_)
    refine wpAny_bind (wpAny_field hI rfl (x := .ref it) rfl ?_)
    refine wpAny_bind (inner_item hit hl (x := items[i]) (by simp [hi]) fun h' hit' hsb => ?_)
    dsimp only
    rw [hv]
    show wpAny _ _ (holding [_] (call (.builtin "len") [.str x t] >>= fun good => holding [good] (truthy good)) >>= _) _ _ _
    refine wpAny_bind (wpAny_holding (wpAny_bind (len_text hx1 fun tk tk' => ?_)))
    refine wpAny_holding (truthy_pos (by omega) ?_)
    show wpAny _ _ (if true = true then ret (.str x t) else _) _ _ _
    rw [if_pos rfl]
    refine wpAny_pure ⟨_, rfl, wpAny_pure (hQ _ h' _ (by rw [← hv]; simp [hi]) ⟨(hsb.2 I (Ne.symm h1)).trans hI, hit', hl.extBut hsb.extBut h2⟩ fun b o hb e => hsb.extBut b o (fun h => hb (by simp [h])) e)⟩
  done := fun s Q E st hQ => by
    obtain ⟨hI, hit, hl⟩ := st
    have hT : s.TypeIs (.ref I) "filter" := ⟨_, hI, rfl⟩
    unfold pyNext
    refine wpAny_bind (wpAny_attempt (wpAny_callSpecial?_slot (name := Str.ofString "__next__") hT slot_filter_next
      (wpAny_call_entry slot_filter_next hT entry_filter_next ?_ (args_filter_next _))))
    show wpAny _ _ (field (.ref I) 0 >>= _) _ _ s
    refine wpAny_bind (wpAny_field hI rfl (x := .builtin "len") rfl ?_)
    refine wpAny_bind (wpAny_field hI rfl (x := .ref it) rfl ?_)
    refine wpAny_bind (inner_end hh hit hl (by simp) fun h' e hx ⟨o, ho, hc⟩ => ?_)
    refine wpAny_bind (wpAny_isInstance (T := "StopIteration") (b := true) ⟨o, ho, hc⟩ isSubtype_stop ?_)
    exact wpAny_pure (hQ h' s.toks fun b o hb e => hx b o (fun h => hb (by simp [h])) e)
  self := fun _ s Q E st hQ => by
    have hT : s.TypeIs (.ref I) "filter" := ⟨_, st.1, rfl⟩
    refine wpAny_pyIter_slot hT slot_filter_iter (wpAny_call_entry slot_filter_iter hT entry_filter_iter ?_ (args_filter_iter _))
    show wpAny _ _ (ret (.ref I)) _ _ s
    exact wpAny_pure ⟨_, rfl, "filter", _, hT, slot_filter_next.lookup, hQ⟩
end
end Mine
end

/-! GX -/
section
open PySem PySem.W PySem.Spec PySem.Calls PyProof.Rows
set_option maxRecDepth 100000
set_option maxHeartbeats 4000000
namespace Mine
section
variable {prog : Program} {w : World} {A : Around} {E : Value → Shared → Prop} {s : Shared} {c P L : Addr} {ps : Array Value} {mg : Str → Option Value} {bm : Addr} {ob : Obj}
/-- a generator expression, whether its code is made now or was made before -/
theorem gen_both {env : Env} {elt iter : Expr} {x : Str} {px : Pos} {ifs : List Expr} {scope : Scope} {cl : List (Str × Addr)} {pos : Pos} {Q : Value → Shared → Prop}
    (hcode : env.code = .ref c) (hh : A.handled = none) (hco : scope.isCoroutine = false) (hclos : closureFor scope env = pure cl) (hcell : ∀ y ∈ scope.names, y.2 ≠ .cell) (h0 : scope.names.lookup (".0" : Str) = some NameKind.local)
    (hx : scope.names.lookup x = some .local) (hkind : scope.kind = .function) (hroom : A.depth < recursionLimit)
    (h : wpAny (model prog w) A (eval iter env) (fun xv s₁ => wpAny (model prog w) A (pyIter xv) (fun it s₂ => s₂.heap.NoLimit ∧ BMod s₂.heap env.globals mg bm ob ∧ s₂.heap.IsCode c P ps ∧ s₂.heap.TableAt c P ps ∧
      ∃ I fp wr n₀ Pi St₀ pz F, it = .ref I ∧ (∀ A' : Around, A'.handled = none → Walks prog w A' I fp wr n₀ Pi St₀) ∧ St₀ 0 s₂.heap ∧ (∀ b ∈ fp, b < s₂.heap.objs.size) ∧ P ∉ fp ∧ cStatics ∉ wr ∧ (∀ b ∈ wr, L < b) ∧ L < s₂.heap.objs.size ∧
        (∀ (code : Value) (C : Addr) (href : Heap), QuietGen prog w (genEnv scope cl C code builtinsNs env) x ifs elt (List.range C) wr Pi pz F href) ∧
        (∀ (a : Addr) (s₅ : Shared) (more : Array Value), Heap.ExtBut P s₂.heap s₅.heap → s₅.heap.IsCode c P (ps ++ more) → s₅.heap.TableAt c P (ps ++ more) → (∃ gs, gs.bare = true ∧ s₅.gens = s₂.gens.push gs) → s₅.os = s₂.os → s₅.drawn = s₂.drawn → a < s₅.heap.objs.size →
          Gen prog w A L a (passing pz n₀ 0).length (fun j y => ∃ i, (passing pz n₀ 0)[j]? = some i ∧ F i y) s₅ → Q (.ref a) s₅)) E s₁) E s)
    (hs : ∀ x, genFold iter env x = pure x) :
    wpAny (model prog w) A (eval (.GeneratorExp elt [⟨.Name x px, iter, ifs, 0⟩] scope pos) env) Q E s := by
  refine wpAny_GeneratorExp_walksQ hh hco hclos hcell h0 hx hkind hroom (wpAny_mono h (fun xv s₁ h₁' => wpAny_mono h₁' (fun it s₂ h₂ => ?_) fun _ _ e => e) fun _ _ e => e) hs
  obtain ⟨hlim, M, hIs, hTab, I, fp, wr, n₀, Pi, St₀, pz, F, rfl, W₀, hst, hfp, hPf, hcw, hwr, hLlt, hq, hQ⟩ := h₂
  have hcP : cStatics ≠ P := fun e => by
    obtain ⟨_, hns, _⟩ := hlim
    obtain ⟨o, es, ep, ho, hd, _⟩ := hns
    rw [e, hTab.2] at ho; cases ho; cases hd
  have key : ∀ (code : Value) (h₃ : Heap) (tk₃ : Nat) (more : Array Value), Heap.ExtBut P s₂.heap h₃ → s₂.heap.objs.size ≤ h₃.objs.size → h₃.IsCode c P (ps ++ more) → h₃.TableAt c P (ps ++ more) →
      wpAny (model prog w) A (builtinsFor env.globals env.builtins) (fun bi s₄ =>
        ∃ I' fp wr n₀ P' St₀ pz F, Value.ref I = .ref I' ∧ (∀ A' : Around, A'.handled = none → Walks prog w A' I' fp wr n₀ P' St₀) ∧ St₀ 0 s₄.heap ∧ (∀ b ∈ fp, b < s₄.heap.objs.size) ∧ s₄.heap.NoLimit ∧ cStatics ∉ wr ∧
          (∀ href : Heap, (∀ b o, s₄.heap.get? b = some o → href.get? b = some o) →
            QuietGen prog w (genEnv scope cl s₄.heap.objs.size code bi env) x ifs elt (List.range s₄.heap.objs.size) wr P' pz F href) ∧
          (∀ a h₅ tk gs, gs.bare = true → s₄.heap.objs.size < a → h₅.objs.size = a + 1 → (∀ b o, s₄.heap.get? b = some o → h₅.get? b = some o) →
            WalksS prog w A.in4 a (a :: s₄.heap.objs.size :: List.range s₄.heap.objs.size) (s₄.heap.objs.size :: wr) (GenOnlyQ s₄.gens.size) (passing pz n₀ 0).length
              (fun j y => ∃ i, (passing pz n₀ 0)[j]? = some i ∧ F i y) (GenAt prog w A.in4 a s₄.gens.size s₄.heap.objs.size (List.range s₄.heap.objs.size) wr pz n₀ F) →
            GenAt prog w A.in4 a s₄.gens.size s₄.heap.objs.size (List.range s₄.heap.objs.size) wr pz n₀ F 0 { s₄ with gens := s₄.gens.push gs, toks := tk, heap := h₅ } →
            Q (.ref a) { s₄ with gens := s₄.gens.push gs, toks := tk, heap := h₅ })) E { s₂ with heap := h₃, toks := tk₃ } := by
    intro code h₃ tk₃ more hx₃ hsz hI₃ hT₃
    have M₃ : BMod h₃ env.globals mg bm ob := M.extBut hTab hx₃
    have hl₃ : h₃.NoLimit := hlim.extBut hx₃ hcP
    refine wpAny_builtinsFor M₃.ns M₃.name M₃.ne M₃.obj M₃.cls M₃.dict M₃.data ?_
    refine ⟨I, fp, wr, n₀, Pi, St₀, pz, F, rfl, W₀, (W₀ A hh).frame _ _ _ hst (fun b hb o e => hx₃ b o (fun e' => hPf (e' ▸ hb)) e), (fun b hb => Nat.lt_of_lt_of_le (hfp b hb) hsz), hl₃, hcw,
      (fun href hhref => hq _ _ href), fun a h₅ tk gs hgb hag hsz₅ hk₅ W hat => ?_⟩
    refine hQ a _ more (fun b o hb e => hk₅ b o (hx₃ b o hb e)) (hI₃.keeps hk₅) (hT₃.keeps hk₅) ⟨gs, hgb, rfl⟩ rfl rfl (by show a < h₅.objs.size; rw [hsz₅]; exact Nat.lt_succ_self _) ⟨_, _, _, _, W, hat, (fun i s' st => st.1.typeIs), List.mem_cons_self, ?_, ?_⟩
    · intro b hb
      show b < h₅.objs.size
      rw [hsz₅]
      rcases List.mem_cons.mp hb with rfl | hb
      · exact Nat.lt_succ_self _
      · rcases List.mem_cons.mp hb with rfl | hb
        · exact Nat.lt_succ_of_lt hag
        · exact Nat.lt_succ_of_lt (Nat.lt_trans (List.mem_range.mp hb) hag)
    · intro b hb
      rcases List.mem_cons.mp hb with rfl | hb
      · exact Nat.lt_of_lt_of_le hLlt hsz
      · exact hwr b hb
  refine ⟨hlim, ?_⟩
  cases hca : codeAmong pos ps.toList with
  | none =>
    exact wpAny_genexprCodeX hcode hIs hTab hca fun c' h₃ tk₃ hx₃ hge hlt hcode₃ _ htab₃ _ => key _ h₃ tk₃ _ hx₃ (Nat.le_trans hge (Nat.le_of_lt hlt)) hcode₃ htab₃
  | some cv =>
    refine wpAny_genexprCode_hit hcode hIs hca ?_
    exact key cv s₂.heap s₂.toks #[] (fun b o _ e => e) (Nat.le_refl _) (by rw [Array.append_empty]; exact hIs) (by rw [Array.append_empty]; exact hTab)
end
end Mine
end

/-! the macros of all texts below -/
section
open PySem PySem.W PySem.Spec PySem.Calls PyProof.Rows
namespace Mine
local macro_rules | `(tactic| walk_at "one") => `(tactic| first | (k_unfold; (try dsimp only)) | walk1 | (dsimp only; walk1) | dsimp only)
local macro_rules | `(tactic| walk_at "stA") => `(tactic| with_reducible (first
  | show wpAny _ _ (exec (Stmt.While _ _ _ _) _) _ _ _
  | show wpAny _ _ (exec (Stmt.For _ _ _ _ _) _) _ _ _
  | show WhileStep2 _ _ _ _ _ _ _ _))
local macro_rules | `(tactic| walk_at "stB") => `(tactic| with_reducible (first
  | walk_at "stA"
  | show wpAny _ _ (call (Value.ref _) _ _) _ _ _
  | show wpAny _ _ (eval (Expr.ListComp _ _ _ _) _) _ _ _
  | show wpAny _ _ (call (Value.builtin "list.extend") _ _) _ _ _
  | show wpAny _ _ (subscriptTail _ _ (Value.ref _) (Value.int _ _)) _ _ _
  | show wpAny _ _ (pyIter _) _ _ _
  | show wpAny _ _ (call (Value.builtin "list.pop") _ _) _ _ _
  | show wpAny _ _ (binaryOp Operator.Pow _ _) _ _ _
  | show wpAny _ _ (binaryOp Operator.Add (Value.ref _) _) _ _ _
  | show wpAny _ _ (call (Value.builtin "divmod") _ _) _ _ _
  | show wpAny _ _ (binaryOp Operator.Mult _ _) _ _ _
  | show wpAny _ _ (getItem (Value.ref _) _) _ _ _
  | show wpAny _ _ (setItem (Value.ref _) _ _) _ _ _
  | show ForEnd _ _ _ _ _ _ _ _ _
  | show _ ∧ Keeps _ _))
local macro_rules | `(tactic| walk_at "mine0") => `(tactic| repeat' ((fail_if_success (with_reducible show wpAny _ _ (exec (Stmt.While _ _ _ _) _) _ _ _)); (fail_if_success (with_reducible show wpAny _ _ (exec (Stmt.For _ _ _ _ _) _) _ _ _)); walk_at "one"))
local macro_rules | `(tactic| walk_at "mine1") => `(tactic| repeat' ((fail_if_success walk_at "stA"); (fail_if_success (with_reducible show wpAny _ _ (binaryOp Operator.Add (Value.bytes _ _) _) _ _ _)); walk_at "one"))
local macro_rules | `(tactic| walk_at "mine") => `(tactic| repeat' ((fail_if_success walk_at "stB"); (fail_if_success (with_reducible show wpAny _ _ (binaryOp Operator.FloorDiv _ _) _ _ _)); walk_at "one"))
local macro_rules | `(tactic| walk_at "mineP") => `(tactic| repeat' ((fail_if_success walk_at "stB"); (fail_if_success (with_reducible show wpAny _ _ (call (Value.builtin "str.join") _ _) _ _ _)); (fail_if_success (with_reducible show wpAny _ _ (call (Value.builtin "str.replace") _ _) _ _ _)); walk_at "one"))
local macro_rules | `(tactic| walk_at "stL") => `(tactic| with_reducible (first
  | walk_at "stB"
  | show wpAny _ _ (subscriptTail _ _ (Value.ref _) (Value.ref _)) _ _ _
  | show wpAny _ _ (call (Value.builtin "min") _ _) _ _ _
  | show wpAny _ _ (call (Value.builtin "max") _ _) _ _ _
  | show wpAny _ _ (call (Value.builtin "list.append") _ _) _ _ _
  | show wpAny _ _ (compareOp _ (Value.ref _) (Value.ref _)) _ _ _
  | show (Exists _) ∧ _))
local macro_rules | `(tactic| walk_at "mineL") => `(tactic| repeat' ((fail_if_success walk_at "stL"); walk_at "one"))
local macro_rules | `(tactic| walk_at "minec") => `(tactic| repeat' ((fail_if_success (with_reducible show wpAny _ _ (binaryOp Operator.Add (Value.ref _) _) _ _ _)); walk_at "one"))
local macro_rules | `(tactic| walk_at "eval Name") => `(tactic| ((with_reducible show wpAny _ _ (eval _ (compEnvC _ _ _ _)) _ _ _); first
  | (refine nmL (by assumption) (by assumption) rfl rfl rfl (by decide) ?_)
  | (refine nmC (by assumption) rfl rfl (by first | exact .head _ | exact .tail _ (.head _) | exact .tail _ (.tail _ (.head _))) (by assumption) rfl (by decide) ?_)
  | (refine nmB (by assumption) (by assumption) (by assumption) rfl (by k_is) (by first | exact boot_chr | exact boot_ord) rfl rfl rfl (by decide) (by decide) ?_)
  | (refine nmK (by assumption) (by assumption) (by assumption) rfl (by k_is) rfl rfl (by decide) ?_)))

/-! F58 -/
section
set_option maxRecDepth 100000
set_option maxHeartbeats 4000000
/-- the figures to the base 16, the highest first -/
def hexs (n : Nat) : List Nat := if h : n = 0 then [] else hexs (n / 16) ++ [n % 16]
termination_by n
decreasing_by omega
theorem hexs_zero : hexs 0 = [] := by rw [hexs]; simp
theorem hexs_pos {n : Nat} (h : n ≠ 0) : hexs n = hexs (n / 16) ++ [n % 16] := by rw [hexs]; simp [h]
theorem hexs_length : ∀ (j n : Nat), n < 16 ^ j → (hexs n).length ≤ j
  | 0, n, h => by
    have : n = 0 := by simpa using h
    subst this; rw [hexs_zero]; simp
  | j + 1, n, h => by
    by_cases e : n = 0
    · subst e; rw [hexs_zero]; simp
    · rw [hexs_pos e, List.length_append]
      have := hexs_length j (n / 16) (by rw [Nat.pow_succ] at h; omega)
      simp; omega
theorem hexs_lt (n : Nat) : ∀ d ∈ hexs n, d < 16 := by
  induction n using Nat.strongRecOn with
  | ind n ih =>
    by_cases e : n = 0
    · subst e; rw [hexs_zero]; simp
    · rw [hexs_pos e]
      intro d hd
      rcases List.mem_append.mp hd with h | h
      · exact ih (n / 16) (by omega) d h
      · rw [List.mem_singleton.mp h]; omega
def apBytes (ds : List Nat) : Array UInt8 := (ds.map fun d => (65 + d).toUInt8).toArray

theorem ap_cut : ∀ j : Fin 16, KBy.picked #[65, 66, 67, 68, 69, 70, 71, 72, 73, 74, 75, 76, 77, 78, 79, 80] (some (j.val : Int)) (some ((j.val : Int) + 1)) = apBytes [j.val] := by decide
theorem ap_cut' (k : Nat) : KBy.picked #[65, 66, 67, 68, 69, 70, 71, 72, 73, 74, 75, 76, 77, 78, 79, 80] (some (Int.fmod k 16)) (some (Int.fmod k 16 + 1)) = apBytes [k % 16] := by
  have e : Int.fmod (k : Int) 16 = ((k % 16 : Nat) : Int) := by
    rw [Int.fmod_eq_emod_of_nonneg _ (by omega)]; omega
  rw [e]; exact ap_cut ⟨k % 16, by omega⟩

theorem int2AP {w : World} {p : Program} {loose : List Str} {mg mb : Str → Option Value} {dp un : Nat} {fr : Option (List Env)} {gd : Option (List Code)} {s : Shared} {Q E : Value → Shared → Prop} (n : Nat) (t : Tok)
    (X : (hd.heap_39 w.params).In s.heap) (T : TopRead p loose mg mb s.heap) (hA : AOk ⟨none, dp, fr, gd, un⟩ 1) (hn : n < 16 ^ 64)
    (hret : ∀ h' tk t', Ext s.heap h' → Q (.bytes (apBytes (hexs n)) t') { s with heap := h', toks := tk }) :
    wpAny (model PySem.Challenge.rw_pe0065_01.prog w) ⟨none, dp, fr, gd, un⟩ (call (.ref 58) [.int n t]) Q E s := by
  revert X
  k_fill
  intro X
  refine enter X T (by k_is) (by k_is) (Nat.lt_of_le_of_lt (Nat.le_add_right _ _) hA.dep) (BindsTo.of_eq rfl) (locs rfl) (by decide) rfl rfl rfl ?_
  intro L h₁ tk F N
  replace F := Fr.map (m' := fun y => if y = "num" then some (.int n t) else none) F (by intro y; simp [List.lookup]; split <;> simp_all)
  have hA' := hA.deeper
  show wpAny _ _ _ _ _ _
  k_fold
  walk_at "mine0"
  rename Fr _ _ _ _ => F
  rename News _ _ _ _ => N
  refine While_inv2 (L := L) (h₀ := s.heap) (fun k m₁ nx => ∃ ds, nx = [] ∧ HInt m₁ "num" k ∧ HByt m₁ "AP" #[65, 66, 67, 68, 69, 70, 71, 72, 73, 74, 75, 76, 77, 78, 79, 80] ∧ HByt m₁ "val" (apBytes ds) ∧ hexs k ++ ds = hexs n) (n₀ := n) F N ?_ ?_ ?_
  · exact ⟨[], rfl, .of rfl (by split <;> omega), ⟨_, rfl⟩, ⟨_, rfl⟩, by simp⟩
  · clear F N
    rintro k m₁ nx h tk F N ⟨ds, rfl, ⟨_, e1⟩, ⟨_, e2⟩, ⟨_, e3⟩, e4⟩
    replace F := Fr.see3 F e1 e2 e3
    clear e1 e2 e3
    have hlen : (hexs n).length ≤ 64 := hexs_length 64 n hn
    have hl : ds.length ≤ 64 := by
      have := congrArg List.length e4
      rw [List.length_append] at this; omega
    show wpAny _ _ _ _ _ _
    walk_at "mine0"
    · rename Fr _ _ _ _ => F
      rename News _ _ _ _ => N
      refine KBc.slice_K (s := ⟨_, _, _, _, _⟩) F N rfl (by constructor) (by constructor) (by decide) ?_
      intro h' t' k' F N _
      rw [ap_cut']
      walk_at "mine1"
      refine KBa.add_K rfl rfl (by rw [KBw.ints_length, KBw.ints_length]; simp [apBytes]; omega) ?_
      intro t' k'' _
      walk_at "mine1"
      rename Fr _ _ _ _ => F
      have hk0 : k ≠ 0 := by omega
      refine ⟨_, _, _, _, k / 16, rfl, F, News.nil, by omega, (k % 16) :: ds, rfl, .of rfl ?_, ⟨_, rfl⟩, .of rfl ?_, ?_⟩
      · rw [Int.fdiv_eq_ediv_of_nonneg _ (by omega)]; omega
      · simp [apBytes]
      · rw [← e4, hexs_pos hk0]; simp
    · have hk0 : k = 0 := by omega
      subst hk0
      rw [hexs_zero, List.nil_append] at e4
      subst e4
      exact hret _ _ _ F.keep
  · exact PassesOwn.never
end

/-! F70 -/
section
set_option maxRecDepth 100000
set_option maxHeartbeats 4000000
def told (n : Nat) : Str := ⟨((48 + (hexs n).length) :: (hexs n).map (fun d => 65 + d)).toArray⟩

theorem cat_letters : ∀ (ds : List Nat), Str.join Str.empty (ds.map fun d => (⟨#[65 + d]⟩ : Str)) = ⟨(ds.map fun d => 65 + d).toArray⟩
  | [] => rfl
  | [x] => rfl
  | x :: y :: r => by
    have ih := cat_letters (y :: r)
    show (⟨#[65 + x]⟩ : Str) ++ Str.empty ++ Str.join Str.empty ((y :: r).map fun d => (⟨#[65 + d]⟩ : Str)) = _
    rw [ih]
    show (⟨(#[65 + x] ++ #[]) ++ _⟩ : Str) = _
    simp
theorem strs_of_bytes : ∀ (ds : List Nat) (vs ys : List PySem.Value), (∀ d ∈ ds, d < 16) → vs.length = ds.length → (∀ (j : Nat) (v : PySem.Value), vs[j]? = some v → ∃ (c : UInt8) (u : Tok), (apBytes ds)[j]? = some c ∧ v = Value.int (c.toNat : Int) u) →
    Paired (fun v y => ∃ (i : Nat) (tv ty : Tok), v = Value.int (i : Int) tv ∧ y = Value.str ⟨#[i]⟩ ty) vs ys → StrsAre ys (ds.map fun d => (⟨#[65 + d]⟩ : Str))
  | [], vs, ys, _, hl, _, hp => by
    have : vs = [] := by simpa using hl
    subst this
    cases hp
    exact .nil
  | d :: ds, vs, ys, hd, hl, hP, hp => by
    cases hp with
    | nil => simp at hl
    | @cons a b l₁ l₂ hab hr =>
      obtain ⟨i, tv, ty, rfl, rfl⟩ := hab
      obtain ⟨c, u, hc, hv⟩ := hP 0 _ rfl
      have hd16 := hd d (.head _)
      have e : i = 65 + d := by
        have h1 : c = (65 + d).toUInt8 := by
          have : (apBytes (d :: ds))[0]? = some (65 + d).toUInt8 := by simp [apBytes]
          rw [this] at hc; exact (Option.some.inj hc).symm
        have h2 : (i : Int) = (c.toNat : Int) := by injection hv
        rw [h1] at h2
        have h3 : ((65 + d).toUInt8).toNat = 65 + d := by
          show (65 + d) % 256 = 65 + d
          omega
        omega
      subst e
      refine StrsAre.cons _ _ (strs_of_bytes ds l₁ l₂ (fun x hx => hd x (.tail _ hx)) (by simpa using hl) (fun j v hj => ?_) hr)
      obtain ⟨c', u', hc', hv'⟩ := hP (j + 1) v (by simpa using hj)
      exact ⟨c', u', by simpa [apBytes] using hc', hv'⟩
theorem told_eq {n : Nat} (h : (hexs n).length ≤ 9) : Str.ofString (toString ((hexs n).length : Int)) ++ (⟨((hexs n).map fun d => 65 + d).toArray⟩ : Str) = told n := by
  have key : ∀ k : Fin 10, Str.ofString (toString ((k.val : Nat) : Int)) = ⟨#[48 + k.val]⟩ := by decide +kernel
  have := key ⟨(hexs n).length, by omega⟩
  rw [this]
  show (⟨#[48 + (hexs n).length] ++ ((hexs n).map fun d => 65 + d).toArray⟩ : Str) = _
  simp [told]

theorem filter_tt {α : Type} (l : List α) : l.filter (fun _ => true) = l := List.filter_eq_self.mpr (fun _ _ => rfl)
theorem len_letters : ∀ ds : List Nat, ((ds.map fun d => (⟨#[65 + d]⟩ : Str)).map (fun x => x.length)).sum = ds.length
  | [] => rfl
  | x :: r => by
    have ih := len_letters r
    simp only [List.map_cons, List.sum_cons, List.length_cons]
    show 1 + _ = _
    omega

theorem lettered {w : World} {p : Program} {loose : List Str} {mg mb : Str → Option Value} {dp un : Nat} {fr : Option (List Env)} {gd : Option (List Code)} {s : Shared} {Q E : Value → Shared → Prop} (n : Nat) (t : Tok)
    (X : (hd.heap_39 w.params).In s.heap) (T : TopRead p loose mg mb s.heap) (hA : AOk ⟨none, dp, fr, gd, un⟩ 2) (hn : n < 16 ^ 9)
    (hret : ∀ h' tk t', Ext s.heap h' → Q (.str (told n) t') { s with heap := h', toks := tk }) :
    wpAny (model PySem.Challenge.rw_pe0065_01.prog w) ⟨none, dp, fr, gd, un⟩ (call (.ref 70) [.int n t]) Q E s := by
  revert X
  k_fill
  intro X
  refine enter X T (by k_is) (by k_is) (Nat.lt_of_le_of_lt (Nat.le_add_right _ _) hA.dep) (BindsTo.of_eq rfl) (locs rfl) (by decide) rfl rfl rfl ?_
  intro L h₁ tk F N
  replace F := Fr.map (m' := fun y => if y = "number" then some (.int n t) else none) F (by intro y; simp [List.lookup]; split <;> simp_all)
  show wpAny _ _ _ _ _ _
  k_fold
  walk_at "mine"
  refine int2AP n t (X.keeps F.keep) (T.keeps F.keep) ((hA.deeper _).le (by decide)) (Nat.lt_of_lt_of_le hn (by decide)) ?_
  intro h' tk' t' K'
  replace F := frExt F K'
  replace N := newsExt N K'
  walk_at "mine"
  have hl : (hexs n).length ≤ 9 := hexs_length 9 n hn
  refine KBw.len_K (ks := KBw.bInts (apBytes (hexs n))) rfl (by rw [KBw.ints_length]; simp [apBytes]; omega) ?_
  rw [KBw.ints_length, show (apBytes (hexs n)).size = (hexs n).length by simp [apBytes]]
  walk_at "mine"
  rename Fr _ _ _ _ => F
  rename News _ _ _ _ => N
  refine lcomp (fun _ => true) (fun v y => ∃ (i : Nat) (tv ty : Tok), v = .int (i : Int) tv ∧ y = .str ⟨#[i]⟩ ty) F N rfl (by decide) rfl (by decide) rfl ?_ (fun _ => rfl)
  refine nameX_L F rfl ?_
  refine KBw.pyIter_bytes ?_
  refine ⟨_, _, _, _, _, rfl, KBw.walks rfl _ (apBytes (hexs n)) t', ?_, ⟨_, Heap.get?_push_size _ rfl, rfl, rfl⟩, ?_, frExt F (fun b o e => Heap.get?_push_of_some _ e), newsExt N (fun b o e => Heap.get?_push_of_some _ e), ?_, ?_, ?_, ?_, ?_, ?_⟩
  · simp [apBytes, sizeLine]; omega
  · intro b hb; rw [List.mem_singleton.mp hb, Heap.size_push]; exact Nat.lt_succ_self _
  · exact next_is_new F
  · exact Nat.ne_of_gt F.ns.lt
  · intro q hq; cases hq
  · intro C i v s₃ m₃ E' hP F3 N3 hm
    exact wpAny_tests_nil ⟨rfl, _, _, rfl, fun _ _ e => e⟩
  · rintro C i v s₃ m₃ E' ⟨c, u, hc, rfl⟩ _ F3 N3 hm
    walk_at "mine"
    have hc256 := c.toNat_lt
    refine chr_of_range (by omega) (by omega) ?_
    exact ⟨⟨c.toNat, _, _, rfl, rfl⟩, _, _, rfl, fun _ _ e => e⟩
  · intro D h' tk ys c vs F N _ hlen hP hpr
    have hs := strs_of_bytes (hexs n) vs ys.toList (hexs_lt n) (by rw [hlen]; simp [apBytes]) hP (by rw [filter_tt] at hpr; exact hpr)
    walk_at "mine"
    refine join_list (News.isList N (.head _)) hs (by rw [len_letters, List.length_map, show (Str.ofString "").length = 0 from rfl]; omega) ?_
    intro t₁ k₁
    rw [show Txt.join (Str.ofString "") ((hexs n).map fun d => (⟨#[65 + d]⟩ : Str)) = ⟨((hexs n).map fun d => 65 + d).toArray⟩ from (StrLaws.glued_eq_join _ _).trans (cat_letters _)]
    walk_at "mine"
    rw [told_eq hl]
    exact hret _ _ _ F.keep
end

/-! F77 -/
section
set_option maxRecDepth 100000
set_option maxHeartbeats 4000000
/-- the part that _law_parts makes of a code -/
def partOf (c : Int) : Str := if c < 0 then "(p" else if c = 0 then "unknown" else told c.toNat ++ ")"

theorem StrsAre.snoc : ∀ {vs : List Value} {ts : List Str} {y : Str} {t : Tok}, StrsAre vs ts → StrsAre (vs ++ [.str y t]) (ts ++ [y])
  | _, _, _, _, .nil => .cons _ _ .nil
  | _, _, _, _, .cons y' t' h => .cons y' t' (StrsAre.snoc h)
theorem strs_push {items : Array Value} {ts : List Str} {y y' : Str} {t : Tok} (h : StrsAre items.toList ts) (e : y = y') : StrsAre (items.push (.str y t)).toList (ts ++ [y']) := by
  rw [Array.toList_push, ← e]; exact StrsAre.snoc h

theorem parts {w : World} {p : Program} {loose : List Str} {mg mb : Str → Option Value} {dp un : Nat} {fr : Option (List Env)} {gd : Option (List Code)} {s : Shared} {Q E : Value → Shared → Prop} (l : Addr) (vs : List Value) (ns : List Int)
    (X : (hd.heap_39 w.params).In s.heap) (T : TopRead p loose mg mb s.heap) (hA : AOk ⟨none, dp, fr, gd, un⟩ 3) (hl : s.heap.IsList l vs.toArray) (hi : IntsAre vs ns) (hb : ∀ n ∈ ns, n < 16) (hlen : ns.length ≤ 1000)
    (hret : ∀ h' tk D items c, Ext s.heap h' → s.heap.get? D = none → h'.get? D = some (listOf items c) → StrsAre items.toList (ns.map partOf) → Q (.ref D) { s with heap := h', toks := tk }) :
    wpAny (model PySem.Challenge.rw_pe0065_01.prog w) ⟨none, dp, fr, gd, un⟩ (call (.ref 77) [.ref l]) Q E s := by
  revert X
  k_fill
  intro X
  refine enter X T (by k_is) (by k_is) (Nat.lt_of_le_of_lt (Nat.le_add_right _ _) hA.dep) (BindsTo.of_eq rfl) (locs rfl) (by decide) rfl rfl rfl ?_
  intro L h₁ tk F N
  replace F := Fr.map (m' := fun y => if y = "codes" then some (.ref l) else none) F (by intro y; simp [List.lookup]; split <;> simp_all)
  show wpAny _ _ _ _ _ _
  walk_at "mine"
  rename Fr _ _ _ _ => F
  rename News _ _ _ _ => N
  rename_i D _ _ _
  refine for_at s.heap (fun i m₁ nx => m₁ "parts" = some (.ref D) ∧ m₁ "codes" = some (.ref l) ∧ ∃ items c, nx = [(D, listOf items c)] ∧ StrsAre items.toList ((ns.take i).map partOf)) rfl rfl ?_ (fun _ => rfl)
  refine nameX_L F rfl ?_
  obtain ⟨ol, hol, _⟩ := id hl
  refine at_list rfl F N (hl.at fun o e => F.keep _ _ e) (.inl ⟨ol, hol⟩) ⟨rfl, rfl, _, _, rfl, .nil⟩ ?_ ?_
  · clear F N
    rintro i v m₁ news₁ h tk I oI hv ⟨e1, e2, items, c, rfl, hst⟩ hne F N
    have hv' : vs[i]? = some v := by simpa using hv
    have hlt : i < ns.length := by rw [← hi.length]; exact (List.getElem?_eq_some_iff.mp hv').1
    obtain ⟨t, ht⟩ := hi.get i ns[i] (by simp [hlt])
    rw [hv'] at ht
    have ht : v = .int ns[i] t := Option.some.inj ht
    subst ht
    have hb16 := hb ns[i] (List.getElem_mem hlt)
    have htk : (ns.take (i + 1)).map partOf = (ns.take i).map partOf ++ [partOf ns[i]] := by
      rw [List.take_add_one, List.getElem?_eq_getElem hlt, Option.toList_some, List.map_append]; rfl
    have hsz : items.size ≤ 1000 := by
      have := hst.length
      simp only [List.length_map, List.length_take, Array.length_toList] at this
      omega
    have hID : @Ne Nat I D := fun e => hne (D, listOf items c) (.head _) e.symm
    generalize ns[i] = n at *
    have F : Fr s.heap L h _ := Fr.insee2 F e1 e2
    have N : News s.heap L h _ := N
    clear hv hv' hol
    show wpAny _ _ _ _ _ _
    walk_at "mine"
    · rename Fr _ _ _ _ => F
      rename News _ _ _ _ => N
      refine forEnd1 F N hID ⟨rfl, rfl, _, _, rfl, ?_⟩
      · rw [htk]; exact strs_push hst (by rw [partOf, if_pos (by assumption)])
    · rename Fr _ _ _ _ => F
      rename News _ _ _ _ => N
      refine forEnd1 F N hID ⟨rfl, rfl, _, _, rfl, ?_⟩
      · rw [htk]; exact strs_push hst (by rw [partOf, if_neg (by assumption), if_pos (by assumption)])
    · obtain ⟨k, rfl⟩ : ∃ k : Nat, n = (k : Int) := ⟨n.toNat, by omega⟩
      refine lettered k t (X.keeps F.keep) (T.keeps F.keep) ((hA.deeper _).le (by decide)) (Nat.lt_of_lt_of_le (by omega : k < 16) (by decide)) ?_
      intro h' tk' t' K'
      have hl9 : (told k).length ≤ 100 := by
        have := hexs_length 1 k (by omega)
        simp [told, Str.length]; omega
      replace F := frExt F K'
      replace N := newsExt N K'
      walk_at "mine"
      rename Fr _ _ _ _ => F
      rename News _ _ _ _ => N
      refine forEnd1 F N hID ⟨rfl, rfl, _, _, rfl, ?_⟩
      · rw [htk]; refine strs_push hst ?_
        have h1 : ¬ ((k : Int) < 0) := by omega
        have h2 : ¬ ((k : Int) = 0) := by omega
        rw [partOf, if_neg h1, if_neg h2]; rfl
  · rintro m₁ news₁ h tk ⟨e1, e2, items, c, rfl, hst⟩ F N
    have F : Fr s.heap L h _ := Fr.see2 F e1 e2
    have N : News s.heap L h _ := N
    show wpAny _ _ _ _ _ _
    walk_at "mine"
    rw [List.size_toArray, hi.length, List.take_length] at hst
    exact hret _ _ _ _ _ F.keep (N _ (.head _)).2.2 (N _ (.head _)).1 hst
end

/-! F82 -/
section
set_option maxRecDepth 100000
set_option maxHeartbeats 4000000
def nameL (ns : List Int) : List Nat := ns.flatMap fun c => if c < 0 then [45, 112] else if c = 0 then [] else [45, 49, 65 + c.toNat]
def nameS (ns : List Int) : Str := ⟨(nameL ns).toArray⟩
def pieceOf (c : Int) : Str := if c < 0 then "-p" else "-1" ++ ⟨#[65 + c.toNat]⟩

theorem pieces_of : ∀ (ns : List Int) (vs ys : List PySem.Value), IntsAre vs ns → Paired (fun v y => ∃ (i : Int) (tv ty : Tok), v = Value.int i tv ∧ y = Value.str (pieceOf i) ty) (vs.filter (fun v => match v with | .int i _ => i != 0 | _ => false)) ys →
    StrsAre ys ((ns.filter (· != 0)).map pieceOf)
  | [], _, ys, .nil, hp => by
    cases hp; exact .nil
  | n :: ns, _, ys, .cons _ t hi, hp => by
    by_cases e : n = 0
    · subst e
      exact pieces_of ns _ ys hi hp
    · have hb : (n != 0) = true := by simpa using e
      rw [List.filter_cons_of_pos (by simpa using hb)] at hp
      rw [List.filter_cons_of_pos (by simpa using hb), List.map_cons]
      cases hp with
      | @cons a b l₁ l₂ hab hr =>
        obtain ⟨i, tv, ty, h1, rfl⟩ := hab
        injection h1 with h1 _
        subst h1
        exact .cons _ _ (pieces_of ns _ l₂ hi hr)
theorem join_name : ∀ (ns : List Int), Str.join Str.empty ((ns.filter (· != 0)).map pieceOf) = nameS ns := by
  have step : ∀ (x : Str) (r : List Str), Str.join Str.empty (x :: r) = x ++ Str.join Str.empty r := by
    intro x r
    cases r with
    | nil => show x = (⟨x.cps ++ #[]⟩ : Str); simp
    | cons y r => show x ++ Str.empty ++ _ = _; show (⟨(x.cps ++ #[]) ++ _⟩ : Str) = _; simp only [Array.append_empty]; rfl
  intro ns
  induction ns with
  | nil => rfl
  | cons n ns ih =>
    by_cases e : n = 0
    · subst e
      show Str.join Str.empty ((ns.filter (· != 0)).map pieceOf) = _
      rw [ih]; simp [nameS, nameL]
    · rw [List.filter_cons_of_pos (by simpa using e), List.map_cons, step, ih]
      by_cases h : n < 0
      · show (⟨(pieceOf n).cps ++ (nameL ns).toArray⟩ : Str) = _
        rw [pieceOf, if_pos h]
        simp only [nameS, nameL, List.flatMap_cons, if_pos h]
        rw [show (Str.ofString "-p").cps = #[45, 112] by decide +kernel]
        simp
      · show (⟨(pieceOf n).cps ++ (nameL ns).toArray⟩ : Str) = _
        rw [pieceOf, if_neg h]
        simp only [nameS, nameL, List.flatMap_cons, if_neg h, if_neg e]
        show (⟨((Str.ofString "-1").cps ++ #[65 + n.toNat]) ++ _⟩ : Str) = _
        rw [show (Str.ofString "-1").cps = #[45, 49] by decide +kernel]
        simp
theorem len_pieces (ns : List Int) : ((((ns.filter (· != 0)).map pieceOf).map (fun x => x.length)).sum ≤ 3 * ns.length) := by
  induction ns with
  | nil => simp
  | cons n ns ih =>
    have hp : (pieceOf n).length ≤ 3 := by
      unfold pieceOf; split
      · rw [show (Str.ofString "-p").length = 2 by decide +kernel]; omega
      · show ((Str.ofString "-1").cps ++ #[65 + n.toNat]).size ≤ 3
        rw [show (Str.ofString "-1").cps = #[45, 49] by decide +kernel]
        simp
    by_cases e : n = 0
    · subst e
      have : ((0 : Int) :: ns).filter (· != 0) = ns.filter (· != 0) := rfl
      rw [this]; simp only [List.length_cons]; omega
    · rw [List.filter_cons_of_pos (by simpa using e)]
      simp only [List.map_cons, List.sum_cons, List.length_cons]
      omega

theorem name_ {w : World} {p : Program} {loose : List Str} {mg mb : Str → Option Value} {dp un : Nat} {fr : Option (List Env)} {gd : Option (List Code)} {s : Shared} {Q E : Value → Shared → Prop} (l : Addr) (vs : List Value) (ns : List Int)
    (X : (hd.heap_39 w.params).In s.heap) (T : TopRead p loose mg mb s.heap) (hA : AOk ⟨none, dp, fr, gd, un⟩ 3) (hl : s.heap.IsList l vs.toArray) (hi : IntsAre vs ns) (hb : ∀ n ∈ ns, n < 16) (hlen : ns.length ≤ 1000)
    (hret : ∀ h' tk t, Ext s.heap h' → Q (.str (nameS ns) t) { s with heap := h', toks := tk }) :
    wpAny (model PySem.Challenge.rw_pe0065_01.prog w) ⟨none, dp, fr, gd, un⟩ (call (.ref 82) [.ref l]) Q E s := by
  revert X
  k_fill
  intro X
  refine enter X T (by k_is) (by k_is) (Nat.lt_of_le_of_lt (Nat.le_add_right _ _) hA.dep) (BindsTo.of_eq rfl) (locs rfl) (by decide) rfl rfl rfl ?_
  intro L h₁ tk F N
  replace F := Fr.map (m' := fun y => if y = "codes" then some (.ref l) else none) F (by intro y; simp [List.lookup]; split <;> simp_all)
  show wpAny _ _ _ _ _ _
  walk_at "mine"
  refine lcomp (fun v => match v with | .int i _ => i != 0 | _ => false) (fun v y => ∃ (i : Int) (tv ty : Tok), v = .int i tv ∧ y = .str (pieceOf i) ty) F N rfl (by decide) rfl (by decide) rfl ?_ (fun _ => rfl)
  refine nameX_L F rfl ?_
  obtain ⟨ol, hol, _⟩ := id hl
  have hls := hl.at fun o e => F.keep _ _ e
  have hlt : l < h₁.objs.size := Heap.lt_size (F.keep _ _ hol)
  refine wpAny_pyIter_list hls ?_
  refine ⟨_, _, _, _, _, rfl, Walks.list rfl h₁.objs.size l (Nat.ne_of_lt hlt) vs.toArray, ?_, ⟨⟨_, Heap.get?_push_size _ rfl, rfl, rfl⟩, hls.at fun o e => Heap.get?_push_of_some _ e⟩, ?_, frExt F (fun b o e => Heap.get?_push_of_some _ e), newsExt N (fun b o e => Heap.get?_push_of_some _ e), ?_, ?_, ?_, ?_, ?_, ?_⟩
  · rw [List.size_toArray, hi.length]; exact Nat.le_trans hlen (by decide)
  · intro b hb
    rw [Heap.size_push]
    rcases List.mem_cons.mp hb with rfl | hb
    · exact Nat.lt_succ_self _
    · rw [List.mem_singleton.mp hb]; exact Nat.lt_succ_of_lt hlt
  · exact next_is_new F
  · exact Nat.ne_of_gt F.ns.lt
  · intro q hq; cases hq
  · intro C i v s₃ m₃ E' hP F3 N3 hm
    have hv' : vs[i]? = some v := by simpa using hP
    have hlt : i < ns.length := by rw [← hi.length]; exact (List.getElem?_eq_some_iff.mp hv').1
    obtain ⟨t, ht⟩ := hi.get i ns[i] (by simp [hlt])
    rw [hv'] at ht
    have ht : v = .int ns[i] t := Option.some.inj ht
    subst ht
    refine wpAny_tests_one ?_
    show wpAny _ _ _ _ _ _
    walk_at "mine"
    exact ⟨by simp, _, _, rfl, fun _ _ e => e⟩
  · rintro C i v s₃ m₃ E' hP _ F3 N3 hm
    have hv' : vs[i]? = some v := by simpa using hP
    have hlt : i < ns.length := by rw [← hi.length]; exact (List.getElem?_eq_some_iff.mp hv').1
    obtain ⟨t, ht⟩ := hi.get i ns[i] (by simp [hlt])
    rw [hv'] at ht
    have ht : v = .int ns[i] t := Option.some.inj ht
    subst ht
    have hb16 := hb ns[i] (List.getElem_mem hlt)
    show wpAny _ _ _ _ _ _
    walk_at "mine"
    · exact ⟨⟨_, _, _, rfl, by rw [pieceOf, if_pos (by assumption)]⟩, _, _, rfl, fun _ _ e => e⟩
    · exact ⟨⟨_, _, _, rfl, by rw [pieceOf, if_neg (by assumption), show (65 + ns[i]).toNat = 65 + ns[i].toNat by omega]⟩, _, _, rfl, fun _ _ e => e⟩
  · intro D h' tk ys c vs' F N _ hlen' hP hpr
    have hvs : vs' = vs := by
      refine List.ext_getElem? fun j => ?_
      cases hj : vs'[j]? with
      | none =>
        have : vs'.length ≤ j := by simpa using hj
        rw [hlen'] at this
        simp at this
        simpa using this
      | some v => have := hP j v hj; simpa using this.symm
    subst hvs
    have hs := pieces_of ns vs' ys.toList hi hpr
    walk_at "mine"
    refine join_list (News.isList N (.head _)) hs (by
      have := len_pieces ns
      rw [show (Str.ofString "").length = 0 from rfl]; omega) ?_
    intro t₁ k₁
    rw [show Txt.join (Str.ofString "") ((ns.filter (· != 0)).map pieceOf) = nameS ns from (StrLaws.glued_eq_join _ _).trans (join_name _)]
    exact hret _ _ _ F.keep
end

/-! F89 -/
section
set_option maxRecDepth 100000
set_option maxHeartbeats 4000000
/-- an item of the lists that _comparable_version tells: an int or a text -/
inductive RV where
  | i (n : Int)
  | s (x : Str)
  deriving DecidableEq
inductive RVs : List Value → List RV → Prop where
  | nil : RVs [] []
  | int (n : Int) (t : Tok) {vs ds} : RVs vs ds → RVs (.int n t :: vs) (.i n :: ds)
  | str (x : Str) (t : Tok) {vs ds} : RVs vs ds → RVs (.str x t :: vs) (.s x :: ds)
theorem RVs.length : ∀ {vs : List Value} {ds : List RV}, RVs vs ds → vs.length = ds.length
  | _, _, .nil => rfl
  | _, _, .int _ _ h => by simp [h.length]
  | _, _, .str _ _ h => by simp [h.length]
theorem RVs.append : ∀ {vs vs' : List Value} {ds ds' : List RV}, RVs vs ds → RVs vs' ds' → RVs (vs ++ vs') (ds ++ ds')
  | _, _, _, _, .nil, h => h
  | _, _, _, _, .int n t h, h' => .int n t (h.append h')
  | _, _, _, _, .str n t h, h' => .str n t (h.append h')
def tellOf (c : Int) : List RV := if c < 0 then [.i 200, .s "p"] else if c = 0 then [] else [.i 100, .i 1, .i 0, .s ⟨#[65 + c.toNat]⟩]
def tellL (ns : List Int) : List RV := ns.flatMap tellOf

theorem told_ {w : World} {p : Program} {loose : List Str} {mg mb : Str → Option Value} {dp un : Nat} {fr : Option (List Env)} {gd : Option (List Code)} {s : Shared} {Q E : Value → Shared → Prop} (l : Addr) (vs : List Value) (ns : List Int)
    (X : (hd.heap_39 w.params).In s.heap) (T : TopRead p loose mg mb s.heap) (hA : AOk ⟨none, dp, fr, gd, un⟩ 3) (hl : s.heap.IsList l vs.toArray) (hi : IntsAre vs ns) (hb : ∀ n ∈ ns, n < 16) (hlen : ns.length ≤ 1000)
    (hret : ∀ h' tk D items c, Ext s.heap h' → s.heap.get? D = none → h'.get? D = some (listOf items c) → RVs items.toList (tellL ns) → Q (.ref D) { s with heap := h', toks := tk }) :
    wpAny (model PySem.Challenge.rw_pe0065_01.prog w) ⟨none, dp, fr, gd, un⟩ (call (.ref 89) [.ref l]) Q E s := by
  revert X
  k_fill
  intro X
  refine enter X T (by k_is) (by k_is) (Nat.lt_of_le_of_lt (Nat.le_add_right _ _) hA.dep) (BindsTo.of_eq rfl) (locs rfl) (by decide) rfl rfl rfl ?_
  intro L h₁ tk F N
  replace F := Fr.map (m' := fun y => if y = "codes" then some (.ref l) else none) F (by intro y; simp [List.lookup]; split <;> simp_all)
  show wpAny _ _ _ _ _ _
  walk_at "mine"
  rename Fr _ _ _ _ => F
  rename News _ _ _ _ => N
  rename_i D _ _ _
  refine for_at s.heap (fun i m₁ nx => m₁ "told" = some (.ref D) ∧ m₁ "codes" = some (.ref l) ∧ ∃ items c, nx = [(D, listOf items c)] ∧ RVs items.toList (tellL (ns.take i))) rfl rfl ?_ (fun _ => rfl)
  refine nameX_L F rfl ?_
  obtain ⟨ol, hol, _⟩ := id hl
  refine at_list rfl F N (hl.at fun o e => F.keep _ _ e) (.inl ⟨ol, hol⟩) ⟨rfl, rfl, _, _, rfl, .nil⟩ ?_ ?_
  · clear F N
    rintro i v m₁ news₁ h tk I oI hv ⟨e1, e2, items, c, rfl, hst⟩ hne F N
    have hv' : vs[i]? = some v := by simpa using hv
    have hlt : i < ns.length := by rw [← hi.length]; exact (List.getElem?_eq_some_iff.mp hv').1
    obtain ⟨t, ht⟩ := hi.get i ns[i] (by simp [hlt])
    rw [hv'] at ht
    have ht : v = .int ns[i] t := Option.some.inj ht
    subst ht
    have hb16 := hb ns[i] (List.getElem_mem hlt)
    have htk : tellL (ns.take (i + 1)) = tellL (ns.take i) ++ tellOf ns[i] := by
      rw [List.take_add_one, List.getElem?_eq_getElem hlt, Option.toList_some]; simp only [tellL, List.flatMap_append, List.flatMap_cons, List.flatMap_nil, List.append_nil]
    have hsz : items.size ≤ 4 * 1000 := by
      have h1 := hst.length
      have h2 : ∀ l : List Int, (tellL l).length ≤ 4 * l.length := by
        intro l
        induction l with
        | nil => simp [tellL]
        | cons a l ih =>
          have : (tellOf a).length ≤ 4 := by unfold tellOf; (repeat' split) <;> simp
          simp only [tellL, List.flatMap_cons, List.length_append, List.length_cons] at ih ⊢
          omega
      have h3 := h2 (ns.take i)
      simp only [List.length_take, Array.length_toList] at h1 h3
      omega
    have hID : @Ne Nat I D := fun e => hne (D, listOf items c) (.head _) e.symm
    generalize ns[i] = n at *
    have F : Fr s.heap L h _ := Fr.insee2 F e1 e2
    have N : News s.heap L h _ := N
    clear hv hv' hol
    show wpAny _ _ _ _ _ _
    walk_at "mine"
    · rename Fr _ _ _ _ => F
      rename News _ _ _ _ => N
      rename (I < _ ∧ D < _) => hl1
      refine extendL F N (.head _) (by simp) (.tail (Nat.ne_of_gt hl1.2) (.tail hID (.head (fun _ h => nomatch h)))) (by simp; omega) ?_
      intro h' F N
      walk_at "mine"
      refine forEnd F N (.tail _ (.head _)) (fun p hp => by rw [List.mem_singleton.mp hp]; exact ⟨.tail _ (.tail _ (.head _)), fun e => hID e.symm⟩) ⟨rfl, rfl, _, _, rfl, ?_⟩
      rw [htk, tellOf, if_pos (by assumption)]
      exact hst.append (.int _ _ (.str _ _ .nil))
    · rename Fr _ _ _ _ => F
      rename News _ _ _ _ => N
      rename (I < _ ∧ D < _) => hl1
      refine extendL F N (.head _) (by simp) (.tail (Nat.ne_of_gt hl1.2) (.tail hID (.head (fun _ h => nomatch h)))) (by simp; omega) ?_
      intro h' F N
      walk_at "mine"
      refine forEnd F N (.tail _ (.head _)) (fun p hp => by rw [List.mem_singleton.mp hp]; exact ⟨.tail _ (.tail _ (.head _)), fun e => hID e.symm⟩) ⟨rfl, rfl, _, _, rfl, ?_⟩
      rw [htk, tellOf, if_neg (by omega), if_neg (by omega), show 65 + n.toNat = (65 + n).toNat by omega]
      exact hst.append (.int _ _ (.int _ _ (.int _ _ (.str _ _ .nil))))
    · refine forEnd1 F N hID ⟨rfl, rfl, _, _, rfl, ?_⟩
      rw [htk, tellOf, if_neg (by omega), if_pos (by omega), List.append_nil]
      exact hst
  · rintro m₁ news₁ h tk ⟨e1, e2, items, c, rfl, hst⟩ F N
    have F : Fr s.heap L h _ := Fr.see2 F e1 e2
    have N : News s.heap L h _ := N
    show wpAny _ _ _ _ _ _
    walk_at "mine"
    rw [List.size_toArray, hi.length, List.take_length] at hst
    exact hret _ _ _ _ _ F.keep (N _ (.head _)).2.2 (N _ (.head _)).1 hst
end

/-! F96 -/
section
set_option maxRecDepth 100000
set_option maxHeartbeats 4000000
/-- the pairs that are told of a code -/
def pairsOf (c : Int) : List (Int × RV) := if c < 0 then [(200, .s "p")] else if c = 0 then [] else [(100, .i 1), (0, .s ⟨#[65 + c.toNat]⟩)]
def flatP (ps : List (Int × RV)) : List RV := ps.flatMap fun q => [.i q.1, q.2]
theorem tell_pairs (ns : List Int) : tellL ns = flatP (ns.flatMap pairsOf) := by
  induction ns with
  | nil => rfl
  | cons n ns ih =>
    simp only [tellL, flatP, List.flatMap_cons, List.flatMap_append] at ih ⊢
    rw [ih]
    congr 1
    unfold tellOf pairsOf
    (repeat' split) <;> simp
/-- one pair read with a pile (its top first) -/
def readStep (B : Nat) (st : List Nat) (q : Int × RV) : Option (List Nat) :=
  if q.1 = 200 then some (0 :: st) else if q.1 = 0 then
    match q.2, st with
    | .s x, pl :: tp :: rest => if x = ⟨#[x.cps.getD 0 0]⟩ ∧ 65 ≤ x.cps.getD 0 0 ∧ x.cps.getD 0 0 < 128 ∧ pl ≤ 64 then some ((tp + (x.cps.getD 0 0 - 65) * B ^ pl) :: rest) else none
    | _, _ => none
  else some st
def readRun (B : Nat) : List Nat → List (Int × RV) → Option (List Nat)
  | st, [] => some st
  | st, q :: r => (readStep B st q).bind fun st' => readRun B st' r
theorem readRun_snoc (B : Nat) : ∀ (ps : List (Int × RV)) (st : List Nat) (q : Int × RV), readRun B st (ps ++ [q]) = (readRun B st ps).bind fun st' => readStep B st' q
  | [], st, q => by simp [readRun]
  | p :: ps, st, q => by
    simp only [List.cons_append, readRun]
    cases readStep B st p with
    | none => rfl
    | some st' => simp only [Option.bind_some]; exact readRun_snoc B ps st' q
theorem readRun_take (B : Nat) (ps : List (Int × RV)) (st : List Nat) (h : (readRun B st ps).isSome) (j : Nat) : (readRun B st (ps.take j)).isSome := by
  induction ps generalizing st j with
  | nil => simpa using h
  | cons p ps ih =>
    cases j with
    | zero => simp [readRun]
    | succ j =>
      simp only [List.take_succ_cons, readRun] at h ⊢
      cases e : readStep B st p with
      | none => rw [e] at h; simp at h
      | some st' => rw [e] at h; simp only [Option.bind_some] at h ⊢; exact ih st' h j
theorem readStep_len {B : Nat} {st st' : List Nat} {q : Int × RV} (h : readStep B st q = some st') : st'.length ≤ st.length + 1 := by
  unfold readStep at h
  split at h
  · cases h; simp
  · split at h
    · split at h
      · split at h
        · cases h; simp only [List.length_cons]; omega
        · cases h
      · cases h
    · cases h; omega
theorem readStep_200 {B : Nat} {st : List Nat} {q : Int × RV} (h : q.1 = 200) : readStep B st q = some (0 :: st) := by
  unfold readStep; rw [if_pos h]
theorem readStep_no {B : Nat} {st : List Nat} {q : Int × RV} (h : q.1 ≠ 200) (h' : q.1 ≠ 0) : readStep B st q = some st := by
  unfold readStep; rw [if_neg h, if_neg h']
theorem readStep_0 {B : Nat} {st : List Nat} {q : Int × RV} (h : q.1 = 0) (hs : (readStep B st q).isSome) :
    ∃ c pl tp rest, q.2 = .s ⟨#[c]⟩ ∧ st = pl :: tp :: rest ∧ 65 ≤ c ∧ c < 128 ∧ pl ≤ 64 ∧ readStep B st q = some ((tp + (c - 65) * B ^ pl) :: rest) := by
  obtain ⟨q1, q2⟩ := q
  have h : q1 = 0 := h
  subst h
  cases q2 with
  | i n => simp [readStep] at hs
  | s x =>
    match st, hs with
    | [], hs => simp [readStep] at hs
    | [_], hs => simp [readStep] at hs
    | pl :: tp :: rest, hs =>
      have e : readStep B (pl :: tp :: rest) (0, .s x) = if x = ⟨#[x.cps.getD 0 0]⟩ ∧ 65 ≤ x.cps.getD 0 0 ∧ x.cps.getD 0 0 < 128 ∧ pl ≤ 64 then some ((tp + (x.cps.getD 0 0 - 65) * B ^ pl) :: rest) else none := rfl
      by_cases hc : x = ⟨#[x.cps.getD 0 0]⟩ ∧ 65 ≤ x.cps.getD 0 0 ∧ x.cps.getD 0 0 < 128 ∧ pl ≤ 64
      · refine ⟨x.cps.getD 0 0, pl, tp, rest, congrArg RV.s hc.1, rfl, hc.2.1, hc.2.2.1, hc.2.2.2, ?_⟩
        rw [e, if_pos hc]
      · rw [e, if_neg hc] at hs; cases hs
theorem readRun_len {B : Nat} : ∀ {ps : List (Int × RV)} {st st' : List Nat}, readRun B st ps = some st' → st'.length ≤ st.length + ps.length
  | [], st, st', h => by simp only [readRun] at h; cases h; simp
  | p :: ps, st, st', h => by
    simp only [readRun] at h
    cases e : readStep B st p with
    | none => rw [e] at h; simp at h
    | some st₁ =>
      rw [e] at h; simp only [Option.bind_some] at h
      have := readStep_len e
      have := readRun_len h
      simp only [List.length_cons]; omega
theorem RVs.getI : ∀ {vs : List Value} {ds : List RV}, RVs vs ds → ∀ (i : Nat) (n : Int), ds[i]? = some (.i n) → ∃ t, vs[i]? = some (.int n t)
  | _, _, .int n t _, 0, m, e => by simp at e; subst e; exact ⟨t, rfl⟩
  | _, _, .str x t _, 0, m, e => by simp at e
  | _, _, .int n t h, i + 1, m, e => by simpa using h.getI i m (by simpa using e)
  | _, _, .str n t h, i + 1, m, e => by simpa using h.getI i m (by simpa using e)
theorem RVs.getS : ∀ {vs : List Value} {ds : List RV}, RVs vs ds → ∀ (i : Nat) (x : Str), ds[i]? = some (.s x) → ∃ t, vs[i]? = some (.str x t)
  | _, _, .str n t _, 0, m, e => by simp at e; subst e; exact ⟨t, rfl⟩
  | _, _, .int x t _, 0, m, e => by simp at e
  | _, _, .int n t h, i + 1, m, e => by simpa using h.getS i m (by simpa using e)
  | _, _, .str n t h, i + 1, m, e => by simpa using h.getS i m (by simpa using e)
theorem flatP_get : ∀ (ps : List (Int × RV)) (j : Nat) (q : Int × RV), ps[j]? = some q → (flatP ps)[2 * j]? = some (.i q.1) ∧ (flatP ps)[2 * j + 1]? = some q.2
  | [], j, q, h => by simp at h
  | p :: ps, 0, q, h => by simp at h; subst h; simp [flatP]
  | p :: ps, j + 1, q, h => by
    have := flatP_get ps j q (by simpa using h)
    simp only [flatP, List.flatMap_cons] at this ⊢
    rw [show 2 * (j + 1) = (2 * j) + 2 by omega, show (2 * j) + 2 + 1 = (2 * j + 1) + 2 by omega]
    simpa using this
theorem flatP_length (ps : List (Int × RV)) : (flatP ps).length = 2 * ps.length := by
  induction ps with
  | nil => rfl
  | cons p ps ih => simp only [flatP, List.flatMap_cons, List.length_append, List.length_cons, List.length_nil] at ih ⊢; omega
theorem size_two (n : Nat) : Builtin.Range.rangeSize 0 ((2 * n : Nat) : Int) 2 = (n : Int) := by
  unfold Builtin.Range.rangeSize
  simp
  omega
theorem small_two (n : Nat) (h : n ≤ 100000) : Builtin.Range.small 0 ((2 * n : Nat) : Int) 2 = true := by
  unfold Builtin.Range.small
  rw [size_two]
  unfold Builtin.Range.rangeFitsLong
  rw [if_pos (by decide)]
  simp only [Bool.and_eq_true, Bool.or_eq_true, decide_eq_true_eq]
  omega

theorem IntsAre.unsnoc {x : Int} : ∀ {ns : List Int} {vs : List Value}, IntsAre vs (ns ++ [x]) → ∃ vs' t, vs = vs' ++ [.int x t] ∧ IntsAre vs' ns
  | [], _, .cons _ t .nil => ⟨[], t, rfl, .nil⟩
  | n :: ns, _, .cons _ t h => by
    obtain ⟨vs', t', rfl, h'⟩ := IntsAre.unsnoc h
    exact ⟨.int n t :: vs', t', rfl, .cons n t h'⟩
theorem IntsAre.snoc {x : Int} {t : Tok} : ∀ {ns : List Int} {vs : List Value}, IntsAre vs ns → IntsAre (vs ++ [.int x t]) (ns ++ [x])
  | _, _, .nil => .cons _ _ .nil
  | _, _, .cons n u h => .cons n u (IntsAre.snoc h)

theorem setL_snoc (v y : Value) : ∀ p : List Value, ki_setL (p ++ [y]) p.length v = some (p ++ [v])
  | [] => rfl
  | x :: p => by
    show (match ki_setL (p ++ [y]) p.length v with | some q => some (x :: q) | none => none) = _
    rw [setL_snoc v y p]; rfl

theorem read_ {w : World} {p : Program} {loose : List Str} {mg mb : Str → Option Value} {dp un : Nat} {fr : Option (List Env)} {gd : Option (List Code)} {s : Shared} {Q E : Value → Shared → Prop} (l : Addr) (items : Array Value) (ps : List (Int × RV)) (B r : Nat) (t : Tok)
    (X : (hd.heap_39 w.params).In s.heap) (T : TopRead p loose mg mb s.heap) (hA : AOk ⟨none, dp, fr, gd, un⟩ 3) (hl : s.heap.IsList l items) (hv : RVs items.toList (flatP ps)) (hsz : ps.length ≤ 4000) (hB : B ≤ 16)
    (hrun : readRun B [0] ps = some [r])
    (hret : ∀ h' tk t', Ext s.heap h' → Q (.int r t') { s with heap := h', toks := tk }) :
    wpAny (model PySem.Challenge.rw_pe0065_01.prog w) ⟨none, dp, fr, gd, un⟩ (call (.ref 96) [.ref l, .int B t]) Q E s := by
  revert X
  k_fill
  intro X
  refine enter (binds := [("told", .ref l), ("base", .int B t)]) X T (by k_is) (by k_is) (Nat.lt_of_le_of_lt (Nat.le_add_right _ _) hA.dep) (BindsTo.of_eq rfl) (locs rfl) (by decide) rfl rfl rfl ?_
  intro L h₁ tk F N
  replace F := Fr.map (m' := fun y => if y = "base" then some (.int B t) else if y = "told" then some (.ref l) else none) F (by intro y; simp [List.lookup]; (repeat' split) <;> simp_all)
  show wpAny _ _ _ _ _ _
  walk_at "mine"
  rename Fr _ _ _ _ => F
  rename News _ _ _ _ => N
  rename_i D _ _ _
  have hlen : items.size = 2 * ps.length := by
    have := hv.length
    rw [flatP_length] at this
    simpa using this
  refine for_at s.heap (fun i m₁ nx => m₁ "told" = some (.ref l) ∧ m₁ "base" = some (.int B t) ∧ m₁ "pile" = some (.ref D) ∧ ∃ its c st, nx = [(D, listOf its c)] ∧ readRun B [0] (ps.take i) = some st ∧ IntsAre its.toList (st.reverse.map fun (n : Nat) => (n : Int))) rfl rfl ?_ (fun _ => rfl)
  have hls := hl.at fun o e => F.keep _ _ e
  walk_at "mine"
  rename IsRange _ _ _ _ _ _ _ _ => hR
  rename Fr _ _ _ _ => F
  rename News _ _ _ _ => N
  rw [hlen] at hR
  refine at_range ps.length rfl F N hR (small_two _ (by omega)) (size_two _) ⟨rfl, rfl, rfl, _, _, [0], rfl, rfl, .cons _ _ .nil⟩ ?_ ?_
  · clear F N hR
    rintro i tv m₁ news₁ h tk I oI hlt ⟨e1, e2, e3, its, c, st, rfl, hst, hin⟩ hne F N
    have hID : @Ne Nat I D := fun e => hne (D, listOf its c) (.head _) e.symm
    have F : Fr s.heap L h _ := Fr.insee3 F e1 e2 e3
    have N : News s.heap L h _ := N
    obtain ⟨q, hq⟩ : ∃ q, ps[i]? = some q := ⟨ps[i], by simp [hlt]⟩
    obtain ⟨g1, g2⟩ := flatP_get ps i q hq
    obtain ⟨t1, k1⟩ := hv.getI _ _ g1
    have hl' := hl.at fun o e => F.keep _ _ e
    have hstep : readRun B [0] (ps.take (i + 1)) = readStep B st q := by
      rw [List.take_add_one, hq, Option.toList_some, readRun_snoc, hst]; rfl
    have hsome : (readStep B st q).isSome := by
      rw [← hstep]; exact readRun_take B ps [0] (by rw [hrun]; rfl) (i + 1)
    have hstl : st.length ≤ 5000 := by
      have := readRun_len hst
      simp only [List.length_take, List.length_cons, List.length_nil] at this
      omega
    show wpAny _ _ _ _ _ _
    walk_at "mine"
    refine item hl' (by omega) (by omega) (v := .int q.1 t1) (by rw [show ((0 : Int) + (i : Int) * 2).toNat = 2 * i by omega]; simpa using k1) ?_
    walk_at "mine"
    · rename Fr _ _ _ _ => F
      rename News _ _ _ _ => N
      rename (q.1 = 200) => hq1
      refine forEnd1 F N hID ⟨rfl, rfl, rfl, _, _, 0 :: st, rfl, ?_, ?_⟩
      · rw [hstep, readStep_200 hq1]
      · rw [Array.toList_push, List.reverse_cons, List.map_append]
        exact IntsAre.snoc hin
    · rename (q.1 ≠ 200) => hq1
      refine item hl' (by omega) (by omega) (v := .int q.1 t1) (by rw [show ((0 : Int) + (i : Int) * 2).toNat = 2 * i by omega]; simpa using k1) ?_
      walk_at "mine"
      · rename (q.1 = 0) => hq0
        obtain ⟨c', pl, tp, rest, hq2, rfl, c1, c2, c3, hnew⟩ := readStep_0 hq0 hsome
        rw [hnew] at hstep
        rw [List.reverse_cons, List.map_append] at hin
        obtain ⟨vs1, u1, hvs, hin1⟩ := IntsAre.unsnoc (x := (pl : Int)) hin
        rw [List.reverse_cons, List.map_append] at hin1
        obtain ⟨vs0, u0, rfl, hin0⟩ := IntsAre.unsnoc (x := (tp : Int)) hin1
        obtain ⟨t2, k2⟩ := hv.getS _ _ (hq2 ▸ g2)
        have hvl : vs0.length ≤ 5000 := by
          have := hin0.length
          simp only [List.length_map, List.length_reverse] at this
          simp only [List.length_cons] at hstl
          omega
        refine kl_pop F N (hvs ▸ kpa_last _ _) (.tail hID (.head (fun _ h => nomatch h))) (by rw [hvs, sizeLine_eq]; simp; omega) ?_
        intro h' F N
        walk_at "mine"
        rename Fr _ _ _ _ => F
        rename News _ _ _ _ => N
        refine wpAny_getItem_list_neg (News.isList N (.tail _ (.head _))) (by decide) (by simp; omega) (by decide) (x := .int tp u0) (by
          rw [show ((-1 : Int) + ((vs0 ++ [Value.int (tp : Int) u0]).toArray.size : Int)).toNat = vs0.length by simp; omega]; simp) ?_
        walk_at "mine"
        refine item (hl.at fun o e => F.keep _ _ e) (by omega) (by omega) (v := .str ⟨#[c']⟩ t2) (by rw [show ((0 : Int) + (i : Int) * 2 + 1).toNat = 2 * i + 1 by omega]; simpa using k2) ?_
        walk_at "mine"
        refine pow_int_small (by omega) (by omega) (by omega) ?_
        walk_at "mine"
        refine mul_int ?_ (.of_left (intBits_le (by omega)))
        walk_at "mine"
        refine ki_setNeg F N (by decide) (by decide) (j := vs0.length) (by simp [seqIndex?]; omega) (setL_snoc _ _ vs0) (.tail hID (.head (fun _ h => nomatch h))) ?_
        clear F N
        intro h' F N
        walk_at "mine"
        refine forEnd1 F N hID ⟨rfl, rfl, rfl, _, _, _, rfl, hstep, ?_⟩
        rw [List.reverse_cons, List.map_append]
        have e : ((tp + (c' - 65) * B ^ pl : Nat) : Int) = (tp : Int) + ((c' : Int) - 65) * (B : Int) ^ (pl : Int).toNat := by
          rw [Int.toNat_natCast]; push_cast; rw [Int.ofNat_sub c1]; rfl
        show IntsAre (vs0 ++ [_]) (_ ++ [((tp + (c' - 65) * B ^ pl : Nat) : Int)])
        rw [e]
        exact IntsAre.snoc hin0
      · rename (q.1 ≠ 0) => hq0
        rw [readStep_no hq1 hq0] at hstep
        exact forEnd1 F N hID ⟨rfl, rfl, rfl, _, _, st, rfl, hstep, hin⟩
  · clear F N hR
    rintro m₁ news₁ h tk ⟨e1, e2, e3, its, c, st, rfl, hst, hin⟩ F N
    have F : Fr s.heap L h _ := Fr.see3 F e1 e2 e3
    have N : News s.heap L h _ := N
    rw [List.take_length, hrun] at hst
    cases hst
    show wpAny _ _ _ _ _ _
    walk_at "mine"
    obtain ⟨vs', u', e', hh⟩ := IntsAre.unsnoc (ns := []) hin
    cases hh
    refine item (News.isList N (.head _)) (by omega) (by omega) (v := .int r u') (by
      have : its = #[.int r u'] := by apply Array.toList_inj.mp; rw [e']; rfl
      rw [this]; rfl) ?_
    exact hret _ _ _ F.keep
end

/-! F101 -/
section
set_option maxRecDepth 100000
set_option maxHeartbeats 4000000
def plainL (n : Nat) : List RV := if n = 0 then [.i 100, .i 0] else [.i 100, .i (hexs n).length, .i 0, .s ⟨((hexs n).map fun d => 65 + d).toArray⟩]
theorem hexs_lt_iff : ∀ (i n : Nat), 16 ^ i ≤ n ↔ i < (hexs n).length := by
  intro i
  induction i with
  | zero =>
    intro n
    by_cases e : n = 0
    · subst e; rw [hexs_zero]; simp
    · rw [hexs_pos e]; simp; omega
  | succ i ih =>
    intro n
    by_cases e : n = 0
    · subst e; rw [hexs_zero]; simp
    · rw [hexs_pos e, List.length_append, List.length_singleton]
      have := ih (n / 16)
      rw [Nat.pow_succ]
      constructor
      · intro h; have : 16 ^ i ≤ n / 16 := by omega
        omega
      · intro h; have : 16 ^ i ≤ n / 16 := by omega
        omega

theorem hexs_get : ∀ (n : Nat), hexs n = (List.range (hexs n).length).map fun j => n / 16 ^ ((hexs n).length - 1 - j) % 16 := by
  intro n
  induction n using Nat.strongRecOn with
  | ind n ih =>
    by_cases e : n = 0
    · subst e; rw [hexs_zero]; rfl
    · have ih' := ih (n / 16) (by omega)
      have hl : (hexs n).length = (hexs (n / 16)).length + 1 := by rw [hexs_pos e]; simp
      rw [hl, List.range_succ, List.map_append]
      conv => lhs; rw [hexs_pos e, ih']
      congr 1
      · refine List.map_congr_left fun j hj => ?_
        have hj' := List.mem_range.mp hj
        rw [show (hexs (n / 16)).length + 1 - 1 - j = ((hexs (n / 16)).length - 1 - j) + 1 by omega, Nat.pow_succ, Nat.mul_comm, Nat.div_div_eq_div_mul]
      · simp
theorem strs_down : ∀ (g : Nat → Nat) (len : Nat) (vs ys : List PySem.Value), vs.length = len → (∀ (j : Nat) (v : PySem.Value), vs[j]? = some v → ∃ t, v = Value.int (((len : Int) - 1) + j * (-1)) t) →
    Paired (fun v y => ∃ (k : Nat) (tv ty : Tok), v = Value.int (k : Int) tv ∧ y = Value.str ⟨#[65 + g k]⟩ ty) vs ys → StrsAre ys ((List.range len).map fun j => (⟨#[65 + g (len - 1 - j)]⟩ : Str))
  | g, 0, vs, ys, hl, _, hp => by
    have : vs = [] := by simpa using hl
    subst this; cases hp; exact .nil
  | g, len + 1, vs, ys, hl, hP, hp => by
    cases hp with
    | nil => simp at hl
    | @cons a b l₁ l₂ hab hr =>
      obtain ⟨k, tv, ty, rfl, rfl⟩ := hab
      obtain ⟨u, hu⟩ := hP 0 _ rfl
      have hk : k = len := by injection hu with h1 _; omega
      subst hk
      rw [List.range_succ_eq_map, List.map_cons, List.map_map]
      refine StrsAre.cons _ _ ?_
      have := strs_down g k l₁ l₂ (by simpa using hl) (fun j v hj => ?_) hr
      · have e : ((fun j => (⟨#[65 + g (k + 1 - 1 - j)]⟩ : Str)) ∘ Nat.succ) = fun j => (⟨#[65 + g (k - 1 - j)]⟩ : Str) := by
          funext j; show (⟨#[65 + g (k + 1 - 1 - (j + 1))]⟩ : Str) = _
          rw [show k + 1 - 1 - (j + 1) = k - 1 - j by omega]
        rw [e]; exact this
      · obtain ⟨t', ht'⟩ := hP (j + 1) v (by simpa using hj)
        refine ⟨t', ht'.trans ?_⟩
        congr 1; push_cast; omega
theorem size_down (n : Nat) : Builtin.Range.rangeSize ((n : Int) - 1) (-1) (-1) = (n : Int) := by
  unfold Builtin.Range.rangeSize
  simp
  omega
theorem small_down (n : Nat) (h : n ≤ 100000) : Builtin.Range.small ((n : Int) - 1) (-1) (-1) = true := by
  unfold Builtin.Range.small
  rw [size_down]
  unfold Builtin.Range.rangeFitsLong
  rw [if_neg (by decide)]
  simp only [Bool.and_eq_true, Bool.or_eq_true, decide_eq_true_eq]
  omega

theorem log_small (k : Nat) (h : k < 9) : ((16 : Int) ^ k).natAbs.log2 < 9000 := by
  have : ∀ k : Fin 9, ((16 : Int) ^ k.val).natAbs.log2 < 9000 := by decide
  exact this ⟨k, h⟩

theorem plain_ {w : World} {p : Program} {loose : List Str} {mg mb : Str → Option Value} {dp un : Nat} {fr : Option (List Env)} {gd : Option (List Code)} {s : Shared} {Q E : Value → Shared → Prop} (n : Nat) (t : Tok)
    (X : (hd.heap_39 w.params).In s.heap) (T : TopRead p loose mg mb s.heap) (hA : AOk ⟨none, dp, fr, gd, un⟩ 2) (hn : n < 16 ^ 9)
    (hret : ∀ h' tk D items c, Ext s.heap h' → s.heap.get? D = none → h'.get? D = some (listOf items c) → RVs items.toList (plainL n) → Q (.ref D) { s with heap := h', toks := tk }) :
    wpAny (model PySem.Challenge.rw_pe0065_01.prog w) ⟨none, dp, fr, gd, un⟩ (call (.ref 101) [.int n t]) Q E s := by
  revert X
  k_fill
  intro X
  refine enterC (binds := [("number", .int n t)]) X T (by k_is) (by k_is) (Nat.lt_of_le_of_lt (Nat.le_add_right _ _) hA.dep) (BindsTo.of_eq rfl) rfl (by decide) rfl rfl rfl ?_
  intro L h₁ tk cells F N Y
  obtain ⟨oc, rfl, hoc⟩ := CellsAre.one Y
  replace F := Fr.map (m' := fun y => none) F (by intro y; rfl)
  replace hoc : oc.data = .cell (some (.int n t)) := hoc
  show wpAny _ _ _ _ _ _
  have hlen : (hexs n).length ≤ 9 := hexs_length 9 n hn
  walk_at "mine"
  rename Fr _ _ _ _ => F
  rename News _ _ _ _ => N
  refine While_inv2 (L := L) (h₀ := s.heap) (fun k m₁ nx => ∃ i : Nat, nx = [(L + 1, oc)] ∧ HInt m₁ "size" i ∧ i ≤ (hexs n).length ∧ k = (hexs n).length - i) (n₀ := (hexs n).length) F N ⟨0, rfl, ⟨_, rfl⟩, Nat.zero_le _, rfl⟩ ?_ PassesOwn.never
  clear F N
  rintro k m₁ nx h tk F N ⟨i, rfl, ⟨_, e1⟩, hi, hk⟩
  replace F := Fr.see F e1
  have hiff := hexs_lt_iff i n
  show wpAny _ _ _ _ _ _
  walk_at "mine"
  refine pow_int_small (by omega) (by omega) (by decide) ?_
  walk_at "mine"
  · rename Fr _ _ _ _ => F
    rename News _ _ _ _ => N
    rename (_ ≤ (n : Int)) => hle
    have hle' : 16 ^ i ≤ n := by
      have := hle
      rw [Int.toNat_natCast] at this
      exact_mod_cast this
    exact ⟨_, _, _, _, (hexs n).length - (i + 1), rfl, F, N, by omega, i + 1, rfl, .of rfl (by push_cast; rfl), by omega, rfl⟩
  · rename Fr _ _ _ _ => F
    rename News _ _ _ _ => N
    rename (¬ (_ ≤ (n : Int))) => hle
    have hi0 : i = 0 := by omega
    subst hi0
    have hn0 : n = 0 := by
      have : ¬ (16 ^ 0 ≤ n) := by
        intro h; exact hle (by rw [Int.toNat_natCast]; exact_mod_cast h)
      omega
    subst hn0
    exact hret _ _ _ _ _ F.keep (N _ (.head _)).2.2 (N _ (.head _)).1 (.int _ _ (.int _ _ .nil))
  · rename (¬ (_ ≤ (n : Int))) => hle
    have hlen' : i = (hexs n).length := by
      have : ¬ (16 ^ i ≤ n) := by
        intro h; exact hle (by rw [Int.toNat_natCast]; exact_mod_cast h)
      omega
    have hn0 : n ≠ 0 := by
      intro e
      have : (hexs n).length = 0 := by rw [e, hexs_zero]; rfl
      omega
    refine lcomp (fun _ => true) (fun v y => ∃ (k : Nat) (tv ty : Tok), v = .int (k : Int) tv ∧ y = .str ⟨#[65 + n / 16 ^ k % 16]⟩ ty) F N rfl (by decide) rfl (by decide) rfl ?_ (fun _ => rfl)
    walk_at "mine"
    rename IsRange _ _ _ _ _ _ _ _ => hR
    rename Fr _ _ _ _ => F
    rename News _ _ _ _ => N
    refine wpAny_pyIter_range hR (small_down _ (by omega)) ?_
    rw [size_down]
    refine ⟨_, _, i, _, _, rfl, (Walks.range rfl _ ((i : Int) - 1) (-1) i).bound, ?_, ?_, ?_, frExt F (fun b o e => Heap.get?_push_of_some _ e), newsExt N (fun b o e => Heap.get?_push_of_some _ e), ?_, ?_, ?_, ?_, ?_, ?_⟩
    · rw [sizeLine_eq]; omega
    · show (Heap.push _ _).get? _ = _
      rw [Heap.get?_push_size _ rfl]; simp [rawInt]
    · intro b hb; rw [List.mem_singleton.mp hb, Heap.size_push]; exact Nat.lt_succ_self _
    · exact next_is_new F
    · exact Nat.ne_of_gt F.ns.lt
    · intro q hq; exact Nat.ne_of_lt (Heap.lt_size (N q hq).1)
    · intro C j v s₃ m₃ E' hP F3 N3 hm
      exact wpAny_tests_nil ⟨rfl, _, _, rfl, fun _ _ e => e⟩
    · rintro C j v s₃ m₃ E' ⟨hj, tv, rfl⟩ _ F3 N3 hm
      show wpAny _ _ _ _ _ _
      walk_at "mine"
      refine pow_int_small (by omega) (by omega) (by decide) ?_
      have hk : ((i : Int) - 1 + (j : Int) * (-1)).toNat = i - 1 - j := by omega
      have hz : ((16 : Int) ^ ((i : Int) - 1 + (j : Int) * (-1)).toNat) ≠ 0 := by
        rw [hk]; exact Int.ne_of_gt (Int.pow_pos (by decide))
      walk_at "mine"
      refine floordiv_int hz ?_ (.inl (PyProof.noPylong_of_log2 (by rw [hk]; exact log_small _ (by omega))))
      have hq : Int.fdiv (n : Int) ((16 : Int) ^ ((i : Int) - 1 + (j : Int) * (-1)).toNat) = ((n / 16 ^ (i - 1 - j) : Nat) : Int) := by
        rw [hk, Int.fdiv_eq_ediv_of_nonneg _ (Int.le_of_lt (Int.pow_pos (by decide)))]; push_cast; rfl
      rw [hq]
      walk_at "mine"
      have hch : ((65 : Int) + Int.fmod ((n / 16 ^ (i - 1 - j) : Nat) : Int) 16).toNat = 65 + n / 16 ^ (i - 1 - j) % 16 := by
        rw [Int.fmod_eq_emod_of_nonneg _ (by decide)]; omega
      rw [hch]
      exact ⟨⟨i - 1 - j, _, _, by congr 1; omega, rfl⟩, _, _, rfl, fun _ _ e => e⟩
    · intro D h' tk ys c vs F N _ hlen1 hP hpr
      have hP' : ∀ (j : Nat) (v : PySem.Value), vs[j]? = some v → ∃ t, v = Value.int (((i : Int) - 1) + j * (-1)) t := fun j v h => And.right (hP j v h)
      rw [filter_tt] at hpr
      have hs := strs_down (fun k => n / 16 ^ k % 16) i vs ys.toList hlen1 hP' hpr
      have hP' : ∀ (j : Nat) (v : PySem.Value), vs[j]? = some v → ∃ t, v = Value.int (((i : Int) - 1) + j * (-1)) t := fun j v h => And.right (hP j v h)
      have hmap : ((List.range i).map fun j => (⟨#[65 + n / 16 ^ (i - 1 - j) % 16]⟩ : Str)) = (hexs n).map fun d => (⟨#[65 + d]⟩ : Str) := by
        conv => rhs; rw [hexs_get n]
        rw [List.map_map, ← hlen']; rfl
      rw [hmap] at hs
      walk_at "mine"
      refine join_list (News.isList N (.head _)) hs (by rw [len_letters, List.length_map, show (Str.ofString "").length = 0 from rfl]; omega) ?_
      intro t₁ k₁
      rw [show Txt.join (Str.ofString "") ((hexs n).map fun d => (⟨#[65 + d]⟩ : Str)) = ⟨((hexs n).map fun d => 65 + d).toArray⟩ from (StrLaws.glued_eq_join _ _).trans (cat_letters _)]
      walk_at "mine"
      rename Fr _ _ _ _ => F
      rename News _ _ _ _ => N
      refine hret _ _ _ _ _ F.keep (N _ (.head _)).2.2 (N _ (.head _)).1 ?_
      rw [plainL, if_neg hn0, ← hlen']
      exact .int _ _ (.int _ _ (.int _ _ (.str _ _ .nil)))
end

/-! F65 -/
section
set_option maxRecDepth 100000
set_option maxHeartbeats 4000000
/-- the code of one figure at a place -/
def piece (g : Nat → List Int) (d p : Nat) : List Int := if 0 < d then [-1] ++ g p ++ [(d : Int)] else [0]
/-- the writing of n whose lowest figure stands at place p -/
def wri (b : Nat) (g : Nat → List Int) (n p : Nat) : List Int := if h : n = 0 ∨ b < 2 then [] else wri b g (n / b) (p + 1) ++ piece g (n % b) p
termination_by n
decreasing_by
  have h1 : n ≠ 0 := fun e => h (.inl e)
  have h2 : ¬ b < 2 := fun e => h (.inr e)
  exact Nat.div_lt_self (by omega) (by omega)
theorem wri_zero (b : Nat) (g : Nat → List Int) (p : Nat) : wri b g 0 p = [] := by rw [wri]; simp
theorem wri_pos {b : Nat} (g : Nat → List Int) {n p : Nat} (hn : n ≠ 0) (hb : 2 ≤ b) : wri b g n p = wri b g (n / b) (p + 1) ++ piece g (n % b) p := by
  rw [wri, dif_neg (by omega)]
/-- the hereditary writing, f levels deep -/
def wr (b : Nat) : Nat → Nat → List Int
  | 0, _ => []
  | f + 1, n => wri b (wr b f) n 0
def wrg (b : Nat) : Nat → Nat → List Int
  | 0 => fun _ => []
  | f + 1 => wr b f
def bd : Nat → Nat
  | 0 => 0
  | 1 => 1
  | 2 => 2
  | _ => 9
theorem bd_step {b f p : Nat} (hb : 3 ≤ b) (hp : p < bd (f + 1)) : p < b ^ bd f := by
  match f with
  | 0 => exact hp
  | 1 => have : p < 2 := hp
         show p < b ^ 1
         rw [Nat.pow_one]; omega
  | 2 => have : p < 9 := hp
         show p < b ^ 2
         have : 3 ^ 2 ≤ b ^ 2 := Nat.pow_le_pow_left hb 2
         omega
  | f + 3 => have : p < 9 := hp
             show p < b ^ 9
             have : 3 ^ 9 ≤ b ^ 9 := Nat.pow_le_pow_left hb 9
             omega
def ln : Nat → Nat
  | 0 => 0
  | f + 1 => bd (f + 1) * (ln f + 2)
theorem wri_length {b : Nat} {g : Nat → List Int} {l : Nat} (hb : 2 ≤ b) : ∀ (k n p : Nat), n < b ^ k → (∀ q, q < p + k → (g q).length ≤ l) → (wri b g n p).length ≤ k * (l + 2)
  | 0, n, p, hn, _ => by
    have : n = 0 := by simpa using hn
    subst this; rw [wri_zero]; simp
  | k + 1, n, p, hn, hg => by
    by_cases e : n = 0
    · subst e; rw [wri_zero]; simp
    · rw [wri_pos g e hb, List.length_append]
      have h1 := wri_length hb k (n / b) (p + 1) (by rw [Nat.pow_succ] at hn; exact Nat.div_lt_of_lt_mul (by rwa [Nat.mul_comm] at hn)) (fun q hq => hg q (by omega))
      have h2 : (piece g (n % b) p).length ≤ l + 2 := by
        have := hg p (by omega)
        unfold piece; split
        · simp; omega
        · simp
      rw [Nat.succ_mul]; omega
theorem wr_length {b : Nat} (hb : 3 ≤ b) : ∀ (f n : Nat), n < b ^ bd f → (wr b f n).length ≤ ln f
  | 0, n, _ => by simp [wr]
  | f + 1, n, hn => by
    show (wri b (wr b f) n 0).length ≤ bd (f + 1) * (ln f + 2)
    exact wri_length (by omega) (bd (f + 1)) n 0 hn (fun q hq => wr_length hb f q (bd_step hb (by omega)))
theorem ln_le (f : Nat) (h : f ≤ 3) : ln f ≤ 90 := by
  match f with
  | 0 => decide
  | 1 => decide
  | 2 => decide
  | 3 => decide

theorem intsApp : ∀ {vs vs' : List Value} {ns ns' : List Int}, IntsAre vs ns → IntsAre vs' ns' → IntsAre (vs ++ vs') (ns ++ ns')
  | _, _, _, _, .nil, h => h
  | _, _, _, _, .cons n t h, h' => .cons n t (intsApp h h')

theorem wr_eq {b f n : Nat} (hn : n < b ^ bd f) : wri b (wrg b f) n 0 = wr b f n := by
  cases f with
  | zero =>
    have : n = 0 := by simpa [bd] using hn
    subst this; rw [wri_zero]; rfl
  | succ f => rfl
def WrittenOk (w : World) (p : Program) (loose : List Str) (mg mb : Str → Option Value) (b f : Nat) : Prop :=
  ∀ {dp un : Nat} {fr : Option (List Env)} {gd : Option (List Code)} {s : Shared} {Q E : Value → Shared → Prop} (n : Nat) (t u : Tok)
    (_X : (hd.heap_39 w.params).In s.heap) (_T : TopRead p loose mg mb s.heap) (_hA : AOk ⟨none, dp, fr, gd, un⟩ (f + 1)) (_hn : n < b ^ bd f)
    (_hret : ∀ h' tk D items c, Ext s.heap h' → s.heap.get? D = none → h'.get? D = some (listOf items c) → IntsAre items.toList (wr b f n) → Q (.ref D) { s with heap := h', toks := tk }),
    wpAny (model PySem.Challenge.rw_pe0065_01.prog w) ⟨none, dp, fr, gd, un⟩ (call (.ref 65) [.int n t, .int b u]) Q E s

theorem written_step {w : World} {p : Program} {loose : List Str} {mg mb : Str → Option Value} {b : Nat} (hb : 3 ≤ b) (hb16 : b ≤ 16) (f : Nat) (hf : f ≤ 3) (ih : ∀ f', f = f' + 1 → WrittenOk w p loose mg mb b f') : WrittenOk w p loose mg mb b f := by
    intro dp un fr gd s Q E n t u X T hA hn hret
    revert X
    k_fill
    intro X
    refine enter (binds := [("number", .int n t), ("base", .int b u)]) X T (by k_is) (by k_is) (Nat.lt_of_le_of_lt (Nat.le_add_right _ _) hA.dep) (BindsTo.of_eq rfl) (locs rfl) (by decide) rfl rfl rfl ?_
    intro L h₁ tk F N
    replace F := Fr.map (m' := fun y => if y = "base" then some (.int b u) else if y = "number" then some (.int n t) else none) F (by intro y; simp [List.lookup]; (repeat' split) <;> simp_all)
    show wpAny _ _ _ _ _ _
    walk_at "mine"
    rename Fr _ _ _ _ => F
    rename News _ _ _ _ => N
    refine While_inv2 (L := L) (h₀ := s.heap) (fun k m₁ nx => ∃ (q D : Nat) (items : Array Value) (c : Nat) (cs : List Int), nx = [(D, listOf items c)] ∧ HInt m₁ "number" k ∧ HInt m₁ "base" b ∧ HInt m₁ "place" q ∧ m₁ "codes" = some (.ref D) ∧
      IntsAre items.toList cs ∧ wri b (wrg b f) k q ++ cs = wr b f n ∧ q ≤ bd f ∧ k < b ^ (bd f - q)) (n₀ := n) F N ⟨0, _, _, _, [], rfl, ⟨_, rfl⟩, ⟨_, rfl⟩, ⟨_, rfl⟩, rfl, .nil, by rw [List.append_nil]; exact wr_eq hn, Nat.zero_le _, hn⟩ ?_ PassesOwn.never
    clear F N
    rintro k m₁ nx h tk F N ⟨q, D, items, c, cs, rfl, ⟨_, e1⟩, ⟨_, e2⟩, ⟨_, e3⟩, e4, hin, hWr, hq, hk⟩
    have F : Fr s.heap L h _ := Fr.see4 F e1 e2 e3 e4
    have N : News s.heap L h _ := N
    have hwl := wr_length hb f n hn
    have hll := ln_le f hf
    have hcs : cs.length ≤ 90 := by
      have := congrArg List.length hWr
      rw [List.length_append] at this; omega
    have his : items.size = cs.length := by have := hin.length; simpa using this
    show wpAny _ _ _ _ _ _
    walk_at "mine"
    · have hk0 : k ≠ 0 := by omega
      have hqlt : q < bd f := by
        rcases Nat.lt_or_ge q (bd f) with h | h
        · exact h
        · rw [show bd f - q = 0 by omega] at hk
          simp at hk; omega
      obtain ⟨f', rfl⟩ : ∃ f', f = f' + 1 := by
        cases f with
        | zero => exact absurd hqlt (Nat.not_lt_zero _)
        | succ f' => exact ⟨f', rfl⟩
      have hWr' := hWr
      rw [wri_pos _ hk0 (by omega)] at hWr
      have hkb : k / b < b ^ (bd (f' + 1) - (q + 1)) := by
        rw [show bd (f' + 1) - q = (bd (f' + 1) - (q + 1)) + 1 by omega, Nat.pow_succ] at hk
        exact Nat.div_lt_of_lt_mul (by rwa [Nat.mul_comm] at hk)
      have hfd : Int.fdiv (k : Int) (b : Int) = ((k / b : Nat) : Int) := by
        rw [Int.fdiv_eq_ediv_of_nonneg _ (by omega)]; exact (Int.natCast_ediv k b).symm
      have hfm : Int.fmod (k : Int) (b : Int) = ((k % b : Nat) : Int) := by
        rw [Int.fmod_eq_emod_of_nonneg _ (by omega)]; exact (Int.natCast_emod k b).symm
      have hdl : k / b < k := Nat.div_lt_self (by omega) (by omega)
      refine divmod_N F N (by omega) ?_
      clear F N
      intro h' F N
      rw [hfd, hfm] at N
      have hpl : (piece (wrg b (f' + 1)) (k % b) q).length ≤ 90 := by
        have := congrArg List.length hWr
        rw [List.length_append, List.length_append] at this; omega
      walk_at "mine"
      · rename Fr _ _ _ _ => F
        rename News _ _ _ _ => N
        rename ((0 : Int) < ((k % b : Nat) : Int)) => hfig
        have hpc : piece (wrg b (f' + 1)) (k % b) q = [-1] ++ wr b f' q ++ [((k % b : Nat) : Int)] := by
          rw [piece, if_pos (by omega)]; rfl
        rw [hpc] at hpl hWr
        refine ih f' rfl q _ _ (X.keeps F.keep) (T.keeps F.keep) (hA.deeper _) (bd_step hb hqlt) ?_
        intro h1 tk1 D1 items1 c1 K1 hD1 hg1 hin1
        have N := newsNew F N K1 hD1 hg1
        have F := frExt F K1
        have hs1 : items1.size ≤ 90 := by
          have := hin1.length
          simp only [Array.length_toList] at this
          simp only [List.length_append] at hpl
          omega
        refine add_arrays F N (News.isList N (.tail _ (.head _))) (News.isList N (.head _)) ?_ (by rw [sizeLine_eq]; simp; omega)
        intro h2 F N
        walk_at "mine"
        rename Fr _ _ _ _ => F
        rename News _ _ _ _ => N
        refine add_arrays F N (News.isList N (.tail _ (.head _))) (News.isList N (.head _)) ?_ (by rw [sizeLine_eq]; simp; omega)
        intro h3 F N
        walk_at "mine"
        refine add_arrays F N (News.isList N (.head _)) (News.isList N (.tail _ (.tail _ (.tail _ (.tail _ (.tail _ (.tail _ (.head _)))))))) ?_ (by rw [sizeLine_eq]; simp; omega)
        clear F N
        intro h4 F N
        walk_at "mine"
        rename Fr _ _ _ _ => F
        rename News _ _ _ _ => N
        refine whileEnd F N (fun p hp => by rw [List.mem_singleton.mp hp]; exact .head _) hdl ⟨q + 1, _, _, _, [-1] ++ wr b f' q ++ [((k % b : Nat) : Int)] ++ cs, rfl, ⟨_, rfl⟩, ⟨_, rfl⟩, .of rfl (by push_cast; rfl), rfl, ?_, ?_, by omega, hkb⟩
        · exact intsApp (intsApp (intsApp (.cons _ _ .nil) hin1) (.cons _ _ .nil)) hin
        · rw [← hWr]; simp only [List.append_assoc]
      · rename Fr _ _ _ _ => F
        rename News _ _ _ _ => N
        rename (¬ ((0 : Int) < ((k % b : Nat) : Int))) => hfig
        have hpc : piece (wrg b (f' + 1)) (k % b) q = [0] := by
          rw [piece, if_neg (by omega)]
        rw [hpc] at hWr
        refine add_arrays F N (News.isList N (.head _)) (News.isList N (.tail _ (.tail _ (.head _)))) ?_ (by rw [sizeLine_eq]; simp; omega)
        intro h2 F N
        walk_at "mine"
        rename Fr _ _ _ _ => F
        rename News _ _ _ _ => N
        refine whileEnd F N (fun p hp => by rw [List.mem_singleton.mp hp]; exact .head _) hdl ⟨q + 1, _, _, _, [0] ++ cs, rfl, ⟨_, rfl⟩, ⟨_, rfl⟩, .of rfl (by push_cast; rfl), rfl, ?_, ?_, by omega, hkb⟩
        · exact intsApp (.cons _ _ .nil) hin
        · rw [← hWr]; simp only [List.append_assoc]
    · have hk0 : k = 0 := by omega
      subst hk0
      rw [wri_zero, List.nil_append] at hWr
      exact hret _ _ _ _ _ F.keep (N _ (.head _)).2.2 (N _ (.head _)).1 (hWr ▸ hin)

theorem written_ {w : World} {p : Program} {loose : List Str} {mg mb : Str → Option Value} {b : Nat} (hb : 3 ≤ b) (hb16 : b ≤ 16) : WrittenOk w p loose mg mb b 3 := by
  have h0 : WrittenOk w p loose mg mb b 0 := written_step hb hb16 0 (by omega) (fun f' e => by omega)
  have h1 : WrittenOk w p loose mg mb b 1 := written_step hb hb16 1 (by omega) (fun f' e => by cases e; exact h0)
  have h2 : WrittenOk w p loose mg mb b 2 := written_step hb hb16 2 (by omega) (fun f' e => by cases e; exact h1)
  have h3 : WrittenOk w p loose mg mb b 3 := written_step hb hb16 3 (by omega) (fun f' e => by cases e; exact h2)
  exact @h3
end

/-! FV -/
section
set_option maxRecDepth 100000
set_option maxHeartbeats 4000000
/-- the pieces of the texts that the law tells, and what _comparable_version makes of each -/
inductive VK : Str → List RV → Prop where
  | empty : VK ⟨#[]⟩ []
  | dash : VK ⟨#[45]⟩ []
  | dig (d : Nat) (h : d < 10) : VK ⟨#[48 + d]⟩ [.i 100, .i d]
  | p : VK ⟨#[112]⟩ [.i 200, .s ⟨#[112]⟩]
  | cap (c : Nat) (cs : List Nat) (hc : 65 ≤ c ∧ c ≤ 80) (hcs : ∀ x ∈ cs, 65 ≤ x ∧ x ≤ 80) (hl : cs.length ≤ 20) : VK ⟨(c :: cs).toArray⟩ [.i 0, .s ⟨(c :: cs).toArray⟩]
inductive VKs : List Str → List RV → Prop where
  | nil : VKs [] []
  | cons {y ys r rs} : VK y r → VKs ys rs → VKs (y :: ys) (r ++ rs)

theorem at36 (w : World) : ∃ o vs tk0, (hd.heap_39 w.params).lookup 36 = some o ∧ o.cls = .type "re.Pattern" ∧ o.dict = none ∧ o.data = .fields vs ∧ vs.getD 6 .none = .int 0 tk0 ∧ vs.getD 5 .none = .ref 35 ∧ PySem.Builtin.Re.reRawNat (vs.getD 2 .none) = 1 :=
  ⟨_, _, _, rfl, rfl, rfl, rfl, rfl, rfl, rfl⟩
theorem at35 (w : World) : ∃ o cs n, (hd.heap_39 w.params).lookup 35 = some o ∧ o.data = .seq cs n ∧ (cs.map PySem.Builtin.Re.reRawOf).map (·.toNat) = CD :=
  ⟨_, _, _, rfl, rfl, by decide +kernel⟩
theorem meth_split {w : World} {prog : Program} {A : Around} {E : Value → Shared → Prop} {s : Shared} {h₀ : Heap} {L : Addr} {m : Str → Option Value} {pl : Sem Bool} {Q : Value × List Value → Shared → Prop}
    (X : (hd.heap_39 w.params).In h₀) (F : Fr h₀ L s.heap m) (q : Q (.builtin "re.Pattern.split", [.ref 36]) s) :
    wpAny (model prog w) A (getMethod (.ref 36) "split" pl) Q E s := by
  obtain ⟨o, vs, tk0, e1, e2, e3, e4, e5, e6, e7⟩ := at36 w
  have k36 := F.keep _ _ (X _ _ e1)
  have hT : s.TypeIs (.ref 36) "re.Pattern" := ⟨o, k36, e2⟩
  exact getMethod_builtin hT plainAttrs_re slot_re_split type_re_split (fun a ha => by cases ha; exact ⟨o, k36, e3⟩) q
theorem call_split {w : World} {prog : Program} {A : Around} {E : Value → Shared → Prop} {s : Shared} {h₀ : Heap} {L : Addr} {m : Str → Option Value} {news : List (Addr × Obj)} {x : Str} {t : Tok} {Q : Value → Shared → Prop}
    (X : (hd.heap_39 w.params).In h₀) (F : Fr h₀ L s.heap m) (N : News h₀ L s.heap news) (hL : x.cps.size ≤ 1000)
    (q : ∀ D h' tk items, StrsAre items.toList (cutS x) → (∀ p ∈ news, p.1 ≠ D) → Fr h₀ L h' m → News h₀ L h' ((D, listOf items 0) :: news) → Q (.ref D) { s with heap := h', toks := tk }) :
    wpAny (model prog w) A (call (.builtin "re.Pattern.split") [.ref 36, .str x t]) Q E s := by
  obtain ⟨o, vs, tk0, e1, e2, e3, e4, e5, e6, e7⟩ := at36 w
  obtain ⟨o2, cs, n, g1, g2, g3⟩ := at35 w
  have k36 := F.keep _ _ (X _ _ e1)
  have k35 := F.keep _ _ (X _ _ g1)
  have hT : s.TypeIs (.ref 36) "re.Pattern" := ⟨o, k36, e2⟩
  refine wpAny_call_entry slot_re_split hT entry_re_split (split_wp k36 e4 e5 e6 e7 k35 g2 g3 (by omega) ?_) (args_re_split _ _)
  intro tk items hi
  refine ⟨_, rfl, q _ _ _ items hi ?_ (frExt F (fun b o e => Heap.get?_push_of_some _ e)) ?_⟩
  · intro p hp; exact Nat.ne_of_lt (Heap.lt_size (N p hp).1)
  · intro p hp
    rcases List.mem_cons.mp hp with rfl | hp
    · exact ⟨Heap.get?_push_size _ rfl, Nat.ne_of_gt F.ns.lt, next_is_new F⟩
    · exact newsExt N (fun b o e => Heap.get?_push_of_some _ e) p hp
theorem News.swap {h₀ h : Heap} {L : Addr} {a b : Addr × Obj} (N : News h₀ L h [a, b]) : News h₀ L h [b, a] := fun p hp => N p (by
  rcases List.mem_cons.mp hp with e | hp
  · exact e ▸ .tail _ (.head _)
  · exact (List.mem_singleton.mp hp) ▸ .head _)
theorem isList_of {h : Heap} {a : Addr} {items : Array Value} {c : Nat} (e : h.get? a = some (listOf items c)) : h.IsList a items := ⟨_, e, rfl, _, rfl⟩
theorem vks_at {items : Array Value} {x : Str} {i : Nat} {v : Value} {post : List RV} (hi : StrsAre items.toList (cutS x)) (hV : VKs ((cutS x).drop i) post) (hvi : items[i]? = some v) :
    ∃ y ty r rest, v = .str y ty ∧ VK y r ∧ post = r ++ rest ∧ VKs ((cutS x).drop (i + 1)) rest := by
  replace hvi : items.toList[i]? = some v := by rw [Array.getElem?_toList]; exact hvi
  generalize items.toList = vs at *
  generalize cutS x = ys at *
  induction i generalizing vs ys with
  | zero =>
    cases hi with
    | nil => cases hvi
    | cons y t hi =>
      cases hV with
      | cons hy hr =>
        cases hvi
        exact ⟨y, t, _, _, rfl, hy, rfl, hr⟩
  | succ i ih =>
    cases hi with
    | nil => cases hvi
    | cons y t hi => exact ih _ hvi _ hV hi
theorem occ_first {x y : Str} {c : Nat} {cs : List Nat} (hy : y.cps = (c :: cs).toArray) (hc : c ∉ x.cps.toList) : (Builtin.Str.occurrences x y 0 x.length 1).isEmpty = true := by
  cases h : (Builtin.Str.occurrences x y 0 x.length 1).isEmpty with
  | true => rfl
  | false =>
    exfalso
    obtain ⟨i, hi, hs⟩ := (PySem.StrLaws.found_iff x y).mp (by rw [h]; rfl)
    unfold Builtin.Str.subAt at hs
    have hs := eq_of_beq hs
    rw [hy] at hs
    have h0 : (x.cps.extract i (i + y.length))[0]? = some c := by rw [hs]; rfl
    rw [Array.getElem?_extract] at h0
    split at h0
    · exact hc (Array.mem_toList_iff.mpr (Array.mem_of_getElem? h0))
    · cases h0
theorem vk_in {y : Str} {r : List RV} (hy : VK y r) (h : (Builtin.Str.occurrences (Str.ofString "._+-") y 0 (Str.ofString "._+-").length 1).isEmpty = false) : r = [] := by
  cases hy with
  | empty => rfl
  | dash => rfl
  | dig d hd =>
    rw [occ_first (c := 48 + d) (cs := []) rfl ?_] at h
    · cases h
    · show 48 + d ∉ ([46, 95, 43, 45] : List Nat)
      simp; omega
  | p =>
    rw [occ_first (c := 112) (cs := []) rfl ?_] at h
    · cases h
    · show 112 ∉ ([46, 95, 43, 45] : List Nat)
      decide
  | cap c cs hc hcs hl =>
    rw [occ_first (c := c) (cs := cs) rfl ?_] at h
    · cases h
    · show c ∉ ([46, 95, 43, 45] : List Nat)
      simp; omega
theorem vk_out {y : Str} {r : List RV} (hy : VK y r) (h : (Builtin.Str.occurrences (Str.ofString "._+-") y 0 (Str.ofString "._+-").length 1).isEmpty = true) :
    (∃ d, d < 10 ∧ y = ⟨#[48 + d]⟩ ∧ r = [.i 100, .i d]) ∨ (∃ c cs, y = ⟨(c :: cs).toArray⟩ ∧ ((65 ≤ c ∧ c ≤ 90) ∨ (97 ≤ c ∧ c ≤ 122)) ∧ (∀ x ∈ cs, (65 ≤ x ∧ x ≤ 90) ∨ (97 ≤ x ∧ x ≤ 122)) ∧ cs.length ≤ 20 ∧ ((y = ⟨#[112]⟩ ∧ r = [.i 200, .s y]) ∨ (c ≤ 80 ∧ (∀ x ∈ cs, x ≤ 80) ∧ r = [.i 0, .s y]))) := by
  cases hy with
  | empty => exact absurd h (by decide +kernel)
  | dash => exact absurd h (by decide +kernel)
  | dig d hd => exact .inl ⟨d, hd, rfl, rfl⟩
  | p => exact .inr ⟨112, [], rfl, .inr (by decide), (by intro x hx; cases hx), by decide, .inl ⟨rfl, rfl⟩⟩
  | cap c cs hc hcs hl => exact .inr ⟨c, cs, rfl, .inl (by omega), fun x hx => .inl (by have := hcs x hx; omega), hl, .inr ⟨hc.2, fun x hx => (hcs x hx).2, rfl⟩⟩
theorem forEndV {Bs : Heap → Prop} {G : Array GenState → Prop} {L I : Addr} {oI : Obj} {J : (Str → Option Value) → List (Addr × Obj) → Prop} {s₂ : Shared} {Q : Flow → Shared → Prop} {B h' : Heap} {tk : Nat} {g : Array GenState} {m' : Str → Option Value} {news' nn : List (Addr × Obj)}
    (hB : Bs B) (hG : G g) (F : Fr B L h' m') (N : News B L h' nn) (hI : (I, oI) ∈ nn) (hs : ∀ p ∈ news', p ∈ nn ∧ p.1 ≠ I) (hj : J m' news') : ForEndV Bs G L I oI J s₂ Q .next { s₂ with heap := h', toks := tk, gens := g } :=
  ⟨B, h', tk, g, m', news', nn, rfl, hB, hG, F, N, hI, hs, hj⟩
theorem cuts_len (T : Array Nat) (L : Nat) : ∀ f st, st ≤ L → (cuts T L f st).length ≤ 2 * (L - st) + 1
  | 0, st, _ => by simp [cuts]
  | f + 1, st, hs => by
    rw [cuts]
    cases hq : firstTok T (L - st) st with
    | none => simp
    | some be =>
      obtain ⟨b, e⟩ := be
      have h1 := firstTok_le T _ _ _ _ hq
      have h2 := cuts_len T L f e (by omega)
      simp only [List.length_cons]
      omega
theorem cutS_len (x : Str) (hx : x.cps.size ≤ 1000) : (cutS x).length ≤ 2001 := by
  have := cuts_len x.cps x.cps.size (x.cps.size + 1) 0 (Nat.zero_le _)
  unfold cutS
  rw [List.length_map]
  omega
theorem same_ne {k c : Nat} {ks cs : List Nat} (h : k ≠ c) : Spec.same (.str ⟨(k :: ks).toArray⟩) (.str ⟨(c :: cs).toArray⟩) = false := by
  show ((⟨(k :: ks).toArray⟩ : Str) == ⟨(c :: cs).toArray⟩) = false
  rw [beq_eq_false_iff_ne]
  intro e
  injection e with e
  have e := congrArg Array.toList e
  simp at e
  exact h e.1
theorem stage_cap {c : Nat} {cs : List Nat} (hc : c ≤ 80) : (Spec.lookup (.str ⟨(c :: cs).toArray⟩) [(PyData.str { cps := #[100, 101, 118] }, PyData.int 10), (PyData.str { cps := #[97, 108, 112, 104, 97] }, PyData.int 20), (PyData.str { cps := #[97] }, PyData.int 20), (PyData.str { cps := #[98, 101, 116, 97] }, PyData.int 30),
      (PyData.str { cps := #[98] }, PyData.int 30), (PyData.str { cps := #[99] }, PyData.int 40), (PyData.str { cps := #[82, 67] }, PyData.int 50), (PyData.str { cps := #[114, 99] }, PyData.int 50), (PyData.str { cps := #[112, 108] }, PyData.int 200), (PyData.str { cps := #[112] }, PyData.int 200)]).getD (PyData.int 0) = .int 0 := by
  have n1 : ∀ k ks, 80 < k → ¬ Spec.same (.str ⟨(k :: ks : List Nat).toArray⟩) (.str ⟨(c :: cs).toArray⟩) = true := fun k ks hk => by
    rw [same_ne (by omega)]; exact Bool.false_ne_true
  rw [Spec.lookup, if_neg (n1 100 [101, 118] (by decide)), Spec.lookup, if_neg (n1 97 [108, 112, 104, 97] (by decide)), Spec.lookup, if_neg (n1 97 [] (by decide)), Spec.lookup, if_neg (n1 98 [101, 116, 97] (by decide)),
    Spec.lookup, if_neg (n1 98 [] (by decide)), Spec.lookup, if_neg (n1 99 [] (by decide)), Spec.lookup, if_neg (n1 82 [67] (by decide)), Spec.lookup, if_neg (n1 114 [99] (by decide)), Spec.lookup, if_neg (n1 112 [108] (by decide)), Spec.lookup, if_neg (n1 112 [] (by decide)), Spec.lookup]
  rfl
theorem stage_of {c : Nat} {cs : List Nat} {r : List RV} {v : Value} (hk : ((⟨(c :: cs).toArray⟩ : Str) = ⟨#[112]⟩ ∧ r = [RV.i 200, RV.s ⟨(c :: cs).toArray⟩]) ∨ (c ≤ 80 ∧ (∀ x ∈ cs, x ≤ 80) ∧ r = [RV.i 0, RV.s ⟨(c :: cs).toArray⟩]))
    (hf : PyProof.V.Flat v ((Spec.lookup (.str ⟨(c :: cs).toArray⟩) [(PyData.str { cps := #[100, 101, 118] }, PyData.int 10), (PyData.str { cps := #[97, 108, 112, 104, 97] }, PyData.int 20), (PyData.str { cps := #[97] }, PyData.int 20), (PyData.str { cps := #[98, 101, 116, 97] }, PyData.int 30),
      (PyData.str { cps := #[98] }, PyData.int 30), (PyData.str { cps := #[99] }, PyData.int 40), (PyData.str { cps := #[82, 67] }, PyData.int 50), (PyData.str { cps := #[114, 99] }, PyData.int 50), (PyData.str { cps := #[112, 108] }, PyData.int 200), (PyData.str { cps := #[112] }, PyData.int 200)]).getD (PyData.int 0))) :
    ∃ n t, v = .int n t ∧ r = [RV.i n, RV.s ⟨(c :: cs).toArray⟩] := by
  rcases hk with ⟨e, rfl⟩ | ⟨hc, hcs, rfl⟩
  · rw [e] at hf ⊢
    obtain ⟨t, rfl⟩ := PyProof.V.Flat.int_inv (i := 200) hf
    exact ⟨200, t, rfl, rfl⟩
  · rw [stage_cap hc] at hf
    obtain ⟨t, rfl⟩ := PyProof.V.Flat.int_inv hf
    exact ⟨0, t, rfl, rfl⟩
theorem frag_low (w : World) {a : Addr} {o : Obj} (e : (hd.heap_39 w.params).lookup a = some o) : a < 107 := by
  have h : ((hd.heap_39 w.params).map (·.1)).all (· < 107) = true := by rfl
  have hm : a ∈ (hd.heap_39 w.params).map (·.1) := by
    generalize hd.heap_39 w.params = l at e
    induction l with
    | nil => cases e
    | cons q l ih =>
      obtain ⟨b, ob⟩ := q
      rw [List.lookup_cons] at e
      by_cases hb : a = b
      · subst hb; exact .head _
      · rw [show (a == b) = false by simpa using hb] at e
        exact .tail _ (ih e)
  have := List.all_eq_true.mp h a hm
  simpa using this
theorem topRead_slot {p : Program} {loose : List Str} {mg mb : Str → Option Value} {H B : Heap} {Lw : Addr} (T : TopRead p loose mg mb H) (x : Slot1 H Lw B) (hlow : 107 ≤ Lw) : TopRead p loose mg mb B := by
  have ne : ∀ a, a < 107 → a ≠ Lw := fun a ha => Nat.ne_of_lt (Nat.lt_of_lt_of_le ha hlow)
  exact ⟨Heap.Ns.at T.g fun o q => x.keep (ne _ (by decide)) q, Heap.Ns.at T.b fun o q => x.keep (ne _ (by decide)) q, T.nolimit.at fun o q => x.keep (ne _ (by decide)) q, T.builtins, T.free⟩
theorem version_ {w : World} {p : Program} {loose : List Str} {mg mb : Str → Option Value} {dp un : Nat} {gd : Option (List Code)} {s : Shared} {Q E : Value → Shared → Prop} {envW : Env} {Lw : Addr} {oW : Obj} (x : Str) (t : Tok) (rs : List RV)
    (X : (hd.heap_39 w.params).In s.heap) (T : TopRead p loose mg mb s.heap) (hA : AOk ⟨none, dp, some [envW], gd, un⟩ 3)
    (hW : envW.frame = some Lw) (hWk : envW.scope.kind ≠ .module) (hoW : s.heap.get? Lw = some oW) (hWd : ∀ vs, oW.data ≠ .fields vs) (hlow : 107 ≤ Lw)
    (hx : x.cps.size ≤ 1000) (hv : VKs (cutS x) rs)
    (hret : ∀ B h' tk D items c, Slot1 s.heap Lw B → Ext B h' → s.heap.get? D = none → h'.get? D = some (listOf items c) → RVs items.toList rs → Q (.ref D) { s with heap := h', toks := tk }) :
    wpC (model PySem.Challenge.rw_pe0065_01.prog w) ⟨none, dp, some [envW], gd, un⟩ (call (.ref 44) [.str x t]) Q E s := by
  revert X
  k_fill
  intro X
  refine enterV (binds := [("version", .str x t)]) X T (by k_is) (by k_is) (Nat.lt_of_le_of_lt (Nat.le_add_right _ _) hA.dep) (BindsTo.of_eq rfl) (locs rfl) (by decide) rfl rfl rfl ?_
  intro L h₁ tk F N
  replace F := Fr.map (m' := fun y => if y = "version" then some (.str x t) else none) F (by intro y; simp [List.lookup]; (repeat' split) <;> simp_all)
  show wpC _ _ _ _ _ _
  refine wpC_execs_cons (wpC_of ?_)
  walk_at "mine"
  (try dsimp only)
  refine wpC_execs_cons (wpC_of ?_)
  walk_at "mine"
  (try dsimp only)
  rename Fr _ _ _ _ => F
  rename News _ _ _ _ => N
  rename_i R _ _ _
  refine wpC_execs_cons (for_V (Slot1 s.heap Lw) (fun g => g = s.gens) rfl rfl ?_ (fun _ => rfl))
  walk_at "mine"
  refine meth_split (h₀ := s.heap) (L := L) X F ?_
  walk_at "mine"
  refine call_split (h₀ := s.heap) (L := L) (news := [(R, listOf #[] 0)]) X F N hx ?_
  intro D h₂ tk2 items hi hD F N
  have hRD : R ≠ D := hD _ (.head _)
  refine at_listV (B₀ := s.heap) (items := items) (J := fun i m₁ nx => m₁ "result" = some (.ref R) ∧ ∃ its c pre post, nx = [(R, listOf its c), (D, listOf items 0)] ∧ VKs ((cutS x).drop i) post ∧ pre ++ post = rs ∧ RVs its.toList pre ∧ its.size ≤ 2 * i)
    rfl (Slot1.refl _ _) rfl (fun B hB => hB.size) F (News.swap N) (isList_of (N _ (.head _)).1) (.inr ⟨listOf items 0, ?_⟩) ⟨rfl, #[], 0, [], rs, rfl, hv, rfl, .nil, Nat.le_refl _⟩ ?_ ?_
  · rintro i m₁ nx ⟨_, its, c, pre, post, rfl, _⟩; exact .tail _ (.head _)
  · rintro i v B m₁ nx h tk3 g I oI hvi ⟨hm, its, c, pre, post, rfl, hV, hpp, hr, hsz⟩ hB rfl hne F N
    have XB : (hd.heap_39 w.params).In B := fun a o e => hB.keep (Nat.ne_of_lt (Nat.lt_of_lt_of_le (frag_low w e) hlow)) (X a o e)
    have TB := topRead_slot T hB hlow
    clear X T
    obtain ⟨y, ty, r, rest, rfl, hy, rfl, hVr⟩ := vks_at hi hV hvi
    have hi2 : i < 2001 := by
      have h1 := cutS_len x hx
      have h2 := SA.len hi
      rw [Array.length_toList] at h2
      have h3 := (Array.getElem?_eq_some_iff.mp hvi).1
      omega
    obtain ⟨hslot, hBW⟩ := hB.at_ _ hoW
    have hIR : @Ne Nat I R := fun e => hne (R, listOf its c) (.head _) e.symm
    have F : Fr B L h _ := Fr.insee1 F hm
    have N : News B L h _ := N
    show wpC _ _ _ _ _ _
    refine wpC_execs_cons (wpC_If (wpC_of ?_))
    walk_at "mine"
    · rename_i hocc
      rcases vk_out hy hocc with ⟨d, hd10, rfl, rfl⟩ | ⟨c0, cs, rfl, hc0, hcs, hcl, hkind⟩
      · refine wpC_execs_cons (wpC_of ?_)
        walk_at "mine"
        refine int_digit hd10 ?_
        walk_at "mine"
        rename Fr _ _ _ _ => F
        rename News _ _ _ _ => N
        refine wpC_execs_cons (wpC_of ?_)
        walk_at "mine"
        rename Fr _ _ _ _ => F
        rename News _ _ _ _ => N
        rename (I < _ ∧ R < _ ∧ D < _) => hl1
        refine extendT F N (.head _) (by simp) (.tail (Nat.ne_of_gt hl1.2.1) (.tail hIR (.head (fun p hp => by rw [List.mem_singleton.mp hp]; exact fun e => hRD e.symm)))) (by simp; omega) ?_
        intro h' F N
        walk_at "mine"
        (try dsimp only)
        refine wpC_execs_nil ?_
        (try dsimp only)
        refine wpC_execs_nil ?_
        refine forEndV hB rfl F N (.tail _ (.head _)) (news' := [(R, _), (D, listOf items 0)]) (fun p hp => ⟨.tail _ (.tail _ hp), ?_⟩) ⟨rfl, _, _, pre ++ [.i 100, .i d], rest, rfl, hVr, by simpa using hpp, ?_, ?_⟩
        · rcases List.mem_cons.mp hp with rfl | hp
          · exact Ne.symm hIR
          · exact hne p (.tail _ hp)
        · simpa using hr.append (.int _ _ (.int _ _ .nil))
        · simp; omega
      · refine wpC_execs_cons (wpC_Try (wpC_execs_cons (wpC_Assign (wpC_Call_Name ?_))))
        walk_at "mine"
        refine wpC_callWith_type1 ?_
        walk_at "mine"
        refine type_call_bad (c := c0) (cs := cs) rfl rfl ?_ (by omega) hc0 hcs ?_
        · refine Nat.le_trans (PySem.StrLaws.reprText_len _ fun z hz => ?_) ?_
          · rcases List.mem_cons.mp hz with rfl | hz
            · exact Nat.lt_of_le_of_lt (by omega : z ≤ 122) (by decide)
            · have := hcs z hz
              exact Nat.lt_of_le_of_lt (by omega : z ≤ 122) (by decide)
          · show 10 * (cs.length + 1) + 2 ≤ sizeLine
            exact Nat.le_trans (by omega : _ ≤ 212) (by decide)
        intro h' e v tk hm'
        (try dsimp only)
        refine caughtV (B := B) (h := h) (news := [(I, oI), (R, listOf its c), (D, listOf items 0)]) (oW := { oW with slots := hslot }) rfl hW hWk hBW hWd F N hm'.of TB (by have := hlow; exact Nat.ne_of_lt (Nat.lt_of_lt_of_le (by decide) hlow)) (Nat.ne_of_lt (Nat.lt_of_lt_of_le (by decide) hlow)) PyProof.Rows.Boot.«ValueError» PySem.F.isExc_ValueError PySem.F.notTuple_ValueError (by rw [isSubtype_type]; kernel_rfl) ?_ (mg_none_of XB TB.g (by k_is))
        intro B' h₅ hB5 F N
        have XB : (hd.heap_39 w.params).In B' := fun a o e => hB5.keep (Nat.ne_of_lt (Nat.lt_of_lt_of_le (frag_low w e) hlow)) (XB a o e)
        have TB := topRead_slot TB hB5 hlow
        walk_at "mine"
        rename PyProof.V.Flat _ _ => hfl
        obtain ⟨n, tn, rfl, rfl⟩ := stage_of hkind hfl
        rename Fr _ _ _ _ => F
        rename News _ _ _ _ => N
        refine wpC_execs_cons (wpC_of ?_)
        walk_at "mine"
        rename Fr _ _ _ _ => F
        rename News _ _ _ _ => N
        rename (I < _ ∧ R < _ ∧ D < _) => hl1
        refine extendT F N (.head _) (by simp) (.tail (Nat.ne_of_gt hl1.2.1) (.tail hIR (.head (fun p hp => by rw [List.mem_singleton.mp hp]; exact fun e => hRD e.symm)))) (by simp; omega) ?_
        intro h' F N
        walk_at "mine"
        (try dsimp only)
        refine wpC_execs_nil ?_
        (try dsimp only)
        refine wpC_execs_nil ?_
        refine forEndV (hB.trans hB5) rfl F N (.tail _ (.head _)) (news' := [(R, _), (D, listOf items 0)]) (fun p hp => ⟨.tail _ (.tail _ hp), ?_⟩) ⟨rfl, _, _, pre ++ [.i n, .s ⟨(c0 :: cs).toArray⟩], rest, rfl, hVr, by simpa using hpp, ?_, ?_⟩
        · rcases List.mem_cons.mp hp with rfl | hp
          · exact Ne.symm hIR
          · exact hne p (.tail _ hp)
        · simpa using hr.append (.int _ _ (.str _ _ .nil))
        · simp; omega
    · rename_i hocc
      have hr0 := vk_in hy hocc
      subst hr0
      (try dsimp only)
      refine wpC_execs_nil ?_
      (try dsimp only)
      refine wpC_execs_nil ?_
      refine forEndV hB rfl F N (.head _) (news' := [(R, listOf its c), (D, listOf items 0)]) (fun p hp => ⟨.tail _ hp, hne p hp⟩) ⟨?_, its, c, pre, rest, rfl, hVr, by simpa using hpp, hr, by omega⟩
      rfl
  · rintro B m₁ nx h tk3 g ⟨hm, its, c, pre, post, rfl, hV, hpp, hr, hsz⟩ hB rfl F N
    have F : Fr B L h _ := Fr.see F hm
    have N : News B L h _ := N
    (try dsimp only)
    refine wpC_of ?_
    walk_at "mine"
    have hps : post = [] := by
      have : (cutS x).drop items.size = [] := by
        rw [List.drop_eq_nil_iff, ← SA.len hi]; simp
      rw [this] at hV
      cases hV; rfl
    subst hps
    refine hret B _ _ R its c hB (fun b o q => F.keep _ _ q) ?_ (N _ (.head _)).1 (by rw [← hpp, List.append_nil]; exact hr)
    have n3 : B.get? R = none := (N _ (.head _)).2.2
    obtain ⟨sl, hBW⟩ := hB.at_ _ hoW
    have nw : R ≠ Lw := fun z => by rw [z, hBW] at n3; cases n3
    exact (hB.same R nw).symm.trans n3
end

/-! PS -/
section
set_option maxRecDepth 100000
set_option maxHeartbeats 4000000
open PySem.Builtin PySem.Builtin.Str
/-- a scan from the left that puts z for each y -/
inductive Rep (y z : List Nat) : List Nat → List Nat → Prop where
  | nil : Rep y z [] []
  | hit {r r'} : Rep y z r r' → Rep y z (y ++ r) (z ++ r')
  | skip {c r r'} : ¬ y <+: (c :: r) → Rep y z r r' → Rep y z (c :: r) (c :: r')
theorem Rep.det {y z : List Nat} (hy : y ≠ []) : ∀ {l a b : List Nat}, Rep y z l a → Rep y z l b → a = b := by
  intro l a b h
  induction h generalizing b with
  | nil =>
    intro k
    generalize e : ([] : List Nat) = l at k
    cases k with
    | nil => rfl
    | hit _ => exact absurd (List.append_eq_nil_iff.mp e.symm).1 hy
    | skip _ _ => cases e
  | @hit r r' h ih =>
    intro k
    generalize e : y ++ r = l at k
    cases k with
    | nil => exact absurd (List.append_eq_nil_iff.mp e).1 hy
    | @hit s s' k => rw [ih (List.append_cancel_left e ▸ k)]
    | @skip c s s' hn k => exact absurd ⟨r, e⟩ hn
  | @skip c r r' hn h ih =>
    intro k
    generalize e : c :: r = l at k
    cases k with
    | nil => cases e
    | @hit s s' k => exact absurd ⟨s, e.symm⟩ hn
    | @skip c' s s' _ k =>
      injection e with e1 e2
      subst e1; subst e2
      rw [ih k]
theorem at_iff (x y : Str) (k : Nat) : StrLaws.At x y x.length k ↔ k + y.length ≤ x.length ∧ y.cps.toList <+: x.cps.toList.drop k := by
  unfold StrLaws.At
  rw [StrLaws.subAt_eq]
  refine and_congr_right fun hk => ?_
  rw [beq_iff_eq, List.prefix_iff_eq_take, show y.cps.toList.length = y.length by simp [Str.length]]
  exact eq_comm
theorem rep_skips {x y : Str} {z r' : List Nat} : ∀ (n a : Nat), a + n ≤ x.length → (∀ k, a ≤ k → k < a + n → ¬ StrLaws.At x y x.length k) → Rep y.cps.toList z (x.cps.toList.drop (a + n)) r' →
    Rep y.cps.toList z (x.cps.toList.drop a) ((x.cps.toList.drop a).take n ++ r')
  | 0, a, _, _, h => by simpa using h
  | n + 1, a, hl, hn, h => by
    have hlt : a < x.cps.toList.length := by simp [Str.length] at hl ⊢; omega
    have e : x.cps.toList.drop a = x.cps.toList[a] :: x.cps.toList.drop (a + 1) := (List.getElem_cons_drop hlt).symm
    rw [e, List.take_succ_cons, List.cons_append]
    refine Rep.skip ?_ (rep_skips n (a + 1) (by omega) (fun k h1 h2 => hn k (by omega) (by omega)) (by rw [show a + 1 + n = a + (n + 1) by omega]; exact h))
    intro hp
    refine hn a (Nat.le_refl _) (by omega) ((at_iff x y a).mpr ⟨?_, e ▸ hp⟩)
    have := hp.length_le
    rw [← e, List.length_drop] at this
    simp [Str.length] at this hl ⊢
    omega
theorem rep_chain {x y : Str} {z : Str} (hy : 1 ≤ y.length) : ∀ (cuts : List Nat) (a f : Nat), a ≤ x.length → StrLaws.ChainG x y x.length a cuts f → (∀ k, f ≤ k → ¬ StrLaws.At x y x.length k) →
    Rep y.cps.toList z.cps.toList (x.cps.toList.drop a) (Str.join z (StrLaws.partsFrom x y.length a cuts)).cps.toList
  | [], a, f, ha, h, hn => by
    have e : f = a := h
    subst e
    show Rep _ _ _ (strSub x f x.length).cps.toList
    rw [StrLaws.strSub_toList]
    have hd : x.cps.toList.drop (f + (x.length - f)) = [] := List.drop_eq_nil_iff.mpr (by simp [Str.length] at ha ⊢; omega)
    have := rep_skips (z := z.cps.toList) (r' := []) (x.length - f) f (by omega) (fun k h1 _ => hn k h1) (by rw [hd]; exact .nil)
    simpa using this
  | c :: r, a, f, ha, h, hn => by
    obtain ⟨h1, h2, h3, h4⟩ := h
    obtain ⟨p, q, e⟩ := StrLaws.partsFrom_ne x y.length (c + y.length) r
    have hc := (at_iff x y c).mp h2
    have ih := rep_chain (z := z) hy r (c + y.length) f hc.1 h4 hn
    show Rep _ _ _ (Str.join z (strSub x a c :: StrLaws.partsFrom x y.length (c + y.length) r)).cps.toList
    rw [e] at ih ⊢
    show Rep _ _ _ (strSub x a c ++ z ++ Str.join z (p :: q)).cps.toList
    simp only [Str.cps_append, Array.toList_append, StrLaws.strSub_toList, List.append_assoc]
    refine rep_skips (c - a) a (by omega) (fun k k1 k2 => h3 k k1 (by omega)) ?_
    rw [show a + (c - a) = c by omega]
    obtain ⟨t, ht⟩ := hc.2
    have e2 : x.cps.toList.drop (c + y.length) = t := by
      rw [← List.drop_drop, ← ht, show y.length = y.cps.toList.length by simp [Str.length], List.drop_left]
    rw [e2] at ih
    rw [← ht]
    exact .hit ih
theorem rep_replace (x y z : Str) (hy : 1 ≤ y.length) : Rep y.cps.toList z.cps.toList x.cps.toList (Txt.replace x y z).cps.toList := by
  obtain ⟨f, hG, hn⟩ := StrLaws.occ_tight x y hy
  have key := rep_chain (z := z) hy _ 0 f (Nat.zero_le _) hG hn
  rw [List.drop_zero] at key
  unfold Txt.replace
  have h0 : (y.length == 0) = false := by simp; omega
  rw [h0, Bool.false_and, Bool.or_false]
  cases he : (occurrences x y 0 x.length (x.length + 1)).isEmpty
  · rw [if_neg Bool.false_ne_true, StrLaws.glued_eq_join, StrLaws.partsBetween_eq]
    exact key
  · rw [if_pos rfl]
    rw [List.isEmpty_iff.mp he] at key
    have : (Str.join z (StrLaws.partsFrom x y.length 0 [])) = x := StrLaws.sub_whole x
    rw [this] at key
    exact key
theorem replace_is {x y z : Str} {l : List Nat} (hy : 1 ≤ y.length) (h : Rep y.cps.toList z.cps.toList x.cps.toList l) : Txt.replace x y z = ⟨l.toArray⟩ := by
  have hne : y.cps.toList ≠ [] := by
    intro e
    have h1 := congrArg List.length e
    have h2 : y.cps.toList.length = y.length := by simp [Str.length]
    rw [h2] at h1
    simp at h1
    omega
  have := Rep.det hne (rep_replace x y z hy) h
  rw [← this]
/-- one sign for one sign -/
def sw (c d : Nat) (l : List Nat) : List Nat := l.map fun k => if k = c then d else k
theorem rep_sw (c d : Nat) : ∀ l, Rep [c] [d] l (sw c d l)
  | [] => .nil
  | k :: r => by
    by_cases h : k = c
    · subst h
      have := Rep.hit (y := [k]) (z := [d]) (rep_sw k d r)
      simpa [sw] using this
    · have : sw c d (k :: r) = k :: sw c d r := by simp [sw, h]
      rw [this]
      refine .skip ?_ (rep_sw c d r)
      rintro ⟨t, ht⟩
      simp at ht
      exact h ht.1.symm
theorem replace_sw {x y z : Str} {c d : Nat} (hy : y = ⟨#[c]⟩) (hz : z = ⟨#[d]⟩) : Txt.replace x y z = ⟨(sw c d x.cps.toList).toArray⟩ := by
  subst hy; subst hz
  exact replace_is (Nat.le_refl 1) (rep_sw c d _)
/-- runs of dashes made one -/
def stp (c : Nat) (a : List Nat) : List Nat := if c = 45 then (match a with | 45 :: _ => a | _ => 45 :: a) else c :: a
def col (l : List Nat) : List Nat := l.foldr stp []
theorem stp_45 (a : List Nat) : stp 45 (stp 45 a) = stp 45 a := by
  have key : ∃ r, stp 45 a = 45 :: r := by
    unfold stp
    rw [if_pos rfl]
    split
    · exact ⟨_, rfl⟩
    · exact ⟨_, rfl⟩
  obtain ⟨r, e⟩ := key
  rw [e]
  rfl
theorem col_rep {l l' : List Nat} (h : Rep [45, 45] [45] l l') : col l' = col l := by
  induction h with
  | nil => rfl
  | @hit r r' _ ih =>
    show stp 45 (col r') = stp 45 (stp 45 (col r))
    rw [stp_45, ih]
  | @skip c r r' _ _ ih =>
    show stp c (col r') = stp c (col r)
    rw [ih]
theorem rep_le {l l' : List Nat} (h : Rep [45, 45] [45] l l') : l'.length ≤ l.length := by
  induction h with
  | nil => exact Nat.le_refl _
  | hit _ ih => simp only [List.length_append, List.length_cons, List.length_nil]; omega
  | skip _ _ ih => simp only [List.length_cons]; omega
theorem rep_fix {l l' : List Nat} (h : Rep [45, 45] [45] l l') : (l'.length = l.length → l' = l ∧ col l = l) := by
  induction h with
  | nil => intro _; exact ⟨rfl, rfl⟩
  | hit h ih =>
    intro e
    have := rep_le h
    simp only [List.length_append, List.length_cons, List.length_nil] at e
    omega
  | @skip c r r' hn h ih =>
    intro e
    obtain ⟨rfl, e2⟩ := ih (by simpa using e)
    refine ⟨rfl, ?_⟩
    show stp c (col _) = _
    rw [e2]
    unfold stp
    split
    · rename_i hc
      subst hc
      split
      · exact absurd ⟨_, rfl⟩ hn
      · rfl
    · rfl
theorem replace_dd (x : Str) : ∃ l, Txt.replace x ⟨#[45, 45]⟩ ⟨#[45]⟩ = ⟨l.toArray⟩ ∧ col l = col x.cps.toList ∧ (l = x.cps.toList ∨ l.length < x.cps.toList.length) ∧ (l = x.cps.toList → col l = l) ∧ l.length ≤ x.cps.toList.length := by
  have h := rep_replace x ⟨#[45, 45]⟩ ⟨#[45]⟩ (by decide)
  refine ⟨(Txt.replace x ⟨#[45, 45]⟩ ⟨#[45]⟩).cps.toList, by simp, col_rep h, ?_, fun e => ?_, rep_le h⟩
  · have h1 := rep_le h
    by_cases e : (Txt.replace x ⟨#[45, 45]⟩ ⟨#[45]⟩).cps.toList.length = x.cps.toList.length
    · exact .inl (rep_fix h e).1
    · exact .inr (by omega)
  · have := (rep_fix h (by rw [e])).2
    rw [e]; exact this
/-- the dashes at the end off -/
def rst (l : List Nat) : List Nat := (l.reverse.dropWhile (· == 45)).reverse
theorem rst_snoc (l : List Nat) : rst (l ++ [45]) = rst l := by simp [rst]
theorem rst_stop (l : List Nat) (c : Nat) (h : c ≠ 45) : rst (l ++ [c]) = l ++ [c] := by simp [rst, h]
theorem rst_nil : rst [] = [] := rfl

/-! ## the texts of the parts -/
def UW : List Nat := [117, 110, 107, 110, 111, 119, 110]
/-- a text in which each u begins the word -/
inductive Tkn : List Nat → List Nat → Prop where
  | nil : Tkn [] []
  | word {r r'} : Tkn r r' → Tkn (UW ++ r) r'
  | sign {c r r'} : c ≠ 117 → Tkn r r' → Tkn (c :: r) (c :: r')
theorem Tkn.rep {l l' : List Nat} (h : Tkn l l') : Rep UW [] l l' := by
  induction h with
  | nil => exact .nil
  | word _ ih => exact Rep.hit (z := []) ih
  | sign hc _ ih => exact .skip (fun ⟨t, ht⟩ => hc (by simp [UW] at ht; exact ht.1.symm)) ih
theorem Tkn.append {a a' b b' : List Nat} (h : Tkn a a') (k : Tkn b b') : Tkn (a ++ b) (a' ++ b') := by
  induction h with
  | nil => exact k
  | word _ ih => rw [List.append_assoc]; exact .word ih
  | sign hc _ ih => exact .sign hc ih

/-- the part of a code, its brackets made dashes -/
def pt (c : Int) : List Nat := if c < 0 then [45, 112] else if c = 0 then UW else [49, 65 + c.toNat, 45]
def pt' (c : Int) : List Nat := if c < 0 then [45, 112] else if c = 0 then [] else [49, 65 + c.toNat, 45]
def dj (f : Int → List Nat) : List Int → List Nat
  | [] => []
  | c :: ns => f c ++ ns.flatMap fun k => 45 :: f k
theorem tkn_pt (c : Int) (h : c < 16) : Tkn (pt c) (pt' c) := by
  unfold pt pt'
  split
  · exact .sign (by decide) (.sign (by decide) .nil)
  · split
    · exact .word (r := []) .nil
    · exact .sign (by decide) (.sign (by omega) (.sign (by decide) .nil))
theorem tkn_flat : ∀ ns : List Int, (∀ n ∈ ns, n < 16) → Tkn (ns.flatMap fun k => 45 :: pt k) (ns.flatMap fun k => 45 :: pt' k)
  | [], _ => .nil
  | c :: ns, h => by
    rw [List.flatMap_cons, List.flatMap_cons]
    exact Tkn.append (.sign (by decide) (tkn_pt c (h c (.head _)))) (tkn_flat ns fun n hn => h n (.tail _ hn))
theorem tkn_dj (ns : List Int) (h : ∀ n ∈ ns, n < 16) : Tkn (dj pt ns) (dj pt' ns) := by
  cases ns with
  | nil => exact .nil
  | cons c ns => exact Tkn.append (tkn_pt c (h c (.head _))) (tkn_flat ns fun n hn => h n (.tail _ hn))
theorem stp_ne {c : Nat} (a : List Nat) (h : c ≠ 45) : stp c a = c :: a := if_neg h
theorem stp_name (ns : List Int) (t : List Nat) (ht : t = [] ∨ t = [45]) : ∃ t', (t' = [] ∨ t' = [45]) ∧ stp 45 (nameL ns ++ t) = nameL ns ++ t' ∨ False ∧ t' = t := by
  have key : nameL ns = [] ∨ ∃ r, nameL ns = 45 :: r := by
    induction ns with
    | nil => exact .inl rfl
    | cons c ns ih =>
      unfold nameL at ih ⊢
      rw [List.flatMap_cons]
      split
      · exact .inr ⟨_, rfl⟩
      · split
        · exact ih
        · exact .inr ⟨_, rfl⟩
  rcases key with e | ⟨r, e⟩
  · rw [e]
    rcases ht with rfl | rfl
    · exact ⟨[45], .inl ⟨.inr rfl, rfl⟩⟩
    · exact ⟨[45], .inl ⟨.inr rfl, rfl⟩⟩
  · rw [e]
    exact ⟨t, .inl ⟨ht, rfl⟩⟩
theorem stp_name' (ns : List Int) (t : List Nat) (ht : t = [] ∨ t = [45]) : ∃ t', (t' = [] ∨ t' = [45]) ∧ stp 45 (nameL ns ++ t) = nameL ns ++ t' := by
  obtain ⟨t', h | h⟩ := stp_name ns t ht
  · exact ⟨t', h⟩
  · exact h.1.elim
theorem col_flat : ∀ ns : List Int, (∀ n ∈ ns, n < 16) → ∃ t, (t = [] ∨ t = [45]) ∧ col (ns.flatMap fun k => 45 :: pt' k) = nameL ns ++ t
  | [], _ => ⟨[], .inl rfl, rfl⟩
  | c :: ns, h => by
    obtain ⟨t, ht, e⟩ := col_flat ns fun n hn => h n (.tail _ hn)
    obtain ⟨t', ht', e'⟩ := stp_name' ns t ht
    rw [List.flatMap_cons]
    unfold col at e ⊢
    rw [List.foldr_append, e]
    have hn : nameL (c :: ns) = (if c < 0 then [45, 112] else if c = 0 then [] else [45, 49, 65 + c.toNat]) ++ nameL ns := by simp [nameL]
    rw [hn]
    unfold pt'
    split
    · refine ⟨t, ht, ?_⟩
      show stp 45 (stp 45 (stp 112 (nameL ns ++ t))) = _
      rw [stp_45, stp_ne (c := 112) _ (by decide)]
      rfl
    · split
      · exact ⟨t', ht', e'⟩
      · refine ⟨t', ht', ?_⟩
        show stp 45 (stp 49 (stp (65 + c.toNat) (stp 45 (nameL ns ++ t)))) = _
        have hc := h c (.head _)
        rw [e', stp_ne (c := 65 + c.toNat) _ (by omega), stp_ne (c := 49) _ (by decide)]
        rfl
theorem name_last (ns : List Int) (h : ∀ n ∈ ns, n < 16) : nameL ns = [] ∨ ∃ l c, nameL ns = l ++ [c] ∧ c ≠ 45 := by
  induction ns with
  | nil => exact .inl rfl
  | cons c ns ih =>
    have hn : nameL (c :: ns) = (if c < 0 then [45, 112] else if c = 0 then [] else [45, 49, 65 + c.toNat]) ++ nameL ns := by simp [nameL]
    rw [hn]
    rcases ih fun n hn => h n (.tail _ hn) with e | ⟨l, d, e, hd⟩
    · rw [e, List.append_nil]
      split
      · exact .inr ⟨[45], 112, rfl, by decide⟩
      · split
        · exact .inl rfl
        · have := h c (.head _)
          exact .inr ⟨[45, 49], 65 + c.toNat, rfl, by omega⟩
    · exact .inr ⟨_ ++ l, d, by rw [e, List.append_assoc], hd⟩
theorem rst_name (ns : List Int) (t : List Nat) (h : ∀ n ∈ ns, n < 16) (ht : t = [] ∨ t = [45]) : rst (nameL ns ++ t) = nameL ns := by
  have key : rst (nameL ns) = nameL ns := by
    rcases name_last ns h with e | ⟨l, c, e, hc⟩
    · rw [e]; rfl
    · rw [e]; exact rst_stop l c hc
  rcases ht with rfl | rfl
  · rw [List.append_nil]; exact key
  · rw [rst_snoc]; exact key
/-- the law of the parts -/
theorem parts_name (ns : List Int) (h : ∀ n ∈ ns, n < 16) (h0 : ns = [] ∨ ∃ ns', ns = -1 :: ns') : rst (col (dj pt' ns)) = nameL ns := by
  rcases h0 with rfl | ⟨ns', rfl⟩
  · rfl
  · obtain ⟨t, ht, e⟩ := col_flat ns' fun n hn => h n (.tail _ hn)
    have e1 : col (dj pt' (-1 :: ns')) = nameL (-1 :: ns') ++ t := by
      show col ([45, 112] ++ ns'.flatMap fun k => 45 :: pt' k) = _
      unfold col at e ⊢
      rw [List.foldr_append, e]
      show stp 45 (stp 112 (nameL ns' ++ t)) = _
      rw [stp_ne (c := 112) _ (by decide)]
      have hn : nameL (-1 :: ns') = [45, 112] ++ nameL ns' := by simp [nameL]
      rw [hn]
      rfl
    rw [e1]
    exact rst_name _ _ h ht
/-! ## the single signs -/
def sws (l : List Nat) : List Nat := sw 41 45 (sw 40 45 (sw 34 45 (sw 59 45 (sw 58 45 (sw 92 45 (sw 47 45 (sw 32 95 l)))))))
theorem sw_append (c d : Nat) (a b : List Nat) : sw c d (a ++ b) = sw c d a ++ sw c d b := by simp [sw]
theorem sws_append (a b : List Nat) : sws (a ++ b) = sws a ++ sws b := by simp only [sws, sw_append]
theorem sws_one (k : Nat) (h : 65 ≤ k) (h' : k ≠ 92) : sws [k] = [k] := by
  have e : ∀ c d, c ≠ k → sw c d [k] = [k] := fun c d hc => by simp [sw, Ne.symm hc]
  unfold sws
  rw [e 32 95 (by omega), e 47 45 (by omega), e 92 45 (by omega), e 58 45 (by omega), e 59 45 (by omega), e 34 45 (by omega), e 40 45 (by omega), e 41 45 (by omega)]
theorem hexs_fig {n : Nat} (h : n < 16) (h0 : n ≠ 0) : hexs n = [n] := by
  rw [hexs_pos h0, show n / 16 = 0 by omega, hexs_zero, show n % 16 = n by omega]; rfl
theorem told_fig {n : Nat} (h : n < 16) (h0 : n ≠ 0) : told n = ⟨#[49, 65 + n]⟩ := by
  unfold told; rw [hexs_fig h h0]; rfl
theorem part_fig {c : Int} (h : c < 16) (h0 : 0 < c) : partOf c = ⟨#[49, 65 + c.toNat, 41]⟩ := by
  unfold partOf
  rw [if_neg (by omega), if_neg (by omega), told_fig (by omega) (by omega)]
  show (⟨#[49, 65 + c.toNat] ++ (Str.ofString ")").cps⟩ : Str) = _
  rw [show (Str.ofString ")").cps = #[41] by decide +kernel]
  rfl
theorem sws_part {c : Int} (h : c < 16) : sws (partOf c).cps.toList = pt c := by
  unfold pt
  split
  · rename_i hc
    unfold partOf
    rw [if_pos hc]
    decide +kernel
  · split
    · rename_i hn hc
      unfold partOf
      rw [if_neg hn, if_pos hc]
      decide +kernel
    · rw [part_fig h (by omega)]
      show sws ([49] ++ ([65 + c.toNat] ++ [41])) = _
      rw [sws_append, sws_append, sws_one (65 + c.toNat) (by omega) (by omega)]
      rfl
theorem part_strip {c : Int} (h : c < 16) : Txt.strip (partOf c) = partOf c := by
  by_cases h1 : c < 0
  · unfold partOf; rw [if_pos h1]; decide +kernel
  · by_cases h2 : c = 0
    · unfold partOf; rw [if_neg h1, if_pos h2]; decide +kernel
    · rw [part_fig h (by omega)]
      have : ∀ k : _root_.Fin 16, Txt.strip ⟨#[49, 65 + k.val, 41]⟩ = ⟨#[49, 65 + k.val, 41]⟩ := by decide +kernel
      exact this ⟨c.toNat, by omega⟩
theorem part_len (c : Int) (h : c < 16) : 0 < (partOf c).length ∧ (partOf c).length ≤ 7 := by
  by_cases h1 : c < 0
  · unfold partOf; rw [if_pos h1]; decide +kernel
  · by_cases h2 : c = 0
    · unfold partOf; rw [if_neg h1, if_pos h2]; decide +kernel
    · rw [part_fig h (by omega)]; show 0 < 3 ∧ 3 ≤ 7; decide
theorem join_parts : ∀ (ns : List Int), (∀ n ∈ ns, n < 16) → sws (Str.join ⟨#[45]⟩ (ns.map partOf)).cps.toList = dj pt ns
  | [], _ => rfl
  | [c], h => by
    show sws (partOf c).cps.toList = pt c ++ []
    rw [sws_part (h c (.head _)), List.append_nil]
  | c :: d :: ns, h => by
    have ih := join_parts (d :: ns) fun n hn => h n (.tail _ hn)
    show sws (partOf c ++ ⟨#[45]⟩ ++ Str.join ⟨#[45]⟩ ((d :: ns).map partOf)).cps.toList = _
    simp only [Str.cps_append, Array.toList_append]
    rw [sws_append, sws_append, ih, sws_part (h c (.head _))]
    show pt c ++ sws [45] ++ dj pt (d :: ns) = pt c ++ ((d :: ns).flatMap fun k => 45 :: pt k)
    rw [List.flatMap_cons, List.append_assoc]
    rfl
theorem slice_last (a : List Nat) (c : Nat) : Txt.slice ⟨(a ++ [c]).toArray⟩ none (some (-1)) = ⟨a.toArray⟩ := by
  have e : Txt.slice ⟨(a ++ [c]).toArray⟩ none (some (-1)) = StrLaws.sliceText ⟨(a ++ [c]).toArray⟩ none (some (a.length : Int)) := by
    have hx : (⟨(a ++ [c]).toArray⟩ : Str).length = a.length + 1 := by simp [Str.length]
    have hi : strSliceIndices none (some (-1)) 1 (⟨(a ++ [c]).toArray⟩ : Str).length = strSliceIndices none (some (a.length : Int)) 1 (⟨(a ++ [c]).toArray⟩ : Str).length := by
      rw [hx]
      unfold strSliceIndices
      have h1 : ¬ ((a.length : Int) < 0) := by omega
      have h2 : (-1 : Int) + ((a.length + 1 : Nat) : Int) = (a.length : Int) := by omega
      simp only [if_neg h1, show (-1 : Int) < 0 from by decide, if_true, h2]
    unfold Txt.slice StrLaws.sliceText
    rw [hi]
  rw [e, StrLaws.sliceText_to (by simp; omega)]
  simp
theorem item_last (a : List Nat) (c : Nat) : Txt.item ⟨(a ++ [c]).toArray⟩ (-1) = ⟨#[c]⟩ := by
  unfold Txt.item Txt.charAt
  rw [StrLaws.seqIndex_neg (by decide) (by simp [Str.length]; omega)]
  have : ((-1 : Int) + ((⟨(a ++ [c]).toArray⟩ : Str).length : Int)).toNat = a.length := by simp [Str.length]; omega
  rw [this]
  simp
theorem sws_len (l : List Nat) : (sws l).length = l.length := by simp [sws, sw]
theorem dj_len (f : Int → List Nat) (b : Nat) (hf : ∀ c, (f c).length ≤ b) : ∀ ns : List Int, (dj f ns).length ≤ (b + 1) * ns.length
  | [] => Nat.zero_le _
  | c :: ns => by
    have h1 : ∀ l : List Int, (l.flatMap fun k => 45 :: f k).length ≤ (b + 1) * l.length := by
      intro l
      induction l with
      | nil => exact Nat.zero_le _
      | cons d l ih =>
        rw [List.flatMap_cons, List.length_append, List.length_cons, List.length_cons, Nat.mul_succ]
        have := hf d
        omega
    have h2 := h1 ns
    have h3 := hf c
    show (f c ++ _).length ≤ _
    rw [List.length_append, List.length_cons, Nat.mul_succ]
    omega
theorem pt_len (c : Int) : (pt c).length ≤ 7 := by unfold pt; (repeat' split) <;> simp [UW]
theorem pt'_len (c : Int) : (pt' c).length ≤ 3 := by unfold pt'; (repeat' split) <;> simp
theorem part_32 {c : Int} (h : c < 16) : 32 ∉ (partOf c).cps.toList := by
  by_cases h1 : c < 0
  · unfold partOf; rw [if_pos h1]; decide +kernel
  · by_cases h2 : c = 0
    · unfold partOf; rw [if_neg h1, if_pos h2]; decide +kernel
    · rw [part_fig h (by omega)]
      simp
      omega
theorem join_32 : ∀ (ns : List Int), (∀ n ∈ ns, n < 16) → 32 ∉ (Str.join ⟨#[45]⟩ (ns.map partOf)).cps.toList
  | [], _ => by intro h; cases h
  | [c], h => part_32 (h c (.head _))
  | c :: d :: ns, h => by
    have ih := join_32 (d :: ns) fun n hn => h n (.tail _ hn)
    show 32 ∉ (partOf c ++ ⟨#[45]⟩ ++ Str.join ⟨#[45]⟩ ((d :: ns).map partOf)).cps.toList
    simp only [Str.cps_append, Array.toList_append, List.mem_append, not_or]
    exact ⟨⟨part_32 (h c (.head _)), by decide⟩, ih⟩
theorem occ_none_of {x : Str} {c n : Nat} (h : c ∉ x.cps.toList) : (occurrences x ⟨#[c]⟩ 0 x.length n).isEmpty = true := by
  obtain ⟨f, hc⟩ := StrLaws.occ_chain x ⟨#[c]⟩ n
  cases ho : occurrences x ⟨#[c]⟩ 0 x.length n with
  | nil => rfl
  | cons i r =>
    rw [ho] at hc
    exact absurd (List.mem_of_getElem? ((StrLaws.subAt_one x c i).mp hc.2.1)) h
end

/-! FP -/
section
set_option maxRecDepth 100000
set_option maxHeartbeats 4000000
theorem bind_star {prog : Program} {w : World} {A : Around} {s : Shared} {E : Value → Shared → Prop} {name qual : Str} {body : List Stmt} {scope : Scope} {cdv ct doc pm : Value} {an : Option Addr} {vs : List Value} {x : Arg} {Q : List (Str × Value) → Shared → Prop}
    (hz : vs.length ≤ 1000) (q : Q [(x.arg, .ref s.heap.objs.size)] { s with heap := s.heap.push { cls := .type "tuple", data := .seq vs.toArray } }) :
    wpAny (model prog w) A (bindArgs (fnOf name qual { posonlyargs := [], args := [], vararg := some x, kwonlyargs := [], kw_defaults := [], kwarg := none, defaults := [] } body scope .none .none doc pm an cdv ct) ⟨vs, []⟩) Q E s := by
  have key : bindArgs (fnOf name qual { posonlyargs := [], args := [], vararg := some x, kwonlyargs := [], kw_defaults := [], kwarg := none, defaults := [] } body scope .none .none doc pm an cdv ct) ⟨vs, []⟩ = (newTuple vs >>= fun t => pure [(x.arg, t)]) := by
    cases vs <;> rfl
  rw [key]
  refine wpAny_bind (wpAny_newTuple ?_ ?_)
  · exact wpAny_pure q
  · exact Nat.le_trans hz (by decide)

theorem shared_eta {s s' : Shared} (h1 : s'.os = s.os) (h2 : s'.drawn = s.drawn) : s' = { s with heap := s'.heap, toks := s'.toks, gens := s'.gens } := by
  cases s; cases s'; cases h1; cases h2; rfl
theorem joinD {prog : Program} {w : World} {A : Around} {E : Value → Shared → Prop} {s : Shared} {h₀ : Heap} {L a : Addr} {m : Str → Option Value} {n : Nat} {F : Nat → Value → Prop} {Q : Value → Shared → Prop} {sep : Str} {t : Tok}
    (Fh : Fr h₀ L s.heap m) (G : AllBare s.gens) (X : Gen prog w A L a n F s) (tx : Nat → Str) (htx : ∀ j v, F j v → ∃ u, v = .str (tx j) u)
    (hok : JoinOk sep ((List.range n).map tx) = true) (hsz : n ≤ sizeLine)
    (hQ : ∀ s' t', Fr h₀ L s'.heap m → AllBare s'.gens → s'.os = s.os → s'.drawn = s.drawn → Q (.str (Txt.join sep ((List.range n).map tx)) t') s') :
    wpAny (model prog w) A (call (.builtin "str.join") [.str sep t, .ref a]) Q E s := by
  obtain ⟨fp, wr, g, St, W, hst, hT, ha, hfp, hwr⟩ := X
  have W2 := W.in4_2
  refine SC.joinGen W2 hT hst hfp ha (fun j v hv => by obtain ⟨u, e⟩ := htx j v hv; exact ⟨_, u, e⟩) (fun s' lt hm hacc => ?_) hsz
  have hl : lt.map (·.1) = (List.range n).map tx := by
    have hn : lt.length = n := by simpa [strValues] using hacc.1
    refine List.ext_getElem (by simpa using hn) fun j h1 h2 => ?_
    have hj : j < lt.length := by simpa using h1
    obtain ⟨u, hv⟩ := htx j _ (hacc.2 j (.str lt[j].1 lt[j].2) (by simp [strValues, List.getElem?_eq_getElem hj]))
    injection hv with e1 _
    simpa using e1
  rw [hl]
  have g1 := G.movedS hm
  have f1 := Fh.moved hm hwr
  exact ⟨hok, fun t' k => hQ { s' with toks := k } t' f1 g1 hm.os hm.drawn⟩
theorem strip_leaf {prog : Program} {w : World} {A : Around} {E : Value → Shared → Prop} {s : Shared} {env : Env} {m : Str → Option Value} {x : Str} {t : Tok} {y : Str} {p1 p2 pos : Pos} {Q : Value → Shared → Prop}
    (hb : attributeBase (.Name y p1) "strip" env (eval (.Name y p1) env) = eval (.Name y p1) env) (hx : env.kindOf y = some .local) (hk : env.scope.kind = .function) (hns : s.heap.Ns env.locals m) (hm : m y = some (.str x t)) (hd : (y == ("__debug__" : Str)) = false) (hline : (p2.endLine == pos.line) = true)
    (hsz : x.length ≤ 1000000) (h : ∀ t' k, Q (.str (Txt.strip x) t') { s with toks := k }) :
    wpAny (model prog w) A (eval (.Call (.Attribute (.Name y p1) "strip" p2) [] [] pos) env) Q E s := by
  refine Call_method0 hb hline (wpAny_Name (wpAny_loadName_local hk hx hns hm ?_) hd)
  exact SB.strip h (by rw [sizeLine_eq]; omega)
section
variable {prog : Program} {w : World} {A : Around} {E : Value → Shared → Prop} {s : Shared} {x y z : Str} {t u v : Tok} {Q : Value → Shared → Prop}
/-- a replacement, the number of tokens kept in sight -/
theorem repG (hyz : (y == z) = false) (hzl : z.length ≤ 1) (hu : u ≠ 0) (hv : v ≠ 0) (huv : u ≠ v) (hx : x.length ≤ 100000)
    (h : ∀ t' k, s.toks ≤ k → Q (.str (Txt.replace x y z) t') { s with toks := k }) : wpAny (model prog w) A (call (.builtin "str.replace") [.str x t, .str y u, .str z v]) Q E s := by
  have hl : Builtin.Str.tooLong (x.length + (Builtin.Str.occurrences x y 0 x.length (x.length + 1)).length * z.length) = false := by
    have h1 := StrLaws.occ_length_le x y 0 x.length (x.length + 1)
    have h2 : (Builtin.Str.occurrences x y 0 x.length (x.length + 1)).length * z.length ≤ (x.length + 1) * 1 := Nat.mul_le_mul h1 hzl
    unfold Builtin.Str.tooLong sizeLine
    exact decide_eq_false (by omega)
  have h3 : (x.length + 1) * z.length ≤ (x.length + 1) * 1 := Nat.mul_le_mul_left _ hzl
  refine call_gives F.slot_str_replace (typeIs_str _ _ _) F.entry_str_replace (F.args_str_replace_3 _ _ _)
    (gives_str_replace x y z t u v fun _ => ⟨by simp [hu, hv], by simp [huv], hyz, hl⟩) ?_
  unfold Txt.replace at h
  cases hc : ((Builtin.Str.occurrences x y 0 x.length (x.length + 1)).isEmpty || (y.length == 0 && z.length == 0))
  · rw [hc] at h
    simp only [Bool.false_eq_true, if_false] at h ⊢
    exact ⟨fits_replaced y (by omega), h _ _ (Nat.le_succ _)⟩
  · rw [hc] at h
    simp only [if_true] at h ⊢
    exact h t s.toks (Nat.le_refl _)
theorem one_ne {c d : Nat} (h : c ≠ d) : ((⟨#[c]⟩ : Str) == ⟨#[d]⟩) = false := by
  rw [beq_eq_false_iff_ne]
  intro e
  injection e with e
  have := congrArg (fun a : Array Nat => a.getD 0 0) e
  exact h this
theorem rep1 {c d : Nat} (hy : y = ⟨#[c]⟩) (hz : z = ⟨#[d]⟩) (hcd : c ≠ d) (hu : u ≠ 0) (hv : v ≠ 0) (huv : u ≠ v) (hx : x.length ≤ 100000)
    (h : ∀ t' k, s.toks ≤ k → Q (.str ⟨(sw c d x.cps.toList).toArray⟩ t') { s with toks := k }) : wpAny (model prog w) A (call (.builtin "str.replace") [.str x t, .str y u, .str z v]) Q E s := by
  refine repG (by rw [hy, hz]; exact one_ne hcd) (by rw [hz]; exact Nat.le_refl 1) hu hv huv hx ?_
  rw [replace_sw hy hz]
  exact h
/-- nothing to replace -/
theorem rep0 (hyl : (y.length == 0) = false) (ho : (Builtin.Str.occurrences x y 0 x.length (x.length + 1)).isEmpty = true) (h : Q (.str x t) s) : wpAny (model prog w) A (call (.builtin "str.replace") [.str x t, .str y u, .str z v]) Q E s := by
  refine call_gives F.slot_str_replace (typeIs_str _ _ _) F.entry_str_replace (F.args_str_replace_3 _ _ _)
    (gives_str_replace x y z t u v fun hc => by rw [ho] at hc; cases hc) ?_
  rw [ho, Bool.true_or, if_pos rfl]
  exact h
end
theorem sw_len (c d : Nat) (l : List Nat) : (sw c d l).length = l.length := by simp [sw]
theorem sw_free {c d : Nat} {l : List Nat} (h : c ∉ l) : sw c d l = l := by
  unfold sw
  conv => rhs; rw [← List.map_id l]
  refine List.map_congr_left fun k hk => ?_
  rw [if_neg (fun e => h (by rw [← e]; exact hk))]; rfl
theorem sw_len' {c d : Nat} {x : Str} {n : Nat} (h : x.length ≤ n) : (⟨(sw c d x.cps.toList).toArray⟩ : Str).length ≤ n := by
  show (sw c d x.cps.toList).toArray.size ≤ n
  rw [List.size_toArray, sw_len]
  simpa [Str.length] using h
/-- a while loop, the tokens' number not nought -/
def WhileStepT (h₀ : Heap) (L : Addr) (s : Shared) (J : Nat → (Str → Option Value) → Prop) (Q : Flow → Shared → Prop) (n : Nat) (f : Flow) (s₃ : Shared) : Prop :=
  match f with
  | .next | .cont => ∃ h' tk m₂ n', s₃ = { s with heap := h', toks := tk } ∧ 0 < tk ∧ Fr h₀ L h' m₂ ∧ n' < n ∧ J n' m₂
  | .brk => Q .next s₃
  | .ret v => Q (.ret v) s₃
theorem While_t {prog : Program} {w : World} {A : Around} {Q : Flow → Shared → Prop} {s : Shared} {env : Env} {h₀ : Heap} {L : Addr} {test : PySem.Expr} {body : List Stmt} {pos : Pos} {m : Str → Option Value} (J : Nat → (Str → Option Value) → Prop) {n₀ : Nat}
    (F : Fr h₀ L s.heap m) (ht : 0 < s.toks) (hJ : J n₀ m)
    (turn : ∀ n m₁ h₁ tk₁, 0 < tk₁ → Fr h₀ L h₁ m₁ → J n m₁ →
      wpAny (model prog w) A (isTrue test env (eval test env)) (fun b s₂ =>
        if b = true then wpAny (model prog w) A (execs body env) (WhileStepT h₀ L s J Q n) (fun _ _ => False) s₂ else Q .next s₂) (fun _ _ => False) { s with heap := h₁, toks := tk₁ }) :
    wpAny (model prog w) A (exec (.While test body [] pos) env) Q (fun _ _ => False) s := by
  refine wpAny_While (codeAny_whileLoop (fun n s' => ∃ h₁ tk₁ m₁, s' = { s with heap := h₁, toks := tk₁ } ∧ 0 < tk₁ ∧ Fr h₀ L h₁ m₁ ∧ J n m₁) ?_ n₀ ⟨s.heap, s.toks, m, rfl, ht, F, hJ⟩)
  rintro n s' ⟨h₁, tk₁, m₁, rfl, ht₁, F₁, J₁⟩
  refine wpAny_mono (turn n m₁ h₁ tk₁ ht₁ F₁ J₁) (fun b s₂ h₂ => ?_) fun _ _ x => x.elim
  cases b with
  | false => exact wpAny_execs_nil h₂
  | true =>
    refine wpAny_mono h₂ (fun f s₃ h₃ => ?_) fun _ _ x => x.elim
    cases f with
    | next =>
      obtain ⟨h', tk, m₂, n', rfl, ht, F₂, hn, J₂⟩ := h₃
      exact ⟨n', hn, h', tk, m₂, rfl, ht, F₂, J₂⟩
    | cont =>
      obtain ⟨h', tk, m₂, n', rfl, ht, F₂, hn, J₂⟩ := h₃
      exact ⟨n', hn, h', tk, m₂, rfl, ht, F₂, J₂⟩
    | brk => exact h₃
    | ret v => exact h₃
local macro_rules | `(tactic| walk_at "execs cons") => `(tactic| (refine wpAny_execs_cons ?_))
local macro_rules | `(tactic| walk_at "execs nil") => `(tactic| (refine wpAny_execs_nil ?_))
theorem platform_ {w : World} {p : Program} {loose : List Str} {mg mb : Str → Option Value} {dp un : Nat} {fr : Option (List Env)} {gd : Option (List Code)} {s : Shared} {Q E : Value → Shared → Prop} {bm : Addr} {ob : Obj} (ns : List Int) (vs : List Value) (ps : Array Value)
    (X : (hd.heap_39 w.params).In s.heap) (T : TopRead p loose mg mb s.heap) (hA : AOk ⟨none, dp, fr, gd, un⟩ 3) (hG : AllBare s.gens) (M : BMod s.heap mainGlobals mg bm ob) (hIs : s.heap.IsCode 50 46 ps) (hTab : s.heap.TableAt 50 46 ps)
    (hv : StrsAre vs (ns.map partOf)) (hns : ∀ n ∈ ns, n < 16) (hn0 : ns = [] ∨ ∃ ns', ns = -1 :: ns') (hlen : ns.length ≤ 1000)
    (hret : ∀ h' tk g t more, Heap.ExtBut 46 s.heap h' → h'.IsCode 50 46 (ps ++ more) → h'.TableAt 50 46 (ps ++ more) → AllBare g → Q (.str (nameS ns) t) { s with heap := h', toks := tk, gens := g }) :
    wpAny (model PySem.Challenge.rw_pe0065_01.prog w) ⟨none, dp, fr, gd, un⟩ (call (.ref 51) vs) Q E s := by
  have hvl := SA.len hv
  generalize hts0 : ns.map partOf = ts at hv hvl
  have hts : ∀ x ∈ ts, 0 < x.length ∧ x.length ≤ 7 := fun x hx => by
    rw [← hts0] at hx
    obtain ⟨c, hc, rfl⟩ := List.mem_map.mp hx
    exact part_len c (hns c hc)
  have htl : ts.length = ns.length := by rw [← hts0, List.length_map]
  revert X
  k_fill
  intro X
  refine wpAny_call (codeAny_call_function (Nat.lt_of_le_of_lt (Nat.le_add_right _ _) hA.dep) (X 51 _ (by k_is)) rfl rfl rfl rfl (codeRec_of X (by k_is)) (bind_star (by omega) ?_))
  generalize hH : s.heap.push { cls := .type "tuple", data := .seq vs.toArray } = H
  have kH : ∀ b o, s.heap.get? b = some o → H.get? b = some o := fun b o e => by rw [← hH]; exact Heap.get?_push_of_some _ e
  have hTp : H.IsTuple s.heap.objs.size vs.toArray := by rw [← hH]; exact ⟨_, Heap.get?_push_size _ rfl, rfl, _, rfl⟩
  have X : (hd.heap_39 w.params).In H := X.keeps kH
  have T := T.keeps kH
  have M := M.keeps kH
  have hIs := hIs.keeps kH
  have hTab0 := hTab
  have hTab := hTab.keeps kH
  have hTpn : s.heap.get? s.heap.objs.size = none := Heap.get?_none_of_le (Nat.le_refl _)
  generalize s.heap.objs.size = Tp at hTp hTpn
  refine wpAny_newFunctionEnv (by decide) (locs rfl) (fun h₁ hns hsb => ⟨T.nolimit.fresh _ hsb, codeAny_func ?_⟩) rfl
  have F : Fr H H.objs.size h₁ (fun y => if y = "args" then some (.ref Tp) else none) := by
    refine Fr.map ⟨hns, fun b o e => ?_, Nat.le_refl _⟩ (by intro y; simp [List.lookup]; (repeat' split) <;> simp_all)
    exact hsb.extBut b o (Nat.ne_of_lt (Heap.lt_size e)) (Heap.get?_push_of_some _ e)
  generalize H.objs.size = L at F
  clear hns hsb
  refine wpAny_mono (E := fun _ _ => False) ?_ (fun fl s' hl => hl) fun _ _ y => y.elim
  show wpAny _ (Around.deeper ⟨none, dp, fr, gd, un⟩ (envOf "_platform" _ L 51 (.ref 50))) (execs _ (envOf "_platform" _ L 51 (.ref 50))) _ _ _
  walk_at "mineP"
  refine gen_both (c := 50) (P := 46) (L := L) (ps := ps) (mg := mg) (bm := bm) (ob := ob) (cl := []) rfl rfl rfl rfl (by decide) rfl rfl rfl (by have := hA.dep; show dp + 1 < _; simp only at this; omega) ?_ (fun _ => rfl)
  walk_at "mineP"
  have hTp1 : h₁.IsTuple Tp vs.toArray := hTp.at fun o e => F.keep _ _ e
  refine call_filter (items := vs.toArray) hTp1 ?_
  have k2 : ∀ b o, h₁.get? b = some o → ((h₁.push { cls := .type "tuple_iterator", data := .fields #[.ref Tp, .int 0 0] }).push (filterObj h₁.objs.size)).get? b = some o := fun b o e => Heap.get?_push_of_some _ (Heap.get?_push_of_some _ e)
  have hI : ((h₁.push { cls := .type "tuple_iterator", data := .fields #[.ref Tp, .int 0 0] }).push (filterObj h₁.objs.size)).get? (h₁.objs.size + 1) = some (filterObj h₁.objs.size) := by
    have := Heap.get?_push_size (h₁.push { cls := .type "tuple_iterator", data := .fields #[.ref Tp, .int 0 0] }) (o := filterObj h₁.objs.size) rfl
    rw [Heap.size_push] at this; exact this
  have hit : ((h₁.push { cls := .type "tuple_iterator", data := .fields #[.ref Tp, .int 0 0] }).push (filterObj h₁.objs.size)).IsTupleIter h₁.objs.size Tp 0 := ⟨_, Heap.get?_push_of_some _ (Heap.get?_push_size _ rfl), rfl, rfl⟩
  have hsz2 : ((h₁.push { cls := .type "tuple_iterator", data := .fields #[.ref Tp, .int 0 0] }).push (filterObj h₁.objs.size)).objs.size = h₁.objs.size + 2 := by simp
  have hl := hTp1.at fun o e => k2 _ _ e
  have F2 := frExt F k2
  generalize (h₁.push { cls := .type "tuple_iterator", data := .fields #[.ref Tp, .int 0 0] }).push (filterObj h₁.objs.size) = h₂ at *
  have hTlt : Tp < h₁.objs.size := by obtain ⟨o, e, _⟩ := hTp1; exact Heap.lt_size e
  have hLlt : L < h₁.objs.size := F.ns.lt
  generalize h₁.objs.size = it at *
  have hitems : ∀ (i : Nat) (v : Value), vs.toArray[i]? = some v → ∃ x t, v = Value.str x t ∧ ts.getD i "" = x ∧ 0 < x.length ∧ x.length < 1000000 := by
    intro i v hvi
    have hvi' : vs[i]? = some v := by simpa using hvi
    have hlt : i < ts.length := by rw [← hvl]; exact (List.getElem?_eq_some_iff.mp hvi').1
    obtain ⟨t, ht⟩ := StrsAre.get hv i ts[i] (List.getElem?_eq_getElem hlt)
    rw [hvi'] at ht
    have := hts ts[i] (List.getElem_mem hlt)
    exact ⟨ts[i], t, Option.some.inj ht, by simp [List.getD_eq_getElem?_getD, hlt], this.1, by omega⟩
  have W : ∀ A' : Around, A'.handled = none → Walks PySem.Challenge.rw_pe0065_01.prog w A' (it + 1) [it + 1, it, Tp] [it] vs.toArray.size (fun i v => vs.toArray[i]? = some v) (fun i h => h.get? (it + 1) = some (filterObj it) ∧ h.IsTupleIter it Tp i ∧ h.IsTuple Tp vs.toArray) :=
    fun A' hA' => walks_filter hA' (it + 1) it Tp (Nat.ne_of_lt (Nat.lt_succ_self _)) (Nat.ne_of_lt hTlt) vs.toArray fun i v hvi => by
      obtain ⟨x, t, e, _, h3, h4⟩ := hitems i v hvi
      exact ⟨x, t, e, h3, h4⟩
  refine (W _ rfl).self 0 _ _ _ ⟨hI, hit, hl⟩ ?_
  refine ⟨T.nolimit.keeps F2.keep, M.keeps F2.keep, hIs.keeps F2.keep, hTab.keeps F2.keep, it + 1, _, _, _, _, _, fun _ => true, fun i y => ∃ x t, ts.getD i "" = x ∧ y = Value.str (Txt.strip x) t, rfl, W, ⟨hI, hit, hl⟩, ?_, ?_, ?_, ?_, ?_, ?_, ?_⟩
  · intro b hb
    rw [hsz2]
    rcases List.mem_cons.mp hb with rfl | hb
    · exact Nat.lt_succ_self _
    · rcases List.mem_cons.mp hb with rfl | hb
      · exact Nat.lt_of_lt_of_le (Nat.lt_succ_self _) (Nat.le_succ _)
      · rw [List.mem_singleton.mp hb]; exact Nat.lt_of_lt_of_le hTlt (Nat.le_add_right _ _)
  · have h1 : 46 < H.objs.size := Heap.lt_size hTab.2
    have h3 := F.above
    have h4 : L < it := hLlt
    simp only [List.mem_cons, List.not_mem_nil, or_false]
    rintro (e | e | e)
    · exact absurd (show (46 : Nat) = it + 1 from e) (by omega)
    · exact absurd (show (46 : Nat) = it from e) (by omega)
    · rw [← e, hTab0.2] at hTpn; cases hTpn
  · obtain ⟨_, hns', _⟩ := T.nolimit
    obtain ⟨o, _, _, ho, _⟩ := hns'
    have h1 := Heap.lt_size ho
    have h3 := F.above
    have h4 : L < it := hLlt
    simp only [List.mem_cons, List.not_mem_nil, or_false]
    intro e
    exact absurd (show cStatics = it from e) (Nat.ne_of_lt (Nat.lt_of_lt_of_le h1 (Nat.le_trans h3 (Nat.le_of_lt h4))))
  · intro b hb; rw [List.mem_singleton.mp hb]; exact hLlt
  · rw [hsz2]; exact Nat.lt_of_lt_of_le hLlt (Nat.le_add_right _ _)
  · intro code C href
    refine ⟨fun A' E' i v s₂ m₂ hA' hP hn hm _ => wpAny_pure ⟨rfl, _, _, rfl, fun _ _ e => e⟩, fun A' E' i v s₂ m₂ hA' hP _ hn hm _ => ?_⟩
    obtain ⟨x, t, rfl, hx, _, hlx⟩ := hitems i v hP
    clear F F2
    have F9 : Fr {} C s₂.heap m₂ := ⟨hn, fun b o e => by simp [Heap.get?] at e, Nat.zero_le _⟩
    refine strip_leaf rfl rfl rfl hn hm rfl rfl (Nat.le_of_lt hlx) ?_
    intro t' k
    exact ⟨⟨x, t', hx, rfl⟩, _, _, rfl, fun _ _ e => e⟩
  · intro a s₅ more hx5 hI5 hT5 hg5 ho5 hd5 ha G5
    obtain ⟨B5, F5⟩ := (Based.start hIs hTab (by decide)).grow F2 hx5 hI5 hT5
    have hg5 : AllBare s₅.gens := by
      obtain ⟨gs, hb, e⟩ := hg5
      rw [e]; exact AllBare.push hG hb
    have hd5 : s₅.drawn = s.drawn := hd5
    have fin : ∀ {h : Heap} {m : Str → Option Value}, Fr (regrown H 46 (ps ++ more)) L h m → Heap.ExtBut 46 s.heap h := fun F b o hb e =>
      F.keep _ _ ((Heap.get?_update_other _ _ (Ne.symm hb)).trans (kH _ _ e))
    have ho5 : s₅.os = s.os := ho5
    clear hx5 F2 F W k2
    have F := F5
    clear F5
    have hn5 : (passing (fun x => true) vs.toArray.size 0) = List.range ts.length := by
      unfold passing; rw [List.drop_zero, filter_tt]; simp [hvl]
    rw [hn5, List.length_range] at G5
    walk_at "mineP"
    have hjl : (List.range ts.length).map (fun j => ts.getD j "") = ts := by
      refine List.ext_getElem (by simp) fun j h1 h2 => by simp [List.getElem?_eq_getElem h2]
    refine joinD (n := ts.length) F hg5 G5 (fun j => ts.getD j "") ?_ ?_ ?_ ?_
    · rintro j v ⟨i, hi, x, t, hx, rfl⟩
      have hj : j < ts.length := by
        have := (List.getElem?_eq_some_iff.mp hi).1
        simpa using this
      rw [List.getElem?_range hj] at hi
      cases hi
      refine ⟨t, ?_⟩
      rw [← hx]
      have hm : ts.getD j "" ∈ ts := by
        rw [List.getD_eq_getElem?_getD, List.getElem?_eq_getElem hj]; exact List.getElem_mem hj
      rw [← hts0] at hm ⊢
      obtain ⟨c, hc, e⟩ := List.mem_map.mp hm
      rw [← e, part_strip (hns c hc)]
    · rw [hjl]
      refine joinOk_of_weight ?_ (by decide +kernel)
      have : ∀ l : List Str, (∀ x ∈ l, x.length ≤ 7) → (l.map (·.length)).sum ≤ 7 * l.length := by
        intro l
        induction l with
        | nil => intro _; exact Nat.le_refl _
        | cons x l ih =>
          intro hl
          have h1 := ih fun y hy => hl y (.tail _ hy)
          have h2 := hl x (.head _)
          simp only [List.map_cons, List.sum_cons, List.length_cons]
          omega
      have := this ts fun x hx => (hts x hx).2
      omega
    · rw [htl, sizeLine_eq]; omega
    intro s' t' F hg6 ho6 hd6
    have es : s' = { s with heap := s'.heap, toks := s'.toks, gens := s'.gens } := shared_eta (ho6.trans ho5) (hd6.trans hd5)
    generalize s'.gens = g at es hg6
    generalize s'.toks = tk6 at es
    generalize s'.heap = h₃ at es F
    subst es
    rw [hjl]
    have hJ : Txt.join (Str.ofString "-") ts = Str.join ⟨#[45]⟩ ts := by
      rw [← hts0]; exact StrLaws.glued_eq_join _ _
    rw [hJ]
    walk_at "mineP"
    have hjp : sws (Str.join ⟨#[45]⟩ ts).cps.toList = dj pt ns := by rw [← hts0]; exact join_parts ns hns
    have hjn : 32 ∉ (Str.join ⟨#[45]⟩ ts).cps.toList := by rw [← hts0]; exact join_32 ns hns
    have hjs : (Str.join ⟨#[45]⟩ ts).cps.toList.length ≤ 10000 := by
      rw [← sws_len, hjp]
      have := dj_len pt 7 pt_len ns
      omega
    generalize Str.join ⟨#[45]⟩ ts = x0 at hjp hjn hjs
    have hxs : x0.length ≤ 100000 := by simp [Str.length] at hjs ⊢; omega
    refine rep0 rfl ?_ ?_
    · exact occ_none_of hjn
    walk_at "mineP"
    refine rep1 (c := 47) (d := 45) rfl rfl (by decide) (by first | exact Nat.succ_ne_zero _ | exact Nat.ne_of_gt hk) (Nat.succ_ne_zero _) (Nat.ne_of_lt (Nat.lt_succ_self _)) hxs ?_
    intro t1 k hk1
    replace hxs := sw_len' (c := 47) (d := 45) hxs
    have hk := Nat.lt_of_lt_of_le (Nat.succ_pos _) hk1
    clear hk1
    walk_at "mineP"
    refine rep1 (c := 92) (d := 45) rfl rfl (by decide) (by first | exact Nat.succ_ne_zero _ | exact Nat.ne_of_gt hk) (Nat.succ_ne_zero _) (Nat.ne_of_lt (Nat.lt_succ_self _)) hxs ?_
    intro t2 k hk1
    replace hxs := sw_len' (c := 92) (d := 45) hxs
    have hk := Nat.lt_of_lt_of_le (Nat.succ_pos _) hk1
    clear hk1
    walk_at "mineP"
    refine rep1 (c := 58) (d := 45) rfl rfl (by decide) (by first | exact Nat.succ_ne_zero _ | exact Nat.ne_of_gt hk) (Nat.succ_ne_zero _) (Nat.ne_of_lt (Nat.lt_succ_self _)) hxs ?_
    intro t3 k hk1
    replace hxs := sw_len' (c := 58) (d := 45) hxs
    have hk := Nat.lt_of_lt_of_le (Nat.succ_pos _) hk1
    clear hk1
    walk_at "mineP"
    refine rep1 (c := 59) (d := 45) rfl rfl (by decide) (by first | exact Nat.succ_ne_zero _ | exact Nat.ne_of_gt hk) (Nat.succ_ne_zero _) (Nat.ne_of_lt (Nat.lt_succ_self _)) hxs ?_
    intro t4 k hk1
    replace hxs := sw_len' (c := 59) (d := 45) hxs
    have hk := Nat.lt_of_lt_of_le (Nat.succ_pos _) hk1
    clear hk1
    walk_at "mineP"
    refine rep1 (c := 34) (d := 45) rfl rfl (by decide) (by first | exact Nat.succ_ne_zero _ | exact Nat.ne_of_gt hk) (Nat.succ_ne_zero _) (Nat.ne_of_lt (Nat.lt_succ_self _)) hxs ?_
    intro t5 k hk1
    replace hxs := sw_len' (c := 34) (d := 45) hxs
    have hk := Nat.lt_of_lt_of_le (Nat.succ_pos _) hk1
    clear hk1
    walk_at "mineP"
    refine rep1 (c := 40) (d := 45) rfl rfl (by decide) (by first | exact Nat.succ_ne_zero _ | exact Nat.ne_of_gt hk) (Nat.succ_ne_zero _) (Nat.ne_of_lt (Nat.lt_succ_self _)) hxs ?_
    intro t6 k hk1
    replace hxs := sw_len' (c := 40) (d := 45) hxs
    have hk := Nat.lt_of_lt_of_le (Nat.succ_pos _) hk1
    clear hk1
    walk_at "mineP"
    refine rep1 (c := 41) (d := 45) rfl rfl (by decide) (by first | exact Nat.succ_ne_zero _ | exact Nat.ne_of_gt hk) (Nat.succ_ne_zero _) (Nat.ne_of_lt (Nat.lt_succ_self _)) hxs ?_
    intro t7 k hk1
    replace hxs := sw_len' (c := 41) (d := 45) hxs
    have hk := Nat.lt_of_lt_of_le (Nat.succ_pos _) hk1
    clear hk1
    walk_at "mineP"
    have hsw : sw 41 45 (sw 40 45 (sw 34 45 (sw 59 45 (sw 58 45 (sw 92 45 (sw 47 45 x0.cps.toList)))))) = dj pt ns := by
      rw [← hjp]
      unfold sws
      rw [sw_free hjn]
    rw [hsw] at hxs ⊢
    have hrep : Txt.replace ⟨(dj pt ns).toArray⟩ (Str.ofString "unknown") (Str.ofString "") = ⟨(dj pt' ns).toArray⟩ := by
      refine replace_is (by decide +kernel) ?_
      rw [show (Str.ofString "unknown").cps.toList = UW by decide +kernel, show (Str.ofString "").cps.toList = [] by decide +kernel]
      exact (tkn_dj ns hns).rep
    refine repG (by decide +kernel) (by decide +kernel) (by first | exact Nat.succ_ne_zero _ | exact Nat.ne_of_gt hk) (Nat.succ_ne_zero _) (Nat.ne_of_lt (Nat.lt_succ_self _)) hxs ?_
    intro t8 k8 hk1
    have hk := Nat.lt_of_lt_of_le (Nat.succ_pos _) hk1
    clear hk1
    rw [hrep]
    walk_at "mineP"
    rename Fr _ _ _ _ => F
    have hl0 : (dj pt' ns).length ≤ 10000 := by
      have := dj_len pt' 3 pt'_len ns
      omega
    refine While_t (L := L) (h₀ := regrown H 46 (ps ++ more)) (fun n m₁ => ∃ l t, m₁ "platform" = some (.str ⟨l.toArray⟩ t) ∧ l.length = n ∧ n ≤ 10000 ∧ col l = col (dj pt' ns)) (n₀ := (dj pt' ns).length) F (Nat.succ_pos _) ⟨_, _, rfl, rfl, hl0, rfl⟩ ?_
    clear F
    rintro n m₁ h tk ht F ⟨l, t, e1, rfl, hl, hc⟩
    have F := Fr.see F e1
    clear e1
    show wpAny _ _ _ _ _ _
    walk_at "mineP"
    refine repG (by decide +kernel) (by decide +kernel) (Nat.ne_of_gt ht) (Nat.succ_ne_zero _) (Nat.ne_of_lt (Nat.lt_succ_self _)) (by show l.toArray.size ≤ _; rw [List.size_toArray]; omega) ?_
    intro t9 k9 hk9
    have hk9 := Nat.lt_of_lt_of_le (Nat.succ_pos _) hk9
    obtain ⟨l', e2, g1, g2, g3, g4⟩ := replace_dd ⟨l.toArray⟩
    rw [show Txt.replace ⟨l.toArray⟩ (Str.ofString "--") (Str.ofString "-") = ⟨l'.toArray⟩ by rw [← e2]; congr 1]
    replace g1 := g1.trans hc
    walk_at "mineP"
    rotate_left
    · rename (_ == _) = false => hne
      rename Fr _ _ _ _ => F
      refine ⟨_, _, _, l'.length, rfl, Nat.succ_pos _, F, ?_, l', _, rfl, rfl, by simp at g4; omega, g1⟩
      rcases g2 with e | e
      · exfalso
        rw [e] at hne
        simp at hne
      · simpa using e
    · rename (_ == _) = true => heq
      rename Fr _ _ _ _ => F
      have hll : l' = l := by
        have := eq_of_beq heq
        injection this with this
        exact congrArg Array.toList this
      subst hll
      have hrs : rst l' = nameL ns := by
        rw [← g3 (by simp), g1]; exact parts_name ns hns hn0
      clear g1 g2 g3 g4 heq hc
      show wpAny _ _ (execs _ _) _ _ _
      walk_at "mineP"
      refine While_inv2 (L := L) (h₀ := regrown H 46 (ps ++ more)) (fun n m₁ nx => nx = [] ∧ ∃ l t, m₁ "platform" = some (.str ⟨l.toArray⟩ t) ∧ l.length = n ∧ n ≤ 10000 ∧ rst l = nameL ns) (n₀ := l'.length) F News.nil ⟨rfl, l', _, rfl, rfl, hl, hrs⟩ ?_ PassesOwn.never
      clear F hrs hl e2
      rintro n m₁ nx h tk F N ⟨rfl, l, t, e1, rfl, hl, hrs⟩
      have F := Fr.see F e1
      clear e1
      show wpAny _ _ _ _ _ _
      walk_at "mineP"
      · rename (_ == _) = true => heq
        rename ((_ : Int) ≠ 0) => hne
        rename Fr _ _ _ _ => F
        have hl0 : l ≠ [] := by rintro rfl; exact hne rfl
        obtain ⟨a, c, rfl⟩ : ∃ a c, l = a ++ [c] := ⟨l.dropLast, l.getLast hl0, (List.dropLast_concat_getLast hl0).symm⟩
        rw [item_last] at heq
        have hc : c = 45 := by
          have := eq_of_beq heq
          have := congrArg (fun x : Str => x.cps.getD 0 0) this
          exact this
        subst hc
        rw [slice_last] at F
        refine ⟨_, _, _, [], a.length, rfl, F, News.nil, by simp, rfl, a, _, rfl, rfl, ?_, by rw [← hrs, rst_snoc]⟩
        simp at hl; omega
      · rename (_ == _) = false => heq
        rename ((_ : Int) ≠ 0) => hne
        have hl0 : l ≠ [] := by rintro rfl; exact hne rfl
        obtain ⟨a, c, rfl⟩ : ∃ a c, l = a ++ [c] := ⟨l.dropLast, l.getLast hl0, (List.dropLast_concat_getLast hl0).symm⟩
        rw [item_last] at heq
        have hc : c ≠ 45 := by
          rintro rfl
          exact absurd heq (by decide +kernel)
        rw [rst_stop a c hc] at hrs
        rw [hrs]
        exact hret h _ g t more (fin F) (B5.code.keeps F.keep) (B5.tab.keeps F.keep) hg6
      · rename ((_ : Int) = 0) => h0
        have hl0 : l = [] := by
          have h1 : ((l.toArray.size : Nat) : Int) = 0 := h0
          rw [List.size_toArray] at h1
          exact List.eq_nil_of_length_eq_zero (by omega)
        subst hl0
        rw [rst_nil] at hrs
        rw [hrs]
        exact hret h _ g t more (fin F) (B5.code.keeps F.keep) (B5.tab.keeps F.keep) hg6
end

/-! LC -/
section
set_option maxRecDepth 100000
set_option maxHeartbeats 1000000
open PySem.AutoSeq1 (wpAny_loadPart')
open PySem.MeetsSeq PySem.MeetsSeq2 PySem.MeetsSeq3 PySem.SeqAt
/-- a < b for such lists, where it can be told -/
def cmpL : List RV → List RV → Option Bool
  | [], [] => some false
  | [], _ :: _ => some true
  | _ :: _, [] => some false
  | .i a :: x, .i b :: y => if a = b then cmpL x y else some (decide (a < b))
  | .s a :: x, .s b :: y => if a = b then cmpL x y else some (decide (a.cps.toList < b.cps.toList))
  | .i _ :: _, .s _ :: _ => none
  | .s _ :: _, .i _ :: _ => none
theorem gives_ilt (a : Int) (t : Tok) (b : Int) (u : Tok) : Gives (Builtin.«int.__lt__» ⟨[.int a t, .int b u], []⟩) (.val (.bool (decide (a < b)))) := .of_eq rfl
section
variable {A : Around} {s : Shared}
theorem rlt_int {prog : Program} {w : World} {E : Value → Shared → Prop} {Q : Value → Shared → Prop} (a : Int) (t : Tok) (b : Int) (u : Tok) (h : Q (.bool (decide (a < b))) s) : wpAny (model prog w) A (richCompare .Lt (.int a t) (.int b u)) Q E s :=
  richCompare_gives (typeIs_int s a t) (typeIs_int s b u) F.slot_int_lt F.entry_int_lt (F.args_int_lt_2 _ _) (gives_ilt a t b u) (fun x => nomatch x) h
theorem rlt_str {prog : Program} {w : World} {E : Value → Shared → Prop} {Q : Value → Shared → Prop} (a : Str) (t : Tok) (b : Str) (u : Tok) (h : Q (.bool (decide (a.cps.toList < b.cps.toList))) s) : wpAny (model prog w) A (richCompare .Lt (.str a t) (.str b u)) Q E s :=
  richCompare_gives (typeIs_str s a t) (typeIs_str s b u) F.slot_str_lt F.entry_str_lt (F.args_str_lt_2 _ _) (gives_str_lt a b t u) (fun x => nomatch x) h
end
theorem rvs_drop : ∀ {vs : List Value} {ds : List RV}, RVs vs ds → ∀ i : Nat, (i < vs.length ∧ ((∃ n t r, vs[i]? = some (.int n t) ∧ ds.drop i = .i n :: r ∧ ds.drop (i + 1) = r) ∨ (∃ x t r, vs[i]? = some (.str x t) ∧ ds.drop i = .s x :: r ∧ ds.drop (i + 1) = r))) ∨ (vs.length ≤ i ∧ ds.drop i = [])
  | _, _, .nil, i => .inr ⟨Nat.zero_le _, by simp⟩
  | _, _, .int n t h, 0 => .inl ⟨Nat.succ_pos _, .inl ⟨n, t, _, rfl, rfl, by simp⟩⟩
  | _, _, .str x t h, 0 => .inl ⟨Nat.succ_pos _, .inr ⟨x, t, _, rfl, rfl, by simp⟩⟩
  | _, _, .int n t h, i + 1 => by
    rcases rvs_drop h i with ⟨h1, h2⟩ | ⟨h1, h2⟩
    · exact .inl ⟨Nat.succ_lt_succ h1, by simpa using h2⟩
    · exact .inr ⟨Nat.succ_le_succ h1, by simpa using h2⟩
  | _, _, .str n t h, i + 1 => by
    rcases rvs_drop h i with ⟨h1, h2⟩ | ⟨h1, h2⟩
    · exact .inl ⟨Nat.succ_lt_succ h1, by simpa using h2⟩
    · exact .inr ⟨Nat.succ_le_succ h1, by simpa using h2⟩
theorem lt_loop (l b : Addr) (items items2 : Array Value) (n n2 : Nat) (dd dd2 : Option Addr) (sl sl2 : Array (Option Value)) (ds es : List RV) (hx : RVs items.toList ds) (hy : RVs items2.toList es) (r : Bool) (k : Nat) :
    ∀ i : Nat, items.size - i = k → i ≤ items.size → i ≤ items2.size → cmpL (ds.drop i) (es.drop i) = some r → Meets (Builtin.«list.__eq__.loop» ⟨[.ref l, .ref b, rawInt i, rawInt 0], []⟩)
      (fun _ R s => s.heap.get? l = some { cls := .type "list", dict := dd, data := .seq items n, slots := sl } ∧ s.heap.get? b = some { cls := .type "list", dict := dd2, data := .seq items2 n2, slots := sl2 } ∧
        R (.ok (.ret (.bool r))) s) := by
  induction k with
  | zero =>
    intro i hk hi hi' hc prog w A R s h
    obtain ⟨hp, g, d, tk, os⟩ := s; obtain ⟨hl, hb, h⟩ := h
    wp_walk using wpAny_loadPart' hl, wpAny_loadPart' hb
    have hi1 : items[((i : Nat) : Int).toNat]? = none := by simp; omega
    rw [hi1]
    have hd : ds.drop i = [] := by
      rw [List.drop_eq_nil_iff, ← hx.length]; simp; omega
    rw [hd] at hc
    have hr : r = decide (items.size < items2.size) := by
      have he : es.length = items2.size := by rw [← hy.length]; simp
      cases hde : es.drop i with
      | nil =>
        rw [hde] at hc
        have := List.drop_eq_nil_iff.mp hde
        cases hc
        exact (decide_eq_false (by omega)).symm
      | cons e es' =>
        rw [hde] at hc
        have h1 : (es.drop i).length ≠ 0 := by rw [hde]; simp
        rw [List.length_drop] at h1
        cases hc
        exact (decide_eq_true (by omega)).symm
    rw [hr] at h
    wp_walk using wpAny_loadPart' hl, wpAny_loadPart' hb
    exact h
  | succ k ih =>
    intro i hk hi hi' hc prog w A R s h
    obtain ⟨hp, g, d, tk, os⟩ := s; obtain ⟨hl, hb, h⟩ := h
    have hlt : i < items.size := by omega
    wp_walk using wpAny_loadPart' hl, wpAny_loadPart' hb
    have ce : ((i : Nat) : Int).toNat = i := Int.toNat_natCast i
    have cc : ((i : Int) + 1) = ((i + 1 : Nat) : Int) := by push_cast; rfl
    rw [ce]
    have again_ : ∀ R' : Result → Shared → Prop, R' = R → cmpL (ds.drop (i + 1)) (es.drop (i + 1)) = some r → i < items2.size →
        (Code.builtin "list.__eq__.loop" { pos := [Value.ref l, Value.ref b, rawInt (↑i + 1), rawInt 0] }).quiet = true ∧ codeAny (model prog w) A (Code.builtin "list.__eq__.loop" { pos := [Value.ref l, Value.ref b, rawInt (↑i + 1), rawInt 0] }) R' { heap := hp, gens := g, drawn := d, toks := tk, os := os } := by
      rintro _ rfl hc' h2
      rw [cc]
      exact ⟨plainId_quiet plain_eq_loop _, codeAny_builtin entry_eq_loop (by
        rw [Around.under_plainId plain_eq_loop _]
        exact ih (i + 1) (by omega) (by omega) (by omega) hc' prog w A _ _ ⟨hl, hb, h⟩)⟩
    rcases rvs_drop hx i with ⟨h1, h2⟩ | ⟨h1, h2⟩
    rotate_left
    · exfalso; simp at h1; omega
    rcases rvs_drop hy i with ⟨g1, g2⟩ | ⟨g1, g2⟩
    rotate_left
    · have e2 : items2[i]? = none := by simp at g1 ⊢; omega
      have hr : r = decide (items.size < items2.size) := by
        simp at g1
        rw [g2] at hc
        rcases h2 with ⟨_, _, _, _, e, _⟩ | ⟨_, _, _, _, e, _⟩
        all_goals
          rw [e] at hc
          cases hc
          exact (decide_eq_false (by omega)).symm
      rw [hr] at h
      rw [e2]
      rcases h2 with ⟨a, t, x, e, _, _⟩ | ⟨a, t, x, e, _, _⟩
      all_goals
        rw [Array.getElem?_toList] at e
        rw [e]
        wp_walk using wpAny_loadPart' hl, wpAny_loadPart' hb
        exact h
    · have hlt2 : i < items2.size := by simpa using g1
      rcases h2 with ⟨a, t, x, e, e1, e2⟩ | ⟨a, t, x, e, e1, e2⟩ <;> rcases g2 with ⟨c, u, y, f, f1, f2⟩ | ⟨c, u, y, f, f1, f2⟩
      all_goals rw [e1, f1] at hc
      · rw [Array.getElem?_toList] at e f
        rw [e, f]
        refine wpAny_bind (EqAt.int_int a t c u prog w _ _ ?_)
        by_cases hac : a = c
        · subst hac
          rw [show (a == a) = true by simp, if_pos rfl]
          refine wpAny_pure (again_ _ rfl ?_ hlt2)
          rw [e2, f2]
          simpa [cmpL] using hc
        · rw [show (a == c) = false by simpa using hac]
          wp_walk using wpAny_loadPart' hl, wpAny_loadPart' hb
          rw [e, f]
          refine wpAny_bind (rlt_int a t c u ?_)
          rw [cmpL, if_neg hac] at hc
          cases hc
          wp_walk
          exact h
      · cases hc
      · cases hc
      · rw [Array.getElem?_toList] at e f
        rw [e, f]
        refine wpAny_bind (EqAt.str_str a t c u prog w _ _ ?_)
        by_cases hac : a = c
        · subst hac
          rw [show (a == a) = true by simp, if_pos rfl]
          refine wpAny_pure (again_ _ rfl ?_ hlt2)
          rw [e2, f2]
          simpa [cmpL] using hc
        · rw [show (a == c) = false by simpa using hac]
          wp_walk using wpAny_loadPart' hl, wpAny_loadPart' hb
          rw [e, f]
          refine wpAny_bind (rlt_str a t c u ?_)
          rw [cmpL, if_neg hac] at hc
          cases hc
          wp_walk
          exact h
theorem list_lt (l b : Addr) (items items2 : Array Value) (n n2 : Nat) (dd dd2 : Option Addr) (sl sl2 : Array (Option Value)) (ds es : List RV) (hx : RVs items.toList ds) (hy : RVs items2.toList es) (r : Bool) (hc : cmpL ds es = some r) :
    Meets (Builtin.«list.__lt__» ⟨[.ref l, .ref b], []⟩)
      (fun _ R s => s.heap.get? l = some { cls := .type "list", dict := dd, data := .seq items n, slots := sl } ∧ s.heap.get? b = some { cls := .type "list", dict := dd2, data := .seq items2 n2, slots := sl2 } ∧
        R (.ok (.ret (.bool r))) s) := by
  intro prog w A R s h
  obtain ⟨hp, g, d, tk, os⟩ := s; obtain ⟨hl, hb, h⟩ := h
  have f3 := AutoSeq1.sub_list_list
  wp_walk using wpAny_loadPart' hl, wpAny_loadPart' hb
  exact ⟨plainId_quiet plain_eq_loop _, codeAny_builtin entry_eq_loop (by
    rw [Around.under_plainId plain_eq_loop _]
    exact lt_loop l b items items2 n n2 dd dd2 sl sl2 ds es hx hy r _ 0 rfl (Nat.zero_le _) (Nat.zero_le _) (by simpa using hc) prog w A R _ ⟨hl, hb, h⟩)⟩
section
variable {prog : Program} {w : World} {A : Around} {E : Value → Shared → Prop} {s : Shared} {a b : Addr} {xs ys : Array Value} {ds es : List RV} {Q : Value → Shared → Prop}
theorem lt_rvs {r : Bool} (hl : s.heap.IsList a xs) (hm : s.heap.IsList b ys) (hx : RVs xs.toList ds) (hy : RVs ys.toList es) (hc : cmpL ds es = some r) (hu : A.units < cLine) (h : Q (.bool r) s) :
    wpAny (model prog w) A (compareOp .Lt (.ref a) (.ref b)) Q E s := by
  obtain ⟨⟨c1, d1, t1, s1⟩, h1, h2, n1, h3⟩ := hl
  obtain ⟨⟨c2, d2, t2, s2⟩, g1, g2, n2, g3⟩ := hm
  cases h2; cases h3; cases g2; cases g3
  have hop : compareOp .Lt (.ref a) (.ref b) = richCompare .Lt (.ref a) (.ref b) := rfl
  rw [hop]
  exact richCompare_meets_room (T := "list") ⟨_, h1, rfl⟩ ⟨_, g1, rfl⟩ F.slot_list_lt F.entry_list_lt (F.args_list_lt_2 _ _) (list_lt a b xs ys n1 n2 d1 d2 s1 s2 ds es hx hy r hc) ⟨h1, g1, And.intro (by intro e; cases e) h⟩ hu
end
/-! equality -/
def rvD : RV → PyData
  | .i n => .int n
  | .s x => .str x
theorem reads_rvs {h : Heap} : ∀ {vs : List Value} {ds : List RV}, RVs vs ds → ReadsAll h vs (ds.map rvD) []
  | _, _, .nil => .nil
  | _, _, .int n t r => by
    have := ReadsAll.cons (Reads.int (h := h) n t) (reads_rvs (h := h) r)
    simpa [rvD] using this
  | _, _, .str n t r => by
    have := ReadsAll.cons (Reads.str (h := h) n t) (reads_rvs (h := h) r)
    simpa [rvD] using this
theorem reads_rvl {h : Heap} {a : Addr} {xs : Array Value} {ds : List RV} (hl : h.IsList a xs) (hi : RVs xs.toList ds) : Reads h (.ref a) (.list (ds.map rvD)) [a] := by
  obtain ⟨o, ho, hc, n, hd⟩ := hl
  exact Reads.list ho hc hd (reads_rvs hi)
theorem depth_rvs : ∀ ds : List RV, PyData.depthAll (ds.map rvD) ≤ 1
  | [] => by simp [PyData.depthAll]
  | d :: r => by
    have := depth_rvs r
    cases d <;> simp only [List.map_cons, PyData.depthAll, PyData.depth, rvD] <;> omega
theorem canLay_rvs : ∀ ds : List RV, (∀ x, RV.s x ∈ ds → PyData.canLay0 (.str x) = true) → PyData.canLayAll0 (ds.map rvD) = true
  | [], _ => by simp [PyData.canLayAll0]
  | .i n :: r, h => by simp [PyData.canLayAll0, rvD, PyData.canLay0, canLay_rvs r fun x hx => h x (.tail _ hx)]
  | .s n :: r, h => by
    have h1 := h n (.head _)
    simp [PyData.canLayAll0, rvD, h1, canLay_rvs r fun x hx => h x (.tail _ hx)]
theorem shaped_rvs (ds : List RV) (h : ∀ x, RV.s x ∈ ds → PyData.canLay0 (.str x) = true) : shaped (.list (ds.map rvD)) = true := by
  have h1 := depth_rvs ds
  have h2 : PyData.depth (.list (ds.map rvD)) ≤ 64 := by simp only [PyData.depth]; omega
  show (PyData.canLay0 (.list (ds.map rvD)) && decide (PyData.depth (.list (ds.map rvD)) ≤ 64)) = true
  rw [Bool.and_eq_true]
  exact ⟨by simp only [PyData.canLay0]; exact canLay_rvs ds h, decide_eq_true h2⟩
theorem noMix_rvs : ∀ ds es : List RV, noMixAll (ds.map rvD) (es.map rvD) = true
  | [], [] => by simp [noMixAll]
  | [], _ :: _ => by simp [noMixAll]
  | _ :: _, [] => by simp [noMixAll]
  | d :: r, e :: q => by cases d <;> cases e <;> simp [noMixAll, noMix, noMix_rvs r q, rvD]
theorem same_rvs : ∀ ds es : List RV, PySem.Spec.sameAll (ds.map rvD) (es.map rvD) = decide (ds = es)
  | [], [] => by simp [PySem.Spec.sameAll]
  | [], _ :: _ => by simp [PySem.Spec.sameAll]
  | _ :: _, [] => by simp [PySem.Spec.sameAll]
  | d :: r, e :: q => by
    simp only [List.map_cons, PySem.Spec.sameAll, same_rvs r q]
    cases d with
    | i n => cases e with
      | i k => by_cases h : n = k <;> simp [h, rvD, PySem.Spec.same]
      | s k => simp [rvD, PySem.Spec.same]
    | s n => cases e with
      | i k => simp [rvD, PySem.Spec.same]
      | s k => by_cases h : n = k <;> simp [h, rvD, PySem.Spec.same]
section
variable {prog : Program} {w : World} {A : Around} {E : Value → Shared → Prop} {s : Shared} {a b : Addr} {xs ys : Array Value} {ds es : List RV} {Q : Value → Shared → Prop}
theorem eq_rvs (hl : s.heap.IsList a xs) (hm : s.heap.IsList b ys) (hx : RVs xs.toList ds) (hy : RVs ys.toList es) (cx : ∀ x, RV.s x ∈ ds → PyData.canLay0 (.str x) = true) (cy : ∀ x, RV.s x ∈ es → PyData.canLay0 (.str x) = true) (hu : A.units + 64 < cLine) (h : Q (.bool (decide (ds = es))) s) :
    wpAny (model prog w) A (compareOp .Eq (.ref a) (.ref b)) Q E s :=
  eq_dataH_same (reads_rvl hl hx) (reads_rvl hm hy) (shaped_rvs ds cx) (shaped_rvs es cy) hu (by simp only [noMix]; exact noMix_rvs ds es) (by simp only [PySem.Spec.same]; rw [same_rvs]; exact h)
theorem ne_rvs (hl : s.heap.IsList a xs) (hm : s.heap.IsList b ys) (hx : RVs xs.toList ds) (hy : RVs ys.toList es) (cx : ∀ x, RV.s x ∈ ds → PyData.canLay0 (.str x) = true) (cy : ∀ x, RV.s x ∈ es → PyData.canLay0 (.str x) = true) (hu : A.units + 64 < cLine) (h : Q (.bool (!decide (ds = es))) s) :
    wpAny (model prog w) A (compareOp .NotEq (.ref a) (.ref b)) Q E s :=
  ne_dataH_same (reads_rvl hl hx) (reads_rvl hm hy) (shaped_rvs ds cx) (shaped_rvs es cy) hu (by simp only [noMix]; exact noMix_rvs ds es) (by simp only [PySem.Spec.same]; rw [same_rvs]; exact h)
end
end

/-! LE -/
section
set_option maxRecDepth 100000
set_option maxHeartbeats 1000000
section
variable {prog : Program} {w : World} {A : Around} {s : Shared} {K : Frag} {p : Program} {loose : List Str} {mg mb : Str → Option Value} {Q E : Value → Shared → Prop}
  {name qual : Str} {params : Arguments} {body : List Stmt} {scope : Scope} {dV kV doc pm cdv ct oc : Value} {an od : Option Addr} {osl : Array (Option Value)} {f : Addr} {args : List Value} {binds : List (Str × Value)}
/-- the call of a def with cells, under the claim's caller -/
theorem enterCV (X : K.In s.heap) (T : TopRead p loose mg mb s.heap) (ho : K.lookup f = some ⟨oc, od, .func (fnOf name qual params body scope dV kV doc pm an cdv ct), osl⟩) (hcd : codeIn K cdv qual = true)
    (hroom : A.depth < recursionLimit) (hbind : BindsTo s (fnOf name qual params body scope dV kV doc pm an cdv ct) ⟨args, []⟩ binds)
    (hkind : (binds.all fun y => scope.names.lookup y.1 == some .local || scope.names.lookup y.1 == some .cell) = true) (hnd : ((cellsFrom 0 scope.names []).map (·.1)).Nodup)
    (hco : scope.isCoroutine = false) (hgen : scope.isGenerator = false) (hk : scope.kind = .function)
    (h : ∀ L' h₁ tk cells, Fr s.heap L' h₁ (bindL (envOfC qual scope L' f cdv).kindOf binds fun _ => none) → News s.heap L' h₁ cells → CellsAre (bindC (envOfC qual scope L' f cdv).kindOf binds fun _ => none) (cellsFrom (L' + 1) scope.names []) cells →
      wpC (model prog w) (A.deeper (envOfC qual scope L' f cdv)) (execs body (envOfC qual scope L' f cdv))
        (fun fl s' => Q (match fl with | .ret v => v | _ => .none) s') NoE { s with heap := h₁, toks := tk }) :
    wpC (model prog w) A (call (.ref f) args) Q E s := by
  refine wpC_call (codeC_call_function (fd := fnOf name qual params body scope dV kV doc pm an cdv ct) hroom (X _ _ ho) rfl hco hgen rfl (codeRec_of X hcd) (hbind _ _ _ _ ?_))
  refine wpAny_newFunctionEnv_cells hk (kindsX hkind _) fun env' he s' x => ?_
  subst he
  refine ⟨T.nolimit.keeps x.toInCall.keep, codeC_func ?_⟩
  obtain ⟨h₁, tk, rfl, _⟩ := x.done
  obtain ⟨cells, NC, Y⟩ := Cl.news (h₀ := s.heap) (Nat.le_refl _) fun n c hm => ⟨x.cell n c (lookup_of_mem_nodup (cellsFrom_names scope.names 0 (s.heap.objs.size + 1) [] [] rfl ▸ hnd) hm), x.above n c hm⟩
  exact wpC_mono (h _ h₁ tk cells ⟨x.toInCall.ns, x.toInCall.keep, Nat.le_refl _⟩ NC Y) (fun fl s' hl => hl) fun _ _ y => y.elim
end
section
variable {prog : Program} {w : World} {A : Around} {s : Shared} {env : Env} {Q : Flow → Shared → Prop} {E : Value → Shared → Prop}
/-- a for loop over a range, under the claim's caller -/
theorem at_rangeV {Bs : Heap → Prop} {G : Array GenState → Prop} {x : Str} {body : List Stmt} {r : Addr} {a b c : Int} {t u v : Tok} {B₀ : Heap} {m₀ : Str → Option Value} {news₀ : List (Addr × Obj)}
    {J : Nat → (Str → Option Value) → List (Addr × Obj) → Prop} (n : Nat) (hh : A.handled = none) (hB₀ : Bs B₀) (hG : G s.gens) (hsz : ∀ B, Bs B → B.objs.size = B₀.objs.size) (F : Fr B₀ env.locals s.heap m₀) (N : News B₀ env.locals s.heap news₀) (hr : IsRange s.heap r a b c t u v)
    (hsmall : Builtin.Range.small a b c = true) (hn : (Builtin.Range.rangeSize a b c : Int) = (n : Int)) (hJ : J 0 m₀ news₀)
    (turn : ∀ i tv B m₁ news₁ h tk g I oI, i < n → J i m₁ news₁ → Bs B → G g → (∀ p ∈ news₁, p.1 ≠ I) → Fr B env.locals h (fun y => if y = x then some (.int (a + i * c) tv) else m₁ y) → News B env.locals h ((I, oI) :: news₁) →
        wpC (model prog w) A (execs body env) (ForEndV Bs G env.locals I oI (J (i + 1)) s Q) NoE { s with heap := h, toks := tk, gens := g })
    (done : ∀ B m₁ news₁ h tk g, J n m₁ news₁ → Bs B → G g → Fr B env.locals h m₁ → News B env.locals h news₁ → Q .next { s with heap := h, toks := tk, gens := g }) :
    wpAny (model prog w) A (pyIter (.ref r)) (ForSomeV prog w A Bs G env x body Q) E s := by
  refine wpAny_pyIter_range hr hsmall ?_
  rw [hn]
  refine ⟨J, _, _, n, _, _, B₀, m₀, news₀, rfl, Walks.range hh s.heap.objs.size a c n, ?_, ?_,
    hB₀, hG, frExt F (fun b o e => Heap.get?_push_of_some _ e), newsExt N (fun b o e => Heap.get?_push_of_some _ e), ?_, Nat.ne_of_gt F.ns.lt, hJ, ?_, ?_, ?_, done⟩
  · show (s.heap.push _).get? _ = _
    rw [Heap.get?_push_size _ rfl]
    simp [rawInt]
  · intro i h st; exact ⟨_, st⟩
  · intro B hB
    exact Heap.get?_none_of_le (by rw [hsz B hB]; exact Nat.le_trans F.above (Nat.le_of_lt F.ns.lt))
  · intro p hp; exact Nat.ne_of_lt (Heap.lt_size (N p hp).1)
  · intro b hb; exact .inl (List.mem_singleton.mp hb)
  · rintro i v B m₁ news₁ h tk g oI hlt ⟨tv, rfl⟩ hJ1 hB hG' hne F1 N1
    exact turn i tv B m₁ news₁ h tk g _ oI hlt hJ1 hB hG' hne F1 N1
end
theorem add_new {prog : Program} {w : World} {A : Around} {E : Value → Shared → Prop} {s : Shared} {h₀ : Heap} {L l b : Addr} {m : Str → Option Value} {news : List (Addr × Obj)} {its its2 : Array Value} {Q : Value → Shared → Prop} (F : Fr h₀ L s.heap m) (N : News h₀ L s.heap news) (hl : s.heap.IsList l its) (hb : s.heap.IsList b its2)
    (hsz : its.size + its2.size ≤ sizeLine)
    (h : ∀ D h', (∀ p ∈ news, p.1 ≠ D) → Fr h₀ L h' m → News h₀ L h' ((D, { cls := .type "list", data := .seq (its.toList ++ its2.toList).toArray }) :: news) → Q (.ref D) { s with heap := h' }) :
    wpAny (model prog w) A (binaryOp .Add (.ref l) (.ref b)) Q E s :=
  add_arrays F N hl hb (fun h' F' N' => h _ h' (fun p hp => Nat.ne_of_lt (Heap.lt_size (N p hp).1)) F' N') hsz
/-- `y = [elt for x in a list]`, the element quiet -/
theorem lassign {prog : Program} {w : World} {A : Around} {E : Value → Shared → Prop} {s : Shared} {env : Env} {h₀ : Heap} {L : Addr} {elt iter : PySem.Expr} {x y : Str} {px py : Pos} {scope : Scope} {cl : List (Str × Addr)} {pos spos : Pos} {Q : Flow → Shared → Prop}
    (R : Value → Value → Prop) (hL : env.locals = L) (hh : A.handled = none)
    (hsw : swapsWith (.ListComp elt [⟨.Name x px, iter, [], 0⟩] scope pos) (some (.Name y py)) spos.line env = pure true)
    (hclos : closureFor scope env = pure cl) (hcell : ∀ z ∈ scope.names, z.2 ≠ .cell) (hkind : scope.kind = .function)
    (hnames : ∀ z ∈ scope.names, z.2 = .local → scope.names.lookup z.1 = some .local) (hx : scope.names.lookup x = some .local)
    (hy : env.kindOf y = some .local) (hp : (env.scope.kind == .class || (env.scope.kind == .module && env.locals != env.globals)) = false)
    (h : wpAny (model prog w) A (eval iter env) (fun xv s₁ => ∃ (a : Addr) (items : Array Value) (m : Str → Option Value) (news : List (Addr × Obj)), xv = .ref a ∧ s₁.heap.IsList a items ∧ items.size ≤ 100000 ∧ Fr h₀ L s₁.heap m ∧ News h₀ L s₁.heap news ∧
      (∀ (C : Addr) (i : Nat) (v : Value) (s₃ : Shared) (m₃ : Str → Option Value) (E' : Value → Shared → Prop), items[i]? = some v → Fr h₀ C s₃.heap m₃ → News h₀ C s₃.heap news → m₃ x = some v →
        wpAny (model prog w) A (eval elt (compEnvC scope cl C env)) (fun y s₄ => R v y ∧ Keeps s₃ s₄) E' s₃) ∧
      (∀ D h' tk ys c, Fr h₀ L h' (fun z => if z = y then some (.ref D) else m z) → News h₀ L h' ((D, listOf ys c) :: news) → (∀ p ∈ news, p.1 ≠ D) → Paired R items.toList ys.toList →
        Q .next { s₁ with heap := h', toks := tk })) E s)
    (hs : ∀ x, foldedSetIterable iter env x = pure x) :
    wpAny (model prog w) A (exec (.Assign [.Name y py] (.ListComp elt [⟨.Name x px, iter, [], 0⟩] scope pos) spos) env) Q E s := by
  subst hL
  refine wpAny_Assign_ListComp_free (fun _ => true) R hsw hclos hcell hkind hnames hx hy hp (wpAny_mono h (fun xv s₁ h₁ => ?_) fun _ _ e => e) hs
  obtain ⟨a, items, m, news, rfl, hl, hsz, F, N, he, hQ⟩ := h₁
  have hlt : a < s₁.heap.objs.size := by obtain ⟨o, ho, _⟩ := hl; exact Heap.lt_size ho
  refine wpAny_pyIter_list hl ?_
  have kI : ∀ b o, s₁.heap.get? b = some o → (s₁.heap.push { cls := .type "list_iterator", data := .fields #[.ref a, .int 0 0] }).get? b = some o := fun b o e => Heap.get?_push_of_some _ e
  have hI := next_is_new F
  have hIL : s₁.heap.objs.size ≠ env.locals := Nat.ne_of_gt F.ns.lt
  have hIn : ∀ p ∈ news, p.1 ≠ s₁.heap.objs.size := fun q hq => Nat.ne_of_lt (Heap.lt_size (N q hq).1)
  refine ⟨_, _, [s₁.heap.objs.size], _, _, _, m, rfl, Walks.list hh s₁.heap.objs.size a (Nat.ne_of_lt hlt) items, ?_, ⟨⟨_, Heap.get?_push_size _ rfl, rfl, rfl⟩, hl.at fun o e => Heap.get?_push_of_some _ e⟩, ?_, ?_, (frExt F kI).ns, ⟨?_, ?_⟩, ?_⟩
  · rw [sizeLine_eq]; omega
  · intro b hb
    rw [Heap.size_push]
    rcases List.mem_cons.mp hb with rfl | hb
    · exact Nat.lt_succ_self _
    · rw [List.mem_singleton.mp hb]; exact Nat.lt_succ_of_lt hlt
  · intro hb; exact hIL (List.mem_singleton.mp hb).symm
  · intro C i v s₃ m₃ E' hC hP hns hm hk _
    exact wpAny_tests_nil ⟨rfl, _, _, rfl, fun _ _ e => e⟩
  · intro C i v s₃ m₃ E' hC hP hpv hns hm hk _
    have hk' : ∀ b o, s₁.heap.get? b = some o → s₃.heap.get? b = some o := fun b o e =>
      hk b o (fun hb => by
        rw [List.mem_singleton.mp hb] at e
        exact absurd (Heap.lt_size e) (Nat.lt_irrefl _)) (kI b o e)
    have hCs : s₁.heap.objs.size ≤ C := Nat.le_trans (by rw [Heap.size_push]; exact Nat.le_succ _) hC
    refine he C i v s₃ m₃ E' (by first | exact hP | exact hP.symm | simpa using hP) ⟨hns, fun b o e => hk' b o (F.keep b o e), Nat.le_trans F.above (Nat.le_trans (Nat.le_of_lt F.ns.lt) hCs)⟩ (fun p hp => ⟨hk' _ _ (N p hp).1, ?_, (N p hp).2.2⟩) hm
    exact Nat.ne_of_lt (Nat.lt_of_lt_of_le (Heap.lt_size (N p hp).1) hCs)
  · intro D h' tk ys vs hD hl' hpl hlen hP hpr hns' hk
    obtain ⟨c, hpl⟩ := hpl
    have hvs : vs = items.toList := by
      refine List.ext_getElem? fun j => ?_
      cases hj : vs[j]? with
      | none =>
        have h1 : vs.length ≤ j := by simpa using hj
        rw [hlen] at h1
        simp
        omega
      | some v => have := hP j v hj; simpa using this.symm
    rw [hvs, List.filter_eq_self.mpr (fun _ _ => rfl)] at hpr
    have old : ∀ b o, b ≠ env.locals → s₁.heap.get? b = some o → h'.get? b = some o := fun b o hb e => hk b o hb (by
      intro hm
      rw [List.mem_singleton.mp hm] at e
      exact absurd (Heap.lt_size e) (Nat.lt_irrefl _)) (kI b o e)
    have hD1 : s₁.heap.get? D = none := by
      cases e : s₁.heap.get? D with
      | none => rfl
      | some o => rw [kI _ _ e] at hD; cases hD
    have hDL : D ≠ env.locals := fun e => by
      obtain ⟨o, _, _, ho, _⟩ := F.ns
      rw [e, ho] at hD1; cases hD1
    refine hQ D h' tk ys c ⟨hns', fun b o e => old b o (Nat.ne_of_lt (Nat.lt_of_lt_of_le (Heap.lt_size e) F.above)) (F.keep b o e), F.above⟩ (fun p hp => ?_) (fun p hp e => ?_) hpr
    · rcases List.mem_cons.mp hp with rfl | hp
      · refine ⟨hpl, hDL, ?_⟩
        cases e : h₀.get? D with
        | none => rfl
        | some o => rw [F.keep _ _ e] at hD1; cases hD1
      · exact ⟨old _ _ (N p hp).2.1 (N p hp).1, (N p hp).2⟩
    · rw [← e, (N p hp).1] at hD1; cases hD1
theorem item_neg {prog : Program} {w : World} {A : Around} {s : Shared} {E : Value → Shared → Prop} {value slice : PySem.Expr} {l : Addr} {items : Array Value} {u : Tok} {v : Value} {Q : Value → Shared → Prop} (n : Nat)
    (hl : s.heap.IsList l items) (hn : items.size = n + 1) (hn' : n < 100000) (hx : items[n]? = some v) (h : Q v s)
    (hs : subscripted slice false (.ref l) (.int (-1) u) = operate [.ref l, .int (-1) u] (getItem (.ref l) (.int (-1) u)) := by with_unfolding_all rfl) :
    wpAny (model prog w) A (subscriptTail value slice (.ref l) (.int (-1) u)) Q E s :=
  tail_any hl.typeIs slot_list_getitem.lookup (wpAny_getItem_list_neg hl (by decide) (by omega) (by decide) (x := v) (by rw [show ((-1 : Int) + (items.size : Int)).toNat = n by omega]; exact hx) h) hs
end

/-! PM -/
section
set_option maxRecDepth 100000
set_option maxHeartbeats 1000000
/-! comparisons -/
theorem cmp_refl : ∀ (x : List RV), cmpL x x = some false
  | [] => rfl
  | .i a :: x => by simp [cmpL, cmp_refl x]
  | .s a :: x => by simp [cmpL, cmp_refl x]
theorem lt_asymm_list {a b : List Nat} (h : a < b) : ¬ b < a := fun h' => List.lt_irrefl _ (List.lt_trans h h')
theorem cmp_swap : ∀ {x y : List RV}, cmpL x y = some true → cmpL y x = some false
  | [], [], h => by simp [cmpL] at h
  | [], _ :: _, _ => by simp [cmpL]
  | _ :: _, [], h => by simp [cmpL] at h
  | .i a :: x, .i b :: y, h => by
    unfold cmpL at h ⊢
    by_cases e : a = b
    · subst e
      rw [if_pos rfl] at h ⊢
      exact cmp_swap h
    · rw [if_neg e] at h
      rw [if_neg (Ne.symm e)]
      have := of_decide_eq_true (Option.some.inj h)
      rw [decide_eq_false (by omega)]
  | .s a :: x, .s b :: y, h => by
    unfold cmpL at h ⊢
    by_cases e : a = b
    · subst e
      rw [if_pos rfl] at h ⊢
      exact cmp_swap h
    · rw [if_neg e] at h
      rw [if_neg (Ne.symm e)]
      have := of_decide_eq_true (Option.some.inj h)
      rw [decide_eq_false (lt_asymm_list this)]
  | .i _ :: _, .s _ :: _, h => by simp [cmpL] at h
  | .s _ :: _, .i _ :: _, h => by simp [cmpL] at h
/-- surely less, whatever follows; or a beginning, then a 200 -/
theorem cmp_app (c : List RV) {x y : List RV} : cmpL (c ++ x) (c ++ y) = cmpL x y := by
  induction c with
  | nil => rfl
  | cons v c ih => cases v <;> simp [cmpL, ih]
/-- less at a place both have -/
def SLt (x y : List RV) : Prop := (∃ c a b x' y', x = c ++ RV.i a :: x' ∧ y = c ++ RV.i b :: y' ∧ a < b) ∨ (∃ c a b x' y', x = c ++ RV.s ⟨#[a]⟩ :: x' ∧ y = c ++ RV.s ⟨#[b]⟩ :: y' ∧ a < b)
theorem SLt.cmp {x y : List RV} (h : SLt x y) : cmpL x y = some true := by
  rcases h with ⟨c, a, b, x', y', rfl, rfl, h⟩ | ⟨c, a, b, x', y', rfl, rfl, h⟩
  · rw [cmp_app]
    unfold cmpL
    rw [if_neg (by omega), decide_eq_true h]
  · rw [cmp_app]
    unfold cmpL
    have hne : (⟨#[a]⟩ : Str) ≠ ⟨#[b]⟩ := fun e => by
      injection e with e
      have := congrArg (fun z : Array Nat => z.getD 0 0) e
      have : a = b := this
      omega
    rw [if_neg hne, decide_eq_true]
    show [a] < [b]
    exact List.Lex.rel h
theorem SLt.app {x y : List RV} (h : SLt x y) (u v : List RV) : SLt (x ++ u) (y ++ v) := by
  rcases h with ⟨c, a, b, x', y', rfl, rfl, h⟩ | ⟨c, a, b, x', y', rfl, rfl, h⟩
  · exact .inl ⟨c, a, b, x' ++ u, y' ++ v, by simp, by simp, h⟩
  · exact .inr ⟨c, a, b, x' ++ u, y' ++ v, by simp, by simp, h⟩
theorem SLt.pre (c : List RV) {x y : List RV} (h : SLt x y) : SLt (c ++ x) (c ++ y) := by
  rcases h with ⟨d, a, b, x', y', rfl, rfl, h⟩ | ⟨d, a, b, x', y', rfl, rfl, h⟩
  · exact .inl ⟨c ++ d, a, b, x', y', by simp, by simp, h⟩
  · exact .inr ⟨c ++ d, a, b, x', y', by simp, by simp, h⟩
theorem cmp_begin (x : List RV) (v : RV) (y : List RV) : cmpL x (x ++ v :: y) = some true := by
  have := cmp_app x (x := []) (y := v :: y)
  rw [List.append_nil] at this
  rw [this]; simp [cmpL]
/-! the told pieces -/
theorem tell_app (a b : List Int) : tellL (a ++ b) = tellL a ++ tellL b := by simp [tellL]
theorem tell_piece (g : Nat → List Int) (d p : Nat) (h : 0 < d) : tellL (piece g d p) = [RV.i 200, .s "p"] ++ (tellL (g p) ++ [.i 100, .i 1, .i 0, .s ⟨#[65 + d]⟩]) := by
  unfold piece
  rw [if_pos h, tell_app, tell_app]
  have h1 : tellL [-1] = [RV.i 200, .s "p"] := rfl
  have h2 : tellL [(d : Int)] = [.i 100, .i 1, .i 0, .s ⟨#[65 + d]⟩] := by
    show tellOf (d : Int) ++ [] = _
    unfold tellOf
    rw [if_neg (by omega), if_neg (by omega)]
    simp
  rw [h1, h2, List.append_assoc]
theorem tell_none (g : Nat → List Int) (p : Nat) : tellL (piece g 0 p) = [] := by
  unfold piece; rw [if_neg (by omega)]; rfl
/-- two writings in order: less at a place, or a beginning that a piece of a place q from p on continues -/
def Ord (g : Nat → List Int) (k p : Nat) (x y : List RV) : Prop :=
  SLt x y ∨ ∃ q r, p ≤ q ∧ q < k ∧ y = x ++ ([RV.i 200, .s "p"] ++ (tellL (g q) ++ (.i 100 :: r)))
/-- writings of smaller places come first -/
def Low (g : Nat → List Int) (k : Nat) : Prop := ∀ p q, p < q → q < k → SLt (tellL (g p)) (tellL (g q)) ∨ ∃ r, tellL (g q) = tellL (g p) ++ RV.i 200 :: r
theorem low_cut {g : Nat → List Int} {k p q : Nat} (hg : Low g k) (h : p < q) (hq : q < k) (u r : List RV) : SLt (tellL (g p) ++ (.i 100 :: u)) (tellL (g q) ++ r) := by
  rcases hg p q h hq with h1 | ⟨s, h1⟩
  · exact h1.app _ _
  · rw [h1]
    exact .inl ⟨tellL (g p), 100, 200, u, s ++ r, rfl, by simp, by decide⟩
theorem wri_ord {b : Nat} {g : Nat → List Int} (hb : 2 ≤ b) {k : Nat} (hg : Low g k) : ∀ (m n p : Nat), n < m → m < b ^ (k - p) → p ≤ k → Ord g k p (tellL (wri b g n p)) (tellL (wri b g m p)) := by
  intro m
  induction m using Nat.strongRecOn with
  | ind m ih =>
    intro n p hnm hm hpk
    have hm0 : m ≠ 0 := by omega
    have hpk' : p < k := by
      rcases Nat.lt_or_ge p k with h | h
      · exact h
      · rw [show k - p = 0 by omega] at hm; simp at hm; omega
    have hmb : m / b < b ^ (k - (p + 1)) := by
      rw [show k - p = (k - (p + 1)) + 1 by omega, Nat.pow_succ] at hm
      exact Nat.div_lt_of_lt_mul (by rwa [Nat.mul_comm] at hm)
    have hn : tellL (wri b g n p) = tellL (wri b g (n / b) (p + 1)) ++ tellL (piece g (n % b) p) := by
      by_cases e : n = 0
      · subst e
        rw [wri_zero, Nat.zero_div, wri_zero, Nat.zero_mod, tell_none]; rfl
      · rw [wri_pos g e hb, tell_app]
    rw [hn, wri_pos g hm0 hb, tell_app]
    have hle : n / b ≤ m / b := Nat.div_le_div_right (Nat.le_of_lt hnm)
    rcases Nat.lt_or_ge (n / b) (m / b) with hlt | hge
    · rcases ih (m / b) (Nat.div_lt_self (by omega) hb) (n / b) (p + 1) hlt hmb hpk' with h | ⟨q, r, h1, h2, h3⟩
      · exact .inl (h.app _ _)
      · rcases Nat.eq_zero_or_pos (n % b) with h0 | h0
        · rw [h0, tell_none, List.append_nil]
          refine .inr ⟨q, r ++ tellL (piece g (m % b) p), by omega, h2, ?_⟩
          rw [h3]; simp
        · refine .inl ?_
          rw [tell_piece g _ p h0, h3, List.append_assoc]
          refine SLt.pre _ ?_
          have := (low_cut (p := p) (q := q) hg (by omega) h2 [.i 1, .i 0, .s ⟨#[65 + n % b]⟩] (.i 100 :: r ++ tellL (piece g (m % b) p))).pre [RV.i 200, .s "p"]
          simpa using this
    · have e : n / b = m / b := by omega
      have hmod : n % b < m % b := by
        have h1 := Nat.div_add_mod n b
        have h2 := Nat.div_add_mod m b
        rw [e] at h1
        omega
      rw [e]
      rcases Nat.eq_zero_or_pos (n % b) with h0 | h0
      · rw [h0, tell_none, List.append_nil, tell_piece g _ p (by omega)]
        exact .inr ⟨p, _, Nat.le_refl _, hpk', rfl⟩
      · refine .inl (SLt.pre _ ?_)
        rw [tell_piece g _ p h0, tell_piece g _ p (by omega)]
        refine SLt.pre _ (SLt.pre _ ?_)
        exact .inr ⟨[.i 100, .i 1, .i 0], 65 + n % b, 65 + m % b, [], [], rfl, rfl, by omega⟩
theorem wr_low {b : Nat} (hb : 3 ≤ b) : ∀ f, Low (wr b f) (b ^ bd f)
  | 0 => fun p q h hq => by
    have : q < 1 := hq
    omega
  | f + 1 => fun p q h hq => by
    have hbd : bd (f + 1) ≤ b ^ bd f := by
      rcases Nat.eq_zero_or_pos (bd (f + 1)) with h0 | h0
      · omega
      · have := bd_step (f := f) (p := bd (f + 1) - 1) hb (by omega)
        omega
    have low : Low (wr b f) (bd (f + 1)) := fun p q h hq => wr_low hb f p q h (Nat.lt_of_lt_of_le hq hbd)
    rcases wri_ord (b := b) (by omega) low q p 0 h (by rwa [Nat.sub_zero]) (Nat.zero_le _) with h1 | ⟨_, r, _, _, h1⟩
    · exact .inl h1
    · exact .inr ⟨_, h1⟩
theorem tell_lt' {B N M : Nat} (hb : 3 ≤ B) (h : N < M) (hM : M < B ^ bd 3) : cmpL (tellL (wr B 3 N)) (tellL (wr B 3 M)) = some true := by
  rcases wr_low hb 3 N M h hM with h1 | ⟨r, h1⟩
  · exact h1.cmp
  · rw [h1]; exact cmp_begin _ _ _
end

/-! PN -/
section
set_option maxRecDepth 100000
set_option maxHeartbeats 1000000
/-- the number n, its bases b made B -/
def bumpi (b B : Nat) (g : Nat → Nat) (n p : Nat) : Nat := if h : n = 0 ∨ b < 2 then 0 else bumpi b B g (n / b) (p + 1) + n % b * B ^ g p
termination_by n
decreasing_by
  have h1 : n ≠ 0 := fun e => h (.inl e)
  have h2 : ¬ b < 2 := fun e => h (.inr e)
  exact Nat.div_lt_self (by omega) (by omega)
def bump (b B : Nat) : Nat → Nat → Nat
  | 0, _ => 0
  | f + 1, n => bumpi b B (bump b B f) n 0
theorem bumpi_zero (b B : Nat) (g : Nat → Nat) (p : Nat) : bumpi b B g 0 p = 0 := by rw [bumpi]; simp
theorem bumpi_pos {b B : Nat} {g : Nat → Nat} {n p : Nat} (hb : 2 ≤ b) : bumpi b B g n p = bumpi b B g (n / b) (p + 1) + n % b * B ^ g p := by
  by_cases e : n = 0
  · subst e; rw [Nat.zero_div, Nat.zero_mod, bumpi_zero, bumpi_zero]; simp
  · rw [bumpi, dif_neg (by omega)]
theorem bump_zero (b B f : Nat) : bump b B f 0 = 0 := by cases f with
  | zero => rfl
  | succ f => exact bumpi_zero _ _ _ _
def Mono (g : Nat → Nat) (k : Nat) : Prop := ∀ p q, p < q → q < k → g p < g q
theorem div_pow_lt {b k p n : Nat} (hpk : p < k) (h : n < b ^ (k - p)) : n / b < b ^ (k - (p + 1)) := by
  rw [show k - p = (k - (p + 1)) + 1 by omega, Nat.pow_succ] at h
  exact Nat.div_lt_of_lt_mul (by rwa [Nat.mul_comm] at h)
theorem top_zero {b k p n : Nat} (hpk : ¬ p < k) (h : n < b ^ (k - p)) : n = 0 := by
  rw [show k - p = 0 by omega] at h; simpa using h
theorem bumpi_dvd {b B : Nat} {g : Nat → Nat} {k : Nat} (hb : 2 ≤ b) (hg : Mono g k) : ∀ (n p : Nat), p < k → n < b ^ (k - p) → B ^ g p ∣ bumpi b B g n p := by
  intro n
  induction n using Nat.strongRecOn with
  | ind n ih =>
    intro p hpk hn
    by_cases e : n = 0
    · subst e; rw [bumpi_zero]; exact Nat.dvd_zero _
    · rw [bumpi_pos hb]
      refine Nat.dvd_add ?_ (Nat.dvd_mul_left _ _)
      have hd := div_pow_lt hpk hn
      by_cases hp : p + 1 < k
      · exact Nat.dvd_trans (Nat.pow_dvd_pow B (Nat.le_of_lt (hg p (p + 1) (Nat.lt_succ_self _) hp))) (ih (n / b) (Nat.div_lt_self (by omega) hb) (p + 1) hp hd)
      · rw [top_zero hp hd, bumpi_zero]; exact Nat.dvd_zero _
theorem dvd_step {d x y : Nat} (hx : d ∣ x) (hy : d ∣ y) (h : x < y) : x + d ≤ y := by
  obtain ⟨a, rfl⟩ := hx
  obtain ⟨c, rfl⟩ := hy
  have : a < c := Nat.lt_of_mul_lt_mul_left h
  have : d * (a + 1) ≤ d * c := Nat.mul_le_mul_left d this
  rw [Nat.mul_succ] at this
  exact this
theorem low_part {b B : Nat} {g : Nat → Nat} {n p : Nat} (hb : 2 ≤ b) (hB : b ≤ B) : n % b * B ^ g p < B ^ (g p + 1) := by
  have h1 : n % b < B := Nat.lt_of_lt_of_le (Nat.mod_lt _ (by omega)) hB
  have h2 : 0 < B ^ g p := Nat.pow_pos (by omega)
  rw [Nat.pow_succ, Nat.mul_comm (B ^ g p) B]
  exact Nat.mul_lt_mul_of_pos_right h1 h2
theorem bumpi_lt {b B : Nat} {g : Nat → Nat} {k : Nat} (hb : 2 ≤ b) (hB : b ≤ B) (hg : Mono g k) : ∀ (m n p : Nat), n < m → m < b ^ (k - p) → bumpi b B g n p < bumpi b B g m p := by
  intro m
  induction m using Nat.strongRecOn with
  | ind m ih =>
    intro n p hnm hm
    have hpk : p < k := by
      rcases Nat.lt_or_ge p k with h | h
      · exact h
      · have := top_zero (by omega : ¬ p < k) hm; omega
    rw [bumpi_pos (n := n) hb, bumpi_pos (n := m) hb]
    have hmb := div_pow_lt hpk hm
    have hle : n / b ≤ m / b := Nat.div_le_div_right (Nat.le_of_lt hnm)
    rcases Nat.lt_or_ge (n / b) (m / b) with hlt | hge
    · have hp : p + 1 < k := by
        rcases Nat.lt_or_ge (p + 1) k with h | h
        · exact h
        · have h0 := top_zero (by omega : ¬ p + 1 < k) hmb
          rw [h0] at hlt
          exact absurd hlt (Nat.not_lt_zero _)
      have h1 := ih (m / b) (Nat.div_lt_self (by omega) hb) (n / b) (p + 1) hlt hmb
      have h2 := dvd_step (bumpi_dvd hb hg (n / b) (p + 1) hp (Nat.lt_trans hlt hmb)) (bumpi_dvd hb hg (m / b) (p + 1) hp hmb) h1
      have h3 := low_part (n := n) (p := p) (g := g) hb hB
      have h4 : B ^ (g p + 1) ≤ B ^ g (p + 1) := Nat.pow_le_pow_right (by omega) (hg p (p + 1) (Nat.lt_succ_self _) hp)
      omega
    · have e : n / b = m / b := by omega
      have hmod : n % b < m % b := by
        have h1 := Nat.div_add_mod n b
        have h2 := Nat.div_add_mod m b
        rw [e] at h1
        omega
      rw [e]
      exact Nat.add_lt_add_left (Nat.mul_lt_mul_of_pos_right hmod (Nat.pow_pos (by omega))) _
theorem bumpi_bound {b B : Nat} {g : Nat → Nat} {k : Nat} (hb : 2 ≤ b) (hB : b ≤ B) (hg : Mono g k) : ∀ (j n p : Nat), n < b ^ (j + 1) → p + j < k → bumpi b B g n p < B ^ (g (p + j) + 1)
  | 0, n, p, hn, _ => by
    rw [bumpi_pos hb, Nat.div_eq_of_lt (by simpa using hn), bumpi_zero, Nat.zero_add]
    exact low_part hb hB
  | j + 1, n, p, hn, hk => by
    have hd : n / b < b ^ (j + 1) := by
      rw [Nat.pow_succ] at hn
      exact Nat.div_lt_of_lt_mul (by rwa [Nat.mul_comm] at hn)
    have h1 := bumpi_bound hb hB hg j (n / b) (p + 1) hd (by omega)
    rw [show p + 1 + j = p + (j + 1) by omega] at h1
    rw [bumpi_pos hb]
    have hp : p + 1 < k := by omega
    have hd' : n / b < b ^ (k - (p + 1)) := Nat.lt_of_lt_of_le hd (Nat.pow_le_pow_right (by omega) (by omega))
    have h5 : g (p + 1) ≤ g (p + (j + 1)) := by
      rcases Nat.eq_zero_or_pos j with h | h
      · subst h; exact Nat.le_refl _
      · exact Nat.le_of_lt (hg _ _ (by omega) (by omega))
    have h2 := dvd_step (bumpi_dvd hb hg (n / b) (p + 1) hp hd') (Nat.pow_dvd_pow B (by omega : g (p + 1) ≤ g (p + (j + 1)) + 1)) h1
    have h3 := low_part (n := n) (p := p) (g := g) hb hB
    have h4 : B ^ (g p + 1) ≤ B ^ g (p + 1) := Nat.pow_le_pow_right (by omega) (hg p (p + 1) (Nat.lt_succ_self _) hp)
    omega
theorem bd_le {b f : Nat} (hb : 3 ≤ b) : bd (f + 1) ≤ b ^ bd f := by
  rcases Nat.eq_zero_or_pos (bd (f + 1)) with h0 | h0
  · omega
  · have := bd_step (f := f) (p := bd (f + 1) - 1) hb (by omega)
    omega
theorem Mono.le {g : Nat → Nat} {k j : Nat} (h : Mono g k) (hj : j ≤ k) : Mono g j := fun p q h1 h2 => h p q h1 (by omega)
theorem bump_mono {b B : Nat} (hb : 3 ≤ b) (hB : b ≤ B) : ∀ f, Mono (bump b B f) (b ^ bd f)
  | 0 => fun p q h hq => by
    have : q < 1 := hq
    omega
  | f + 1 => fun p q h hq => bumpi_lt (k := bd (f + 1)) (by omega) hB ((bump_mono hb hB f).le (bd_le hb)) q p 0 h (by rwa [Nat.sub_zero])
theorem bump1_one {b B : Nat} (hb : 2 ≤ b) : bump b B 1 1 = 1 := by
  show bumpi b B (bump b B 0) 1 0 = 1
  rw [bumpi_pos hb, Nat.div_eq_of_lt (by omega), bumpi_zero, Nat.mod_eq_of_lt (by omega)]
  show 0 + 1 * B ^ 0 = 1
  simp
theorem bump2_top {b B : Nat} (hb : 2 ≤ b) : bump b B 2 (b + 1) = B + 1 := by
  show bumpi b B (bump b B 1) (b + 1) 0 = B + 1
  have h1 : (b + 1) / b = 1 := by
    rw [Nat.add_div_left _ (by omega), Nat.div_eq_of_lt (by omega)]
  have h2 : (b + 1) % b = 1 := by
    rw [Nat.add_mod_left, Nat.mod_eq_of_lt (by omega)]
  rw [bumpi_pos hb, h1, h2, bumpi_pos hb, Nat.div_eq_of_lt (by omega), bumpi_zero, Nat.mod_eq_of_lt (by omega), bump1_one hb, bump_zero]
  simp
theorem pow_mono_base {b : Nat} (hb : 3 ≤ b) (h7 : b ≤ 7) : b ^ (b + 2) ≤ b ^ bd 3 := Nat.pow_le_pow_right (by omega) (by show b + 2 ≤ 9; omega)
theorem mono2 {b B : Nat} (hb : 3 ≤ b) (hB : b ≤ B) : Mono (bump b B 2) (b + 2) := (bump_mono hb hB 2).le (by
  show b + 2 ≤ b ^ 2
  have : 3 * b ≤ b * b := Nat.mul_le_mul_right b hb
  rw [Nat.pow_two]; omega)
theorem bump_lt0 {b B n : Nat} (hb : 3 ≤ b) (hB : b ≤ B) (hn : n < b ^ (b + 2)) : bump b B 3 n < B ^ (B + 2) := by
  have := bumpi_bound (by omega) hB (mono2 hb hB) (b + 1) n 0 hn (by omega)
  rw [Nat.zero_add, bump2_top (by omega)] at this
  exact this
/-! reading -/
theorem readRun_app (B : Nat) : ∀ (a c : List (Int × RV)) (st : List Nat), readRun B st (a ++ c) = (readRun B st a).bind fun st' => readRun B st' c
  | [], c, st => by simp [readRun]
  | q :: a, c, st => by
    simp only [List.cons_append, readRun]
    cases readStep B st q with
    | none => rfl
    | some st' => simp only [Option.bind_some]; exact readRun_app B a c st'
theorem read_figure {B d pl t : Nat} {st : List Nat} (hd0 : 0 < d) (hd : d < 16) (hpl : pl ≤ 64) : readRun B (pl :: t :: st) (pairsOf (d : Int)) = some ((t + d * B ^ pl) :: st) := by
  unfold pairsOf
  rw [if_neg (by omega), if_neg (by omega)]
  show (readStep B (pl :: t :: st) (100, .i 1)).bind _ = _
  rw [readStep_no (by decide) (by decide)]
  show (readStep B (pl :: t :: st) (0, .s ⟨#[65 + (d : Int).toNat]⟩)).bind _ = _
  rw [show (d : Int).toNat = d by omega]
  have e : readStep B (pl :: t :: st) (0, .s ⟨#[65 + d]⟩) = some ((t + (65 + d - 65) * B ^ pl) :: st) := by
    show (if (0 : Int) = 200 then _ else if (0 : Int) = 0 then _ else _) = _
    rw [if_neg (by decide), if_pos rfl]
    show (if (⟨#[65 + d]⟩ : Str) = ⟨#[65 + d]⟩ ∧ 65 ≤ 65 + d ∧ 65 + d < 128 ∧ pl ≤ 64 then _ else _) = _
    rw [if_pos ⟨rfl, by omega, by omega, hpl⟩]
    rfl
  rw [e, show 65 + d - 65 = d by omega]
  rfl
theorem read_wri {b B : Nat} {g : Nat → List Int} {g' : Nat → Nat} {k : Nat} (hb : 2 ≤ b) (hb16 : b ≤ 16)
    (hg : ∀ q, q < k → (∀ st, readRun B (0 :: st) ((g q).flatMap pairsOf) = some (g' q :: st)) ∧ g' q ≤ 64) : ∀ (n p t : Nat) (st : List Nat), n < b ^ (k - p) → readRun B (t :: st) ((wri b g n p).flatMap pairsOf) = some ((t + bumpi b B g' n p) :: st) := by
  intro n
  induction n using Nat.strongRecOn with
  | ind n ih =>
    intro p t st hn
    by_cases e : n = 0
    · subst e; rw [wri_zero, bumpi_zero]; rfl
    · have hpk : p < k := by
        rcases Nat.lt_or_ge p k with h | h
        · exact h
        · exact absurd (top_zero (by omega : ¬ p < k) hn) e
      rw [wri_pos g e hb, List.flatMap_append, readRun_app, ih (n / b) (Nat.div_lt_self (by omega) hb) (p + 1) t st (div_pow_lt hpk hn), bumpi_pos (n := n) hb]
      show readRun B _ _ = _
      unfold piece
      have hmod : n % b < b := Nat.mod_lt _ (by omega)
      split
      · rename_i hd
        rw [List.flatMap_append, List.flatMap_append, readRun_app, readRun_app]
        have h1 : readRun B ((t + bumpi b B g' (n / b) (p + 1)) :: st) (([-1] : List Int).flatMap pairsOf) = some (0 :: (t + bumpi b B g' (n / b) (p + 1)) :: st) := rfl
        rw [h1]
        show ((readRun B (0 :: (t + bumpi b B g' (n / b) (p + 1)) :: st) ((g p).flatMap pairsOf))).bind _ = _
        rw [(hg p hpk).1]
        show readRun B (g' p :: (t + bumpi b B g' (n / b) (p + 1)) :: st) (([((n % b : Nat) : Int)] : List Int).flatMap pairsOf) = _
        rw [List.flatMap_cons, List.flatMap_nil, List.append_nil, read_figure hd (by omega) (hg p hpk).2, Nat.add_assoc]
      · rename_i hd
        have : n % b = 0 := by omega
        rw [this]
        simp [pairsOf, readRun]
theorem read_lvl1 {b B : Nat} (hb : 3 ≤ b) (h7 : b ≤ 7) : ∀ q, q < 2 → (∀ st, readRun B (0 :: st) ((wr b 1 q).flatMap pairsOf) = some (bump b B 1 q :: st)) ∧ bump b B 1 q ≤ 64 := by
  intro q hq
  refine ⟨fun st => ?_, ?_⟩
  · have := read_wri (b := b) (B := B) (g := wr b 0) (g' := bump b B 0) (k := 1) (by omega) (by omega) (fun q _ => ⟨fun st => rfl, Nat.zero_le _⟩) q 0 0 st (by show q < b ^ 1; rw [Nat.pow_one]; omega)
    rw [Nat.zero_add] at this
    exact this
  · match q, hq with
    | 0, _ => rw [bump_zero]; exact Nat.zero_le _
    | 1, _ => rw [bump1_one (by omega)]; decide
theorem read_lvl2 {b B : Nat} (hb : 3 ≤ b) (hB : b ≤ B) (h7 : B ≤ 7) : ∀ q, q < b + 2 → (∀ st, readRun B (0 :: st) ((wr b 2 q).flatMap pairsOf) = some (bump b B 2 q :: st)) ∧ bump b B 2 q ≤ 64 := by
  intro q hq
  refine ⟨fun st => ?_, ?_⟩
  · have := read_wri (b := b) (B := B) (g := wr b 1) (g' := bump b B 1) (k := 2) (by omega) (by omega) (read_lvl1 hb (by omega)) q 0 0 st (by
      show q < b ^ 2
      have : 3 * b ≤ b * b := Nat.mul_le_mul_right b hb
      rw [Nat.pow_two]; omega)
    rw [Nat.zero_add] at this
    exact this
  · have h1 : bump b B 2 q ≤ bump b B 2 (b + 1) := by
      rcases Nat.lt_or_ge q (b + 1) with h | h
      · exact Nat.le_of_lt (mono2 hb hB q (b + 1) h (by omega))
      · rw [show q = b + 1 by omega]; exact Nat.le_refl _
    rw [bump2_top (by omega)] at h1
    omega
theorem read_wr {b B n : Nat} (hb : 3 ≤ b) (hB : b ≤ B) (h7 : B ≤ 7) (hn : n < b ^ (b + 2)) : readRun B [0] ((wr b 3 n).flatMap pairsOf) = some [bump b B 3 n] := by
  have := read_wri (b := b) (B := B) (g := wr b 2) (g' := bump b B 2) (k := b + 2) (by omega) (by omega) (read_lvl2 hb hB h7) n 0 0 [] hn
  rw [Nat.zero_add] at this
  exact this
end

/-! PO -/
section
set_option maxRecDepth 100000
set_option maxHeartbeats 1000000
def nz (ns : List Int) : List Int := ns.filter (· != 0)
theorem nz_app (a b : List Int) : nz (a ++ b) = nz a ++ nz b := by simp [nz]
theorem nz_piece0 (g : Nat → List Int) (p : Nat) : nz (piece g 0 p) = [] := by
  unfold piece; rw [if_neg (by omega)]; rfl
theorem nz_piece (g : Nat → List Int) (d p : Nat) (h : 0 < d) : nz (piece g d p) = [-1] ++ (nz (g p) ++ [(d : Int)]) := by
  unfold piece
  rw [if_pos h, nz_app, nz_app]
  have h1 : nz [-1] = [-1] := rfl
  have h2 : nz [(d : Int)] = [(d : Int)] := by
    have : ((d : Int) != 0) = true := by simp; omega
    simp [nz, this]
  rw [h1, h2, List.append_assoc]
theorem tell_nz (ns : List Int) : tellL (nz ns) = tellL ns := by
  induction ns with
  | nil => rfl
  | cons c ns ih =>
    by_cases h : c = 0
    · subst h
      show tellL (nz ns) = tellOf 0 ++ tellL ns
      rw [ih]; rfl
    · have : nz (c :: ns) = c :: nz ns := by simp [nz, h]
      rw [this]
      show tellOf c ++ tellL (nz ns) = tellOf c ++ tellL ns
      rw [ih]
theorem pairs_nz (ns : List Int) : (nz ns).flatMap pairsOf = ns.flatMap pairsOf := by
  induction ns with
  | nil => rfl
  | cons c ns ih =>
    by_cases h : c = 0
    · subst h
      show (nz ns).flatMap pairsOf = pairsOf 0 ++ ns.flatMap pairsOf
      rw [ih]; rfl
    · have : nz (c :: ns) = c :: nz ns := by simp [nz, h]
      rw [this, List.flatMap_cons, List.flatMap_cons, ih]
theorem nz_wri_pos {b : Nat} (g : Nat → List Int) {n p : Nat} (hb : 2 ≤ b) : nz (wri b g n p) = nz (wri b g (n / b) (p + 1)) ++ nz (piece g (n % b) p) := by
  by_cases e : n = 0
  · subst e; rw [Nat.zero_div, Nat.zero_mod, wri_zero, wri_zero, nz_piece0]; rfl
  · rw [wri_pos g e hb, nz_app]
/-- writing the bumped number again -/
theorem nz_wri {b B : Nat} {g gB : Nat → List Int} {g' : Nat → Nat} {k : Nat} (hb : 2 ≤ b) (hB : b ≤ B) (hm : Mono g' k) (hr : ∀ q, q < k → nz (gB (g' q)) = nz (g q)) :
    ∀ (n p : Nat), p < k → n < b ^ (k - p) → ∀ (d e : Nat), e + d = g' p → nz (wri B gB (bumpi b B g' n p / B ^ e) e) = nz (wri b g n p) := by
  intro n
  induction n using Nat.strongRecOn with
  | ind n ih =>
    intro p hpk hn d
    have hBpos : 0 < B := by omega
    induction d with
    | zero =>
      intro e he
      have he : e = g' p := by omega
      subst he
      by_cases h0 : n = 0
      · subst h0; rw [bumpi_zero, Nat.zero_div, wri_zero, wri_zero]
      have hd := div_pow_lt hpk hn
      have hP : 0 < B ^ g' p := Nat.pow_pos hBpos
      -- the higher part
      have hdv : B ^ (g' p + 1) ∣ bumpi b B g' (n / b) (p + 1) := by
        by_cases hp : p + 1 < k
        · exact Nat.dvd_trans (Nat.pow_dvd_pow B (hm p (p + 1) (Nat.lt_succ_self _) hp)) (bumpi_dvd hb hm (n / b) (p + 1) hp hd)
        · rw [top_zero hp hd, bumpi_zero]; exact Nat.dvd_zero _
      obtain ⟨c, hc⟩ := hdv
      have hV : bumpi b B g' n p / B ^ g' p = B * c + n % b := by
        rw [bumpi_pos hb, hc, Nat.pow_succ, Nat.mul_assoc, Nat.mul_comm (n % b), ← Nat.mul_add, Nat.mul_div_cancel_left _ hP]
      have hmod : n % b < B := Nat.lt_of_lt_of_le (Nat.mod_lt _ (by omega)) hB
      rw [hV, nz_wri_pos gB (by omega : 2 ≤ B), nz_wri_pos g hb]
      have h1 : (B * c + n % b) / B = c := by
        rw [Nat.mul_add_div hBpos, Nat.div_eq_of_lt hmod, Nat.add_zero]
      have h2 : (B * c + n % b) % B = n % b := by
        rw [Nat.mul_add_mod, Nat.mod_eq_of_lt hmod]
      rw [h1, h2]
      have h3 : nz (wri B gB c (g' p + 1)) = nz (wri b g (n / b) (p + 1)) := by
        by_cases hp : p + 1 < k
        · have h4 := hm p (p + 1) (Nat.lt_succ_self _) hp
          have := ih (n / b) (Nat.div_lt_self (by omega) hb) (p + 1) hp hd (g' (p + 1) - (g' p + 1)) (g' p + 1) (by omega)
          rw [hc, Nat.mul_div_cancel_left _ (Nat.pow_pos hBpos)] at this
          exact this
        · have h5 := top_zero hp hd
          rw [h5, bumpi_zero] at hc
          have hc0 : c = 0 := by
            rcases Nat.mul_eq_zero.mp hc.symm with h | h
            · exact absurd h (Nat.ne_of_gt (Nat.pow_pos hBpos))
            · exact h
          rw [h5, hc0, wri_zero, wri_zero]
      rw [h3]
      congr 1
      rcases Nat.eq_zero_or_pos (n % b) with hz | hz
      · rw [hz, nz_piece0, nz_piece0]
      · rw [nz_piece _ _ _ hz, nz_piece _ _ _ hz, hr p hpk]
    | succ d ihd =>
      intro e he
      have h1 := ihd (e + 1) (by omega)
      obtain ⟨c, hc⟩ := bumpi_dvd (B := B) hb hm n p hpk hn
      have hdv : B ∣ bumpi b B g' n p / B ^ e := by
        rw [hc, show g' p = e + (d + 1) by omega, Nat.pow_add, Nat.mul_assoc, Nat.mul_div_cancel_left _ (Nat.pow_pos hBpos), Nat.pow_succ, Nat.mul_comm (B ^ d) B, Nat.mul_assoc]
        exact Nat.dvd_mul_right _ _
      rw [nz_wri_pos gB (by omega : 2 ≤ B), Nat.mod_eq_zero_of_dvd hdv, nz_piece0, List.append_nil, Nat.div_div_eq_div_mul, ← Nat.pow_succ]
      exact h1
theorem nz_wri0 {b B : Nat} {g gB : Nat → List Int} {g' : Nat → Nat} {k : Nat} (hb : 2 ≤ b) (hB : b ≤ B) (hk : 0 < k) (hm : Mono g' k) (hr : ∀ q, q < k → nz (gB (g' q)) = nz (g q)) {n : Nat} (hn : n < b ^ k) :
    nz (wri B gB (bumpi b B g' n 0) 0) = nz (wri b g n 0) := by
  have := nz_wri hb hB hm hr n 0 hk (by rwa [Nat.sub_zero]) (g' 0) 0 (by omega)
  rw [Nat.pow_zero, Nat.div_one] at this
  exact this
theorem nz_lvl : ∀ (f : Nat) {b B n : Nat}, 3 ≤ b → b ≤ B → f ≤ 2 → n < b ^ bd f → nz (wr B f (bump b B f n)) = nz (wr b f n)
  | 0, _, _, _, _, _, _, _ => rfl
  | f + 1, b, B, n, hb, hB, hf, hn => by
    have hk : 0 < bd (f + 1) := by
      match f, hf with
      | 0, _ => decide
      | 1, _ => decide
    exact nz_wri0 (by omega) hB hk ((bump_mono hb hB f).le (bd_le hb)) (fun q hq => nz_lvl f hb hB (by omega) (Nat.lt_of_lt_of_le hq (bd_le hb))) hn
theorem nz_bump0 {b B n : Nat} (hb : 3 ≤ b) (hB : b ≤ B) (hn : n < b ^ (b + 2)) : nz (wr B 3 (bump b B 3 n)) = nz (wr b 3 n) :=
  nz_wri0 (by omega) hB (by omega) (mono2 hb hB) (fun q hq => nz_lvl 2 hb hB (Nat.le_refl 2) (Nat.lt_of_lt_of_le hq (by
    show b + 2 ≤ b ^ 2
    have : 3 * b ≤ b * b := Nat.mul_le_mul_right b hb
    rw [Nat.pow_two]; omega))) hn
theorem bump_comp {b c B n : Nat} (hb : 3 ≤ b) (hc : b ≤ c) (hB : c ≤ B) (h7 : B ≤ 7) (hn : n < b ^ (b + 2)) : bump c B 3 (bump b c 3 n) = bump b B 3 n := by
  have h1 := read_wr (B := B) (by omega : 3 ≤ c) hB h7 (bump_lt0 hb hc hn)
  have h2 := read_wr hb (Nat.le_trans hc hB) h7 hn
  rw [← pairs_nz, nz_bump0 hb hc hn, pairs_nz, h2] at h1
  simpa using h1.symm
theorem bump_pred {b c B n : Nat} (hb : 3 ≤ b) (hc : b ≤ c) (hB : c ≤ B) (h7 : B ≤ 7) (hn : n < b ^ (b + 2)) : bump b B 3 n = 0 ∨ bump c B 3 (bump b c 3 n - 1) < bump b B 3 n := by
  rw [← bump_comp hb hc hB h7 hn]
  rcases Nat.eq_zero_or_pos (bump b c 3 n) with h | h
  · exact .inl (by rw [h, bump_zero])
  · exact .inr (bump_mono (by omega : 3 ≤ c) hB 3 _ _ (by omega) (Nat.lt_of_lt_of_le (bump_lt0 hb hc hn) (pow_mono_base (by omega) (by omega))))
theorem tell_lt {B N M : Nat} (hb : 3 ≤ B) (h7 : B ≤ 7) (h : N < M) (hM : M < B ^ (B + 2)) : cmpL (tellL (wr B 3 N)) (tellL (wr B 3 M)) = some true :=
  tell_lt' hb h (Nat.lt_of_lt_of_le hM (pow_mono_base hb h7))
theorem wr_zero (b f : Nat) : wr b f 0 = [] := by cases f with
  | zero => rfl
  | succ f => exact wri_zero _ _ _
theorem wri_figs {b : Nat} (hb : 2 ≤ b) (hB : b ≤ 7) {g : Nat → List Int} (hg : ∀ q, ∀ c ∈ g q, c < 7) : ∀ (n p : Nat), ∀ c ∈ wri b g n p, c < 7 := by
  intro n
  induction n using Nat.strongRecOn with
  | ind n ih =>
    intro p c hc
    by_cases e : n = 0
    · subst e; rw [wri_zero] at hc; cases hc
    · rw [wri_pos g e hb] at hc
      rcases List.mem_append.mp hc with h | h
      · exact ih (n / b) (Nat.div_lt_self (by omega) hb) _ c h
      · have hmod : n % b < b := Nat.mod_lt _ (by omega)
        unfold piece at h
        split at h
        · rcases List.mem_append.mp h with h | h
          · rcases List.mem_append.mp h with h | h
            · rw [List.mem_singleton.mp h]; decide
            · exact hg p c h
          · rw [List.mem_singleton.mp h]
            have : n % b < 7 := by omega
            exact Int.ofNat_lt.mpr this
        · rw [List.mem_singleton.mp h]; decide
theorem wr_figs' {b : Nat} (hb : 2 ≤ b) (hB : b ≤ 7) : ∀ (f n : Nat), ∀ c ∈ wr b f n, c < 7
  | 0, _, c, hc => nomatch hc
  | f + 1, n, c, hc => wri_figs hb hB (wr_figs' hb hB f) n 0 c hc
theorem wr_figs {b : Nat} (hb : 3 ≤ b) (hB : b ≤ 7) (n : Nat) : ∀ c ∈ wr b 3 n, c < 7 := wr_figs' (by omega) hB 3 n
theorem wri_head {b : Nat} (hb : 2 ≤ b) {g : Nat → List Int} : ∀ (n p : Nat), n ≠ 0 → ∃ ns, wri b g n p = -1 :: ns := by
  intro n
  induction n using Nat.strongRecOn with
  | ind n ih =>
    intro p e
    rw [wri_pos g e hb]
    by_cases h : n / b = 0
    · have hlt : n < b := by
        rcases Nat.lt_or_ge n b with h' | h'
        · exact h'
        · have := Nat.div_pos h' (by omega); omega
      rw [h, wri_zero, Nat.mod_eq_of_lt hlt]
      unfold piece
      rw [if_pos (by omega)]
      exact ⟨_, rfl⟩
    · obtain ⟨ns, hns⟩ := ih (n / b) (Nat.div_lt_self (by omega) hb) (p + 1) h
      rw [hns]
      exact ⟨_, rfl⟩
theorem wr_head {b : Nat} (hb : 3 ≤ b) (n : Nat) : wr b 3 n = [] ∨ ∃ ns, wr b 3 n = -1 :: ns := by
  by_cases e : n = 0
  · subst e; exact .inl (wr_zero _ _)
  · exact .inr (wri_head (by omega) n 0 e)
/-! the plain writing -/
theorem hex_ord : ∀ (M N : Nat), N < M → (hexs N).length = (hexs M).length → ∃ c a b x y, hexs N = c ++ a :: x ∧ hexs M = c ++ b :: y ∧ a < b := by
  intro M
  induction M using Nat.strongRecOn with
  | ind M ih =>
    intro N hNM hl
    have hM0 : M ≠ 0 := by omega
    rw [hexs_pos hM0] at hl ⊢
    have hN0 : N ≠ 0 := by
      rintro rfl
      rw [hexs_zero] at hl
      simp at hl
    rw [hexs_pos hN0] at hl ⊢
    simp only [List.length_append, List.length_singleton] at hl
    rcases Nat.lt_or_ge (N / 16) (M / 16) with h | h
    · obtain ⟨c, a, b, x, y, h1, h2, h3⟩ := ih (M / 16) (by omega) (N / 16) h (by omega)
      exact ⟨c, a, b, x ++ [N % 16], y ++ [M % 16], by rw [h1]; simp, by rw [h2]; simp, h3⟩
    · have e : N / 16 = M / 16 := by omega
      rw [e]
      exact ⟨_, N % 16, M % 16, [], [], rfl, rfl, by omega⟩
theorem lex_app (c : List Nat) (a b : Nat) (x y : List Nat) (h : a < b) : c ++ a :: x < c ++ b :: y := by
  induction c with
  | nil => exact List.Lex.rel h
  | cons d c ih => exact List.Lex.cons ih
theorem plain_lt {N M : Nat} (h : N < M) : cmpL (plainL N) (plainL M) = some true := by
  have hM0 : M ≠ 0 := by omega
  have hlM : 0 < (hexs M).length := by rw [hexs_pos hM0]; simp
  by_cases hN0 : N = 0
  · subst hN0
    unfold plainL
    rw [if_pos rfl, if_neg hM0]
    unfold cmpL
    rw [if_pos rfl]
    unfold cmpL
    rw [if_neg (by omega), decide_eq_true (by omega)]
  · unfold plainL
    rw [if_neg hN0, if_neg hM0]
    have hle : (hexs N).length ≤ (hexs M).length := by
      have h1 := (hexs_lt_iff ((hexs N).length - 1) N).mpr (by
        have : 0 < (hexs N).length := by rw [hexs_pos hN0]; simp
        omega)
      have h2 := (hexs_lt_iff ((hexs N).length - 1) M).mp (Nat.le_trans h1 (Nat.le_of_lt h))
      omega
    unfold cmpL
    rw [if_pos rfl]
    unfold cmpL
    rcases Nat.lt_or_ge (hexs N).length (hexs M).length with hlt | hge
    · rw [if_neg (by omega), decide_eq_true (by omega)]
    · have he : (hexs N).length = (hexs M).length := by omega
      rw [if_pos (by rw [he])]
      unfold cmpL
      rw [if_pos rfl]
      unfold cmpL
      obtain ⟨c, a, b, x, y, h1, h2, h3⟩ := hex_ord M N h he
      have hlt : ((hexs N).map fun d => 65 + d) < ((hexs M).map fun d => 65 + d) := by
        rw [h1, h2, List.map_append, List.map_append]
        exact lex_app _ _ _ _ _ (by omega : 65 + a < 65 + b)
      rw [if_neg, decide_eq_true]
      · simpa using hlt
      · intro e
        injection e with e
        have e := congrArg Array.toList e
        simp only [List.toList_toArray] at e
        rw [e] at hlt
        exact List.lt_irrefl _ hlt
end

/-! PP -/
section
set_option maxRecDepth 100000
set_option maxHeartbeats 1000000
/-- the pieces of a text, where no two figures stand side by side -/
def cutL : List Nat → List (List Nat)
  | [] => [[]]
  | c :: r => if (isD c || isP c) = true then [] :: [c] :: cutL r else match cutL r with
    | p :: rest => (c :: p) :: rest
    | [] => [[c]]
def noDD : List Nat → Prop
  | [] => True
  | [_] => True
  | c :: d :: r => ¬ (isD c = true ∧ isD d = true) ∧ noDD (d :: r)
theorem noDD.tail {c : Nat} {r : List Nat} (h : noDD (c :: r)) : noDD r := by
  cases r with
  | nil => trivial
  | cons d r => exact h.2
theorem cutL_tok {c : Nat} (r : List Nat) (h : isD c = true ∨ isP c = true) : cutL (c :: r) = [] :: [c] :: cutL r := by
  rw [cutL, if_pos]
  rcases h with h | h
  · rw [h]; rfl
  · rw [h, Bool.or_true]
theorem lead_zero {T : Array Nat} {d st c : Nat} {r : List Nat} (hs : T.toList.drop st = c :: r) (hd : st + (d + 1) = T.size) (hn : noDD (c :: r)) (hc : isD c = true) : lead T d (st + 1) = 0 := by
  have hr : T.toList.drop (st + 1) = r := by
    rw [← List.drop_drop, hs]; rfl
  cases d with
  | zero => rfl
  | succ d =>
    unfold lead
    cases r with
    | nil =>
      have : T.toList.length ≤ st + 1 := List.drop_eq_nil_iff.mp hr
      simp at this
      omega
    | cons e r =>
      have hg : T.getD (st + 1) 0 = e := by
        have h1 : T.toList[st + 1]? = some e := by
          rw [← List.head?_drop, hr]; rfl
        rw [Array.getElem?_toList] at h1
        rw [Array.getD_eq_getD_getElem?, h1]; rfl
      rw [hg, if_neg]
      intro he
      exact hn.1 ⟨hc, he⟩
theorem first_cut (T : Array Nat) : ∀ (d st : Nat), st + d = T.size → noDD (T.toList.drop st) →
    (firstTok T d st = none ∧ cutL (T.toList.drop st) = [T.toList.drop st]) ∨ ∃ b, firstTok T d st = some (b, b + 1) ∧ st ≤ b ∧ b < T.size ∧ cutL (T.toList.drop st) = (T.toList.drop st).take (b - st) :: (T.toList.drop b).take 1 :: cutL (T.toList.drop (b + 1))
  | 0, st, h, _ => by
    have : T.toList.drop st = [] := List.drop_eq_nil_iff.mpr (by simp; omega)
    rw [this]
    exact .inl ⟨rfl, rfl⟩
  | d + 1, st, h, hn => by
    have hlt : st < T.toList.length := by simp; omega
    have hs : T.toList.drop st = T.toList[st] :: T.toList.drop (st + 1) := (List.getElem_cons_drop hlt).symm
    have hg : T.getD st 0 = T.toList[st] := by
      rw [Array.getD_eq_getD_getElem?, Array.getElem?_eq_getElem (by simpa using hlt)]; rfl
    have ih := first_cut T d (st + 1) (by omega) (by rw [hs] at hn; exact hn.tail)
    unfold firstTok
    rw [hg]
    generalize hc : T.toList[st] = c at hs
    by_cases h1 : isD c = true
    · rw [if_pos h1]
      refine .inr ⟨st, ?_, Nat.le_refl _, by omega, ?_⟩
      · have hl : lead T (d + 1) st = 1 := by
          unfold lead
          rw [hg, hc, if_pos h1, lead_zero hs h (hs ▸ hn) h1]
        rw [hl]
      · rw [hs]
        rw [cutL_tok _ (.inl h1), Nat.sub_self]
        rfl
    · rw [if_neg h1]
      by_cases h2 : isP c = true
      · rw [if_pos h2]
        refine .inr ⟨st, rfl, Nat.le_refl _, by omega, ?_⟩
        rw [hs]
        rw [cutL_tok _ (.inr h2), Nat.sub_self]
        rfl
      · rw [if_neg h2]
        have h3 : ¬ (isD c || isP c) = true := by
          intro h; rcases Bool.or_eq_true_iff.mp h with h | h
          · exact h1 h
          · exact h2 h
        have hcut : cutL (c :: T.toList.drop (st + 1)) = (match cutL (T.toList.drop (st + 1)) with | p :: rest => (c :: p) :: rest | [] => [[c]]) := by
          rw [cutL, if_neg h3]
        rcases ih with ⟨e1, e2⟩ | ⟨b, e1, e2, e3, e4⟩
        · refine .inl ⟨e1, ?_⟩
          rw [hs, hcut, e2]
        · refine .inr ⟨b, e1, by omega, e3, ?_⟩
          rw [hs, hcut, e4, show b - st = (b - (st + 1)) + 1 by omega, List.take_succ_cons]
theorem cuts_cutL (T : Array Nat) : ∀ (f st : Nat), st ≤ T.size → T.size - st < f → noDD (T.toList.drop st) →
    (cuts T T.size f st).map (fun q => (⟨T.extract q.1 q.2⟩ : Str)) = (cutL (T.toList.drop st)).map fun l => ⟨l.toArray⟩
  | 0, st, _, h, _ => by omega
  | f + 1, st, hs, hf, hn => by
    have ext : ∀ a b, T.extract a b = ((T.toList.drop a).take (b - a)).toArray := fun a b => by
      apply Array.toList_inj.mp; simp
    unfold cuts
    rcases first_cut T (T.size - st) st (by omega) hn with ⟨e1, e2⟩ | ⟨b, e1, e2, e3, e4⟩
    · rw [e1, e2]
      simp only [List.map_cons, List.map_nil]
      rw [ext, List.take_of_length_le (by simp)]
    · rw [e1, e4]
      simp only [List.map_cons]
      have hn' : noDD (T.toList.drop (b + 1)) := by
        have : ∀ (k : Nat) (l : List Nat), noDD l → noDD (l.drop k) := by
          intro k
          induction k with
          | zero => intro l h; exact h
          | succ k ih =>
            intro l h
            cases l with
            | nil => exact h
            | cons c r => exact ih r h.tail
        have := this (b + 1 - st) _ hn
        rw [List.drop_drop, show st + (b + 1 - st) = b + 1 by omega] at this
        exact this
      rw [cuts_cutL T f (b + 1) (by omega) (by omega) hn', ext, ext, show b + 1 - b = 1 by omega]
theorem cutS_cutL (l : List Nat) (h : noDD l) : cutS ⟨l.toArray⟩ = (cutL l).map fun l => ⟨l.toArray⟩ := by
  have := cuts_cutL l.toArray (l.toArray.size + 1) 0 (Nat.zero_le _) (by omega) (by simpa using h)
  simpa [cutS] using this
/-! names -/
theorem cls_cap : ∀ k : _root_.Fin 16, isD (65 + k.val) = false ∧ isP (65 + k.val) = false := by decide +kernel
theorem cls_cap' {c : Nat} (h : c < 16) : isD (65 + c) = false ∧ isP (65 + c) = false := cls_cap ⟨c, h⟩
theorem cls_p : isD 112 = false ∧ isP 112 = false := by decide +kernel
theorem cls_dash : isD 45 = false ∧ isP 45 = true := by decide +kernel
theorem cls_dig : ∀ k : _root_.Fin 10, isD (48 + k.val) = true := by decide +kernel
theorem cutL_other {c : Nat} {r p : List Nat} {rest : List (List Nat)} (h : isD c = false ∧ isP c = false) (hr : cutL r = p :: rest) : cutL (c :: r) = (c :: p) :: rest := by
  rw [cutL, if_neg (by rw [h.1, h.2]; exact Bool.false_ne_true), hr]
theorem name_cons (c : Int) (ns : List Int) : nameL (c :: ns) = (if c < 0 then [45, 112] else if c = 0 then [] else [45, 49, 65 + c.toNat]) ++ nameL ns := by simp [nameL]
theorem tell_cons (c : Int) (ns : List Int) : tellL (c :: ns) = tellOf c ++ tellL ns := rfl
theorem name_cut : ∀ ns : List Int, (∀ c ∈ ns, c < 16) → ∃ R, cutL (nameL ns) = [] :: R ∧ VKs (R.map fun l => (⟨l.toArray⟩ : Str)) (tellL ns)
  | [], _ => ⟨[], rfl, .nil⟩
  | c :: ns, h => by
    obtain ⟨R, h1, h2⟩ := name_cut ns fun c hc => h c (.tail _ hc)
    have hc := h c (.head _)
    rw [name_cons, tell_cons]
    unfold tellOf
    by_cases hn : c < 0
    · rw [if_pos hn, if_pos hn]
      refine ⟨[45] :: [112] :: R, ?_, ?_⟩
      · show cutL (45 :: 112 :: nameL ns) = _
        rw [cutL_tok _ (.inr cls_dash.2), cutL_other cls_p h1]
      · exact VKs.cons (r := []) .dash (VKs.cons (r := [.i 200, .s ⟨#[112]⟩]) .p h2)
    · rw [if_neg hn, if_neg hn]
      by_cases h0 : c = 0
      · rw [if_pos h0, if_pos h0]
        exact ⟨R, h1, h2⟩
      · rw [if_neg h0, if_neg h0]
        have hcap := cls_cap' (c := c.toNat) (by omega)
        refine ⟨[45] :: [] :: [49] :: [65 + c.toNat] :: R, ?_, ?_⟩
        · show cutL (45 :: 49 :: (65 + c.toNat) :: nameL ns) = _
          rw [cutL_tok _ (.inr cls_dash.2), cutL_tok (c := 49) _ (.inl (cls_dig ⟨1, by decide⟩)), cutL_other hcap h1]
        · refine VKs.cons (r := []) .dash (VKs.cons (r := []) .empty (VKs.cons (r := [.i 100, .i 1]) ?_ (VKs.cons (r := [.i 0, .s ⟨#[65 + c.toNat]⟩]) ?_ h2)))
          · exact VK.dig 1 (by decide)
          · exact VK.cap (65 + c.toNat) [] (by omega) (fun x hx => nomatch hx) (by decide)
theorem noDD_cons {c : Nat} {r : List Nat} (hr : noDD r) (h : isD c = false ∨ ∀ d s, r = d :: s → isD d = false) : noDD (c :: r) := by
  cases r with
  | nil => trivial
  | cons d s =>
    refine ⟨fun hh => ?_, hr⟩
    rcases h with h | h
    · rw [h] at hh; exact absurd hh.1 Bool.false_ne_true
    · rw [h d s rfl] at hh; exact absurd hh.2 Bool.false_ne_true
theorem name_noDD : ∀ ns : List Int, (∀ c ∈ ns, c < 16) → noDD (nameL ns)
  | [], _ => trivial
  | c :: ns, h => by
    have ih := name_noDD ns fun c hc => h c (.tail _ hc)
    have hc := h c (.head _)
    rw [name_cons]
    by_cases hn : c < 0
    · rw [if_pos hn]
      exact noDD_cons (noDD_cons ih (.inl cls_p.1)) (.inl cls_dash.1)
    · rw [if_neg hn]
      by_cases h0 : c = 0
      · rw [if_pos h0]; exact ih
      · rw [if_neg h0]
        have hcap := cls_cap' (c := c.toNat) (by omega)
        refine noDD_cons (noDD_cons (noDD_cons ih (.inl hcap.1)) (.inr ?_)) (.inl cls_dash.1)
        intro d s e
        cases e
        exact hcap.1
theorem vks_name (ns : List Int) (h : ∀ c ∈ ns, c < 16) : VKs (cutS (nameS ns)) (tellL ns) := by
  obtain ⟨R, h1, h2⟩ := name_cut ns h
  show VKs (cutS ⟨(nameL ns).toArray⟩) _
  rw [cutS_cutL _ (name_noDD ns h), h1]
  exact VKs.cons (r := []) .empty h2
theorem caps_cut : ∀ ds : List Nat, (∀ d ∈ ds, d < 16) → cutL (ds.map fun d => 65 + d) = [ds.map fun d => 65 + d]
  | [], _ => rfl
  | d :: ds, h => cutL_other (cls_cap' (h d (.head _))) (caps_cut ds fun d hd => h d (.tail _ hd))
theorem caps_noDD : ∀ ds : List Nat, (∀ d ∈ ds, d < 16) → noDD (ds.map fun d => 65 + d)
  | [], _ => trivial
  | d :: ds, h => noDD_cons (caps_noDD ds fun d hd => h d (.tail _ hd)) (.inl (cls_cap' (h d (.head _))).1)
theorem vks_told (n : Nat) (h : n < 16 ^ 9) : VKs (cutS (told n)) (plainL n) := by
  have hl := hexs_length 9 n h
  have hd := hexs_lt n
  have hdig : isD (48 + (hexs n).length) = true := cls_dig ⟨(hexs n).length, by omega⟩
  show VKs (cutS ⟨((48 + (hexs n).length) :: (hexs n).map fun d => 65 + d).toArray⟩) _
  rw [cutS_cutL _ (noDD_cons (caps_noDD _ hd) (.inr ?_)), cutL_tok _ (.inl hdig), caps_cut _ hd]
  · unfold plainL
    split
    · rename_i h0
      subst h0
      rw [hexs_zero]
      exact VKs.cons (r := []) .empty (VKs.cons (r := [.i 100, .i 0]) (VK.dig 0 (by decide)) (VKs.cons (r := []) .empty .nil))
    · rename_i h0
      have hne : hexs n ≠ [] := by rw [hexs_pos h0]; simp
      obtain ⟨c, cs, e⟩ := List.exists_cons_of_ne_nil hne
      refine VKs.cons (r := []) .empty (VKs.cons (r := [.i 100, .i (hexs n).length]) (VK.dig _ (by omega)) (VKs.cons (r := [.i 0, .s ⟨((hexs n).map fun d => 65 + d).toArray⟩]) ?_ .nil))
      rw [e]
      rw [e] at hd hl
      have hc := hd c (.head _)
      refine VK.cap (65 + c) (cs.map fun d => 65 + d) (by omega) (fun x hx => ?_) (by simp at hl ⊢; omega)
      obtain ⟨y, hy, rfl⟩ := List.mem_map.mp hx
      have := hd y (.tail _ hy)
      omega
  · intro d s e
    cases hh : hexs n with
    | nil => rw [hh] at e; cases e
    | cons c cs =>
      rw [hh] at e hd
      cases e
      exact (cls_cap' (hd c (.head _))).1
/-! laying -/
theorem lay_tell (ns : List Int) (h : ∀ c ∈ ns, c < 16) : ∀ x, RV.s x ∈ tellL ns → PyData.canLay0 (.str x) = true := by
  intro x hx
  unfold tellL at hx
  obtain ⟨c, hc, hx⟩ := List.mem_flatMap.mp hx
  have hc16 := h c hc
  unfold tellOf at hx
  split at hx
  · simp at hx
    subst hx
    decide +kernel
  · split at hx
    · cases hx
    · simp at hx
      subst hx
      show (#[65 + c.toNat] : Array Nat).all (· < 0x110000) = true
      simp
      omega
theorem lay_plain (n : Nat) (_h : n < 16 ^ 9) : ∀ x, RV.s x ∈ plainL n → PyData.canLay0 (.str x) = true := by
  intro x hx
  have hd := hexs_lt n
  unfold plainL at hx
  split at hx
  · simp at hx
  · simp at hx
    subst hx
    show (((hexs n).map fun d => 65 + d).toArray).all (· < 0x110000) = true
    rw [List.all_toArray, List.all_eq_true]
    intro y hy
    obtain ⟨d, hd', rfl⟩ := List.mem_map.mp hy
    have := hd d hd'
    simp
    omega
end

/-! PL -/
section
theorem bump_lt {b B n : Nat} (hb : 3 ≤ b) (hB : b ≤ B) (_h7 : B ≤ 7) (hn : n < b ^ (b + 2)) : bump b B 3 n < B ^ (B + 2) := bump_lt0 hb hB hn
theorem nz_bump {b B n : Nat} (hb : 3 ≤ b) (hB : b ≤ B) (_h7 : B ≤ 7) (hn : n < b ^ (b + 2)) : nz (wr B 3 (bump b B 3 n)) = nz (wr b 3 n) := nz_bump0 hb hB hn
end

/-! LW0 -/
section
set_option maxRecDepth 100000
set_option maxHeartbeats 4000000
/-- references to lists that hold what is told -/
inductive Refs (es : List (Addr × Obj)) : List Value → List (List RV) → Prop where
  | nil : Refs es [] []
  | cons {D its c vs ds dss} : (D, W.listOf its c) ∈ es → RVs its.toList ds → Refs es vs dss → Refs es (.ref D :: vs) (ds :: dss)
theorem Refs.mono {es es' : List (Addr × Obj)} (h : ∀ p ∈ es, p ∈ es') : ∀ {vs dss}, Refs es vs dss → Refs es' vs dss
  | _, _, .nil => .nil
  | _, _, .cons a b r => .cons (h _ a) b (Refs.mono h r)
theorem Refs.snoc {es : List (Addr × Obj)} {D : Addr} {its : Array Value} {c : Nat} {ds : List RV} (h : (D, W.listOf its c) ∈ es) (hr : RVs its.toList ds) : ∀ {vs dss}, Refs es vs dss → Refs es (vs ++ [.ref D]) (dss ++ [ds])
  | _, _, .nil => .cons h hr .nil
  | _, _, .cons a b r => .cons a b (Refs.snoc h hr r)
theorem Refs.length {es : List (Addr × Obj)} : ∀ {vs dss}, Refs es vs dss → vs.length = dss.length
  | _, _, .nil => rfl
  | _, _, .cons _ _ r => by simp [r.length]
theorem Refs.get {es : List (Addr × Obj)} : ∀ {vs dss}, Refs es vs dss → ∀ (i : Nat) ds, dss[i]? = some ds → ∃ D its c, vs[i]? = some (.ref D) ∧ (D, W.listOf its c) ∈ es ∧ RVs its.toList ds
  | _, _, .cons a b r, 0, ds, h => by simp at h; subst h; exact ⟨_, _, _, rfl, a, b⟩
  | _, _, .cons a b r, i + 1, ds, h => by simpa using r.get i ds (by simpa using h)
structure Inv (b2 : Nat) (Bs Tl Fl R Sl : Addr) (bo so : Obj) (m : Str → Option Value) (news : List (Addr × Obj)) (NN : List Nat) (es : List (Addr × Obj)) (tit fit : Array Value) (tc fc : Nat) (oc : Obj) : Prop where
  mb : m "bases" = some (.ref Bs)
  mt : m "tall" = some (.ref Tl)
  mf : m "flat" = some (.ref Fl)
  nw : news = (Tl, W.listOf tit tc) :: (Fl, W.listOf fit fc) :: (R, oc) :: (Bs, bo) :: (Sl, so) :: es
  cell : ∃ x, oc.data = .cell x
  tall : Refs es tit.toList (NN.map fun N => tellL (wr b2 3 N))
  flat : Refs es fit.toList (NN.map plainL)
  lim : ∀ N ∈ NN, N < b2 ^ (b2 + 2)
  ap : ∀ p ∈ es, p.1 ≠ Tl ∧ p.1 ≠ Fl ∧ p.1 ≠ R
def bb (r1 r2 : Nat) : Nat → Nat
  | 0 => 3
  | 1 => 4 + r1
  | _ => 5 + r1 + r2
theorem News.sub5 {h₀ h : Heap} {L : Addr} {news : List (Addr × Obj)} {a b c d e : Addr × Obj} (N : News h₀ L h news) (ha : a ∈ news) (hb : b ∈ news) (hc : c ∈ news) (hd : d ∈ news) (he : e ∈ news) : News h₀ L h [a, b, c, d, e] := fun p hp => by
  simp only [List.mem_cons, List.not_mem_nil, or_false] at hp
  rcases hp with rfl | rfl | rfl | rfl | rfl
  · exact N _ ha
  · exact N _ hb
  · exact N _ hc
  · exact N _ hd
  · exact N _ he
def HNat (m : Str → Option Value) (x : Str) (i : Nat) : Prop := ∃ t, m x = some (.int (i : Int) t)
theorem News.sub {h₀ h : Heap} {L : Addr} {news news' : List (Addr × Obj)} (N : News h₀ L h news) (hs : ∀ p ∈ news', p ∈ news) : News h₀ L h news' := fun p hp => N p (hs p hp)
theorem frag_46 (w : World) {a : Addr} {o : Obj} (e : (hd.heap_39 w.params).lookup a = some o) : a ≠ 46 := by
  rintro rfl
  have : (hd.heap_39 w.params).lookup 46 = none := rfl
  rw [this] at e; cases e
theorem in_based {w : World} {H B : Heap} {c : Addr} {ps : Array Value} (X : (hd.heap_39 w.params).In H) (hB : Based H B c 46 ps) : (hd.heap_39 w.params).In B := fun a o e => (hB.same.2 a (frag_46 w e)).trans (X a o e)
theorem top_based {p : Program} {loose : List Str} {mg mb : Str → Option Value} {H B : Heap} {c : Addr} {ps : Array Value} (T : TopRead p loose mg mb H) (hB : Based H B c 46 ps) : TopRead p loose mg mb B :=
  ⟨Heap.Ns.sameBut T.g hB.same (by decide), Heap.Ns.sameBut T.b hB.same (by decide), T.nolimit.sameBut hB.same (by decide), T.builtins, T.free⟩
theorem bmod_based {H B : Heap} {mg : Str → Option Value} {bm : Addr} {ob : Obj} {ps ps₁ : Array Value} (M : BMod H mainGlobals mg bm ob) (B0 : Based H H 50 46 ps₁) (hB : Based H B 50 46 ps) : BMod B mainGlobals mg bm ob :=
  M.extBut B0.tab fun b o hb e => (hB.same.2 b hb).trans e
theorem aokL (env : Env) : AOk (callerA.deeper env) 4 := ⟨rfl, (by decide +kernel : callerA.depth + 1 + 4 < recursionLimit), (by decide +kernel : callerA.units + 3 + 8 * 4 < cLine)⟩
theorem news_grow {H B h h' : Heap} {c P L : Addr} {ps ps' : Array Value} {news : List (Addr × Obj)} (hB : Based H B c P ps) (N : News B L h news) (hx : Heap.ExtBut P h h') : News (regrown B P ps') L h' news := fun p hp => by
  obtain ⟨n1, n2, n3⟩ := N p hp
  have hne : p.1 ≠ P := fun e => by rw [e, hB.tab.2] at n3; cases n3
  exact ⟨hx _ _ hne n1, n2, (Heap.get?_update_other _ _ (Ne.symm hne)).trans n3⟩
theorem fr_slot {B h B5 h5 : Heap} {L : Addr} {m : Str → Option Value} (F : Fr B L h m) (hS : Slot1 h L B5) (K : Ext B5 h5) : Fr B L h5 m := by
  refine ⟨?_, fun b o e => K _ _ (hS.keep (Nat.ne_of_lt (Nat.lt_of_lt_of_le (Heap.lt_size e) F.above)) (F.keep b o e)), F.above⟩
  obtain ⟨o, es, ep, ho, hd, r⟩ := F.ns
  obtain ⟨sl, e⟩ := hS.at_ _ ho
  exact ⟨_, es, ep, K _ _ e, hd, r⟩
theorem news_slot {B h B5 h5 : Heap} {L : Addr} {news : List (Addr × Obj)} (N : News B L h news) (hS : Slot1 h L B5) (K : Ext B5 h5) : News B L h5 news := fun p hp =>
  ⟨K _ _ (hS.keep (N p hp).2.1 (N p hp).1), (N p hp).2⟩
theorem frame_obj {B h : Heap} {L : Addr} {m : Str → Option Value} (F : Fr B L h m) : ∃ o, h.get? L = some o ∧ ∀ vs, o.data ≠ .fields vs := by
  obtain ⟨o, es, ep, ho, hd, r⟩ := F.ns
  exact ⟨o, ho, fun vs e => by rw [hd] at e; cases e⟩
theorem frame_low {w : World} {B h : Heap} {L : Addr} {m : Str → Option Value} (X : (hd.heap_39 w.params).In B) (F : Fr B L h m) : 107 ≤ L := by
  have hs : ((hd.heap_39 w.params).lookup 106).isSome = true := rfl
  obtain ⟨o, e⟩ := Option.isSome_iff_exists.mp hs
  exact Nat.le_trans (Heap.lt_size (X _ _ e)) F.above
theorem nameL_len (ns : List Int) : (nameL ns).length ≤ 3 * ns.length := by
  induction ns with
  | nil => exact Nat.zero_le _
  | cons c ns ih =>
    unfold nameL at ih ⊢
    rw [List.flatMap_cons, List.length_append, List.length_cons]
    have : (if c < 0 then [45, 112] else if c = 0 then [] else [45, 49, 65 + c.toNat] : List Nat).length ≤ 3 := by (repeat' split) <;> simp
    omega
theorem newsPush {h₀ h : Heap} {L : Addr} {news : List (Addr × Obj)} (N : News h₀ L h news) {p : Addr × Obj} (hp : h.get? p.1 = some p.2 ∧ p.1 ≠ L ∧ h₀.get? p.1 = none) : News h₀ L h (p :: news) := fun q hq => by
  rcases List.mem_cons.mp hq with rfl | hq
  · exact hp
  · exact N q hq
theorem storeCell {prog : Program} {w : World} {A : Around} {E : Value → Shared → Prop} {s : Shared} {h₀ : Heap} {L c : Addr} {m : Str → Option Value} {news news' : List (Addr × Obj)} {env : Env} {x : Str} {v : Value} {o : Obj} {v₀ : Option Value} {Q : Unit → Shared → Prop}
    (F : Fr h₀ L s.heap m) (N : News h₀ L s.heap news) (hmem : (c, o) ∈ news) (hd : o.data = .cell v₀) (hsub : ∀ p ∈ news', p ∈ news ∧ p.1 ≠ c)
    (hk : env.scope.kind = .function) (hl : env.kindOf x = some .cell) (hc : env.cells.lookup x = some c)
    (h : ∀ h' o', o'.data = .cell (some v) → Fr h₀ L h' m → News h₀ L h' ((c, o') :: news') → Q () { s with heap := h' }) : wpAny (model prog w) A (storeName env x v) Q E s := by
  obtain ⟨n1, n2, n3⟩ := N _ hmem
  refine wpAny_storeName_cell hk hl hc ⟨o, n1, hd⟩ fun h' hv hs => ?_
  obtain ⟨o', ho', hd'⟩ := hv
  refine h h' o' hd' ⟨F.ns.sameBut hs (Ne.symm n2), fun b ob e => (hs.2 b (fun q => ?_)).trans (F.keep b ob e), F.above⟩ fun p hp => ?_
  · rw [q, n3] at e; cases e
  · rcases List.mem_cons.mp hp with rfl | hp
    · exact ⟨ho', n2, n3⟩
    · exact ⟨(hs.2 p.1 (hsub p hp).2).trans (N p (hsub p hp).1).1, (N p (hsub p hp).1).2⟩
theorem ne_new {h₀ h : Heap} {L D : Addr} {news : List (Addr × Obj)} (N : News h₀ L h news) (hD : h.get? D = none) : ∀ p ∈ news, p.1 ≠ D := fun p hp e => by
  have := (N p hp).1
  rw [e, hD] at this; cases this
theorem unitsL {env : Env} : (callerA.deeper env).units + 64 < cLine := (by decide +kernel : callerA.units + 3 + 64 < cLine)
def InnerJ (b2 r1 r2 : Nat) (Bs Tl Fl R Sl : Addr) (bo so : Obj) (I : Addr) (oI : Obj) (i k : Nat) (m : Str → Option Value) (nx : List (Addr × Obj)) : Prop :=
  ∃ NN es tit fit tc fc oc' nx' x, nx = (I, oI) :: nx' ∧ Inv b2 Bs Tl Fl R Sl bo so m nx' NN es tit fit tc fc oc' ∧ NN.length = 3 * i + k ∧
    HNat m "left" x ∧ x < bb r1 r2 k ^ (bb r1 r2 k + 2) ∧ (∀ p ∈ es, p.1 ≠ I) ∧ (k = 0 ∨ ∃ NNp Nl, NN = NNp ++ [Nl] ∧ (Nl = 0 ∨ bump (bb r1 r2 k) b2 3 x < Nl))
structure Dis (L Bs Tl Fl Sl I I2 : Nat) : Prop where
  tf : Tl ≠ Fl
  tr : Tl ≠ L + 1
  fr : Fl ≠ L + 1
  bt : Bs ≠ Tl
  bf : Bs ≠ Fl
  br : Bs ≠ L + 1
  st : Sl ≠ Tl
  sf : Sl ≠ Fl
  sr : Sl ≠ L + 1
  it : I ≠ Tl
  if_ : I ≠ Fl
  ir : I ≠ L + 1
  jt : I2 ≠ Tl
  jf : I2 ≠ Fl
  jr : I2 ≠ L + 1
  ij : I ≠ I2
  si : Sl ≠ I
  sj : Sl ≠ I2
  bi : Bs ≠ I
  bj : Bs ≠ I2
  ri : L + 1 ≠ I
end

/-! LW1 -/
section
set_option maxRecDepth 100000
set_option maxHeartbeats 4000000
theorem pairs_len (ns : List Int) : (ns.flatMap pairsOf).length ≤ 2 * ns.length := by
  induction ns with
  | nil => exact Nat.zero_le _
  | cons c ns ih =>
    rw [List.flatMap_cons, List.length_append, List.length_cons]
    have : (pairsOf c).length ≤ 2 := by unfold pairsOf; (repeat' split) <;> simp
    omega
theorem paired_bump {b x : Nat} : ∀ {ls : List Nat} {vs ys : List Value}, IntsAre vs (ls.map fun c : Nat => (c : Int)) → Paired (fun v y => ∃ (c : Nat) (tv ty : Tok), v = .int (c : Int) tv ∧ y = .int ((bump b c 3 x : Nat) : Int) ty) vs ys → IntsAre ys (ls.map fun c => ((bump b c 3 x : Nat) : Int))
  | [], _, _, .nil, .nil => .nil
  | c :: ls, _, _, .cons _ t h, .cons ⟨c', tv, ty, e1, e2⟩ r => by
    injection e1 with e1 _
    have e1 : (c : Int) = (c' : Int) := e1
    have : c = c' := by omega
    subst this
    subst e2
    exact .cons _ _ (paired_bump h r)
theorem same_fn {K : Frag} {a : Addr} {o o' : Obj} (h1 : K.lookup a = some o) (h2 : K.lookup a = some o') : o = o' := Option.some.inj (h1.symm.trans h2)
theorem turnC {w : World} {p : Program} {loose : List Str} {mg mb : Str → Option Value} {s₂ : Shared} {H B h : Heap} {Q : Flow → Shared → Prop} {oc0 : Value} {od0 : Option Addr} {nm ql : Str} {params : Arguments} {s1 s2 s3 s4 sa u1 u2 u3 u4 u5 u6 : Stmt} {ra re rest o1 o2 : List Stmt} {t1 t2 i1 i2 : PySem.Expr} {p1 p2 : Pos} {scope : Scope} {dV kV doc pm cdv ct : Value} {an : Option Addr} {osl : Array (Option Value)}
    {L Bs Tl Fl Sl I I2 Ra : Addr} {oI oI2 oc6 so : Obj} {its5 bits tit fit : Array Value} {c5 tc fc tk i k x b2 r1 r2 D cy b nb : Nat} {ys : Array Value} {es : List (Addr × Obj)} {m : Str → Option Value} {NN : List Nat} {more : Array Value} {g : Array GenState}
    (ho : (hd.heap_39 w.params).lookup 106 = some ⟨oc0, od0, .func (fnOf nm ql params (s1 :: s2 :: s3 :: s4 :: .For t1 i1 (sa :: .For t2 i2 (u1 :: u2 :: u3 :: u4 :: u5 :: u6 :: rest) o2 p2 :: ra) o1 p1 :: re) scope dV kV doc pm an cdv ct), osl⟩)
    (XB : (hd.heap_39 w.params).In B) (TB : TopRead p loose mg mb B) (hB : Based H B 50 46 more) (hG : AllBare g) (dis : Dis L Bs Tl Fl Sl I I2)
    (hr1' : r1 < 2) (hr2' : r2 < 2) (hb2 : b2 = 5 + r1 + r2) (hk3 : k < 3) (hi3 : i < 3)
    (F : Fr B L h m) (hml : m "later" = some (.ref D)) (hmb : m "bases" = some (.ref Bs)) (hmt : m "tall" = some (.ref Tl)) (hmf : m "flat" = some (.ref Fl)) 
    (N : News B L h ((D, W.listOf ys cy) :: (L + 1, oc6) :: (Ra, W.listOf its5 c5) :: (I2, oI2) :: (I, oI) :: (Tl, W.listOf tit tc) :: (Fl, W.listOf fit fc) :: (Bs, W.listOf bits 0) :: (Sl, so) :: es))
    (hoc6 : oc6.data = .cell (some (.ref Ra))) (hr5 : RVs its5.toList (tellL (wr (b) 3 x))) (hxb : x < b ^ (b + 2))
    (hyh : ∃ r, IntsAre ys.toList (((bump b nb 3 x : Nat) : Int) :: r)) (hyl : ∃ r, IntsAre ys.toList (r ++ [((bump b b2 3 x : Nat) : Int)])) (hys2 : ys.size ≤ 2) (hb3 : 3 ≤ b) (hb1 : b ≤ nb) (hb2' : nb ≤ b2) (hnb : nb = bb r1 r2 (k + 1))
    (hDn : D ≠ L + 1 ∧ D ≠ Tl ∧ D ≠ Fl)
    (hes : ∀ q ∈ es, q.1 ≠ Tl ∧ q.1 ≠ Fl ∧ q.1 ≠ L + 1 ∧ q.1 ≠ I ∧ q.1 ≠ I2) (hRa : Ra ≠ Tl ∧ Ra ≠ Fl ∧ Ra ≠ L + 1 ∧ Ra ≠ I ∧ Ra ≠ I2)
    (tall : Refs es tit.toList (NN.map fun N => tellL (wr b2 3 N))) (flat : Refs es fit.toList (NN.map plainL)) (lim : ∀ N ∈ NN, N < b2 ^ (b2 + 2)) (hlen : NN.length = 3 * i + k)
     :
    wpC (model PySem.Challenge.rw_pe0065_01.prog w) (callerA.deeper (envOfC ql scope L 106 cdv)) (execs rest (envOfC ql scope L 106 cdv))
      (ForEndV (fun B => ∃ more, Based H B 50 46 more) AllBare L I2 oI2 (InnerJ b2 r1 r2 Bs Tl Fl (L + 1) Sl (W.listOf bits 0) so I oI i (k + 1)) s₂ Q) NoE { s₂ with heap := h, toks := tk, gens := g } := by
  revert XB
  k_fill
  intro XB
  have e := same_fn ho (o' := ⟨_, _, .func (fnOf _ _ _ _ _ _ _ _ _ _ _ _), _⟩) (by k_is)
  injection e with e1 e2 e3 e4
  injection e3 with e3
  injection e3 with f1 f2 f3 f4 f5 f6 f7 f8 f9 f10 f11 f12 f13 f14 f15
  injection f4 with f4
  injection f4 with z1 f4
  injection f4 with z2 f4
  injection f4 with z3 f4
  injection f4 with z4 f4
  injection f4 with g1 y1
  injection g1 with y2 y3 g2 y4 y5
  injection g2 with z9 g3
  injection g3 with g4 y6
  injection g4 with y7 y8 g5 y9 y10
  injection g5 with z5 g5
  injection g5 with z6 g5
  injection g5 with z7 g5
  injection g5 with z8 g5
  injection g5 with zz1 g5
  injection g5 with zz2 g5
  clear zz1 zz2 z1 z2 z3 z4 z5 z6 z7 z8 z9 y1 y2 y3 y4 y5 y6 y7 y8 y9 y10 e1 e2 e4 f1 f3 f6 f7 f8 f9 f10 f11 f12 f14 f15 ho
  subst f2 f5 f13 g5
  have hb27 : b2 ≤ 7 := by omega
  have hN := bump_lt hb3 (Nat.le_trans hb1 hb2') hb27 hxb
  have hN16 : bump b b2 3 x < 16 ^ 9 := Nat.lt_of_lt_of_le hN (Nat.le_trans (Nat.pow_le_pow_left hb27 _) (Nat.le_trans (Nat.pow_le_pow_right (by decide) (by omega : b2 + 2 ≤ 9)) (by decide)))
  have hhx := hexs_length 9 _ hN16
  obtain ⟨yl, hyl⟩ := hyl
  have hyl1 := hyl.length
  rw [List.length_append, List.length_singleton, Array.length_toList] at hyl1
  obtain ⟨ylt, hylt⟩ := hyl.get yl.length ((bump b b2 3 x : Nat) : Int) (by simp)
  rw [Array.getElem?_toList] at hylt
  have F := Fr.see4 F hmb hmt hmf hml
  refine wpC_execs_cons (wpC_Assign (wpC_Call_Name ?_))
  walk_at "mineL"
  refine wpC_callWith_fn1 (hlen := (Nat.zero_le 29 : 0 ≤ 29)) ?_
  walk_at "mineL"
  rename Fr _ _ _ _ => F
  rename News _ _ _ _ => N
  refine item_neg yl.length (News.isList N (.head _)) hyl1 (by omega) hylt ?_
  walk_at "mineL"
  refine lettered (bump b b2 3 x) _ (XB.keeps F.keep) (TB.keeps F.keep) ((aokL _).le (by decide)) hN16 ?_
  intro h1 tk1 t1' K1
  replace N := newsExt N K1
  replace F := frExt F K1
  walk_at "mineL"
  refine ⟨⟨_, _, F.keep _ _ (XB 44 _ (by k_is)), rfl⟩, ?_⟩
  obtain ⟨oF, hoF, hoF'⟩ := frame_obj F
  refine version_ (told (bump b b2 3 x)) t1' (plainL (bump b b2 3 x)) (XB.keeps F.keep) (TB.keeps F.keep) ((aokL _).le (by decide)) rfl ?_ hoF hoF' (frame_low XB F) ?_ (vks_told _ hN16) ?_
  · intro e; cases e
  · show ((48 + (hexs (bump b b2 3 x)).length) :: (hexs (bump b b2 3 x)).map (fun d => 65 + d)).toArray.size ≤ 1000
    simp only [List.size_toArray, List.length_cons, List.length_map]
    omega
  intro B5 h5 tk5 Sa its6 c6 hS5 K5 hn5 hD5 hr6
  have hSn := ne_new N hn5
  have hSaL : @Ne Nat Sa L := fun e => by rw [e, hoF] at hn5; cases hn5
  have hSaN : B.get? Sa = none := by
    cases e : B.get? Sa with
    | none => rfl
    | some o => rw [F.keep _ _ e] at hn5; cases hn5
  replace N : News B L h5 ((Sa, W.listOf its6 c6) :: _) := newsPush (news_slot N hS5 K5) ⟨hD5, hSaL, hSaN⟩
  replace F := fr_slot F hS5 K5
  clear hoF hoF' hS5 K5 hn5 hD5 hSaL hSaN oF
  walk_at "mineL"
  (try dsimp only)
  refine wpC_execs_cons (wpC_If (wpC_of ?_))
  walk_at "mineL"
  rename Fr _ _ _ _ => F
  rename News _ _ _ _ => N
  refine item_neg yl.length (News.isList N (.tail _ (.head _))) hyl1 (by omega) hylt ?_
  walk_at "mineL"
  refine plain_ (bump b b2 3 x) _ (XB.keeps F.keep) (TB.keeps F.keep) ((aokL _).le (by decide)) hN16 ?_
  intro h7 tk7 Qa its7 c7 K7 hQ7 hQ7' hr7
  replace N := newsExt N K7
  replace F := frExt F K7
  walk_at "mineL"
  refine ne_rvs (News.isList N (.head _)) (isList_of hQ7') hr6 hr7 (lay_plain _ hN16) (lay_plain _ hN16) unitsL ?_
  rw [show (!decide (plainL (bump b b2 3 x) = plainL (bump b b2 3 x))) = false by simp]
  refine wpAny_truthy_bool ?_
  rw [if_neg Bool.false_ne_true]
  refine wpC_execs_nil ?_
  (try dsimp only)
  refine wpC_execs_cons (wpC_of ?_)
  walk_at "mineL"
  have hSnTl : @Ne Nat Sa Tl := Ne.symm (hSn (Tl, W.listOf tit tc) (by simp))
  have hSnFl : @Ne Nat Sa Fl := Ne.symm (hSn (Fl, W.listOf fit fc) (by simp))
  have hSnR : @Ne Nat Sa (L + 1) := Ne.symm (hSn (L + 1, oc6) (by simp))
  have hSnI : @Ne Nat Sa I := Ne.symm (hSn (I, oI) (by simp))
  have hSnI2 : @Ne Nat Sa I2 := Ne.symm (hSn (I2, oI2) (by simp))
  clear hSn hQ7 hQ7' hr7
  have htsz := tall.length
  have hfsz := flat.length
  rw [List.length_map, Array.length_toList] at htsz hfsz
  refine append_K F N (.tail hSnTl (.tail hDn.2.1 (.tail (Ne.symm dis.tr) (.tail hRa.1 (.tail dis.jt (.tail dis.it (.head ?_))))))) ?_ (by rw [sizeLine_eq]; omega)
  · intro q hq
    simp only [List.mem_cons] at hq
    rcases hq with rfl | rfl | rfl | hq
    · exact Ne.symm dis.tf
    · exact dis.bt
    · exact dis.st
    · exact (hes q hq).1
  clear F N
  intro h8 F N
  (try dsimp only)
  refine wpC_execs_cons (wpC_of ?_)
  walk_at "mineL"
  rename Fr _ _ _ _ => F
  rename News _ _ _ _ => N
  refine append_K F N (.tail hSnFl (.tail hDn.2.2 (.tail (Ne.symm dis.fr) (.tail hRa.2.1 (.tail dis.jf (.tail dis.if_ (.tail dis.tf (.head ?_)))))))) ?_ (by rw [sizeLine_eq]; omega)
  · intro q hq
    simp only [List.mem_cons] at hq
    rcases hq with rfl | rfl | hq
    · exact dis.bf
    · exact dis.sf
    · exact (hes q hq).2.1
  clear F N
  intro h9 F N
  (try dsimp only)
  refine wpC_execs_cons (wpC_of ?_)
  walk_at "mineL"
  rename Fr _ _ _ _ => F
  rename News _ _ _ _ => N
  obtain ⟨yr, hyh⟩ := hyh
  obtain ⟨yht, hyht⟩ := hyh.get 0 ((bump b nb 3 x : Nat) : Int) rfl
  rw [Array.getElem?_toList] at hyht
  refine item (News.isList N (.tail _ (.head _))) (by decide) (by decide) hyht ?_
  walk_at "mineL"
  rename Fr _ _ _ _ => F
  rename News _ _ _ _ => N
  refine max_two_N rfl F N ?_
  clear F N
  intro h10 tk10 F N
  rw [show (if ((bump b nb 3 x : Nat) : Int) - 1 > 0 then ((bump b nb 3 x : Nat) : Int) - 1 else 0) = ((bump b nb 3 x - 1 : Nat) : Int) by split <;> omega]
  walk_at "mineL"
  rename Fr _ _ _ _ => F
  rename News _ _ _ _ => N
  (try dsimp only)
  refine wpC_execs_nil ?_
  have hteq : tellL (wr b2 3 (bump b b2 3 x)) = tellL (wr b 3 x) := by rw [← tell_nz, nz_bump hb3 (Nat.le_trans hb1 hb2') hb27 hxb, tell_nz]
  refine forEndV ⟨_, hB⟩ hG F N (.tail _ (.tail _ (.tail _ (.tail _ (.head _)))))
    (news' := (I, oI) :: (Tl, W.listOf (tit.push (.ref Ra)) (tc + 1)) :: (Fl, W.listOf (fit.push (.ref Sa)) (fc + 1)) :: (L + 1, oc6) :: (Bs, W.listOf bits 0) :: (Sl, so) :: (Ra, W.listOf its5 c5) :: (Sa, W.listOf its6 c6) :: es) ?_
    ⟨NN ++ [bump b b2 3 x], (Ra, W.listOf its5 c5) :: (Sa, W.listOf its6 c6) :: es, tit.push (.ref Ra), fit.push (.ref Sa), tc + 1, fc + 1, oc6, _, bump b nb 3 x - 1, rfl, ⟨rfl, rfl, rfl, rfl, ⟨_, hoc6⟩, ?_, ?_, ?_, ?_⟩, by simp; omega, ⟨_, rfl⟩, ?_, ?_, .inr ⟨NN, _, rfl, ?_⟩⟩
  · intro q hq
    simp only [List.mem_cons] at hq ⊢
    rcases hq with rfl | rfl | rfl | rfl | rfl | rfl | rfl | rfl | hq
    · exact ⟨by simp, dis.ij⟩
    · exact ⟨by simp, Ne.symm dis.jt⟩
    · exact ⟨by simp, Ne.symm dis.jf⟩
    · exact ⟨by simp, Ne.symm dis.jr⟩
    · exact ⟨by simp, dis.bj⟩
    · exact ⟨by simp, dis.sj⟩
    · exact ⟨by simp, hRa.2.2.2.2⟩
    · exact ⟨by simp, hSnI2⟩
    · exact ⟨by simp [hq], (hes q hq).2.2.2.2⟩
  · rw [Array.toList_push, List.map_append]
    exact Refs.snoc (.head _) (by show RVs _ (tellL (wr b2 3 (bump b b2 3 x))); rw [hteq]; exact hr5) (tall.mono fun q hq => .tail _ (.tail _ hq))
  · rw [Array.toList_push, List.map_append]
    exact Refs.snoc (.tail _ (.head _)) hr6 (flat.mono fun q hq => .tail _ (.tail _ hq))
  · intro M hM
    rcases List.mem_append.mp hM with hM | hM
    · exact lim M hM
    · rw [List.mem_singleton.mp hM]; exact hN
  · intro q hq
    simp only [List.mem_cons] at hq
    rcases hq with rfl | rfl | hq
    · exact ⟨hRa.1, hRa.2.1, hRa.2.2.1⟩
    · exact ⟨hSnTl, hSnFl, hSnR⟩
    · exact ⟨(hes q hq).1, (hes q hq).2.1, (hes q hq).2.2.1⟩
  · rw [← hnb]
    have := bump_lt hb3 hb1 (Nat.le_trans hb2' hb27) hxb
    omega
  · intro q hq
    simp only [List.mem_cons] at hq
    rcases hq with rfl | rfl | hq
    · exact hRa.2.2.2.1
    · exact hSnI
    · exact (hes q hq).2.2.2.1
  · rw [← hnb]
    exact bump_pred hb3 hb1 hb2' hb27 hxb
end

/-! LW2 -/
section
set_option maxRecDepth 100000
set_option maxHeartbeats 4000000
theorem turnB {w : World} {p : Program} {loose : List Str} {mg mb : Str → Option Value} {s₂ : Shared} {H B h : Heap} {Q : Flow → Shared → Prop} {oc0 : Value} {od0 : Option Addr} {nm ql : Str} {params : Arguments} {s1 s2 s3 s4 sa u1 u2 u3 u4 : Stmt} {ra re rest o1 o2 : List Stmt} {t1 t2 i1 i2 : PySem.Expr} {p1 p2 : Pos} {scope : Scope} {dV kV doc pm cdv ct : Value} {an : Option Addr} {osl : Array (Option Value)}
    {L Bs Tl Fl Sl I I2 Ra : Addr} {oI oI2 oc6 so : Obj} {its5 bits tit fit : Array Value} {c5 tc fc tk i k x b2 r1 r2 : Nat} {es : List (Addr × Obj)} {m : Str → Option Value} {tv : Tok} {NN : List Nat} {more : Array Value} {g : Array GenState}
    (ho : (hd.heap_39 w.params).lookup 106 = some ⟨oc0, od0, .func (fnOf nm ql params (s1 :: s2 :: s3 :: s4 :: .For t1 i1 (sa :: .For t2 i2 (u1 :: u2 :: u3 :: u4 :: rest) o2 p2 :: ra) o1 p1 :: re) scope dV kV doc pm an cdv ct), osl⟩)
    (XB : (hd.heap_39 w.params).In B) (TB : TopRead p loose mg mb B) (hB : Based H B 50 46 more) (hG : AllBare g) (dis : Dis L Bs Tl Fl Sl I I2)
    (hbI : IntsAre bits.toList [((bb r1 r2 0 : Nat) : Int), ((bb r1 r2 1 : Nat) : Int), ((bb r1 r2 2 : Nat) : Int)]) (hbsz : bits.size = 3) (hr1' : r1 < 2) (hr2' : r2 < 2) (hb2 : b2 = 5 + r1 + r2) (hk3 : k < 3) (hi3 : i < 3)
    (F : Fr B L h m) (hmb : m "bases" = some (.ref Bs)) (hmt : m "tall" = some (.ref Tl)) (hmf : m "flat" = some (.ref Fl)) (htu : m "turn" = some (.int (0 + (k : Int) * 1) tv))
    (N : News B L h ((L + 1, oc6) :: (Ra, W.listOf its5 c5) :: (I2, oI2) :: (I, oI) :: (Tl, W.listOf tit tc) :: (Fl, W.listOf fit fc) :: (Bs, W.listOf bits 0) :: (Sl, so) :: es))
    (hoc6 : oc6.data = .cell (some (.ref Ra))) (hr5 : RVs its5.toList (tellL (wr (bb r1 r2 k) 3 x))) (hxb : x < bb r1 r2 k ^ (bb r1 r2 k + 2))
    (hes : ∀ q ∈ es, q.1 ≠ Tl ∧ q.1 ≠ Fl ∧ q.1 ≠ L + 1 ∧ q.1 ≠ I ∧ q.1 ≠ I2) (hRa : Ra ≠ Tl ∧ Ra ≠ Fl ∧ Ra ≠ L + 1 ∧ Ra ≠ I ∧ Ra ≠ I2)
    (tall : Refs es tit.toList (NN.map fun N => tellL (wr b2 3 N))) (flat : Refs es fit.toList (NN.map plainL)) (lim : ∀ N ∈ NN, N < b2 ^ (b2 + 2)) (hlen : NN.length = 3 * i + k)
    (hlast : k = 0 ∨ ∃ NNp Nl, NN = NNp ++ [Nl] ∧ (Nl = 0 ∨ bump (bb r1 r2 k) b2 3 x < Nl)) :
    wpC (model PySem.Challenge.rw_pe0065_01.prog w) (callerA.deeper (envOfC ql scope L 106 cdv)) (execs rest (envOfC ql scope L 106 cdv))
      (ForEndV (fun B => ∃ more, Based H B 50 46 more) AllBare L I2 oI2 (InnerJ b2 r1 r2 Bs Tl Fl (L + 1) Sl (W.listOf bits 0) so I oI i (k + 1)) s₂ Q) NoE { s₂ with heap := h, toks := tk, gens := g } := by
  revert XB
  k_fill
  intro XB
  have e := same_fn ho (o' := ⟨_, _, .func (fnOf _ _ _ _ _ _ _ _ _ _ _ _), _⟩) (by k_is)
  injection e with e1 e2 e3 e4
  injection e3 with e3
  injection e3 with f1 f2 f3 f4 f5 f6 f7 f8 f9 f10 f11 f12 f13 f14 f15
  injection f4 with f4
  injection f4 with z1 f4
  injection f4 with z2 f4
  injection f4 with z3 f4
  injection f4 with z4 f4
  injection f4 with g1 y1
  injection g1 with y2 y3 g2 y4 y5
  injection g2 with z9 g3
  injection g3 with g4 y6
  injection g4 with y7 y8 g5 y9 y10
  injection g5 with z5 g5
  injection g5 with z6 g5
  injection g5 with z7 g5
  injection g5 with z8 g5
  clear z1 z2 z3 z4 z5 z6 z7 z8 z9 y1 y2 y3 y4 y5 y6 y7 y8 y9 y10 e1 e2 e4 f1 f3 f6 f7 f8 f9 f10 f11 f12 f14 f15
  subst f2 f5 f13 g5
  obtain ⟨nb, hnb⟩ : ∃ nb, nb = bb r1 r2 (k + 1) := ⟨_, rfl⟩
  have hls : ∃ ls : List Nat, [((bb r1 r2 0 : Nat) : Int), ((bb r1 r2 1 : Nat) : Int), ((bb r1 r2 2 : Nat) : Int)].drop (min (k + 1) 2) = ls.map (fun c : Nat => (c : Int)) ∧ (∃ r, ls = nb :: r) ∧ (∃ r, ls = r ++ [b2]) ∧ (∀ c ∈ ls, bb r1 r2 k ≤ c ∧ c ≤ b2) ∧ ls.length ≤ 2 ∧ 3 ≤ bb r1 r2 k ∧ bb r1 r2 k ≤ nb ∧ nb ≤ b2 := by
    rw [hnb, hb2]
    match k, hk3 with
    | 0, _ => exact ⟨[4 + r1, 5 + r1 + r2], rfl, ⟨_, rfl⟩, ⟨[4 + r1], rfl⟩, (by intro c hc; simp at hc; show 3 ≤ c ∧ c ≤ _; omega), Nat.le_refl 2, Nat.le_refl 3, (by show 3 ≤ 4 + r1; omega), (by show 4 + r1 ≤ _; omega)⟩
    | 1, _ => exact ⟨[5 + r1 + r2], rfl, ⟨_, rfl⟩, ⟨[], rfl⟩, (by intro c hc; simp at hc; show 4 + r1 ≤ c ∧ c ≤ _; omega), (by show 1 ≤ 2; omega), (by show 3 ≤ 4 + r1; omega), (by show 4 + r1 ≤ 5 + r1 + r2; omega), Nat.le_refl _⟩
    | 2, _ => exact ⟨[5 + r1 + r2], rfl, ⟨_, rfl⟩, ⟨[], rfl⟩, (by intro c hc; simp at hc; show 5 + r1 + r2 ≤ c ∧ c ≤ _; omega), (by show 1 ≤ 2; omega), (by show 3 ≤ 5 + r1 + r2; omega), Nat.le_refl _, Nat.le_refl _⟩
    | k + 3, h => omega
  obtain ⟨ls, hls1, ⟨lr, hls2⟩, ⟨ll, hls3⟩, hls4, hls5, hb3, hnb1, hnb2⟩ := hls
  have hb27 : b2 ≤ 7 := by omega
  have F := Fr.see4 F hmb hmt hmf htu
  generalize hbk : bb r1 r2 k = b at hxb hlast hls4 hb3 hnb1 hr5
  refine wpC_execs_cons (wpC_of ?_)
  refine lassign (h₀ := B) (L := L) (fun v y => ∃ (c : Nat) (tv ty : Tok), v = .int (c : Int) tv ∧ y = .int ((bump b c 3 x : Nat) : Int) ty) rfl rfl rfl rfl (by decide) rfl (by decide) rfl rfl rfl ?_ (fun _ => rfl)
  walk_at "mineL"
  rename Fr _ _ _ _ => F
  refine min_two_N rfl F N ?_
  clear F N
  intro h8 tk8 F N
  rw [show (if (2 : Int) < 0 + (k : Int) * 1 + 1 then (2 : Int) else 0 + (k : Int) * 1 + 1) = ((min (k + 1) 2 : Nat) : Int) by split <;> omega]
  walk_at "mineL"
  rename Fr _ _ _ _ => F
  rename News _ _ _ _ => N
  refine slice_list F N (News.isList N (.tail _ (.tail _ (.tail _ (.tail _ (.tail _ (.tail _ (.head _)))))))) (.int _ _) .none ?_ (hsz := by rw [hbsz]; decide)
  clear F N
  intro h9 F N
  have hpk := slice_ints_from hbI (x := ((min (k + 1) 2 : Nat) : Int)) (by omega) (by show _ ≤ ((3 : Nat) : Int); omega)
  rw [Array.toArray_toList, Int.toNat_natCast, hls1] at hpk
  have hpl : (slicePick bits (some ((min (k + 1) 2 : Nat) : Int)) none none).toList.length ≤ 2 := by rw [hpk.length, List.length_map]; exact hls5
  have hx9 : x < b ^ bd 3 := Nat.lt_of_lt_of_le hxb (Nat.pow_le_pow_right (by omega) (by show b + 2 ≤ 9; omega))
  have hwl := wr_length hb3 3 x hx9
  have hl3 := ln_le 3 (Nat.le_refl 3)
  refine ⟨_, _, _, _, rfl, News.isList N (.head _), by rw [Array.length_toList] at hpl; omega, F, N, ?_, ?_⟩
  · intro C j v s₃ m₃ E' hv F3 N3 hm
    have hv' : (slicePick bits (some ((min (k + 1) 2 : Nat) : Int)) none none).toList[j]? = some v := by rw [Array.getElem?_toList]; exact hv
    have hjl : j < ls.length := by
      have := (List.getElem?_eq_some_iff.mp hv').1
      rw [hpk.length, List.length_map] at this; exact this
    obtain ⟨t, ht⟩ := hpk.get j ((ls[j] : Nat) : Int) (by simp [hjl])
    rw [hv'] at ht
    have ht : v = .int ((ls[j] : Nat) : Int) t := Option.some.inj ht
    subst ht
    have hcj := hls4 ls[j] (List.getElem_mem hjl)
    generalize ls[j] = c at hm hcj
    clear F N hv hv'
    show wpAny _ _ _ _ _ _
    walk_at "mineL"
    refine read_ Ra its5 ((wr b 3 x).flatMap pairsOf) c (bump b c 3 x) _ (XB.keeps F3.keep) (TB.keeps F3.keep) ((aokL _).le (by decide)) (News.isList N3 (.tail _ (.tail _ (.head _)))) (by rw [← tell_pairs]; exact hr5) (by have := pairs_len (wr b 3 x); omega) (by omega) (read_wr hb3 hcj.1 (by omega) hxb) ?_
    intro h' tk' t' K'
    exact ⟨⟨c, t, t', rfl, rfl⟩, _, _, rfl, K'⟩
  · clear F N
    intro D h10 tk10 ys cy F N hDn hpr
    have hyi := paired_bump hpk hpr
    have N : News B L h10 ((D, W.listOf ys cy) :: (L + 1, oc6) :: (Ra, W.listOf its5 c5) :: (I2, oI2) :: (I, oI) :: (Tl, W.listOf tit tc) :: (Fl, W.listOf fit fc) :: (Bs, W.listOf bits 0) :: (Sl, so) :: es) := News.sub N fun q hq => by
      rcases List.mem_cons.mp hq with rfl | hq
      · exact .head _
      · exact .tail _ (.tail _ hq)
    have hDn : ∀ q ∈ ((L + 1, oc6) :: (Ra, W.listOf its5 c5) :: (I2, oI2) :: (I, oI) :: (Tl, W.listOf tit tc) :: (Fl, W.listOf fit fc) :: (Bs, W.listOf bits 0) :: (Sl, so) :: es), q.1 ≠ D := fun q hq => hDn q (.tail _ hq)
    have tl : k ≠ 0 → ∃ n Nl D' its' c', tit.size = n + 1 ∧ n < 9 ∧ tit[n]? = some (.ref D') ∧ (D', W.listOf its' c') ∈ es ∧ RVs its'.toList (tellL (wr b2 3 Nl)) ∧ (Nl = 0 ∨ bump b b2 3 x < Nl) ∧ Nl < b2 ^ (b2 + 2) := by
      intro hk0
      rcases hlast with h | ⟨NNp, Nl, rfl, hNl⟩
      · exact absurd h hk0
      · obtain ⟨D', its', c', q1, q2, q3⟩ := tall.get NNp.length (tellL (wr b2 3 Nl)) (by simp)
        refine ⟨NNp.length, Nl, D', its', c', ?_, ?_, ?_, q2, q3, hNl, lim Nl (by simp)⟩
        · have := tall.length; simpa using this
        · simp at hlen; omega
        · rw [Array.getElem?_toList] at q1; exact q1
    clear hls1 hpk hpl hpr
    (try dsimp only)
    refine wpC_execs_cons (wpC_If (wpC_of ?_))
    have hteq : tellL (wr b2 3 (bump b b2 3 x)) = tellL (wr b 3 x) := by rw [← tell_nz, nz_bump hb3 (Nat.le_trans hnb1 hnb2) hb27 hxb, tell_nz]
    walk_at "mineL"
    · rename Fr _ _ _ _ => F
      rename News _ _ _ _ => N
      obtain ⟨n, Nl, D', its', c', q1, q2, q3, q4, q5, q6, q7⟩ := tl (by omega)
      refine item_neg n (News.isList N (.tail _ (.tail _ (.tail _ (.tail _ (.tail _ (.head _))))))) q1 (by omega) q3 ?_
      walk_at "mineL"
      rename Fr _ _ _ _ => F
      rename News _ _ _ _ => N
      refine ne_rvs (es := []) (News.isList N (.tail _ (.tail _ (.tail _ (.tail _ (.tail _ (.tail _ (.tail _ (.tail _ (.tail _ (.tail _ q4))))))))))) (News.isList N (.head _)) q5 .nil (lay_tell _ fun c hc => by have := wr_figs (by omega : 3 ≤ b2) hb27 Nl c hc; omega) (fun x hx => nomatch hx) unitsL ?_
      by_cases hE : tellL (wr b2 3 Nl) = []
      · rw [show (!decide (tellL (wr b2 3 Nl) = [])) = false by simp [hE]]
        refine wpAny_truthy_bool ?_
        rw [if_neg Bool.false_ne_true, if_neg Bool.false_ne_true]
        refine wpC_execs_nil ?_
        (try dsimp only)
        refine turnC (D := D) (ys := ys) (cy := cy) (b := b) (nb := nb) ho XB TB hB hG dis hr1' hr2' hb2 hk3 hi3 F rfl rfl rfl rfl (News.sub N fun q hq => .tail _ hq) hoc6 hr5 hxb ⟨lr.map (fun c => ((bump b c 3 x : Nat) : Int)), by rw [hls2] at hyi; exact hyi⟩ ⟨ll.map (fun c => ((bump b c 3 x : Nat) : Int)), by rw [hls3, List.map_append] at hyi; exact hyi⟩ (by have := hyi.length; rw [List.length_map, Array.length_toList] at this; omega) hb3 hnb1 hnb2 hnb ⟨Ne.symm (hDn (L + 1, oc6) (by simp)), Ne.symm (hDn (Tl, W.listOf tit tc) (by simp)), Ne.symm (hDn (Fl, W.listOf fit fc) (by simp))⟩ hes hRa tall flat lim hlen
      · rw [show (!decide (tellL (wr b2 3 Nl) = [])) = true by simp [hE]]
        refine wpAny_truthy_bool ?_
        rw [if_pos rfl]
        walk_at "mineL"
        refine item_neg n (News.isList N (.tail _ (.tail _ (.tail _ (.tail _ (.tail _ (.tail _ (.head _)))))))) q1 (by omega) q3 ?_
        walk_at "mineL"
        have hNl : bump b b2 3 x < Nl := by
          rcases q6 with h0 | h0
          · exfalso; apply hE; rw [h0, wr_zero]; rfl
          · exact h0
        refine lt_rvs (r := true) (News.isList N (.tail _ (.tail _ (.tail _ (.head _))))) (News.isList N (.tail _ (.tail _ (.tail _ (.tail _ (.tail _ (.tail _ (.tail _ (.tail _ (.tail _ (.tail _ q4))))))))))) hr5 q5 (by rw [← hteq]; exact tell_lt (by omega) hb27 hNl q7) (Nat.lt_of_le_of_lt (Nat.le_add_right _ _) unitsL) ?_
        walk_at "mineL"
        refine wpC_execs_nil ?_
        (try dsimp only)
        refine turnC (D := D) (ys := ys) (cy := cy) (b := b) (nb := nb) ho XB TB hB hG dis hr1' hr2' hb2 hk3 hi3 F rfl rfl rfl rfl (News.sub N fun q hq => .tail _ hq) hoc6 hr5 hxb ⟨lr.map (fun c => ((bump b c 3 x : Nat) : Int)), by rw [hls2] at hyi; exact hyi⟩ ⟨ll.map (fun c => ((bump b c 3 x : Nat) : Int)), by rw [hls3, List.map_append] at hyi; exact hyi⟩ (by have := hyi.length; rw [List.length_map, Array.length_toList] at this; omega) hb3 hnb1 hnb2 hnb ⟨Ne.symm (hDn (L + 1, oc6) (by simp)), Ne.symm (hDn (Tl, W.listOf tit tc) (by simp)), Ne.symm (hDn (Fl, W.listOf fit fc) (by simp))⟩ hes hRa tall flat lim hlen
    · rename Fr _ _ _ _ => F
      rename News _ _ _ _ => N
      refine wpC_execs_nil ?_
      (try dsimp only)
      refine turnC (D := D) (ys := ys) (cy := cy) (b := b) (nb := nb) ho XB TB hB hG dis hr1' hr2' hb2 hk3 hi3 F rfl rfl rfl rfl (News.sub N fun q hq => hq) hoc6 hr5 hxb ⟨lr.map (fun c => ((bump b c 3 x : Nat) : Int)), by rw [hls2] at hyi; exact hyi⟩ ⟨ll.map (fun c => ((bump b c 3 x : Nat) : Int)), by rw [hls3, List.map_append] at hyi; exact hyi⟩ (by have := hyi.length; rw [List.length_map, Array.length_toList] at this; omega) hb3 hnb1 hnb2 hnb ⟨Ne.symm (hDn (L + 1, oc6) (by simp)), Ne.symm (hDn (Tl, W.listOf tit tc) (by simp)), Ne.symm (hDn (Fl, W.listOf fit fc) (by simp))⟩ hes hRa tall flat lim hlen
end

/-! LW3 -/
section
set_option maxRecDepth 100000
set_option maxHeartbeats 4000000
theorem drop3 {α : Type} (a b c : α) (l : List α) : ∀ q ∈ a :: b :: l, q ∈ a :: b :: c :: l := fun q hq => by
  rcases List.mem_cons.mp hq with rfl | hq
  · exact .head _
  · rcases List.mem_cons.mp hq with rfl | hq
    · exact .tail _ (.head _)
    · exact .tail _ (.tail _ (.tail _ hq))
theorem turn_ {w : World} {p : Program} {loose : List Str} {mg mb : Str → Option Value} {s₂ : Shared} {H B h : Heap} {Q : Flow → Shared → Prop} {oc0 : Value} {od0 : Option Addr} {nm ql : Str} {params : Arguments} {s1 s2 s3 s4 sa : Stmt} {ra re body o1 o2 : List Stmt} {t1 t2 i1 i2 : PySem.Expr} {p1 p2 : Pos} {scope : Scope} {dV kV doc pm cdv ct : Value} {an : Option Addr} {osl : Array (Option Value)}
    {L Bs Tl Fl Sl I I2 bm : Addr} {ob oI oI2 so : Obj} {bits : Array Value} {tk i k b2 r1 r2 : Nat} {m₁ : Str → Option Value} {nx : List (Addr × Obj)} {tv : Tok} {g : Array GenState}
    (ho : (hd.heap_39 w.params).lookup 106 = some ⟨oc0, od0, .func (fnOf nm ql params (s1 :: s2 :: s3 :: s4 :: .For t1 i1 (sa :: .For t2 i2 body o2 p2 :: ra) o1 p1 :: re) scope dV kV doc pm an cdv ct), osl⟩)
    (X : (hd.heap_39 w.params).In H) (T : TopRead p loose mg mb H) (B0 : Based H H 50 46 #[]) (M : BMod H mainGlobals mg bm ob)
    (hBe : ∃ more, Based H B 50 46 more) (hG : AllBare g) (dis0 : ∀ I2 : Nat, Tl ≠ I2 → Fl ≠ I2 → L + 1 ≠ I2 → Bs ≠ I2 → Sl ≠ I2 → I ≠ I2 → Dis L Bs Tl Fl Sl I I2)
    (hbits : ∀ k, k < 3 → ∃ u, bits[k]? = some (.int ((bb r1 r2 k : Nat) : Int) u)) (hbI : IntsAre bits.toList [((bb r1 r2 0 : Nat) : Int), ((bb r1 r2 1 : Nat) : Int), ((bb r1 r2 2 : Nat) : Int)]) (hbsz : bits.size = 3) (hr1' : r1 < 2) (hr2' : r2 < 2) (hb2 : b2 = 5 + r1 + r2) (hk3 : k < 3) (hi3 : i < 3)
    (hJ : InnerJ b2 r1 r2 Bs Tl Fl (L + 1) Sl (W.listOf bits 0) so I oI i k m₁ nx) (hne2 : ∀ q ∈ nx, q.1 ≠ I2)
    (F : Fr B L h (fun y => if y = "turn" then some (.int (0 + (k : Int) * 1) tv) else m₁ y)) (N : News B L h ((I2, oI2) :: nx)) :
    wpC (model PySem.Challenge.rw_pe0065_01.prog w) (callerA.deeper (envOfC ql scope L 106 cdv)) (execs body (envOfC ql scope L 106 cdv))
      (ForEndV (fun B => ∃ more, Based H B 50 46 more) AllBare L I2 oI2 (InnerJ b2 r1 r2 Bs Tl Fl (L + 1) Sl (W.listOf bits 0) so I oI i (k + 1)) s₂ Q) NoE { s₂ with heap := h, toks := tk, gens := g } := by
  revert X
  k_fill
  intro X
  have e := same_fn ho (o' := ⟨_, _, .func (fnOf _ _ _ _ _ _ _ _ _ _ _ _), _⟩) (by k_is)
  injection e with e1 e2 e3 e4
  injection e3 with e3
  injection e3 with f1 f2 f3 f4 f5 f6 f7 f8 f9 f10 f11 f12 f13 f14 f15
  injection f4 with f4
  injection f4 with z1 f4
  injection f4 with z2 f4
  injection f4 with z3 f4
  injection f4 with z4 f4
  injection f4 with g1 y1
  injection g1 with y2 y3 g2 y4 y5
  injection g2 with z9 g3
  injection g3 with g4 y6
  injection g4 with y7 y8 g5 y9 y10
  clear z1 z2 z3 z4 z9 y1 y2 y3 y4 y5 y6 y7 y8 y9 y10 e1 e2 e4 f1 f3 f6 f7 f8 f9 f10 f11 f12 f14 f15
  subst f2 f5 f13 g5
  obtain ⟨NN, es, tit, fit, tc, fc, oc', nx', x, rfl, hI, hlen, ⟨tx, hx⟩, hxb, hneI, hlast⟩ := hJ
  obtain ⟨more, hB⟩ := hBe
  have hnw := hI.nw
  subst hnw
  have F := Fr.insee4 F hI.mb hI.mt hI.mf hx
  have XB := in_based X hB
  have TB := top_based T hB
  have MB := bmod_based M B0 hB
  have dis := dis0 I2 (hne2 (Tl, W.listOf tit tc) (by simp)) (hne2 (Fl, W.listOf fit fc) (by simp)) (hne2 (L + 1, oc') (by simp)) (hne2 (Bs, W.listOf bits 0) (by simp)) (hne2 (Sl, so) (by simp)) (hne2 (I, oI) (by simp))
  obtain ⟨ub, hub⟩ := hbits k hk3
  have hbk : 3 ≤ bb r1 r2 k ∧ bb r1 r2 k ≤ b2 := by
    match k, hk3 with
    | 0, _ => exact ⟨Nat.le_refl 3, by rw [hb2]; show 3 ≤ _; omega⟩
    | 1, _ => exact ⟨by show 3 ≤ 4 + r1; omega, by rw [hb2]; show 4 + r1 ≤ _; omega⟩
    | 2, _ => exact ⟨by show 3 ≤ 5 + r1 + r2; omega, by rw [hb2]; exact Nat.le_refl _⟩
    | k + 3, h => omega
  have hb27 : b2 ≤ 7 := by omega
  generalize hbe : bb r1 r2 k = b at hub hbk hxb hlast
  have hx9 : x < b ^ bd 3 := Nat.lt_of_lt_of_le hxb (Nat.pow_le_pow_right (by omega) (by show b + 2 ≤ 9; omega))
  refine wpC_execs_cons (wpC_of ?_)
  walk_at "mineL"
  rename News _ _ _ _ => N
  refine item (News.isList N (.tail _ (.tail _ (.tail _ (.tail _ (.tail _ (.head _))))))) (by omega) (by omega) (v := .int (b : Int) ub) (by rw [show ((0 : Int) + (k : Int) * 1).toNat = k by omega]; exact hub) ?_
  walk_at "mineL"
  rename Fr _ _ _ _ => F
  rename News _ _ _ _ => N
  refine written_ hbk.1 (by omega) x _ _ (XB.keeps F.keep) (TB.keeps F.keep) (aokL _) hx9 ?_
  intro h1 tk1 Wa its1 c1 K1 hW hW1 hin1
  have hWn := ne_new N hW
  replace N := newsNew F N K1 hW hW1
  replace F := frExt F K1
  walk_at "mineL"
  (try dsimp only)
  refine wpC_execs_cons (wpC_of ?_)
  walk_at "mineL"
  rename Fr _ _ _ _ => F
  rename News _ _ _ _ => N
  have hwf := wr_figs hbk.1 (by omega : b ≤ 7) x
  have hwl := wr_length hbk.1 3 x hx9
  have hl3 := ln_le 3 (Nat.le_refl 3)
  have hWl : h1.IsList Wa its1.toList.toArray := by rw [Array.toArray_toList]; exact isList_of hW1
  refine parts Wa its1.toList (wr b 3 x) (XB.keeps F.keep) (TB.keeps F.keep) ((aokL _).le (by decide)) (by rw [Array.toArray_toList]; exact News.isList N (.head _)) hin1 (fun c hc => by have := hwf c hc; omega) (by omega) ?_
  intro h2 tk2 Pa its2 c2 K2 hP hP1 hin2
  replace N := newsNew F N K2 hP hP1
  replace F := frExt F K2
  walk_at "mineL"
  refine star_seq F N (.head _) rfl rfl (.inl rfl) rfl (by
    have := hin2.length
    rw [List.length_map, Array.length_toList] at this
    rw [sizeLine_eq]; omega) ?_
  clear F N
  intro h3 F N
  refine ⟨XB.keeps F.keep, ?_⟩
  refine platform_ (ps := more) (bm := bm) (ob := ob) (mg := mg) (wr b 3 x) its2.toList (XB.keeps F.keep) (TB.keeps F.keep) ((aokL _).le (by decide)) hG (MB.keeps F.keep) (hB.codeAt F) (hB.tabAt F) hin2 (fun c hc => by have := hwf c hc; omega) (wr_head hbk.1 x) (by omega) ?_
  intro h4 tk4 g4 t4 more4 hx4 hI4 hT4 hG4
  obtain ⟨hB4, F4⟩ := hB.grow F hx4 hI4 hT4
  have N4 := news_grow (ps' := more ++ more4) hB N hx4
  clear F N hB hG
  have XB := in_based X hB4
  have TB := top_based T hB4
  generalize regrown B 46 (more ++ more4) = B4 at *
  walk_at "mineL"
  rename Fr _ _ _ _ => F
  rename News _ _ _ _ => N
  refine wpC_execs_cons (wpC_Assign (wpC_Call_Name ?_))
  walk_at "mineL"
  refine wpC_callWith_fn1 (hlen := (Nat.zero_le 29 : 0 ≤ 29)) ?_
  walk_at "mineL"
  refine ⟨⟨_, _, F.keep _ _ (XB 44 _ (by k_is)), rfl⟩, ?_⟩
  obtain ⟨oF, hoF, hoF'⟩ := frame_obj F
  refine version_ (nameS (wr b 3 x)) t4 (tellL (wr b 3 x)) (XB.keeps F.keep) (TB.keeps F.keep) ((aokL _).le (by decide)) rfl ?_ hoF hoF' (frame_low XB F) ?_ (vks_name _ fun c hc => by have := hwf c hc; omega) ?_
  · intro e; cases e
  · have := nameL_len (wr b 3 x)
    show (nameL (wr b 3 x)).toArray.size ≤ 1000
    rw [List.size_toArray]; omega
  intro B5 h5 tk5 Ra its5 c5 hS5 K5 hn5 hD5 hr5
  have hRn := ne_new N hn5
  have hRaL : @Ne Nat Ra L := fun e => by rw [e, hoF] at hn5; cases hn5
  have hRaN : B4.get? Ra = none := by
    cases e : B4.get? Ra with
    | none => rfl
    | some o => rw [F.keep _ _ e] at hn5; cases hn5
  replace N : News B4 L h5 ((Ra, W.listOf its5 c5) :: _) := newsPush (news_slot N hS5 K5) ⟨hD5, hRaL, hRaN⟩
  replace F := fr_slot F hS5 K5
  clear hoF hoF' hS5 K5 hn5 hD5 hRaL hRaN oF
  obtain ⟨xc, hxc⟩ := hI.cell
  have hWR : @Ne Nat Wa (L + 1) := fun e => hWn (L + 1, oc') (.tail _ (.tail _ (.tail _ (.tail _ (.head _))))) e.symm
  have hRR : @Ne Nat Ra (L + 1) := fun e => hRn (L + 1, oc') (.tail _ (.tail _ (.tail _ (.tail _ (.tail _ (.tail _ (.head _))))))) e.symm
  have hI2R : @Ne Nat (L + 1) I2 := hne2 (L + 1, oc') (.tail _ (.tail _ (.tail _ (.head _))))
  refine storeCell (c := L + 1) (news' := (Ra, W.listOf its5 c5) :: (Wa, W.listOf its1 c1) :: (I2, oI2) :: (I, oI) :: (Tl, W.listOf tit tc) :: (Fl, W.listOf fit fc) :: (Bs, W.listOf bits 0) :: (Sl, so) :: es) F N
    (.tail _ (.tail _ (.tail _ (.tail _ (.tail _ (.tail _ (.tail _ (.head _)))))))) hxc ?_ rfl rfl rfl ?_
  · intro p hp
    simp only [List.mem_cons] at hp ⊢
    rcases hp with rfl | rfl | rfl | rfl | rfl | rfl | rfl | rfl | hp
    · exact ⟨by simp, hRR⟩
    · exact ⟨by simp, hWR⟩
    · exact ⟨by simp, Ne.symm hI2R⟩
    · exact ⟨by simp, dis.ir⟩
    · exact ⟨by simp, dis.tr⟩
    · exact ⟨by simp, dis.fr⟩
    · exact ⟨by simp, dis.br⟩
    · exact ⟨by simp, dis.sr⟩
    · exact ⟨by simp [hp], (hI.ap p hp).2.2⟩
  clear F N
  intro h6 oc6 hoc6 F N
  refine wpC_execs_cons (wpC_If (wpC_of ?_))
  walk_at "mineL"
  refine name_ Wa its1.toList (wr b 3 x) (XB.keeps F.keep) (TB.keeps F.keep) ((aokL _).le (by decide)) (by rw [Array.toArray_toList]; exact News.isList N (.tail _ (.tail _ (.head _)))) hin1 (fun c hc => by have := hwf c hc; omega) (by omega) ?_
  intro h7 tk7 t7 K7
  replace N := newsExt N K7
  replace F := frExt F K7
  refine P.ne_str ?_
  rw [show ((nameS (wr b 3 x)).cps.toList != (nameS (wr b 3 x)).cps.toList) = false by simp]
  walk_at "mineL"
  refine told_ Wa its1.toList (wr b 3 x) (XB.keeps F.keep) (TB.keeps F.keep) ((aokL _).le (by decide)) (by rw [Array.toArray_toList]; exact News.isList N (.tail _ (.tail _ (.head _)))) hin1 (fun c hc => by have := hwf c hc; omega) (by omega) ?_
  intro h8 tk8 Ta its8 c8 K8 hT8 hT8' hr8
  replace N := newsExt N K8
  replace F := frExt F K8
  refine ne_rvs (News.isList N (.tail _ (.head _))) (isList_of hT8') hr5 hr8 (lay_tell _ fun c hc => by have := hwf c hc; omega) (lay_tell _ fun c hc => by have := hwf c hc; omega) unitsL ?_
  rw [show (!decide (tellL (wr b 3 x) = tellL (wr b 3 x))) = false by simp]
  refine wpAny_truthy_bool ?_
  rw [if_neg Bool.false_ne_true]
  walk1
  rw [if_neg Bool.false_ne_true]
  refine wpC_execs_nil ?_
  (try dsimp only)
  have hRd : ∀ q ∈ ((I2, oI2) :: (I, oI) :: (Tl, W.listOf tit tc) :: (Fl, W.listOf fit fc) :: (L + 1, oc') :: es), q.1 ≠ Ra := fun q hq => hRn q (by simp only [List.mem_cons] at hq ⊢; rcases hq with h | h | h | h | h | h <;> simp [h])
  refine turnB (b2 := b2) (r1 := r1) (r2 := r2) (k := k) (x := x) ho XB TB hB4 hG4 dis hbI hbsz hr1' hr2' hb2 hk3 hi3 F rfl rfl rfl rfl (News.sub N (drop3 _ _ _ _)) hoc6 (by rw [hbe]; exact hr5) (by rw [hbe]; exact hxb)
    (fun q hq => ⟨(hI.ap q hq).1, (hI.ap q hq).2.1, (hI.ap q hq).2.2, hneI q hq, hne2 q (by simp [hq])⟩) ⟨Ne.symm (hRd (Tl, W.listOf tit tc) (by simp)), Ne.symm (hRd (Fl, W.listOf fit fc) (by simp)), Ne.symm (hRd (L + 1, oc') (by simp)), Ne.symm (hRd (I, oI) (by simp)), Ne.symm (hRd (I2, oI2) (by simp))⟩
    hI.tall hI.flat hI.lim hlen (by rw [hbe]; exact hlast)
end

/-! LW4 -/
section
set_option maxRecDepth 100000
set_option maxHeartbeats 4000000
theorem cmp_tell {B N M : Nat} (hb : 3 ≤ B) (h7 : B ≤ 7) (hN : N < B ^ (B + 2)) (hM : M < B ^ (B + 2)) : cmpL (tellL (wr B 3 N)) (tellL (wr B 3 M)) = some (decide (N < M)) := by
  rcases Nat.lt_trichotomy N M with h | h | h
  · rw [tell_lt hb h7 h hM, decide_eq_true h]
  · subst h; rw [cmp_refl, decide_eq_false (by omega)]
  · rw [cmp_swap (tell_lt hb h7 h hN), decide_eq_false (by omega)]
theorem cmp_plain (N M : Nat) : cmpL (plainL N) (plainL M) = some (decide (N < M)) := by
  rcases Nat.lt_trichotomy N M with h | h | h
  · rw [plain_lt h, decide_eq_true h]
  · subst h; rw [cmp_refl, decide_eq_false (by omega)]
  · rw [cmp_swap (plain_lt h), decide_eq_false (by omega)]
theorem eq_tell {B N M : Nat} (hb : 3 ≤ B) (h7 : B ≤ 7) (hN : N < B ^ (B + 2)) (hM : M < B ^ (B + 2)) : decide (tellL (wr B 3 N) = tellL (wr B 3 M)) = decide (N = M) := by
  by_cases h : N = M
  · subst h; simp
  · rw [decide_eq_false h]
    refine decide_eq_false fun e => ?_
    have h1 := cmp_tell hb h7 hN hM
    have h2 := cmp_tell hb h7 hM hN
    rw [e, cmp_refl] at h1 h2
    have h1 := Option.some.inj h1
    have h2 := Option.some.inj h2
    have := of_decide_eq_false h1.symm
    have := of_decide_eq_false h2.symm
    omega
theorem eq_plain (N M : Nat) : decide (plainL N = plainL M) = decide (N = M) := by
  by_cases h : N = M
  · subst h; simp
  · rw [decide_eq_false h]
    refine decide_eq_false fun e => ?_
    have h1 := cmp_plain N M
    have h2 := cmp_plain M N
    rw [e, cmp_refl] at h1 h2
    have h1 := Option.some.inj h1
    have h2 := Option.some.inj h2
    have := of_decide_eq_false h1.symm
    have := of_decide_eq_false h2.symm
    omega
theorem size_one (n : Nat) : Builtin.Range.rangeSize 0 (n : Int) 1 = (n : Int) := by
  unfold Builtin.Range.rangeSize
  simp
  omega
theorem small_one (n : Nat) (h : n ≤ 100000) : Builtin.Range.small 0 (n : Int) 1 = true := by
  unfold Builtin.Range.small
  rw [size_one]
  unfold Builtin.Range.rangeFitsLong
  rw [if_pos (by decide)]
  simp only [Bool.and_eq_true, Bool.or_eq_true, decide_eq_true_eq]
  omega
theorem pairs_ {w : World} {p : Program} {loose : List Str} {mg mb : Str → Option Value} {s₂ : Shared} {B h : Heap} {Q : Value → Shared → Prop} {oc0 : Value} {od0 : Option Addr} {nm ql : Str} {params : Arguments} {s1 s2 s3 s4 : Stmt} {b1 rest o1 : List Stmt} {t1 i1 : PySem.Expr} {p1 : Pos} {scope : Scope} {dV kV doc pm cdv ct : Value} {an : Option Addr} {osl : Array (Option Value)}
    {L Tl Fl : Addr} {tit fit : Array Value} {tc fc tk b2 : Nat} {es : List (Addr × Obj)} {m : Str → Option Value} {NN : List Nat} {g : Array GenState}
    (ho : (hd.heap_39 w.params).lookup 106 = some ⟨oc0, od0, .func (fnOf nm ql params (s1 :: s2 :: s3 :: s4 :: .For t1 i1 b1 o1 p1 :: rest) scope dV kV doc pm an cdv ct), osl⟩)
    (XB : (hd.heap_39 w.params).In B) (TB : TopRead p loose mg mb B) (F : Fr B L h m) (hmt : m "tall" = some (.ref Tl)) (hmf : m "flat" = some (.ref Fl))
    (N : News B L h ((Tl, W.listOf tit tc) :: (Fl, W.listOf fit fc) :: es))
    (tall : Refs es tit.toList (NN.map fun N => tellL (wr b2 3 N))) (flat : Refs es fit.toList (NN.map plainL)) (lim : ∀ N ∈ NN, N < b2 ^ (b2 + 2)) (hlen : NN.length ≤ 9) (hb3 : 3 ≤ b2) (hb7 : b2 ≤ 7)
    (hret : ∀ h' tk, Ext B h' → Q (.bool true) { s₂ with heap := h', toks := tk, gens := g }) :
    wpAny (model PySem.Challenge.rw_pe0065_01.prog w) (callerA.deeper (envOfC ql scope L 106 cdv)) (execs rest (envOfC ql scope L 106 cdv))
      (fun fl s' => Q (match fl with | .ret v => v | _ => .none) s') NoE { s₂ with heap := h, toks := tk, gens := g } := by
  revert XB
  k_fill
  intro XB
  have e := same_fn ho (o' := ⟨_, _, .func (fnOf _ _ _ _ _ _ _ _ _ _ _ _), _⟩) (by k_is)
  injection e with e1 e2 e3 e4
  injection e3 with e3
  injection e3 with f1 f2 f3 f4 f5 f6 f7 f8 f9 f10 f11 f12 f13 f14 f15
  injection f4 with f4
  injection f4 with z1 f4
  injection f4 with z2 f4
  injection f4 with z3 f4
  injection f4 with z4 f4
  injection f4 with y1 g1
  clear z1 z2 z3 z4 y1 e1 e2 e4 f1 f3 f6 f7 f8 f9 f10 f11 f12 f14 f15 ho
  subst f2 f5 f13 g1
  have htsz := tall.length
  have hfsz := flat.length
  rw [List.length_map, Array.length_toList] at htsz hfsz
  have F := Fr.see2 F hmt hmf
  refine wpAny_execs_cons ?_
  refine for_at B (fun i m₁ nx => m₁ "tall" = some (.ref Tl) ∧ m₁ "flat" = some (.ref Fl) ∧ nx = (Tl, W.listOf tit tc) :: (Fl, W.listOf fit fc) :: es) rfl rfl ?_ (fun _ => rfl)
  walk_at "mineL"
  rename Fr _ _ _ _ => F
  rename News _ _ _ _ => N
  rename IsRange _ _ _ _ _ _ _ _ => hR
  refine at_range NN.length rfl F N hR (small_one _ (by omega)) (size_one _) ⟨rfl, rfl, rfl⟩ ?_ ?_
  · clear F N hR
    rintro i tv m₁ nx h1 tk1 I oI hi ⟨em, ef, rfl⟩ hne F N
    have F := Fr.insee2 F em ef
    refine wpAny_execs_cons ?_
    refine for_at B (fun j m₂ nx => m₂ "tall" = some (.ref Tl) ∧ m₂ "flat" = some (.ref Fl) ∧ HNat m₂ "i" i ∧ nx = (I, oI) :: (Tl, W.listOf tit tc) :: (Fl, W.listOf fit fc) :: es) rfl rfl ?_ (fun _ => rfl)
    walk_at "mineL"
    rename Fr _ _ _ _ => F
    rename News _ _ _ _ => N
    rename IsRange _ _ _ _ _ _ _ _ => hR
    have hi0 : (0 : Int) + (i : Int) * 1 = (i : Int) := by omega
    rw [hi0] at hR
    refine at_range i rfl F N hR (small_one _ (by omega)) (size_one _) ⟨rfl, rfl, ⟨tv, by show some (Value.int (0 + (i : Int) * 1) tv) = _; rw [hi0]⟩, rfl⟩ ?_ ?_
    · clear F N hR
      rintro j tw m₂ nx h2 tk2 I2 oI2 hj ⟨em, ef, ⟨ti, ei⟩, rfl⟩ hne2 F N
      have F := Fr.insee3 F em ef ei
      obtain ⟨Di, xi, ci, v1, v2, v3⟩ := tall.get i (tellL (wr b2 3 NN[i])) (by simp [hi])
      obtain ⟨Dj, xj, cj, v4, v5, v6⟩ := tall.get j (tellL (wr b2 3 NN[j])) (by simp [Nat.lt_trans hj hi])
      obtain ⟨Ei, yi, di, w1, w2, w3⟩ := flat.get i (plainL NN[i]) (by simp [hi])
      obtain ⟨Ej, yj, dj, w4, w5, w6⟩ := flat.get j (plainL NN[j]) (by simp [Nat.lt_trans hj hi])
      rw [Array.getElem?_toList] at v1 v4 w1 w4
      have li := lim NN[i] (List.getElem_mem hi)
      have lj := lim NN[j] (List.getElem_mem (Nat.lt_trans hj hi))
      generalize NN[i] = Ni at v3 w3 li
      generalize NN[j] = Nj at v6 w6 lj
      refine wpAny_execs_cons ?_
      walk_at "mineL"
      refine item (News.isList N (.tail _ (.tail _ (.head _)))) (by omega) (by omega) (by rw [Int.toNat_natCast]; exact v1) ?_
      walk_at "mineL"
      refine item (News.isList N (.tail _ (.tail _ (.head _)))) (by omega) (by omega) (by rw [show ((0 : Int) + (j : Int) * 1).toNat = j by omega]; exact v4) ?_
      walk_at "mineL"
      refine lt_rvs (News.isList N (.tail _ (.tail _ (.tail _ (.tail _ v2))))) (News.isList N (.tail _ (.tail _ (.tail _ (.tail _ v5))))) v3 v6 (cmp_tell hb3 hb7 li lj) (Nat.lt_of_le_of_lt (Nat.le_add_right _ _) unitsL) ?_
      walk_at "mineL"
      refine item (News.isList N (.tail _ (.tail _ (.tail _ (.head _))))) (by omega) (by omega) (by rw [Int.toNat_natCast]; exact w1) ?_
      walk_at "mineL"
      refine item (News.isList N (.tail _ (.tail _ (.tail _ (.head _))))) (by omega) (by omega) (by rw [show ((0 : Int) + (j : Int) * 1).toNat = j by omega]; exact w4) ?_
      walk_at "mineL"
      refine lt_rvs (News.isList N (.tail _ (.tail _ (.tail _ (.tail _ w2))))) (News.isList N (.tail _ (.tail _ (.tail _ (.tail _ w5))))) w3 w6 (cmp_plain Ni Nj) (Nat.lt_of_le_of_lt (Nat.le_add_right _ _) unitsL) ?_
      walk_at "mineL"
      · exfalso
        rename (_ != _) = true => hh
        simp at hh
      · refine item (News.isList N (.tail _ (.tail _ (.head _)))) (by omega) (by omega) (by rw [Int.toNat_natCast]; exact v1) ?_
        walk_at "mineL"
        refine item (News.isList N (.tail _ (.tail _ (.head _)))) (by omega) (by omega) (by rw [show ((0 : Int) + (j : Int) * 1).toNat = j by omega]; exact v4) ?_
        walk_at "mineL"
        refine eq_rvs (News.isList N (.tail _ (.tail _ (.tail _ (.tail _ v2))))) (News.isList N (.tail _ (.tail _ (.tail _ (.tail _ v5))))) v3 v6 (lay_tell _ fun c hc => by have := wr_figs hb3 hb7 Ni c hc; omega) (lay_tell _ fun c hc => by have := wr_figs hb3 hb7 Nj c hc; omega) unitsL ?_
        rw [eq_tell hb3 hb7 li lj]
        walk_at "mineL"
        refine item (News.isList N (.tail _ (.tail _ (.tail _ (.head _))))) (by omega) (by omega) (by rw [Int.toNat_natCast]; exact w1) ?_
        walk_at "mineL"
        refine item (News.isList N (.tail _ (.tail _ (.tail _ (.head _))))) (by omega) (by omega) (by rw [show ((0 : Int) + (j : Int) * 1).toNat = j by omega]; exact w4) ?_
        walk_at "mineL"
        refine eq_rvs (News.isList N (.tail _ (.tail _ (.tail _ (.tail _ w2))))) (News.isList N (.tail _ (.tail _ (.tail _ (.tail _ w5))))) w3 w6 (lay_plain _ (Nat.lt_of_lt_of_le li (Nat.le_trans (Nat.pow_le_pow_left hb7 _) (Nat.le_trans (Nat.pow_le_pow_right (by decide) (by omega : b2 + 2 ≤ 9)) (by decide))))) (lay_plain _ (Nat.lt_of_lt_of_le lj (Nat.le_trans (Nat.pow_le_pow_left hb7 _) (Nat.le_trans (Nat.pow_le_pow_right (by decide) (by omega : b2 + 2 ≤ 9)) (by decide))))) unitsL ?_
        rw [eq_plain]
        walk_at "mineL"
        · exfalso
          rename (_ != _) = true => hh
          simp at hh
        · rename Fr _ _ _ _ => F
          rename News _ _ _ _ => N
          refine forEnd F N (.head _) (news' := (I, oI) :: (Tl, W.listOf tit tc) :: (Fl, W.listOf fit fc) :: es) (fun q hq => ⟨.tail _ hq, hne2 q hq⟩) ⟨rfl, rfl, ⟨_, rfl⟩, rfl⟩
    · clear F N hR
      rintro m₂ nx h2 tk2 ⟨em, ef, ⟨ti, ei⟩, rfl⟩ F N
      have F := Fr.see2 F em ef
      show wpAny _ _ (execs _ _) _ _ _
      walk_at "mineL"
      exact forEnd F N (.head _) (news' := (Tl, W.listOf tit tc) :: (Fl, W.listOf fit fc) :: es) (fun q hq => ⟨.tail _ hq, hne q hq⟩) ⟨rfl, rfl, rfl⟩
  · clear F N hR
    rintro m₁ nx h1 tk1 ⟨em, ef, rfl⟩ F N
    have F := Fr.see2 F em ef
    show wpAny _ _ (execs _ _) _ _ _
    walk_at "mineL"
    exact hret _ _ F.keep
end

/-! LW5 -/
section
set_option maxRecDepth 100000
set_option maxHeartbeats 4000000
theorem law_ {w : World} {p : Program} {loose : List Str} {mg mb : Str → Option Value} {s : Shared} {Q E : Value → Shared → Prop} {bm : Addr} {ob : Obj} (l : Addr) (vs : List Value) (ns : List Int)
    (X : (hd.heap_39 w.params).In s.heap) (T : TopRead p loose mg mb s.heap) (B0 : Based s.heap s.heap 50 46 #[]) (M : BMod s.heap mainGlobals mg bm ob) (hg : s.gens = #[])
    (hl : s.heap.IsList l vs.toArray) (hi : IntsAre vs ns) (hn : ns.length ≤ 63)
    (hret : ∀ B h' tk g more, Based s.heap B 50 46 more → Ext B h' → AllBare g → Q (.bool true) { s with heap := h', toks := tk, gens := g }) :
    wpC (model PySem.Challenge.rw_pe0065_01.prog w) callerA (call (.ref 106) [.ref l]) Q E s := by
  revert X
  k_fill
  intro X
  refine enterCV (binds := [("script", .ref l)]) X T (by k_is) (by k_is) (by decide +kernel) (BindsTo.of_eq rfl) rfl (by decide) rfl rfl rfl ?_
  intro L h₁ tk cells F N Y
  obtain ⟨oc, rfl, hoc⟩ := CellsAre.one Y
  replace F := Fr.map (m' := fun y => if y = "script" then some (.ref l) else none) F (by intro y; rfl)
  refine wpC_execs_cons (wpC_of ?_)
  walk_at "minec"
  (try dsimp only)
  refine wpC_execs_cons (wpC_of ?_)
  walk_at "mineL"
  (try dsimp only)
  obtain ⟨r1, hr1, hr1'⟩ : ∃ r1 : Nat, (List.take 8 ns).sum.fmod 2 = (r1 : Int) ∧ r1 < 2 := ⟨((List.take 8 ns).sum.fmod 2).toNat, by rw [Int.fmod_eq_emod_of_nonneg _ (by decide)]; omega, by rw [Int.fmod_eq_emod_of_nonneg _ (by decide)]; omega⟩
  obtain ⟨r2, hr2, hr2'⟩ : ∃ r2 : Nat, ((List.take 8 ns).sum.fdiv 2).fmod 2 = (r2 : Int) ∧ r2 < 2 := ⟨(((List.take 8 ns).sum.fdiv 2).fmod 2).toNat, by rw [Int.fmod_eq_emod_of_nonneg _ (by decide)]; omega, by rw [Int.fmod_eq_emod_of_nonneg _ (by decide)]; omega⟩
  rename Fr _ _ _ _ => F
  rename News _ _ _ _ => N
  rename_i Bs _ _ _
  rw [hr1, hr2] at N
  have N : News s.heap L _ [(Bs, _), (L + 1, oc)] := fun q hq => N q (by
    rcases List.mem_cons.mp hq with e | hq
    · rw [e]; exact .head _
    · rw [List.mem_singleton.mp hq]; exact .tail _ (.tail _ (.head _)))
  refine wpC_execs_cons (wpC_of ?_)
  walk_at "mineL"
  (try dsimp only)
  refine wpC_execs_cons (wpC_of ?_)
  walk_at "mineL"
  (try dsimp only)
  rename Fr _ _ _ _ => F
  rename News _ _ _ _ => N
  rename_i Tl _ _ _ Fl _ _ _
  refine wpC_execs_cons (for_V (fun B => ∃ more, Based s.heap B 50 46 more) AllBare rfl rfl ?_ (fun _ => rfl))
  walk_at "minec"
  rename Fr _ _ _ _ => F
  rename News _ _ _ _ => N
  rename CarriedAll _ _ => hca
  rename (Heap.IsList _ _ _) => hly
  rename_i ys _ _ _ _
  have hys : IntsAre ys ((List.take 2 ns).map (fun a => a.fmod 243)) := by
    rw [filter_tt] at hca
    exact CarriedAll.intsOf hca
  have hyl : ys.length ≤ 2 := by rw [hys.length, List.length_map, List.length_take]; omega
  clear hca
  refine add_new F N (News.isList N (.tail _ (.head _))) hly (by rw [sizeLine_eq]; simp; omega) ?_
  clear F N
  intro Sl h3 hSl F N
  (try dsimp only)
  have hSl3 := News.isList N (.head _)
  obtain ⟨bits, sitems, hbits, hbsz, hbI, hstart, N⟩ : ∃ (bits sitems : Array Value), (∀ k, k < 3 → ∃ u, bits[k]? = some (.int ((bb r1 r2 k : Nat) : Int) u)) ∧ bits.size = 3 ∧ IntsAre bits.toList [((bb r1 r2 0 : Nat) : Int), ((bb r1 r2 1 : Nat) : Int), ((bb r1 r2 2 : Nat) : Int)] ∧ IntsAre sitems.toList (82 :: (List.take 2 ns).map (fun a => a.fmod 243)) ∧
      News s.heap L h3 [(Tl, W.listOf #[] 0), (Fl, W.listOf #[] 0), (L + 1, oc), (Bs, W.listOf bits 0), (Sl, W.listOf sitems 0)] := by
    refine ⟨_, _, ?_, ?_, .cons _ _ (.cons _ _ (.cons _ _ .nil)), ?_, News.sub5 N (.tail _ (.tail _ (.tail _ (.tail _ (.head _))))) (.tail _ (.tail _ (.tail _ (.head _)))) (.tail _ (.tail _ (.tail _ (.tail _ (.tail _ (.tail _ (.head _))))))) (.tail _ (.tail _ (.tail _ (.tail _ (.tail _ (.head _)))))) (.head _)⟩
    · intro k hk
      match k, hk with
      | 0, _ => exact ⟨_, rfl⟩
      | 1, _ => exact ⟨_, rfl⟩
      | 2, _ => exact ⟨_, rfl⟩
      | k + 3, h => omega
    · rfl
    · exact .cons _ _ hys
  have hdis : (@Ne Nat Tl Fl ∧ @Ne Nat Tl (L + 1) ∧ @Ne Nat Fl (L + 1)) ∧ (@Ne Nat Bs Tl ∧ @Ne Nat Bs Fl ∧ @Ne Nat Bs (L + 1)) ∧ (@Ne Nat Sl Tl ∧ @Ne Nat Sl Fl ∧ @Ne Nat Sl (L + 1)) := by
    have g1 : @Ne Nat Fl Sl := hSl (Fl, _) (.tail _ (.tail _ (.head _)))
    have g2 : @Ne Nat Tl Sl := hSl (Tl, _) (.tail _ (.tail _ (.tail _ (.head _))))
    have g3 : @Ne Nat (L + 1) Sl := hSl (L + 1, _) (.tail _ (.tail _ (.tail _ (.tail _ (.tail _ (.head _))))))
    have g4 : @LT.lt Nat _ Tl Fl ∧ @LT.lt Nat _ Bs Fl ∧ @LT.lt Nat _ (L + 1) Fl := by assumption
    have g5 : @LT.lt Nat _ Bs Tl ∧ @LT.lt Nat _ (L + 1) Tl := by assumption
    have g6 : @LT.lt Nat _ (L + 1) Bs := And.right (by assumption)
    refine ⟨⟨?_, ?_, ?_⟩, ⟨?_, ?_, ?_⟩, ⟨Ne.symm g2, Ne.symm g1, Ne.symm g3⟩⟩ <;> omega
  clear hSl hSl3 hly hys hyl
  have hstl : sitems.toList.length ≤ 3 := by
    have h1 := hstart.length
    have h2 : ((List.take 2 ns).map (fun a => a.fmod 243)).length ≤ 2 := by rw [List.length_map, List.length_take]; omega
    simp only [List.length_cons] at h1
    omega
  have hsv : ∀ (i : Nat) (v : Value), sitems[i]? = some v → ∃ (x : Nat) (t : Tok), v = .int (x : Int) t ∧ x < 243 := by
    intro i v hv
    have hv' : sitems.toList[i]? = some v := by rw [Array.getElem?_toList]; exact hv
    have hlt : i < (82 :: (List.take 2 ns).map (fun a => a.fmod 243)).length := by rw [← hstart.length]; exact (List.getElem?_eq_some_iff.mp hv').1
    obtain ⟨t, ht⟩ := hstart.get i _ (List.getElem?_eq_getElem hlt)
    rw [hv'] at ht
    have hm : (82 :: (List.take 2 ns).map (fun a => a.fmod 243))[i] ∈ (82 :: (List.take 2 ns).map (fun a : Int => a.fmod 243)) := List.getElem_mem hlt
    generalize (82 :: (List.take 2 ns).map (fun a => a.fmod 243))[i] = y at ht hm
    have hy : 0 ≤ y ∧ y < 243 := by
      rcases List.mem_cons.mp hm with rfl | hm
      · decide
      · obtain ⟨a, _, rfl⟩ := List.mem_map.mp hm
        rw [Int.fmod_eq_emod_of_nonneg _ (by decide)]
        omega
    exact ⟨y.toNat, t, by rw [Option.some.inj ht]; congr 1; omega, by omega⟩
  have hb2 : bb r1 r2 2 = 5 + r1 + r2 := rfl
  generalize hb2' : bb r1 r2 2 = b2 at hb2
  refine at_listV (B₀ := s.heap) (items := sitems) (J := fun i m₁ nx => ∃ NN es tit fit tc fc oc', Inv b2 Bs Tl Fl (L + 1) Sl (W.listOf bits 0) (W.listOf sitems 0) m₁ nx NN es tit fit tc fc oc' ∧ NN.length = 3 * i)
    rfl ⟨_, B0⟩ (.of_eq hg) (fun B hB => by obtain ⟨_, hB⟩ := hB; exact hB.same.1) F N (News.isList N (.tail _ (.tail _ (.tail _ (.tail _ (.head _)))))) (.inr ⟨W.listOf sitems 0, ?_⟩) ⟨[], [], #[], #[], 0, 0, oc, ⟨rfl, rfl, rfl, rfl, ⟨_, hoc⟩, .nil, .nil, (fun N h => nomatch h), fun p h => nomatch h⟩, rfl⟩ ?_ ?_
  · rintro i m₁ nx ⟨NN, es, tit, fit, tc, fc, oc', hI, _⟩
    rw [hI.nw]
    exact .tail _ (.tail _ (.tail _ (.tail _ (.head _))))
  · clear F N
    rintro i v B m₁ nx h tk g I oI hvi ⟨NN, es, tit, fit, tc, fc, oc', hI, hlen⟩ ⟨more, hB⟩ hG hne F N
    obtain ⟨x, tx, rfl, hx⟩ := hsv i v hvi
    have F := Fr.insee3 F hI.mb hI.mt hI.mf
    have hnw := hI.nw
    subst hnw
    have XB := in_based X hB
    have TB := top_based T hB
    refine wpC_execs_cons (wpC_of ?_)
    walk_at "mineL"
    (try dsimp only)
    refine wpC_execs_cons (for_V (fun B => ∃ more, Based s.heap B 50 46 more) AllBare rfl rfl ?_ (fun _ => rfl))
    walk_at "mineL"
    rename Fr _ _ _ _ => F
    rename News _ _ _ _ => N
    rename IsRange _ _ _ _ _ _ _ _ => hR
    have hneI : ∀ p ∈ es, p.1 ≠ I := fun p hp => hne p (.tail _ (.tail _ (.tail _ (.tail _ (.tail _ hp)))))
    have hTI : @Ne Nat Tl I := hne (Tl, _) (.head _)
    have hFI : @Ne Nat Fl I := hne (Fl, _) (.tail _ (.head _))
    have hRI : @Ne Nat (L + 1) I := hne (L + 1, _) (.tail _ (.tail _ (.head _)))
    have hBI : @Ne Nat Bs I := hne (Bs, _) (.tail _ (.tail _ (.tail _ (.head _))))
    have hSI : @Ne Nat Sl I := hne (Sl, _) (.tail _ (.tail _ (.tail _ (.tail _ (.head _)))))
    have hi3 : i < 3 := by
      have := (Array.getElem?_eq_some_iff.mp hvi).1
      rw [Array.length_toList] at hstl
      omega
    have dis0 : ∀ I2 : Nat, Tl ≠ I2 → Fl ≠ I2 → L + 1 ≠ I2 → Bs ≠ I2 → Sl ≠ I2 → I ≠ I2 → Dis L Bs Tl Fl Sl I I2 := fun I2 a1 a2 a3 a4 a5 a6 =>
      ⟨hdis.1.1, hdis.1.2.1, hdis.1.2.2, hdis.2.1.1, hdis.2.1.2.1, hdis.2.1.2.2, hdis.2.2.1, hdis.2.2.2.1, hdis.2.2.2.2, Ne.symm hTI, Ne.symm hFI, Ne.symm hRI, Ne.symm a1, Ne.symm a2, Ne.symm a3, a6, hSI, a5, hBI, a4, hRI⟩
    refine at_rangeV (B₀ := B) (J := InnerJ b2 r1 r2 Bs Tl Fl (L + 1) Sl (W.listOf bits 0) (W.listOf sitems 0) I oI i)
      3 rfl ⟨more, hB⟩ hG (fun B' hB' => by obtain ⟨_, hB'⟩ := hB'; exact hB'.same.1.trans hB.same.1.symm) F N hR (by decide +kernel) (by decide +kernel)
      ⟨NN, es, tit, fit, tc, fc, oc', _, x, rfl, ⟨rfl, rfl, rfl, rfl, hI.cell, hI.tall, hI.flat, hI.lim, hI.ap⟩, hlen, ⟨_, rfl⟩, by show x < 3 ^ 5; omega, hneI, .inl rfl⟩ ?_ ?_
    · clear F N hR XB TB
      rintro k tv B m₁ nx h tk g I2 oI2 hk3 hJ hBe hG hne2 F N
      exact turn_ (by k_is) X T B0 M hBe hG dis0 hbits hbI hbsz hr1' hr2' hb2 hk3 hi3 hJ hne2 F N
    · clear F N hR XB TB
      rintro B m₁ nx h tk g ⟨NN, es, tit, fit, tc, fc, oc', nx', x, rfl, hI, hlen, _, _, hneI, _⟩ ⟨more, hB⟩ hG F N
      have hnw := hI.nw
      subst hnw
      (try dsimp only)
      refine wpC_execs_nil ?_
      (try dsimp only)
      refine forEndV ⟨more, hB⟩ hG F N (.head _) (news' := (Tl, W.listOf tit tc) :: (Fl, W.listOf fit fc) :: (L + 1, oc') :: (Bs, W.listOf bits 0) :: (Sl, W.listOf sitems 0) :: es) (fun q hq => ⟨.tail _ hq, ?_⟩) ⟨NN, es, tit, fit, tc, fc, oc', hI, by omega⟩
      simp only [List.mem_cons] at hq
      rcases hq with rfl | rfl | rfl | rfl | rfl | hq
      · exact hTI
      · exact hFI
      · exact hRI
      · exact hBI
      · exact hSI
      · exact hneI q hq
  · clear F N
    rintro B m₁ nx h tk g ⟨NN, es, tit, fit, tc, fc, oc', hI, hlen⟩ ⟨more, hB⟩ hG F N
    have hnw := hI.nw
    subst hnw
    (try dsimp only)
    refine wpC_of ?_
    refine pairs_ (b2 := b2) (tc := tc) (fc := fc) (by k_is) (in_based X hB) (top_based T hB) F hI.mt hI.mf (News.sub N fun q hq => ?_) hI.tall hI.flat hI.lim (by rw [hlen]; rw [Array.length_toList] at hstl; omega) (by omega) (by omega) ?_
    · rcases List.mem_cons.mp hq with rfl | hq
      · exact .head _
      · rcases List.mem_cons.mp hq with rfl | hq
        · exact .tail _ (.head _)
        · exact .tail _ (.tail _ (.tail _ (.tail _ (.tail _ hq))))
    · intro h' tk' K
      exact hret B h' tk' g more hB K hG
end

/-! LT -/
section
set_option maxRecDepth 100000
set_option maxHeartbeats 4000000
theorem fin_ : PySem.Challenge.rw_pe0065_01.Holds := by
  refine hd ?_
  k_fill
  intro w s₀ s₁ mg mb G Y fa o pm cd doc dV kV ho hd hcd hD hmg hg args vals as hpre hlay hrd hwl hlo
  have KX := kIn_of Y
  refine Ground.open G ?_
  intro T B D TE TW
  obtain ⟨_, _, M⟩ := bmod_of_top T
  wrow_args hpre hlay hrd hwl hlo
  rename Heap.IsList _ _ _ => hL
  rename IntsAre _ _ => hI
  rename (¬ (_ < _)) => hlen
  have hm106 : mg "law" = some (.ref 106) := mg_of KX T.g (by k_is)
  have hfa : fa = 106 := by
    have h1 : mg "law" = some (.ref fa) := hmg
    rw [hm106] at h1
    cases h1; rfl
  subst hfa
  have hm51 : mg "_platform" = some (.ref 51) := mg_of KX T.g (by k_is)
  have TT := topRead_of T
  have hB : Based s₁.heap s₁.heap 50 46 #[] := by
    have hf : ((recsOf Mine.hd.view_39).find? (fun e => e.name == ("_platform" : Str))).isSome = true := by decide +kernel
    obtain ⟨d, hf⟩ := Option.isSome_iff_exists.mp hf
    obtain ⟨c, P, hc, hb⟩ := based_of_top T hf hm51 (KX 51 _ (by k_is)) rfl
    cases hc
    obtain ⟨⟨o50, v50, e1, _, e2, e3⟩, _⟩ := id hb.tab
    have e4 := KX 50 _ (by k_is)
    rw [e4] at e1
    cases e1
    cases e2
    cases e3
    exact hb
  refine ⟨wpC_mono (law_ (E := NoE) _ _ _ KX TT hB M hg hL hI ?_ ?_) (fun v s' h => h) (fun _ _ h => h.elim), ?_⟩
  · omega
  · intro B' h' tk g more hB' K hG
    refine ⟨.inl ⟨_, .bool true, [], rfl, ?_, .bool true, ?_, unshared_nil⟩, hB'.old.step_keeps K, rfl, hG⟩
    · exact raisesW_false (by wrow_none_raised)
    · refine' postW_of (X := true) ?sh ?va rfl; (case sh => o_shape); (case va => wtm_val)
  · refine ⟨.inl ⟨_, .bool true, [], rfl, ?_, .bool true, ?_, unshared_nil⟩, .refl _, rfl, .of_eq hg⟩
    · exact raisesW_false (by wrow_none_raised)
    · refine' postW_of (X := true) ?sh ?va rfl; (case sh => o_shape); (case va => wtm_val)
end

end Mine
end

theorem PySem.Challenge.cw_pe0065_01_holds : PySem.Challenge.rw_pe0065_01.Holds := by
  exact Mine.fin_
