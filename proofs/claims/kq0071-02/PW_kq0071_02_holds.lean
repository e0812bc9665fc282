import PyProof.Rows.All
import Wide.All
import OpenK.AllK
import Wide.FinOn
import Lean
import PySem.Challenge.RW_kq0071_02
open PySem PySem.W PyProof.Rows
set_option Elab.async false
set_option maxRecDepth 100000
set_option maxHeartbeats 400000
set_option compiler.extract_closed false
namespace Mine
namespace Cn
open PySem.Sem (wp)
open Builtin
/-- no frame of a decoder (such a frame might hold a bytearray) -/
def OkC (c : Code) : Prop := ∀ id args, c = .builtin id args → Bytes.decodersThatHold.contains id = false
def OkL (l : List (Code × Pos)) : Prop := ∀ x ∈ l, OkC x.1
/-- wpAny without an exception's end, for the stacks alone that hold no decoder's frame -/
def wpN {α : Type} (M : Model) (A : Around) (t : Sem α) (Q : α → Shared → Prop) (s : Shared) : Prop :=
  ∀ Γ p, Γ.In A → OkC Γ.code → OkL Γ.below → wp M Γ t (fun a _ s' => Q a s') (fun _ _ _ => False) p s
def codeN (M : Model) (A : Around) (c : Code) (Q : Flow → Shared → Prop) (s : Shared) : Prop :=
  ∀ Γ p, Γ.code = c → Γ.Below A → OkL Γ.below → wpCode M Γ (fun r s' => match r with | .ok f => Q f s' | .error _ => False) p s
section
variable {α β : Type} {M : Model} {A : Around} {s : Shared}
theorem wpN.any {t : Sem α} {Q : α → Shared → Prop} (h : wpAny M A t Q (fun _ _ => False) s) : wpN M A t Q s := fun Γ p hΓ _ _ => h Γ p hΓ
theorem wpN.mono {t : Sem α} {Q Q' : α → Shared → Prop} (h : wpN M A t Q s) (hQ : ∀ a s, Q a s → Q' a s) : wpN M A t Q' s := fun Γ p hΓ a b =>
  Sem.wp_mono M Γ t (fun x _ s' => hQ x s') (fun _ _ _ h => h) p s (h Γ p hΓ a b)
theorem wpN.bind {m : Sem α} {f : α → Sem β} {Q : β → Shared → Prop} (h : wpN M A m (fun a s' => wpN M A (f a) Q s') s) : wpN M A (m >>= f) Q s := fun Γ p hΓ a b => by
  rw [Sem.wp_bind']
  exact Sem.wp_mono M Γ m (fun x p' s' h' => h' Γ p' hΓ a b) (fun _ _ _ h' => h') p s (h Γ p hΓ a b)
/-- the first part is told of every stack -/
theorem wpN.bindA {m : Sem α} {f : α → Sem β} {Q : β → Shared → Prop} (h : wpAny M A m (fun a s' => wpN M A (f a) Q s') (fun _ _ => False) s) : wpN M A (m >>= f) Q s := .bind (.any h)
theorem wpN.pure {a : α} {Q : α → Shared → Prop} (h : Q a s) : wpN M A (Pure.pure a) Q s := .any (wpAny_pure h)
theorem wpN.holding {vs : List Value} {m : Sem α} {Q : α → Shared → Prop} (h : wpN M A m Q s) : wpN M A (holding vs m) Q s := fun Γ p hΓ a b => by
  rw [Sem.wp_holding]; exact h Γ p hΓ a b
theorem wpN.onRaise {m : Sem α} {k : Value → Sem Unit} {Q : α → Shared → Prop} (h : wpN M A m Q s) : wpN M A (m.onRaise k) Q s := fun Γ p hΓ a b => by
  rw [Sem.wp_onRaise]
  exact Sem.wp_mono M Γ m (fun _ _ _ h' => h') (fun _ _ _ h' => h'.elim) p s (h Γ p hΓ a b)
theorem wpN.if_false {c : Bool} {x y : Sem α} {Q : α → Shared → Prop} (hc : c = false) (h : wpN M A y Q s) : wpN M A (if c = true then x else y) Q s := by
  rw [if_neg (by rw [hc]; exact Bool.false_ne_true)]; exact h
theorem wpN.run {c : Code} {Q : Value → Shared → Prop} (h : codeN M A c (fun f s' => ∃ v, f = .ret v ∧ Q v s') s) : wpN M A (runValue c) Q s := fun Γ p hΓ a b => by
  rw [Sem.wp_runValue]
  refine wpCode_mono (fun r s' hr => ?_) (h _ p rfl (hΓ.enter c none p (by intro x; cases x)) (fun x hx => ?_))
  · cases r with
    | error e => exact hr.elim
    | ok f => obtain ⟨v, rfl, hv⟩ := hr; exact hv
  · rcases List.mem_cons.mp hx with rfl | hx
    · exact a
    · exact b x hx
theorem wpN.call {f : Value} {pos : List Value} {kw : List (PySem.Str × Value)} {Q : Value → Shared → Prop} (h : codeN M A (.call f ⟨pos, kw⟩) (fun f s' => ∃ v, f = .ret v ∧ Q v s') s) : wpN M A (PySem.call f pos kw) Q s := wpN.run h
theorem wpN.runOwn {c : Code} {env : Env} {Q : Flow → Shared → Prop} (h : codeN M A c Q s) : wpN M A (PySem.runOwn c env) Q s := by
  unfold PySem.runOwn
  refine .onRaise fun Γ p hΓ a b => ?_
  rw [Sem.wp_run]
  refine wpCode_mono (fun r s' hr => ?_) (h _ p rfl (hΓ.enter c none p (by intro x; cases x)) (fun x hx => ?_))
  · cases r with
    | error e => exact hr.elim
    | ok f => exact hr
  · rcases List.mem_cons.mp hx with rfl | hx
    · exact a
    · exact b x hx
theorem codeN.tree {c : Code} {Q : Flow → Shared → Prop} (hok : OkC c) (h : wpN M (A.under c) (M.den c) (fun fin s' => match fin with | .done f => Q f s' | .again c' => c'.quiet = true ∧ codeN M A c' Q s') s) : codeN M A c Q s := fun Γ p hc hΓ hl => by
  rw [wpCode_iff_wp, hc]
  refine Sem.wp_mono M Γ _ (fun fin p' s' h' => ?_) (fun _ _ _ h' => h'.elim) p s (h Γ p (hc ▸ hΓ.in) (hc ▸ hok) hl)
  cases fin with
  | done f => exact h'
  | again c' => exact ⟨h'.1, h'.2 (Γ.goto c') p' rfl (hΓ.goto c') hl⟩
theorem codeN.treeA {c : Code} {Q : Flow → Shared → Prop} (h : wpAny M (A.under c) (M.den c) (fun fin s' => match fin with | .done f => Q f s' | .again c' => c'.quiet = true ∧ codeN M A c' Q s') (fun _ _ => False) s) : codeN M A c Q s := fun Γ p hc hΓ hl => by
  rw [wpCode_iff_wp, hc]
  refine Sem.wp_mono M Γ _ (fun fin p' s' h' => ?_) (fun _ _ _ h' => h'.elim) p s (h Γ p (hc ▸ hΓ.in))
  cases fin with
  | done f => exact h'
  | again c' => exact ⟨h'.1, h'.2 (Γ.goto c') p' rfl (hΓ.goto c') hl⟩
theorem codeN.any {c : Code} {Q : Flow → Shared → Prop} (h : codeAny M A c (fun r s' => match r with | .ok f => Q f s' | .error _ => False) s) : codeN M A c Q s := fun Γ p hc hΓ _ => h Γ p hc hΓ
theorem ok_of {id : String} {args : Args} (h : Bytes.decodersThatHold.contains id = false) : OkC (.builtin id args) := fun i a e => by cases e; exact h
theorem ok_func {body : List Stmt} {env : Env} : OkC (.func body env) := fun _ _ e => nomatch e
theorem no_guards {Γ : Ctx} (hΓ : Γ.In A) (hg : A.guards = some []) (p : Pos) : ∀ x ∈ ((Γ.code, p) :: Γ.below), x.1.isGuard = false := by
  have h := hΓ.2.2.2.1 [] hg
  rw [← guardsOf_cons Γ.code p] at h
  intro x hx
  cases e : x.1.isGuard with
  | false => rfl
  | true =>
    have : x.1 ∈ guardsOf ((Γ.code, p) :: Γ.below) := List.mem_filter.mpr ⟨List.mem_map_of_mem hx, e⟩
    rw [h] at this
    cases this
theorem exported {a : Addr} {Q : Bool → Shared → Prop} (hg : A.guards = some []) (h : Q false s) : wpN M A (Bytes.exported (.ref a)) Q s := fun Γ p hΓ hc hl => by
  have ng := no_guards hΓ hg p
  have ok : ∀ x ∈ ((Γ.code, p) :: Γ.below), OkC x.1 := fun x hx => by
    rcases List.mem_cons.mp hx with rfl | hx
    · exact hc
    · exact hl x hx
  show Q (((Γ.code, p) :: Γ.below).any _) s
  rw [List.any_eq_false.mpr ?_]
  · exact h
  · rintro ⟨c, q⟩ hx
    have g := ng _ hx
    have o := ok _ hx
    dsimp only at g o
    split
    · rename_i heq; cases heq
      exact absurd ((show guardIds.contains "bytearray.__contains__" = true by decide +kernel).symm.trans g) (by decide)
    · rename_i heq; cases heq
      exact absurd ((show guardIds.contains "bytearray.__mod__" = true by decide +kernel).symm.trans g) (by decide)
    · rename_i heq; cases heq
      exact absurd ((show guardIds.contains "bytearray.__rmod__" = true by decide +kernel).symm.trans g) (by decide)
    · rename_i heq; cases heq
      exact absurd ((show guardIds.contains "_struct.pack_into.held" = true by decide +kernel).symm.trans g) (by decide)
    · rename_i heq; cases heq
      exact absurd ((show guardIds.contains "bytearray.find.held" = true by decide +kernel).symm.trans g) (by decide)
    · rename_i heq; cases heq
      rw [o _ _ rfl, Bool.and_false]
      exact Bool.false_ne_true
    · exact Bool.false_ne_true
end
end Cn
namespace Cn
/-- a run on the claim's own stack, at whose end a value is given back, halts there -/
theorem halts {prog : Program} {w : World} {t : Sem Fin} {s : Shared} {P : Value → Shared → Prop} (hz : s.asleep)
    (h : wpN (model prog w) callerA t (fun fin s' => ∃ v, fin = .done (.ret v) ∧ P v s' ∧ AllBare s'.gens) s) :
    ∃ n v s' s'', schedN (denote table) prog w n (.single s ⟨t, .builtin "claim.caller" {}, default, []⟩) = .halted (.done (.ret v)) s' ∧ s'.heap.life = s.heap.life ∧ s'.forget = s''.forget ∧ P v s'' := by
  let R : Result → Shared → Prop := fun r s' => ∃ v, r = .ok (.ret v) ∧ P v s'
  have run := h ⟨.builtin "claim.caller" {}, none, none, [], none⟩ default caller_in (ok_of (by decide +kernel)) (fun _ hx => nomatch hx)
  have run : Sem.wp (model prog w) ⟨.builtin "claim.caller" {}, none, none, [], none⟩ t (Sem.finPost (model prog w) ⟨.builtin "claim.caller" {}, none, none, [], none⟩ fun r s' => R r s' ∧ leftWithCleanup s'.gens = false) (fun e _ s' => R (.error e) s' ∧ leftWithCleanup s'.gens = false) default s :=
    Sem.wp_mono _ _ t (fun _ _ _ hf => by
      obtain ⟨v, rfl, hv, hb⟩ := hf
      exact ⟨⟨v, rfl, hv⟩, leftWithCleanup_false_of_bare hb⟩) (fun _ _ _ no => no.elim) default s run
  obtain ⟨n, r, far, near, hs, hn, alike, v, rfl, hv⟩ := wp_halts_full hz run
  exact ⟨n, v, near, far, hs, runN_life _ _ _ hn, alike, hv⟩
/-- the claim's calls, when each one's arguments are laid and its walk is told on clean stacks -/
theorem calls {c : ClaimW} {tree : List Value → Sem Fin} {w : World} {s : Shared} {free : Addr → Prop} {gens : Prop} {kept : Heap → Prop} (hz : s.asleep) (hgens : s.gens = #[])
    (each : ∀ args ord, c.pre args = true → WData.layableAll args = true → (∀ l : List DictEntry, (ord l).Perm l) → ∃ vs s₁, layAllW c.records (classAt s.heap) w.params ord args s = some (vs, s₁) ∧
      wpN (model c.prog w) callerA (tree vs) (fun fin s' => ∃ v, fin = .done (.ret v) ∧ (c.Ends s args vs s₁ (.ok (.ret v)) s' ∧ s'.os = s.os ∧ kept s'.heap) ∧ AllBare s'.gens) s₁) :
    c.CallFrom (fun vs => ⟨tree vs, .builtin "claim.caller" {}, default, []⟩) w free gens kept s := fun args hpre hlay ord hord => by
  obtain ⟨vs, s₁, laid, walk⟩ := each args ord hpre hlay hord
  have life := (layAllW_rest _ _ _ laid).2.2.2
  obtain ⟨n, v, s', far, sched, still, alike, ends, hos, hkept⟩ := halts (Shared.asleep_of_life life hz) walk
  have heaps := (Shared.forget_eq alike).1
  have oses := (Shared.forget_eq alike).2.2.2.1
  refine ⟨vs, s₁, laid, n, _, s', sched, .inl ?_, fun _ i x hx => ?_, heaps ▸ hkept, congrArg Life.seen (still.trans life), Shared.rest_eq (oses.trans hos)⟩
  · rcases ends.congr heaps with ⟨u, hu, no, reads, same, old, inside⟩ | ⟨_, _, _, hu, _⟩
    · cases hu
      exact ⟨v, rfl, no, reads, same, fun b o hb _ => old b o hb, inside⟩
    · cases hu
  · rw [hgens] at hx
    exact absurd hx (by simp)
section
variable {q : Program} {loose : List Str} {XP : (Str → Option Value) → Heap → Prop} {w : World} {s : Shared} {mg mb : Str → Option Value}
/-- the ground without the records' facts -/
theorem bare_ground {R : WRecords} (G : Ground q loose [] (fun mg h => XP mg h ∧ RecFacts R h) w s mg mb s.heap) : Ground q loose [] XP w s mg mb s.heap :=
  ⟨G.T, G.B, G.D, G.TE, G.TD, G.W, G.X.1, G.cls, G.has, G.apart, G.once, G.K⟩
/-- the arguments are laid, and stand -/
theorem laid_of {r : RowW} (G : Ground q loose r.records XP w s mg mb s.heap) (hgens : s.gens = #[]) {args : List WData} (hpre : r.claim.pre args = true) (hlay : WData.layableAll args = true) {ord : List DictEntry → List DictEntry} (hord : ∀ l, (ord l).Perm l) :
    ∃ vs s₁ as, layAllW r.records (classAt s.heap) w.params ord args s = some (vs, s₁) ∧ Laid r.records w s s₁ args vs as := by
  cases e : layAllW r.records (classAt s.heap) w.params ord args s with
  | none =>
    have some := layAllW_isSome (P := w.params) (ord := ord) G.has args r.args s (pre_splitW hpre).1
    rw [e] at some
    cases some
  | some x =>
    obtain ⟨as, reads, inside, old⟩ := reads_layAllW hord args s _ e hlay x.2.heap (fun _ _ h => h)
    have rest := layAllW_rest _ _ _ e
    exact ⟨x.1, x.2, as, rfl, ⟨ord, hord, e⟩, reads, inside, old, layAllW_keeps _ _ _ e, rest.1.trans hgens, rest.2.2.1⟩
end
/-- the law's walk, told of clean stacks -/
abbrev WalkR (q : Program) (loose : List Str) (XP : (Str → Option Value) → Heap → Prop) (YP : World → Heap → Prop) (r : RowW) (d : DefRec) (kwd : List (Str × Expr)) : Prop :=
  ∀ (w : World) (s₀ s₁ : Shared) (mg mb : Str → Option Value), Ground q loose r.records XP w s₀ mg mb s₁.heap → YP w s₁.heap → ∀ (a : Addr) (o : Obj) (pm cd doc dV kV : Value), s₁.heap.get? a = some o →
    o.data = .func { PySem.Calls.docDef d.name d.params d.body d.scope pm cd doc with defaults := dV, kwdefaults := kV } → s₁.heap.CodeRec cd d.name → Dflts mg s₁.heap d.params kwd dV kV → mg d.name = some (.ref a) → s₁.gens = #[] →
    ∀ (args : List WData) (vals : List Value) (as : List Addr), r.claim.pre args = true → WData.layableAll args = true → ReadsAllW r.records (classAt s₀.heap) s₁.heap vals args as → WellAll w.params s₁.heap vals args → (∀ a ∈ as, (a == sysModules) = false) →
      wpN (model r.prog w) callerA (PySem.call (.ref a) vals) (fun v s' => GoodWG r.claim (classAt s₀.heap) (ExcName.means s₀.heap) args s₁ (.ok (.ret v)) s') s₁
end Cn
/-- A head whose walk is told of clean stacks alone (the library's heads ask it of every stack that fits the frame count: no walk of a bytearray's making can say that).
It bears the premises, and inside this namespace the name, that open_top's own refine asks for. -/
theorem PySem.W.holds_open {r : OpenRow} {q : Program} {loose : List Str} {Xt : Shared → Bool} {XP : (Str → Option Value) → Heap → Prop} {α : Type} {Yf : Shared → α} {Ya : World → α} {YP : World → Heap → Prop} {d : DefRec} {kwd : List (Str × Expr)} {N : Nat}
    (left : LeftO r.prog q loose Xt Yf Ya N) (hY : ∀ w s, Yf s = Ya w → YP w s.heap) (hYk : ∀ w h h', YP w h → (∀ b o, h.get? b = some o → h'.get? b = some o) → YP w h')
    (hX : ∀ s, Xt s = true → XP (s.heap.nsMap mainGlobals) s.heap) (hXk : ∀ mg h h', XP mg h → (∀ b o, h.get? b = some o → h'.get? b = some o) → XP mg h')
    (hdef : defOf q r.name = some (d, kwd)) (hp : r.prog.theDef r.name = some (d.params, d.body, d.scope)) (hk : kwWritten? d.params.kwonlyargs d.params.kw_defaults = some kwd) (hRf : ∀ s, Xt s = true → RecFacts r.records s.heap) (hwr : (!r.writes || r.records.isEmpty) = true)
    (k1 : r.wellSaid = true) (ok : (chainsOk q && opensWell r.prog && (frees r.toRowW && r.within.isEmpty)) = true) (hb : r.prog.bare) (hw : r.toRowW.promised)
    (walk : Cn.WalkR q loose XP YP r.toRowW d kwd) : r.Holds := by
  simp only [Bool.and_eq_true] at ok
  obtain ⟨⟨hch, hopens⟩, hfree, hwithin⟩ := ok
  obtain ⟨hsame, hu, ha, hap, hm⟩ := frees_parts hfree
  have behind := fun w => left.behind (XP := fun mg h => XP mg h ∧ RecFacts r.toRowW.records h) (fun s hs => ⟨hX s hs, hRf s hs⟩) hch w
  refine ⟨k1, hw, ⟨hb, hopens, by show r.makers.map _ = []; rw [hm]; rfl⟩, hw.witness, fun w => ⟨(behind w).1, fun imported himp => ?_⟩⟩
  obtain ⟨fenced, hfence, hempty, s, ran, hz, hgens, hns, Gx, hy⟩ := (behind w).2 imported himp
  have hgens : s.gens = #[] := Array.eq_empty_of_size_eq_zero (beq_iff_eq.mp hgens)
  have RF : RecFacts r.toRowW.records s.heap := Gx.X.2
  have G₀ := Cn.bare_ground Gx
  have G := RF.ground G₀
  refine ⟨fenced, hfence, hempty, s, ran, fun n hn => ?_, RF.1, RF.2.1, Cn.calls (c := r.toRowW.claim) (tree := fun vs => do match ← nsGet mainNs r.name with
      | some f => do ret (← PySem.call f vs)
      | none => unsupported "claim.caller:no-such-global") hz hgens fun args ord hpre hlay hord => ?_⟩
  · obtain rfl : n = r.name := by split at hn <;> simp_all
    exact pinned_of_view hns G₀ hdef hp hk
  · obtain ⟨vs, s₁, as, laid, L⟩ := Cn.laid_of (r := r.toRowW) G hgens hpre hlay hord
    have G₁ := G.keeps hXk L.keeps
    obtain ⟨f, o, pm, cd, doc, dV, kV, hf, ho, hd, hcd, hD⟩ := G₁.fn hdef
    have hname := defOf_name hdef
    have called := walk w s s₁ _ _ G₁ (hYk _ _ _ (hY w s hy) L.keeps) f o pm cd doc dV kV ho hd hcd hD (hname ▸ hf) L.gens args vs as hpre hlay L.reads L.well (L.low G.low)
    refine ⟨vs, s₁, laid, .bindA (wpAny_nsGet G₁.T.g ?_)⟩
    rw [hf]
    refine .bind (called.mono fun v s' good => .pure ⟨v, rfl, ?_⟩)
    have told := good.laid (c := r.toRowW.claim) hsame (List.isEmpty_iff.mp hwithin) (ident_freeW hu ha hap) L
    exact ⟨⟨told.1, told.2.1, fun hwrites => ⟨namesKept_of ran hns _ L.keeps good.2.1.old, noTable hwr hwrites⟩⟩, told.2.2⟩
open_top hd for PySem.Challenge.rw_kq0071_02
theorem top_off : True := by
  w_top off
  trivial

def AllNe (a : Addr) (l : List (Addr × Obj)) : Prop := ∀ p ∈ l, p.1 ≠ a
theorem AllNe.ofLt {a : Addr} {l : List (Addr × Obj)} (h : AllLt a l) : AllNe a l := by
  induction l with
  | nil => intro p hp; cases hp
  | cons q r ih =>
    intro p hp
    rcases List.mem_cons.mp hp with rfl | hp
    · exact Nat.ne_of_lt h.1
    · exact ih h.2 p hp
theorem allLt_mem {a : Addr} {l : List (Addr × Obj)} (h : AllLt a l) : ∀ p ∈ l, p.1 < a := by
  induction l with
  | nil => intro p hp; cases hp
  | cons q r ih =>
    intro p hp
    rcases List.mem_cons.mp hp with rfl | hp
    · exact h.1
    · exact ih h.2 p hp
theorem allLt_intro {a : Addr} {l : List (Addr × Obj)} (h : ∀ p ∈ l, p.1 < a) : AllLt a l := allLt_of h
/-- all own above all news -/
def Above (own news : List (Addr × Obj)) : Prop := ∀ q ∈ own, AllLt q.1 news
theorem above_nil {news : List (Addr × Obj)} : Above [] news := fun _ h => nomatch h
theorem above_cons {q : Addr × Obj} {own news : List (Addr × Obj)} (h : AllLt q.1 news) (h' : Above own news) : Above (q :: own) news := fun p hp => by
  rcases List.mem_cons.mp hp with rfl | hp
  · exact h
  · exact h' p hp

theorem sub_refl {l : List (Addr × Obj)} : ∀ p ∈ l, p ∈ l := fun _ h => h
theorem sub_take {x : Addr × Obj} {l r : List (Addr × Obj)} (h : ∀ p ∈ l, p ∈ r) : ∀ p ∈ x :: l, p ∈ x :: r := fun p hp => by
  rcases List.mem_cons.mp hp with rfl | hp
  · exact List.mem_cons_self
  · exact List.mem_cons_of_mem _ (h p hp)
theorem sub_skip {x : Addr × Obj} {l r : List (Addr × Obj)} (h : ∀ p ∈ l, p ∈ r) : ∀ p ∈ l, p ∈ x :: r := fun p hp => List.mem_cons_of_mem _ (h p hp)
theorem sub_mem {x : Addr × Obj} {l r : List (Addr × Obj)} (hx : x ∈ r) (h : ∀ p ∈ l, p ∈ r) : ∀ p ∈ x :: l, p ∈ r := fun p hp => by
  rcases List.mem_cons.mp hp with rfl | hp
  · exact hx
  · exact h p hp
theorem TurnOff1 {d : Addr} {o : Obj} {l : List (Addr × Obj)} (h : AllNe d l) : ∀ q ∈ [(d, o)], AllNe q.1 l := fun q hq => by rw [List.mem_singleton.mp hq]; exact h

def BodyEnd (g : Heap) (L : Addr) (news : List (Addr × Obj)) (R : Value → List (Addr × Obj) → Prop) (s₁ : Shared) (fl : Flow) (s' : Shared) : Prop :=
  ∃ v own h' tk' m', (fl = .ret v ∨ (fl = .next ∧ v = .none)) ∧ s' = { s₁ with heap := h', toks := tk' } ∧ Fr g L h' m' ∧ News g L h' (own ++ news) ∧ Above own news ∧ R v own

theorem BodyEnd.ret {g : Heap} {L : Addr} {news own : List (Addr × Obj)} {R : Value → List (Addr × Obj) → Prop} {s₁ : Shared} {v : Value} {h' : Heap} {tk' : Nat} {m' : PySem.Str → Option Value} {led : List (Addr × Obj)}
    (F : Fr g L h' m') (N : News g L h' led) (hs : ∀ p ∈ own ++ news, p ∈ led) (ha : Above own news) (hR : R v own) : BodyEnd g L news R s₁ (.ret v) { s₁ with heap := h', toks := tk' } :=
  ⟨v, own, h', tk', m', .inl rfl, rfl, F, fun p hp => N p (hs p hp), ha, hR⟩

def Does (prog : Program) (w : World) (K : Frag) (p : Program) (loose : List PySem.Str) (mean : ExcName → Option Value) (mg mb : PySem.Str → Option Value) (f : Addr) (args : List Value) (kw : List (PySem.Str × Value)) (news : List (Addr × Obj)) (lev : Nat) (R : Value → List (Addr × Obj) → Prop) : Prop :=
  ∀ (dp un : Nat) (cn : PySem.Str) (cs : Scope) (a : Addr) (ccd : Value) (cl : List (PySem.Str × Addr)) (outer : List Env) (A₀ : Around) (base h₀ : Heap) (L : Addr) (m : PySem.Str → Option Value) (s : Shared) (Q E : Value → Shared → Prop),
    Below A₀ base outer h₀ → Fr h₀ L s.heap m → K.In h₀ → News h₀ L s.heap news → Top p loose mean mg mb h₀ → cs.kind = .function → dp + lev + 1 < recursionLimit → un + 10 * lev + 30 < cLine →
    (∀ (v : Value) (own : List (Addr × Obj)) (h' : Heap) (tk' : Nat), Fr h₀ L h' m → News h₀ L h' (own ++ news) → Above own news → R v own → Q v { s with heap := h', toks := tk' }) →
    wpAny (model prog w) (ktrTop dp un (some []) cn cs L a ccd cl outer) (call (.ref f) args kw) Q E s

section
variable {prog : Program} {w : World} {K : Frag} {p : Program} {loose : List PySem.Str} {mean : ExcName → Option Value} {mg mb : PySem.Str → Option Value}
  {f : Addr} {args : List Value} {kw : List (PySem.Str × Value)} {news : List (Addr × Obj)} {R : Value → List (Addr × Obj) → Prop} {lev : Nat}
  {name : PySem.Str} {params : Arguments} {body : List Stmt} {scope : Scope} {dV kV doc pm cdv ct oc : Value} {an od : Option Addr} {osl : Array (Option Value)} {binds : List (PySem.Str × Value)}

theorem does_def (ho : K.lookup f = some ⟨oc, od, .func (fnOf name name params body scope dV kV doc pm an cdv ct), osl⟩) (hcd : codeIn K cdv name = true)
    (hbind : ∀ s : Shared, K.In s.heap → BindsTo s (fnOf name name params body scope dV kV doc pm an cdv ct) ⟨args, kw⟩ binds) (hloc : ∀ y ∈ binds, scope.names.lookup y.1 = some .local)
    (hco : scope.isCoroutine = false) (hgen : scope.isGenerator = false) (hk : scope.kind = .function) (hcell : ∀ x ∈ scope.names, x.2 ≠ .cell)
    (h : ∀ (dp un : Nat) (outer : List Env) (A₀ : Around) (base g : Heap) (L : Addr) (s : Shared),
      Below A₀ base outer g → Fr g L s.heap (fun y => binds.reverse.lookup y) → News g L s.heap news → K.In g → Top p loose mean mg mb g → dp + lev < recursionLimit → un + 10 * lev + 20 < cLine → AllLt L news →
      wpAny (model prog w) (ktrTop dp un (some []) name scope L f cdv [] outer) (execs body (envOf name scope L f cdv)) (BodyEnd g L news R s) (fun _ _ => False) s) :
    Does prog w K p loose mean mg mb f args kw news lev R := by
  intro dp un cn cs a ccd cl outer A₀ base h₀ L m s Q E B F X N T hck hd hu hret
  refine wpAny_call ?_
  have X' := X.keeps F.keep
  refine callX_plain (cl := []) (env := envX cn cs L a ccd cl) B F N T.nolimit rfl rfl hck (X' _ _ ho) rfl (codeRec_of X' hcd) (by show dp < recursionLimit; omega) (hbind s X') hloc (fun g L' h₁ FG F' N' B' st hlt => ?_) hcell hco hgen hk
  have hh := h (dp + 1) (un + 3) (envX cn cs L a ccd cl :: outer) _ base g L' { s with heap := h₁, toks := s.toks + binds.length } B' F' N' (X.keeps st) (T.keeps st) (by omega) (by omega) (allLt_intro hlt)
  refine wpAny_mono hh (fun fl s' hb => ?_) fun _ _ e => e.elim
  obtain ⟨v, own, h', tk', m', hfl, rfl, F'', N'', ha, hR⟩ := hb
  rcases hfl with rfl | ⟨rfl, rfl⟩
  · exact leaveK_ F'' N'' fun FK NK => hret v own h' tk' FK NK ha hR
  · exact leaveK_ F'' N'' fun FK NK => hret _ own h' tk' FK NK ha hR
end

theorem does_use {prog : Program} {w : World} {K : Frag} {p : Program} {loose : List PySem.Str} {mean : ExcName → Option Value} {mg mb : PySem.Str → Option Value} {f : Addr} {args : List Value} {kw : List (PySem.Str × Value)} {news : List (Addr × Obj)} {R : Value → List (Addr × Obj) → Prop} {lev : Nat}
    {dp un : Nat} {cn : PySem.Str} {cs : Scope} {a : Addr} {ccd : Value} {cl : List (PySem.Str × Addr)} {outer : List Env} {A₀ : Around} {base h₀ : Heap} {L : Addr} {m : PySem.Str → Option Value} {s : Shared} {Q E : Value → Shared → Prop}
    (C : Does prog w K p loose mean mg mb f args kw news lev R) (B : Below A₀ base outer h₀) (F : Fr h₀ L s.heap m) (X : K.In h₀) (N : News h₀ L s.heap news) (T : Top p loose mean mg mb h₀) (hck : cs.kind = .function) (hd : dp + lev + 1 < recursionLimit) (hu : un + 10 * lev + 30 < cLine)
    (hret : ∀ (v : Value) (own : List (Addr × Obj)) (h' : Heap) (tk' : Nat), Fr h₀ L h' m → News h₀ L h' (own ++ news) → Above own news → R v own → Q v { s with heap := h', toks := tk' }) :
    wpAny (model prog w) (ktrTop dp un (some []) cn cs L a ccd cl outer) (call (.ref f) args kw) Q E s := C dp un cn cs a ccd cl outer A₀ base h₀ L m s Q E B F X N T hck hd hu hret

def Stop (P : Prop) : Prop := P
theorem Stop.intro {P : Prop} (h : Stop P) : P := h

/-- the map with the names xs laid over it, the temporaries ts unknown -/
def ovr (xs : List (PySem.Str × Value)) (ts : List PySem.Str) (u m₀ : PySem.Str → Option Value) (z : PySem.Str) : Option Value :=
  match xs.lookup z with
  | some v => some v
  | none => if ts.contains z then u z else m₀ z

theorem lookup_none_of {xs : List (PySem.Str × Value)} {z : PySem.Str} (h : ∀ p ∈ xs, z ≠ p.1) : xs.lookup z = none := by
  induction xs with
  | nil => rfl
  | cons q r ih =>
    have h1 := h q List.mem_cons_self
    have h2 := ih fun p hp => h p (List.mem_cons_of_mem _ hp)
    rw [List.lookup_cons]
    have : (z == q.1) = false := beq_eq_false_iff_ne.mpr h1
    simp [this, h2]
theorem lookup_some_mem {xs : List (PySem.Str × Value)} {z : PySem.Str} {v : Value} (h : xs.lookup z = some v) : (z, v) ∈ xs := by
  induction xs with
  | nil => cases h
  | cons q r ih =>
    rw [List.lookup_cons] at h
    split at h
    · rename_i e
      have e' := eq_of_beq e
      cases h
      rw [e']; exact List.mem_cons_self
    · exact List.mem_cons_of_mem _ (ih h)
def Keys (m : PySem.Str → Option Value) (xs : List (PySem.Str × Value)) : Prop := ∀ p ∈ xs, m p.1 = some p.2
def OffOf (ts : List PySem.Str) (ks : List PySem.Str) (m m₀ : PySem.Str → Option Value) : Prop := ∀ z, (∀ t ∈ ts, z ≠ t) → (∀ k ∈ ks, z ≠ k) → m z = m₀ z
theorem keys_nil {m : PySem.Str → Option Value} : Keys m [] := fun _ h => nomatch h
theorem keys_cons {m : PySem.Str → Option Value} {a : PySem.Str} {v : Value} {l : List (PySem.Str × Value)} (h : m a = some v) (r : Keys m l) : Keys m ((a, v) :: l) := fun p hp => by
  rcases List.mem_cons.mp hp with rfl | hp
  · exact h
  · exact r p hp
theorem ovr_off {xs : List (PySem.Str × Value)} {ts : List PySem.Str} {u m₀ : PySem.Str → Option Value} {z : PySem.Str} (h1 : ∀ t ∈ ts, z ≠ t) (h2 : ∀ p ∈ xs, z ≠ p.1) : ovr xs ts u m₀ z = m₀ z := by
  unfold ovr
  rw [lookup_none_of h2]
  have : ts.contains z = false := by
    cases e : ts.contains z with
    | false => rfl
    | true => exact absurd rfl (h1 z (List.contains_iff_mem.mp e))
  rw [this]; rfl
theorem ovr_of {m m₀ : PySem.Str → Option Value} {xs : List (PySem.Str × Value)} {ts : List PySem.Str} (h1 : Keys m xs) (h2 : OffOf ts (xs.map (·.1)) m m₀) : m = ovr xs ts m m₀ := by
  funext z
  unfold ovr
  cases e : xs.lookup z with
  | some v => exact h1 (z, v) (lookup_some_mem e)
  | none =>
    dsimp only
    split
    · rfl
    · rename_i hc
      refine h2 z (fun t ht e' => hc (by rw [e']; exact List.contains_iff_mem.mpr ht)) fun k hk e' => ?_
      obtain ⟨p, hp, rfl⟩ := List.mem_map.mp hk
      have : ∀ (l : List (PySem.Str × Value)), p ∈ l → (l.lookup z).isSome = true := by
        intro l
        induction l with
        | nil => intro h; cases h
        | cons q r ih =>
          intro h
          rw [List.lookup_cons]
          by_cases hq : (z == q.1) = true
          · simp [hq]
          · rcases List.mem_cons.mp h with rfl | h
            · exact absurd (beq_iff_eq.mpr e') hq
            · simp only [hq]; exact ih h
      have := this xs hp
      rw [e] at this; cases this

theorem ovr_offOf {xs : List (PySem.Str × Value)} {ts ks : List PySem.Str} {u m₀ : PySem.Str → Option Value} (e : xs.map (·.1) = ks) : OffOf ts ks (ovr xs ts u m₀) m₀ := fun _ h1 h2 =>
  ovr_off h1 fun p hp => h2 p.1 (e ▸ List.mem_map_of_mem hp)
theorem off_refl {ts ks : List PySem.Str} {m : PySem.Str → Option Value} : OffOf ts ks m m := fun _ _ _ => rfl
theorem off_upd {ts ks : List PySem.Str} {m m₀ : PySem.Str → Option Value} {a : PySem.Str} {v : Option Value} (ha : (ts ++ ks).contains a = true) (h : OffOf ts ks m m₀) : OffOf ts ks (fun y => if y = a then v else m y) m₀ := fun z h1 h2 => by
  have hz : z ≠ a := fun e => by
    have hm := List.contains_iff_mem.mp ha
    rcases List.mem_append.mp hm with hm | hm
    · exact h1 a hm e
    · exact h2 a hm e
  show (if z = a then v else m z) = m₀ z
  rw [if_neg hz]; exact h z h1 h2
def TurnEnd (h₀ : Heap) (L : Addr) (tl : List (Addr × Obj)) (J : (PySem.Str → Option Value) → List (Addr × Obj) → Prop) (s₁ : Shared) (Q : Flow → Shared → Prop) (f : Flow) (s₂ : Shared) : Prop :=
  match f with
  | .ret v => Q (.ret v) s₂
  | .brk => Q .next s₂
  | _ => ∃ h' tk' m' nx, s₂ = { s₁ with heap := h', toks := tk' } ∧ Fr h₀ L h' m' ∧ News h₀ L h' (nx ++ tl) ∧ (∀ q ∈ nx, AllNe q.1 tl) ∧ J m' nx

theorem allNe_app {a : Addr} {l r : List (Addr × Obj)} (h1 : AllNe a l) (h2 : AllNe a r) : AllNe a (l ++ r) := fun p hp =>
  (List.mem_append.mp hp).elim (h1 p) (h2 p)

section
variable {prog : Program} {w : World} {A : Around} {E : Value → Shared → Prop} {s s₂ : Shared} {env : Env} {h₀ : Heap} {x : PySem.Str} {body : List Stmt} {Q : Flow → Shared → Prop}
  {m₀ : PySem.Str → Option Value} {nx₀ fix : List (Addr × Obj)}

theorem loop_core {L : Addr} {I : Addr} {fp : List Addr} {n : Nat} {P : Nat → Value → Prop} {St : Nat → Heap → Prop} (W : Walks prog w A I fp [I] n P St)
    (J : Nat → (PySem.Str → Option Value) → List (Addr × Obj) → Prop)
    (hLf : L ∉ fp) (hI : h₀.get? I = none) (hIo : ∀ i h, St i h → ∃ o, h.get? I = some o) (hnx : ∀ p ∈ nx₀, p.1 ≠ I) (hfix : ∀ p ∈ fix, p.1 ≠ I) (hff : ∀ q ∈ nx₀, AllNe q.1 fix)
    (hfp : ∀ b ∈ fp, b = I ∨ (h₀.get? b).isSome = true ∨ ∃ o, (b, o) ∈ fix)
    (hL : env.locals = L) (hst : St 0 s₂.heap) (F : Fr h₀ L s₂.heap m₀) (N : News h₀ L s₂.heap (nx₀ ++ fix)) (hJ : J 0 m₀ nx₀)
    (turn : ∀ i v m₁ nx h tk tl, i < n → P i v → J i m₁ nx → (∀ p ∈ fix, p ∈ tl) → (∀ q ∈ nx, AllNe q.1 tl) → Fr h₀ L h (fun y => if y = x then some v else m₁ y) → News h₀ L h (nx ++ tl) →
      wpAny (model prog w) A (execs body env) (TurnEnd h₀ L tl (J (i + 1)) { s₂ with heap := h, toks := tk } Q) E { s₂ with heap := h, toks := tk })
    (done : ∀ m₁ nx h tk, J n m₁ nx → Fr h₀ L h m₁ → News h₀ L h (nx ++ fix) → (∀ q ∈ nx, AllNe q.1 fix) → Q .next { s₂ with heap := h, toks := tk }) :
    LoopAtV prog w A h₀ env x body Q E (.ref I) s₂ := by
  subst hL
  refine ⟨I, fp, [I], n, P, St, m₀, nx₀ ++ fix, fun i m led => ∃ nx, led = nx ++ fix ∧ (∀ q ∈ nx, AllNe q.1 fix) ∧ J i m nx, rfl, W, hLf, ?_, ?_, hst, F, N, ⟨nx₀, rfl, hff, hJ⟩, ?_, ?_⟩
  · intro b hb; rw [List.mem_singleton.mp hb]; exact hI
  · intro p hp hm
    have hpI := List.mem_singleton.mp hm
    rcases List.mem_append.mp hp with hp | hp
    · exact hnx p hp hpI
    · exact hfix p hp hpI
  · rintro i v m₁ led s₁ own ⟨h, tk, rfl⟩ hi hP ⟨nx, rfl, hoff, hJi⟩ hled hown hown2 hown3 hst' F' N'
    obtain ⟨oI, heI⟩ := hIo _ _ hst'
    have hIown : (I, oI) ∈ own := hown3 I (W.sub I (List.mem_singleton.mpr rfl)) hI oI heI
    have N₂ : News h₀ env.locals h (nx ++ (fix ++ own)) := fun p hp => by
      refine N' p ?_
      simp only [List.mem_append] at hp ⊢
      rcases hp with hp | hp | hp
      · exact .inr (.inl hp)
      · exact .inr (.inr hp)
      · exact .inl hp
    have ne : ∀ q ∈ nx, AllNe q.1 (fix ++ own) := fun q hq => by
      refine allNe_app (hoff q hq) fun p hp e => ?_
      have h1 := hown p hp
      rcases hfp p.1 h1 with h2 | h2 | ⟨o, h2⟩
      · exact hled q (List.mem_append_left _ hq) (List.mem_singleton.mpr (by rw [← e, h2]))
      · have h3 := (N' p (List.mem_append_left _ hp)).2.2
        rw [h3] at h2; cases h2
      · exact hoff q hq _ h2 e
    refine wpAny_mono (turn i v m₁ nx h tk (fix ++ own) hi hP hJi (fun p hp => List.mem_append_left _ hp) ne F' N₂) (fun f s₃ h₃ => ?_) fun _ _ e => e
    have fin : (∃ h' tk' m' nx', s₃ = { s₂ with heap := h', toks := tk' } ∧ Fr h₀ env.locals h' m' ∧ News h₀ env.locals h' (nx' ++ (fix ++ own)) ∧ (∀ q ∈ nx', AllNe q.1 (fix ++ own)) ∧ J (i + 1) m' nx') →
        LoopStepU h₀ env.locals [I] own (fun m led => ∃ nx, led = nx ++ fix ∧ (∀ q ∈ nx, AllNe q.1 fix) ∧ J (i + 1) m nx) { s₂ with heap := h, toks := tk } .next s₃ := by
      rintro ⟨h', tk', m', nx', rfl, F₃, N₃, off₃, J₃⟩
      refine ⟨rfl, h', tk', m', nx' ++ fix, rfl, F₃, fun p hp => N₃ p ?_, fun p hp hm => ?_, nx', rfl, fun q hq p hp => off₃ q hq p (List.mem_append_left _ hp), J₃⟩
      · simp only [List.mem_append] at hp ⊢
        rcases hp with hp | hp | hp
        · exact .inr (.inr hp)
        · exact .inl hp
        · exact .inr (.inl hp)
      · have hpI := List.mem_singleton.mp hm
        rcases List.mem_append.mp hp with hp | hp
        · exact off₃ p hp (I, oI) (List.mem_append_right _ hIown) hpI.symm
        · exact hfix p hp hpI
    cases f with
    | ret v => exact .ret h₃
    | brk => exact .brk h₃
    | next => exact .next (fin h₃)
    | cont => exact .cont (fin h₃)
  · rintro h' tk m' led F' N' _ ⟨nx, rfl, hoff, hJn⟩
    exact done m' nx h' tk hJn F' N' hoff

theorem for_list {L : Addr} {l : Addr} {vs : List Value} {k : Nat} (J : Nat → (PySem.Str → Option Value) → List (Addr × Obj) → Prop) (hL : env.locals = L) (hh : A.handled = none) (hm : (l, ({ cls := .type "list", data := .seq vs.toArray k } : Obj)) ∈ fix)
    (F : Fr h₀ L s.heap m₀) (N : News h₀ L s.heap (nx₀ ++ fix)) (hff : ∀ q ∈ nx₀, AllNe q.1 fix) (hJ : J 0 m₀ nx₀)
    (turn : ∀ i v m₁ nx h tk tl, vs[i]? = some v → J i m₁ nx → (∀ p ∈ fix, p ∈ tl) → (∀ q ∈ nx, AllNe q.1 tl) → Fr h₀ L h (fun y => if y = x then some v else m₁ y) → News h₀ L h (nx ++ tl) →
      wpAny (model prog w) A (execs body env) (TurnEnd h₀ L tl (J (i + 1)) { s with heap := h, toks := tk } Q) E { s with heap := h, toks := tk })
    (done : ∀ m₁ nx h tk, J vs.length m₁ nx → Fr h₀ L h m₁ → News h₀ L h (nx ++ fix) → (∀ q ∈ nx, AllNe q.1 fix) → Q .next { s with heap := h, toks := tk }) :
    wpAny (model prog w) A (pyIter (.ref l)) (fun it s₂ => LoopAtV prog w A h₀ env x body Q E it s₂) E s := by
  have hls : s.heap.IsList l vs.toArray := ⟨_, (N _ (List.mem_append_right _ hm)).1, rfl, k, rfl⟩
  obtain ⟨ol, hol, _⟩ := id hls
  have hlt := Heap.lt_size hol
  have hz : vs.toArray.size = vs.length := by simp
  refine wpAny_pyIter_list hls ?_
  have W := Walks.list (prog := prog) (w := w) hh s.heap.objs.size l (Nat.ne_of_lt hlt) vs.toArray
  rw [hz] at W
  refine loop_core W J ?_ (next_is_new F) (fun i h st => by obtain ⟨o, e, _⟩ := st.1; exact ⟨o, e⟩) (fun p hp => Nat.ne_of_lt (Heap.lt_size (N p (List.mem_append_left _ hp)).1)) (fun p hp => Nat.ne_of_lt (Heap.lt_size (N p (List.mem_append_right _ hp)).1)) hff ?_ hL
    ⟨⟨_, Heap.get?_push_size _ rfl, rfl, rfl⟩, hls.at fun o e => Heap.get?_push_of_some _ e⟩ (F.push _) (fun p hp => ⟨Heap.get?_push_of_some _ (N p hp).1, (N p hp).2⟩) hJ ?_ done
  · intro hm'
    rcases List.mem_cons.mp hm' with e | hm'
    · exact absurd F.ns.lt (e ▸ Nat.lt_irrefl _)
    · have e := List.mem_singleton.mp hm'
      exact (N _ (List.mem_append_right _ hm)).2.1 e.symm
  · intro b hb
    rcases List.mem_cons.mp hb with rfl | hb
    · exact .inl rfl
    · rw [List.mem_singleton.mp hb]; exact .inr (.inr ⟨_, hm⟩)
  · intro i v m₁ nx h tk tl _ hP hJi hsub hne F' N'
    exact turn i v m₁ nx h tk tl (by simpa using hP) hJi hsub hne F' N'

theorem for_bytes {L : Addr} {b : Array UInt8} {tb : Tok} (J : Nat → (PySem.Str → Option Value) → List (Addr × Obj) → Prop) (hL : env.locals = L) (hh : A.handled = none)
    (F : Fr h₀ L s.heap m₀) (N : News h₀ L s.heap (nx₀ ++ fix)) (hff : ∀ q ∈ nx₀, AllNe q.1 fix) (hJ : J 0 m₀ nx₀)
    (turn : ∀ i c t m₁ nx h tk tl, b[i]? = some c → J i m₁ nx → (∀ p ∈ fix, p ∈ tl) → (∀ q ∈ nx, AllNe q.1 tl) → Fr h₀ L h (fun y => if y = x then some (.int (c.toNat : Int) t) else m₁ y) → News h₀ L h (nx ++ tl) →
      wpAny (model prog w) A (execs body env) (TurnEnd h₀ L tl (J (i + 1)) { s with heap := h, toks := tk } Q) E { s with heap := h, toks := tk })
    (done : ∀ m₁ nx h tk, J b.size m₁ nx → Fr h₀ L h m₁ → News h₀ L h (nx ++ fix) → (∀ q ∈ nx, AllNe q.1 fix) → Q .next { s with heap := h, toks := tk }) :
    wpAny (model prog w) A (pyIter (.bytes b tb)) (fun it s₂ => LoopAtV prog w A h₀ env x body Q E it s₂) E s := by
  refine KBw.pyIter_bytes ?_
  have W := KBw.walks (prog := prog) (w := w) hh s.heap.objs.size b tb
  refine loop_core W J ?_ (next_is_new F) (fun i h st => by obtain ⟨o, e, _⟩ := st; exact ⟨o, e⟩) (fun p hp => Nat.ne_of_lt (Heap.lt_size (N p (List.mem_append_left _ hp)).1)) (fun p hp => Nat.ne_of_lt (Heap.lt_size (N p (List.mem_append_right _ hp)).1)) hff ?_ hL
    ⟨_, Heap.get?_push_size _ rfl, rfl, rfl⟩ (F.push _) (fun p hp => ⟨Heap.get?_push_of_some _ (N p hp).1, (N p hp).2⟩) hJ ?_ done
  · intro hm'
    exact absurd F.ns.lt ((List.mem_singleton.mp hm') ▸ Nat.lt_irrefl _)
  · intro b' hb
    exact .inl (List.mem_singleton.mp hb)
  · rintro i v m₁ nx h tk tl _ ⟨c, u, hc, rfl⟩ hJi hsub hne F' N'
    exact turn i c u m₁ nx h tk tl hc hJi hsub hne F' N'

end

section
variable {prog : Program} {w : World} {A : Around} {E : Value → Shared → Prop} {s : Shared} {h₀ : Heap} {L : Addr} {m : PySem.Str → Option Value} {env : Env}

/-- an element's end: nothing of the ledger is turned, what is new is forgotten -/
def EltEnd (h₀ : Heap) (L : Addr) (m : PySem.Str → Option Value) (led : List (Addr × Obj)) (R : Value → Prop) (s₁ : Shared) (y : Value) (s₂ : Shared) : Prop :=
  ∃ h' tk', s₂ = { s₁ with heap := h', toks := tk' } ∧ Fr h₀ L h' m ∧ News h₀ L h' led ∧ R y
theorem EltEnd.intro {led all : List (Addr × Obj)} {R : Value → Prop} {s₁ : Shared} {y : Value} {h' : Heap} {tk' : Nat} (F : Fr h₀ L h' m) (N : News h₀ L h' all) (sub : ∀ p ∈ led, p ∈ all) (hR : R y) :
    EltEnd h₀ L m led R s₁ y { s₁ with heap := h', toks := tk' } := ⟨h', tk', rfl, F, fun p hp => N p (sub p hp), hR⟩

theorem compRest_all {elt : Expr} {x : PySem.Str} {scope : Scope} {cl : List (PySem.Str × Addr)} {S : List (Addr × Obj) → Prop} {P : Nat → Value → Prop} {Fin : List Value → List (Addr × Obj) → Prop} {n : Nat} {news : List (Addr × Obj)} (R : Nat → Value → Prop)
    (hS : S news)
    (step : ∀ i v I oI C oC D ys m₂ h tk, i < n → P i v → LCg.NsObj oC m₂ → m₂ x = some v → Fr h₀ L h m → News h₀ L h ((I, oI) :: (C, oC) :: (D, LCg.lst ys) :: news) →
      wpAny (model prog w) A (eval elt (compEnvC scope cl C env)) (EltEnd h₀ L m ((I, oI) :: (C, oC) :: (D, LCg.lst ys) :: news) (R i) { s with heap := h, toks := tk }) (fun _ _ => False) { s with heap := h, toks := tk })
    (fin : ∀ ys : List Value, ys.length = n → (∀ i y, ys[i]? = some y → R i y) → Fin ys news) :
    LCg.CompRest prog w A h₀ L m env elt x scope cl s S P Fin n 0 [] news := by
  have all : ∀ (k i : Nat) (ys : List Value), i + k = n → ys.length = i → (∀ j y, ys[j]? = some y → R j y) → LCg.CompRest prog w A h₀ L m env elt x scope cl s S P Fin k i ys news := by
    intro k
    induction k with
    | zero =>
      intro i ys hi hy hR
      exact fin ys (by omega) hR
    | succ k ih =>
      intro i ys hi hy hR
      refine LCg.CompRest.succ fun v I oI C oC D m₂ h tk E' hP hC hx F N off ne => ?_
      refine wpAny_mono (step i v I oI C oC D ys m₂ h tk (by omega) hP hC hx F N) (fun y s₂ hy2 => ?_) fun _ _ e => e.elim
      obtain ⟨h', tk', rfl, F', N', hRy⟩ := hy2
      refine LCg.CompEnd.intro F' N' news (fun p hp => hp) off hS (ih (i + 1) (ys ++ [y]) (by omega) (by simp [hy]) fun j z hj => ?_)
      by_cases hlt : j < ys.length
      · rw [List.getElem?_append_left hlt] at hj; exact hR j z hj
      · have hj' : j = i := by
          have h1 := (List.getElem?_eq_some_iff.mp hj).1
          simp only [List.length_append, List.length_singleton] at h1
          omega
        subst hj'
        rw [← hy, List.getElem?_append_right (Nat.le_refl _), Nat.sub_self] at hj
        simp only [List.getElem?_cons_zero, Option.some.injEq] at hj
        exact hj ▸ hRy
  exact all n 0 [] (by omega) rfl fun j y hj => by simp at hj
end
theorem does_defC {prog : Program} {w : World} {K : Frag} {p : Program} {loose : List PySem.Str} {mean : ExcName → Option Value} {mg mb : PySem.Str → Option Value}
  {f : Addr} {args : List Value} {kw : List (PySem.Str × Value)} {news : List (Addr × Obj)} {R : Value → List (Addr × Obj) → Prop} {lev : Nat}
  {name : PySem.Str} {params : Arguments} {body : List Stmt} {scope : Scope} {dV kV doc pm cdv ct oc : Value} {an od : Option Addr} {osl : Array (Option Value)} {binds : List (PySem.Str × Value)}
    (ho : K.lookup f = some ⟨oc, od, .func (fnOf name name params body scope dV kV doc pm an cdv ct), osl⟩) (hcd : codeIn K cdv name = true)
    (hbind : ∀ s : Shared, K.In s.heap → BindsTo s (fnOf name name params body scope dV kV doc pm an cdv ct) ⟨args, kw⟩ binds)
    (hkind : (binds.all fun y => scope.names.lookup y.1 == some .local || scope.names.lookup y.1 == some .cell) = true) (hnd : ((cellsFrom 0 scope.names []).map (·.1)).Nodup)
    (hco : scope.isCoroutine = false) (hgen : scope.isGenerator = false) (hk : scope.kind = .function)
    (h : ∀ (dp un : Nat) (outer : List Env) (A₀ : Around) (base g : Heap) (L : Addr) (s : Shared) (cells : List (Addr × Obj)),
      Below A₀ base outer g → Fr g L s.heap (bindL (envOfC name scope L f cdv).kindOf binds fun _ => none) → News g L s.heap (cells ++ news) →
      CellsAre (bindC (envOfC name scope L f cdv).kindOf binds fun _ => none) (cellsFrom (L + 1) scope.names []) cells →
      K.In g → Top p loose mean mg mb g → dp + lev < recursionLimit → un + 10 * lev + 20 < cLine → AllLt L news →
      wpAny (model prog w) (ktrTop dp un (some []) name scope L f cdv (cellsFrom (L + 1) scope.names []) outer) (execs body (envOfC name scope L f cdv)) (BodyEnd g L news R s) (fun _ _ => False) s) :
    Does prog w K p loose mean mg mb f args kw news lev R := by
  intro dp un cn cs a ccd cl outer A₀ base h₀ L m s Q E B F X N T hck hd hu hret
  refine wpAny_call ?_
  have X' := X.keeps F.keep
  refine callX_cells (env := envX cn cs L a ccd cl) B F N T.nolimit rfl rfl hck (X' _ _ ho) rfl (codeRec_of X' hcd) (by show dp < recursionLimit; omega) (hbind s X') (kindsX hkind) hnd (fun g L' h₁ tk cells FG F' N' Y B' st hlt => ?_) hco hgen hk
  have hh := h (dp + 1) (un + 3) (envX cn cs L a ccd cl :: outer) _ base g L' { s with heap := h₁, toks := tk } cells B' F' N' Y (X.keeps st) (T.keeps st) (by omega) (by omega) (allLt_intro hlt)
  refine wpAny_mono hh (fun fl s' hb => ?_) fun _ _ e => e.elim
  obtain ⟨v, own, h', tk', m', hfl, rfl, F'', N'', ha, hR⟩ := hb
  rcases hfl with rfl | ⟨rfl, rfl⟩
  · exact leaveK_ F'' N'' fun FK NK => hret v own h' tk' FK NK ha hR
  · exact leaveK_ F'' N'' fun FK NK => hret _ own h' tk' FK NK ha hR

section
variable {prog : Program} {w : World} {A : Around} {E : Value → Shared → Prop} {s : Shared} {h₀ : Heap} {L : Addr} {m : PySem.Str → Option Value} {env : Env}
abbrev tupO (vs : List Value) (k : Nat) : Obj := { cls := .type "tuple", data := .seq vs.toArray k }
def SrcTup (prog : Program) (w : World) (A : Around) (h₀ : Heap) (L : Addr) (m : PySem.Str → Option Value) (env : Env) (elt : Expr) (x : PySem.Str) (scope : Scope) (cl : List (PySem.Str × Addr)) (Fin : Shared → List Value → List (Addr × Obj) → Prop) (xv : Value) (s₁ : Shared) : Prop :=
  ∃ ax vs k news, xv = .ref ax ∧ Fr h₀ L s₁.heap m ∧ News h₀ L s₁.heap news ∧ (ax, tupO vs k) ∈ news ∧ vs.length ≤ 1000 ∧
    ∀ g, LCg.CompRest prog w A h₀ L m env elt x scope cl { s₁ with heap := g } (fun nw => (ax, tupO vs k) ∈ nw) (fun i v => vs[i]? = some v) (Fin { s₁ with heap := g }) vs.length 0 [] news

theorem assign_comp_tup {elt iter : Expr} {x y : PySem.Str} {px py : Pos} {scope : Scope} {cl : List (PySem.Str × Addr)} {pos spos : Pos} {Q : Flow → Shared → Prop} (F₀ : Fr h₀ L s.heap m) (hLe : env.locals = L) (hh : A.handled = none)
    (hsw : swapsWith (.ListComp elt [⟨.Name x px, iter, [], 0⟩] scope pos) (some (.Name y py)) spos.line env = pure true)
    (hclos : closureFor scope env = pure cl) (hcell : ∀ z ∈ scope.names, z.2 ≠ .cell) (hkind : scope.kind = .function)
    (hnames : ∀ z ∈ scope.names, z.2 = .local → scope.names.lookup z.1 = some .local) (hx : scope.names.lookup x = some .local)
    (hy : env.kindOf y = some .local) (hp : (env.scope.kind == .class || (env.scope.kind == .module && env.locals != env.globals)) = false)
    (h : wpAny (model prog w) A (eval iter env) (SrcTup prog w A h₀ L m env elt x scope cl (fun s₂ => LCg.FinA h₀ L m s₂ y Q)) E s)
    (hs : ∀ x, foldedSetIterable iter env x = pure x := by intro _; rfl) :
    wpAny (model prog w) A (exec (.Assign [.Name y py] (.ListComp elt [⟨.Name x px, iter, [], 0⟩] scope pos) spos) env) Q E s := by
  subst hLe
  rw [exec_Assign_Name_used _ _ _ _ hsw]
  refine wpAny_bind (wpAny_standAt (wpAny_bind ?_))
  show wpAny _ A (do let _ ← comprehension (.ListComp elt [⟨.Name x px, iter, [], 0⟩] scope pos) scope env _ (newList []) false (eval iter env) (some (assign (.Name y py) env))) _ _ s
  refine wpAny_bind (wpAny_mono (wpAny_comprehension_free (use := some (assign (.Name y py) env)) (Q := fun _ s' => Q .next s') rfl hs hclos hkind hnames
    (wpAny_mono h (fun xv s₁ h₁ => ?_) fun _ _ e => e)) (fun _ s' hq => wpAny_pure (wpAny_pure hq)) fun _ _ e => e)
  obtain ⟨ax, vs, k, news, rfl, F, N, hm, hsz, R⟩ := h₁
  have hl : s₁.heap.IsTuple ax vs.toArray := ⟨_, (N _ hm).1, rfl, k, rfl⟩
  have hlt : ax < s₁.heap.objs.size := Heap.lt_size (N _ hm).1
  have hz : vs.toArray.size = vs.length := by simp
  refine wpAny_pyIter_tuple hl ?_
  have up : ∀ b o, s₁.heap.get? b = some o → (s₁.heap.push { cls := .type "tuple_iterator", data := .fields #[.ref ax, .int 0 0] }).get? b = some o := fun b o e => Heap.get?_push_of_some _ e
  have W := Walks.tuple (prog := prog) (w := w) hh s₁.heap.objs.size ax (Nat.ne_of_lt hlt) vs.toArray
  rw [hz] at W
  have R' := R (s₁.heap.push { cls := .type "tuple_iterator", data := .fields #[.ref ax, .int 0 0] })
  have hP : (fun (i : Nat) (v : Value) => vs.toArray[i]? = some v) = fun (i : Nat) (v : Value) => vs[i]? = some v := by funext i v; simp
  rw [hP] at W
  refine LCg.block_U W (by rw [sizeLine_eq]; omega) (fun i h st => by obtain ⟨o, e, _⟩ := st.1; exact ⟨o, e⟩) (fun i h h' o nw st e e' k' N' S' => ⟨by obtain ⟨o', q, r⟩ := st.1; rw [e] at q; cases q; exact ⟨o, e', r⟩, ⟨_, (N' _ S').1, rfl, k, rfl⟩⟩) hcell hkind hx ⟨⟨_, Heap.get?_push_size _ rfl, rfl, rfl⟩, ⟨_, up _ _ (N _ hm).1, rfl, k, rfl⟩⟩ (fun b hb => ?_)
    (F.keeps up) (N.grown up) (Nat.ne_of_lt F.ns.lt) (next_is_new F) (fun p hp => Nat.ne_of_lt (Heap.lt_size (N p hp).1)) hm R' ?_
  · show b < (s₁.heap.push _).objs.size
    rw [Heap.size_push]
    rcases List.mem_cons.mp hb with rfl | hb
    · exact Nat.lt_succ_self _
    · rw [List.mem_singleton.mp hb]; exact Nat.lt_succ_of_lt hlt
  · intro D C h' tk m' ys news' F' N' o1 hn hC₀ hD₀ hCL hDL hCD offC fin
    show wpAny _ A (assign (.Name y py) env (.ref D)) _ _ _
    refine wpAny_assign_Name (wpAny_storeName_local hy F'.ns (fun h₂ hn₂ hs₂ => ?_) hp)
    have hL₀ : h₀.get? env.locals = none := Heap.get?_none_of_le F'.above
    have F₂ : Fr h₀ env.locals h₂ (fun z => if z = y then some (.ref D) else m z) := ⟨hn₂, fun b o e => hs₂.extBut b o (fun q => by rw [q, hL₀] at e; cases e) (F'.keep b o e), F'.above⟩
    refine ⟨m', hn.sameBut hs₂ hCL, fun h'' hs'' => fin D h'' _ (F₂.change hs'' hCL hC₀) (fun p hp => ?_) o1⟩
    have z : h₂.get? p.1 = some p.2 := hs₂.extBut _ _ (N' p hp).2.1 (N' p hp).1
    refine ⟨hs''.extBut _ _ ?_ z, (N' p hp).2⟩
    rcases List.mem_cons.mp hp with rfl | hp
    · exact Ne.symm hCD
    · exact offC p hp
end

namespace Bb
open PySem.Sem (wp)
/-- bytes of ints -/
def ofInts (ns : List Int) : List UInt8 := ns.map fun n => n.toNat.toUInt8
/-- the number that octets write, the greatest first -/
def be (l : List UInt8) : Nat := l.foldl (fun n o => n * 256 + o.toNat) 0
section
variable {prog : Program} {w : World} {A : Around} {E : Value → Shared → Prop} {s : Shared} {h₀ : Heap} {L : Addr} {m : PySem.Str → Option Value} {news : List (Addr × Obj)}

theorem no_bytes_tup : typeLookup (.type "tuple") "__bytes__" = pure none := by rw [typeLookup_type, builtinLookup_eq_fast]; kernel_rfl
theorem no_index_tup : typeLookup (.type "tuple") "__index__" = pure none := by rw [typeLookup_type, builtinLookup_eq_fast]; kernel_rfl
theorem no_buffer_tup : typeLookup (.type "tuple") "__buffer__" = pure none := by rw [typeLookup_type, builtinLookup_eq_fast]; kernel_rfl
theorem split_tup : splitId "tuple.__len__" = some ("tuple", "__len__") := by decide +kernel
theorem sub_tup : isSubtype (.type "tuple") (.type "tuple") = pure true := by rw [isSubtype_type]; kernel_rfl
theorem loop_tup {R : Result → Shared → Prop} {l I S : Addr} {vs : List Value} {ns : List Int} (hh : A.handled = none) (hi : IntsAre vs ns) (hr : ∀ n ∈ ns, 0 ≤ n ∧ n < 256) (hz : ns.length ≤ sizeLine) (hIS : I ≠ S) (hlI : l ≠ I) (hlS : l ≠ S) :
    ∀ (k i : Nat) (s : Shared), ns.length - i = k → i ≤ ns.length → s.heap.IsTuple l vs.toArray → s.heap.IsTupleIter I l i → s.heap.get? S = some { cls := .type "bytearray", data := .bytearray (byteArr (ns.take i)) } →
      (∀ h' t k', (∀ b o, b ≠ I → b ≠ S → s.heap.get? b = some o → h'.get? b = some o) → R (.ok (.ret (.bytes (byteArr ns) t))) { s with heap := h', toks := k' }) →
      codeAny (model prog w) A (.builtin "bytes.__new__.loop" ⟨[.type "bytes", .ref I, .ref S], []⟩) R s := by
  have hlen : vs.length = ns.length := hi.length
  intro k
  induction k with
  | zero =>
    intro i s hk hle hl hit hS hR
    have hin : i = ns.length := by omega
    subst hin
    refine codeAny_builtin F.bm_entry_loop ?_
    rw [Around.under_plainId F.bm_plain_loop _]
    show wpAny _ A.in1 (pyNext (.ref I) >>= _) _ _ s
    refine wpAny_bind (wpAny_pyNext_tuple_end hh hit hl (by simp [hlen]) fun h' he => ?_)
    have hS' : h'.get? S = some { cls := .type "bytearray", data := .bytearray (byteArr (ns.take ns.length)) } := he S _ (Ne.symm hIS) hS
    refine wpAny_bind ?_
    unfold Builtin.Bytes.payload Builtin.Bytes.payload?
    refine wpAny_bind (wpAny_bind (wpAny_load hS' ?_))
    refine wpAny_pure (wpAny_pure ?_)
    rw [List.take_length]
    refine wpAny_bind (wpAny_mkBytes ?_ (by rw [byteArr_size]; exact hz))
    show wpAny _ _ (if (Value.type "bytes" == Value.type "bytes") = true then _ else _) _ _ _
    refine bm_if_true (by decide) ?_
    first
      | exact wpAny_pure (hR h' _ _ fun b o hb _ e => he b o hb e)
      | exact wpAny_bind (wpAny_pure (wpAny_pure (hR h' _ _ fun b o hb _ e => he b o hb e)))
  | succ k ih =>
    intro i s hk hle hl hit hS hR
    have hlt : i < ns.length := by omega
    obtain ⟨x, hx⟩ : ∃ x, vs[i]? = some x := ⟨vs[i]'(by omega), List.getElem?_eq_getElem (by omega)⟩
    obtain ⟨n, t, rfl, hn⟩ := IntsAre.at hi i x hx
    obtain ⟨h0, h1⟩ := hr n (List.mem_of_getElem? hn)
    refine codeAny_builtin F.bm_entry_loop ?_
    rw [Around.under_plainId F.bm_plain_loop _]
    show wpAny _ A.in1 (pyNext (.ref I) >>= _) _ _ s
    refine wpAny_bind (wpAny_pyNext_tuple_item (x := .int n t) hit hl (by simpa using hx) fun h' hit' hs => ?_)
    have hS' : h'.get? S = some { cls := .type "bytearray", data := .bytearray (byteArr (ns.take i)) } := (hs.2 S (Ne.symm hIS)).trans hS
    refine wpAny_bind (wpAny_holding (wpAny_of_eq (rfl : asIndex (.int n t) = pure n) ?_))
    refine wpAny_bind (wpAny_letGo ?_)
    refine bm_if_false (by simp only [Bool.or_eq_false_iff, decide_eq_false_iff_not]; omega) ?_
    refine wpAny_bind ?_
    show wpAny _ _ (updateBytearray S (·.push n.toNat.toUInt8)) _ _ _
    unfold updateBytearray
    refine wpAny_bind (wpAny_load hS' ?_)
    show wpAny _ _ (update S (Obj.mapBytearray (·.push n.toNat.toUInt8)) >>= fun _ => lookBehind S) _ _ _
    refine wpAny_bind (wpAny_update hS' ?_)
    have hS₂ : (h'.update S (Obj.mapBytearray (·.push n.toNat.toUInt8))).get? S = some { cls := .type "bytearray", data := .bytearray (byteArr (ns.take (i + 1))) } := by
      rw [byteArr_take hn]
      exact Heap.get?_update_self (Obj.mapBytearray (·.push n.toNat.toUInt8)) hS' rfl
    refine wpAny_lookBehind hS₂ ?_ ?_
    · show (if (byteArr (ns.take (i + 1))).size > sizeLine then some "bytearray:memory" else none) = none
      rw [if_neg]
      rw [byteArr_size, List.length_take]
      omega
    · refine wpAny_pure ⟨plainId_quiet F.bm_plain_loop _, ih (i + 1) { s with heap := h'.update S (Obj.mapBytearray (·.push n.toNat.toUInt8)) } (by omega) hlt ?_ ?_ hS₂ fun h3 t' k' hk3 => ?_⟩
      · exact (hl.at fun o e => hs.extBut _ _ hlI e).at fun o e => (Heap.SameBut.update ..).extBut _ _ hlS e
      · exact hit'.at fun o e => (Heap.SameBut.update ..).extBut _ _ hIS e
      · exact hR h3 t' k' fun b o hbI hbS e => hk3 b o hbI hbS ((Heap.get?_update_other _ _ (Ne.symm hbS)).trans (hs.extBut b o hbI e))

theorem new_tup {l : Addr} {vs : List Value} {ns : List Int} {Q : Value → Shared → Prop} (hh : A.handled = none) (hl : s.heap.IsTuple l vs.toArray) (hi : IntsAre vs ns) (hr : ∀ n ∈ ns, 0 ≤ n ∧ n < 256) (hz : ns.length ≤ sizeLine)
    (hQ : ∀ h' t k, (∀ b o, s.heap.get? b = some o → h'.get? b = some o) → Q (.bytes (byteArr ns) t) { s with heap := h', toks := k }) :
    codeAny (model prog w) A (.call (.builtin "bytes.__new__") ⟨[.type "bytes", .ref l], []⟩) (wants Q E) s := by
  refine codeAny_of_tree ?_
  show wpAny _ A.in1 (do checkBuiltinCall "bytes.__new__" ⟨[.type "bytes", .ref l], []⟩; again (.builtin "bytes.__new__" ⟨[.type "bytes", .ref l], []⟩)) _ _ s
  refine wpAny_bind (wpAny_of_eq (F.bm_newCall _) (wpAny_pure ⟨plainId_quiet F.bm_plain _, codeAny_builtin F.bm_entry ?_⟩))
  rw [Around.under_plainId F.bm_plain _]
  have hT : s.TypeIs (.ref l) "tuple" := hl.typeIs
  obtain ⟨ol, hol, hoc, nl, hod⟩ := id hl
  unfold Builtin.«bytes.__new__»
  refine wpAny_bind (wpAny_of_eq (a := true) rfl ?_)
  refine bm_if_false rfl ?_
  refine wpAny_bind (wpAny_of_eq F.bm_sub ?_)
  refine bm_if_false rfl ?_
  refine wpAny_bind (wpAny_of_eq (F.bm_bind _) ?_)
  refine wpAny_bind (wpAny_of_eq (a := ()) rfl ?_)
  refine wpAny_bind (wpAny_of_eq (a := ()) rfl ?_)
  refine bm_if_false rfl ?_
  refine wpAny_bind (wpAny_specialOf hT no_bytes_tup ?_)
  refine wpAny_bind (wpAny_bind ?_)
  show wpAny _ _ (load l >>= _) _ _ _
  refine wpAny_bind (wpAny_load hol ?_)
  rw [hod]
  refine wpAny_pure (wpAny_pure ?_)
  refine bm_if_false rfl ?_
  refine wpAny_bind (wpAny_specialOf hT no_index_tup ?_)
  refine bm_if_true rfl ?_
  first
    | show wpAny _ _ (Builtin.Bytes.buffer? "bytes.__new__" (.ref l) true >>= _) _ _ _
    | (refine wpAny_bind ?_; show wpAny _ _ (Builtin.Bytes.buffer? "bytes.__new__" (.ref l) true >>= _) _ _ _)
  refine wpAny_bind ?_
  unfold Builtin.Bytes.buffer?
  refine wpAny_bind (wpAny_specialOf hT no_buffer_tup ?_)
  refine wpAny_bind (wpAny_specialOf hT no_buffer_tup ?_)
  refine wpAny_pure ?_
  refine wpAny_bind (wpAny_tryCatch (wpAny_pyIter_tuple hl ?_))
  have hl₁ : (s.heap.push { cls := .type "tuple_iterator", data := .fields #[.ref l, .int 0 0] }).IsTuple l vs.toArray := hl.at fun o e => Heap.get?_push_of_some _ e
  have hT₁ : ({ s with heap := s.heap.push { cls := .type "tuple_iterator", data := .fields #[.ref l, .int 0 0] } } : Shared).TypeIs (.ref l) "tuple" := Heap.IsTuple.typeIs (s := { s with heap := s.heap.push { cls := .type "tuple_iterator", data := .fields #[.ref l, .int 0 0] } }) hl₁
  refine wpAny_bind (wpAny_holding ?_)
  unfold Builtin.Bytes.lengthHint
  refine wpAny_bind (wpAny_specialOf hT₁ slot_tuple_len.lookup ?_)
  dsimp only
  rw [split_tup]
  dsimp only
  refine wpAny_bind (wpAny_isInstance hT₁ sub_tup ?_)
  refine bm_if_false rfl ?_
  refine bm_if_true (by decide +kernel) ?_
  refine wpAny_pure ?_
  refine wpAny_bind ?_
  unfold Builtin.Bytes.newBytearray
  refine wpAny_newObj_type ?_ (Nat.zero_le _)
  have hI : ((s.heap.push { cls := .type "tuple_iterator", data := .fields #[.ref l, .int 0 0] }).push { cls := .type "bytearray", data := .bytearray #[] }).IsTupleIter s.heap.objs.size l 0 :=
    ⟨_, Heap.get?_push_of_some _ (Heap.get?_push_size _ rfl), rfl, rfl⟩
  have hlt : l < s.heap.objs.size := Heap.lt_size hol
  have hsz : (s.heap.push { cls := .type "tuple_iterator", data := .fields #[.ref l, .int 0 0] }).objs.size = s.heap.objs.size + 1 := Heap.size_push _ _
  have main := loop_tup (prog := prog) (w := w) (A := A) (R := wants Q E) (l := l) (I := s.heap.objs.size) (S := (s.heap.push { cls := .type "tuple_iterator", data := .fields #[.ref l, .int 0 0] }).objs.size) hh hi hr hz (by rw [hsz]; exact Nat.ne_of_lt (Nat.lt_succ_self _)) (Nat.ne_of_lt hlt) (by rw [hsz]; exact Nat.ne_of_lt (Nat.lt_succ_of_lt hlt))
    ns.length 0 { s with heap := (s.heap.push { cls := .type "tuple_iterator", data := .fields #[.ref l, .int 0 0] }).push { cls := .type "bytearray", data := .bytearray #[] } } rfl (Nat.zero_le _) (hl₁.at fun o e => Heap.get?_push_of_some _ e) hI (Heap.get?_push_size _ rfl)
    fun h' t k hk => hQ h' t k fun b o e => hk b o (Nat.ne_of_lt (Heap.lt_size e)) (by rw [hsz]; exact Nat.ne_of_lt (Nat.lt_succ_of_lt (Heap.lt_size e))) (Heap.get?_push_of_some _ (Heap.get?_push_of_some _ e))
  first
    | exact wpAny_pure ⟨plainId_quiet F.bm_plain_loop _, main⟩
    | exact wpAny_pure (wpAny_pure ⟨plainId_quiet F.bm_plain_loop _, main⟩)

theorem call_tup {l : Addr} {vs : List Value} {ns : List Int} {Q : Value → Shared → Prop} (hl : s.heap.IsTuple l vs.toArray) (hi : IntsAre vs ns) (hr : ∀ n ∈ ns, 0 ≤ n ∧ n < 256) (hz : vs.length ≤ sizeLine) (hh : A.handled = none)
    (hQ : ∀ h' t k, (∀ b o, s.heap.get? b = some o → h'.get? b = some o) → Q (.bytes (byteArr ns) t) { s with heap := h', toks := k }) : wpAny (model prog w) A (call (.type "bytes") [.ref l]) Q E s := by
  refine callType_codes (Q₁ := fun obj s₁ => s₁.TypeIs obj "bytes" ∧ Q obj s₁) F.bm_called (F.bm_typeCall _) F.entry_object_init
    (new_tup hh hl hi hr (by rw [← hi.length]; exact hz) fun h' t k hk => ⟨typeIs_bytes _ _ _, hQ h' t k hk⟩) fun obj s₁ h₁ => ?_
  exact ⟨h₁.1, F.args_object_init_2 obj _, object_init_meets F.bm_called.init.lookup F.bm_called.made (by decide) prog w A.in1 _ s₁ ⟨h₁.1, rfl, h₁.2⟩⟩

theorem bytes_tup {l : Addr} {vs : List Value} {ns : List Int} {k : Nat} {Q : Value → Shared → Prop} (F : Fr h₀ L s.heap m) (N : News h₀ L s.heap news) (hm : (l, ({ cls := .type "tuple", data := .seq vs.toArray k } : Obj)) ∈ news) (hi : IntsAre vs ns) (hr : ∀ n ∈ ns, 0 ≤ n ∧ n < 256) (hz : vs.length ≤ 1000) (hh : A.handled = none)
    (h : ∀ h' t k, Fr h₀ L h' m → News h₀ L h' news → Q (.bytes (ofInts ns).toArray t) { s with heap := h', toks := k }) : wpAny (model prog w) A (call (.type "bytes") [.ref l]) Q E s :=
  call_tup ⟨_, (N _ hm).1, rfl, k, rfl⟩ hi hr (by rw [sizeLine_eq]; omega) hh fun h' t k' hk => h h' t k' (F.keeps hk) fun q hq => ⟨hk _ _ (N q hq).1, (N q hq).2⟩
theorem bytes_list {l : Addr} {vs : List Value} {ns : List Int} {k : Nat} {Q : Value → Shared → Prop} (F : Fr h₀ L s.heap m) (N : News h₀ L s.heap news) (hm : (l, ({ cls := .type "list", data := .seq vs.toArray k } : Obj)) ∈ news) (hi : IntsAre vs ns) (hr : ∀ n ∈ ns, 0 ≤ n ∧ n < 256) (hz : vs.length ≤ 1000) (hh : A.handled = none)
    (h : ∀ h' t k, Fr h₀ L h' m → News h₀ L h' news → Q (.bytes (ofInts ns).toArray t) { s with heap := h', toks := k }) : wpAny (model prog w) A (call (.type "bytes") [.ref l]) Q E s :=
  call_bytes_ints ⟨_, (N _ hm).1, rfl, k, rfl⟩ hi hr (by rw [sizeLine_eq]; omega) hh fun h' t k' hk => h h' t k' (F.keeps hk) fun q hq => ⟨hk _ _ (N q hq).1, (N q hq).2⟩

theorem bytes_tup1 {l : Addr} {a : Int} {ta : Tok} {k : Nat} {Q : Value → Shared → Prop} (F : Fr h₀ L s.heap m) (N : News h₀ L s.heap news) (hm : (l, ({ cls := .type "tuple", data := .seq [Value.int a ta].toArray k } : Obj)) ∈ news) (h0 : 0 ≤ a) (h1 : a < 256) (hh : A.handled = none)
    (h : ∀ h' t k, Fr h₀ L h' m → News h₀ L h' news → Q (.bytes (ofInts [a]).toArray t) { s with heap := h', toks := k }) : wpAny (model prog w) A (call (.type "bytes") [.ref l]) Q E s :=
  bytes_tup F N hm (.cons _ _ .nil) (fun n hn => by rw [List.mem_singleton.mp hn]; exact ⟨h0, h1⟩) (by simp) hh h
theorem bytes_tup2 {l : Addr} {a b : Int} {ta tb : Tok} {k : Nat} {Q : Value → Shared → Prop} (F : Fr h₀ L s.heap m) (N : News h₀ L s.heap news) (hm : (l, ({ cls := .type "tuple", data := .seq [Value.int a ta, Value.int b tb].toArray k } : Obj)) ∈ news) (h0 : 0 ≤ a) (h1 : a < 256) (h2 : 0 ≤ b) (h3 : b < 256) (hh : A.handled = none)
    (h : ∀ h' t k, Fr h₀ L h' m → News h₀ L h' news → Q (.bytes (ofInts [a, b]).toArray t) { s with heap := h', toks := k }) : wpAny (model prog w) A (call (.type "bytes") [.ref l]) Q E s :=
  bytes_tup F N hm (.cons _ _ (.cons _ _ .nil)) (fun n hn => by
    rcases List.mem_cons.mp hn with rfl | hn
    · exact ⟨h0, h1⟩
    · rw [List.mem_singleton.mp hn]; exact ⟨h2, h3⟩) (by simp) hh h

theorem add {b c : List UInt8} {t u : Tok} {Q : Value → Shared → Prop} (hsz : b.length + c.length ≤ 16777216) (h : ∀ t' k, Q (.bytes (b ++ c).toArray t') { s with toks := k }) :
    wpAny (model prog w) A (binaryOp .Add (.bytes b.toArray t) (.bytes c.toArray u)) Q E s := bytes_add_K (by simpa using hsz) rfl h
theorem len {b : List UInt8} {t : Tok} {Q : Value → Shared → Prop} (hsz : b.length ≤ 16777216) (h : Q (.int b.length (s.toks + 1)) { s with toks := s.toks + 1 + 1 }) : wpAny (model prog w) A (call (.builtin "len") [.bytes b.toArray t]) Q E s :=
  len_bytes (by simp; omega) (by simpa using h)
end
end Bb

namespace Ii
section
variable {prog : Program} {w : World} {A : Around} {E : Value → Shared → Prop} {s : Shared} {a b : Int} {t u : Tok} {Q : Value → Shared → Prop}
theorem mod (hb : 0 < b) (h : Q (.int (a % b) s.toks) { s with toks := s.toks + 1 }) : wpAny (model prog w) A (binaryOp .Mod (.int a t) (.int b u)) Q E s :=
  PyProof.Rows.mod_int (by omega) (by rw [Int.fmod_eq_emod_of_nonneg _ (Int.le_of_lt hb)]; exact h)
theorem div (hb : 0 < b) (hs : b < 1073741824) (h : Q (.int (a / b) s.toks) { s with toks := s.toks + 1 }) : wpAny (model prog w) A (binaryOp .FloorDiv (.int a t) (.int b u)) Q E s :=
  floordiv_int (by omega) (by rw [Int.fdiv_eq_ediv_of_nonneg _ (Int.le_of_lt hb)]; exact h) (Or.inl (PyProof.noPylong_small (by omega)))
end
end Ii

namespace Dd
theorem valueAt_cons {k k' : Int} {v : Value} {r : List (Int × Value)} : valueAt ((k', v) :: r) k = if k' = k then some v else valueAt r k := by
  unfold valueAt
  rw [List.find?_cons]
  by_cases h : k' = k
  · simp [h]
  · simp [h]
theorem valueAt_map {k k' : Int} {v : Value} : ∀ kvs : List (Int × Value), kvs.any (fun kv => kv.1 = k) = true →
    valueAt (kvs.map (fun kv => if kv.1 = k then (kv.1, v) else kv)) k' = if k = k' then some v else valueAt kvs k'
  | [], h => by simp at h
  | (a, x) :: r, h => by
    by_cases ha : a = k
    · subst ha
      rw [List.map_cons, if_pos rfl]
      rw [valueAt_cons, valueAt_cons]
      by_cases hk : a = k'
      · simp [hk]
      · rw [if_neg hk, if_neg hk, if_neg hk]
        by_cases hr : r.any (fun kv => kv.1 = a) = true
        · rw [valueAt_map r hr, if_neg hk]
        · have e : r.map (fun kv => if kv.1 = a then (kv.1, v) else kv) = r := by
            conv => rhs; rw [← List.map_id r]
            refine List.map_congr_left fun kv hkv => ?_
            have : ¬ kv.1 = a := fun e => hr (List.any_eq_true.mpr ⟨kv, hkv, by simpa using e⟩)
            rw [if_neg this]; rfl
          rw [e]
    · have hr : r.any (fun kv => kv.1 = k) = true := by simpa [ha] using h
      rw [List.map_cons, if_neg ha, valueAt_cons, valueAt_cons, valueAt_map r hr]
      by_cases hk : a = k'
      · subst hk; rw [if_pos rfl, if_pos rfl, if_neg (Ne.symm ha)]
      · rw [if_neg hk, if_neg hk]
theorem valueAt_stored {kvs : List (Int × Value)} {k k' : Int} {v : Value} : valueAt (stored kvs k v) k' = if k = k' then some v else valueAt kvs k' := by
  unfold stored
  by_cases h : kvs.any (fun kv => kv.1 = k) = true
  · rw [if_pos h, valueAt_map kvs h]
  · rw [if_neg h]
    have hn : ∀ r : List (Int × Value), r.any (fun kv => kv.1 = k) = false → valueAt (r ++ [(k, v)]) k' = if k = k' then some v else valueAt r k' := by
      intro r
      induction r with
      | nil => intro _; rw [List.nil_append, valueAt_cons]
      | cons q r ih =>
        obtain ⟨a, x⟩ := q
        intro hr
        have ha : ¬ a = k := by intro e; simp [e] at hr
        have hr' : r.any (fun kv => kv.1 = k) = false := by simpa [ha] using hr
        rw [List.cons_append, valueAt_cons, valueAt_cons, ih hr']
        by_cases hk : a = k'
        · subst hk; rw [if_pos rfl, if_pos rfl, if_neg (Ne.symm ha)]
        · rw [if_neg hk, if_neg hk]
    exact hn kvs (Bool.eq_false_iff.mpr h)
theorem stored_le {kvs : List (Int × Value)} {k : Int} {v : Value} : (stored kvs k v).length ≤ kvs.length + 1 := by
  unfold stored
  split
  · simp
  · simp
end Dd

namespace Hh
section
variable {prog : Program} {w : World} {A : Around} {E : Value → Shared → Prop} {s : Shared} {h₀ : Heap} {L : Addr} {m : PySem.Str → Option Value} {news : List (Addr × Obj)}
theorem newTuple {vs : List Value} {Q : Value → Shared → Prop} (F : Fr h₀ L s.heap m) (N : News h₀ L s.heap news) (hsz : vs.length ≤ sizeLine)
    (h : ∀ D h', Fr h₀ L h' m → News h₀ L h' ((D, { cls := .type "tuple", data := .seq vs.toArray }) :: news) → AllLt D news → Q (.ref D) { s with heap := h' }) : wpAny (model prog w) A (PySem.newTuple vs) Q E s :=
  newTuple_N F N (fun h' F' N' => h _ h' F' N' (allLt_intro fun p hp => Heap.lt_size (N p hp).1)) hsz
theorem newList {vs : List Value} {Q : Value → Shared → Prop} (F : Fr h₀ L s.heap m) (N : News h₀ L s.heap news) (hsz : vs.length ≤ sizeLine)
    (h : ∀ D h', Fr h₀ L h' m → News h₀ L h' ((D, { cls := .type "list", data := .seq vs.toArray }) :: news) → AllLt D news → Q (.ref D) { s with heap := h' }) : wpAny (model prog w) A (PySem.newList vs) Q E s :=
  newList_N F N (fun h' F' N' => h _ h' F' N' (allLt_intro fun p hp => Heap.lt_size (N p hp).1)) hsz
end
end Hh

namespace St
open PySem.Sem (wp)
open PySem.Builtin
theorem mro : mroOf (.type "_struct.Struct") = pure [.type "_struct.Struct", .type "object"] := by rw [mroOf_type]; kernel_rfl
theorem lookup_new : typeLookup (.type "_struct.Struct") "__new__" = pure (some (.builtin "_struct.Struct.__new__")) := by rw [typeLookup_type, builtinLookup_eq_fast]; kernel_rfl
theorem slot_init : Slot "_struct.Struct" "__init__" "_struct.Struct.__init__" :=
  .of (owner := "_struct.Struct") (n := "__init__") (by rw [typeLookup_type, builtinLookup_eq_fast]; kernel_rfl) (by decide +kernel) (by decide +kernel) (by decide +kernel)
    (by first | exact .inl (by decide +kernel) | exact .inr (by decide +kernel)) (by rw [isSubtype_type]; kernel_rfl)
theorem called : TypeCalled "_struct.Struct" "_struct.Struct.__new__" "_struct.Struct.__init__" :=
  ⟨by decide +kernel, by decide +kernel, ⟨_, _, mro⟩, madeBy_type mro lookup_new (by decide +kernel), by decide +kernel, by rw [isSubtype_type]; kernel_rfl, slot_init⟩
theorem typeCall (a : Value) : checkTypeCall "_struct.Struct" ⟨[a], []⟩ = pure () := by kernel_rfl
theorem newCall (a : Value) : checkBuiltinCall "_struct.Struct.__new__" ⟨[.type "_struct.Struct", a], []⟩ = pure () := by kernel_rfl
theorem plain_new : plainId "_struct.Struct.__new__" = true := by decide +kernel
theorem entry_new : entryFor table "_struct.Struct.__new__" = some «_struct.Struct.__new__» := by first | exact entryFor_of_tree (by kernel_rfl) | exact entryFor_of_fast (by kernel_rfl)
theorem entry_init : entryFor table "_struct.Struct.__init__" = some «_struct.Struct.__init__» := by first | exact entryFor_of_tree (by kernel_rfl) | exact entryFor_of_fast (by kernel_rfl)
theorem args_init (a b : Value) : argsOk "_struct.Struct.__init__" ⟨[a, b], []⟩ := by unfold argsOk; kernel_rfl
theorem sub : isSubtype (.type "_struct.Struct") (.type "_struct.Struct") = pure true := by rw [isSubtype_type]; kernel_rfl
theorem bind_init (v : Value) : Bytes.bindOptional "_struct.Struct.__init__" "Struct" ["format"] [v] [] = pure [some v] := by kernel_rfl
section
variable {prog : Program} {w : World} {A : Around} {E : Value → Shared → Prop} {s : Shared} {h₀ : Heap} {L : Addr} {m : PySem.Str → Option Value} {news : List (Addr × Obj)}
abbrev objS (fb : Array UInt8) (tk : Tok) : Obj := { cls := .type "_struct.Struct", data := .fields #[.bytes fb tk] }

theorem new_code {v : Value} {Q : Value → Shared → Prop} (hQ : Q (.ref s.heap.objs.size) { s with heap := s.heap.push { cls := .type "_struct.Struct", data := .fields #[.none] } }) :
    codeAny (model prog w) A (.call (.builtin "_struct.Struct.__new__") ⟨[.type "_struct.Struct", v], []⟩) (wants Q E) s := by
  refine codeAny_of_tree ?_
  show wpAny _ A.in1 (do checkBuiltinCall "_struct.Struct.__new__" ⟨[.type "_struct.Struct", v], []⟩; again (.builtin "_struct.Struct.__new__" ⟨[.type "_struct.Struct", v], []⟩)) _ _ s
  refine wpAny_bind (wpAny_of_eq (newCall _) (wpAny_pure ⟨plainId_quiet plain_new _, codeAny_builtin entry_new ?_⟩))
  rw [Around.under_plainId plain_new _]
  unfold «_struct.Struct.__new__»
  refine wpAny_bind (wpAny_of_eq (a := true) rfl ?_)
  refine bm_if_false rfl ?_
  refine wpAny_bind (wpAny_of_eq sub ?_)
  refine bm_if_false rfl ?_
  refine wpAny_bind ?_
  refine wpAny_newObj_type ?_ (Nat.le_of_ble_eq_true rfl)
  exact wpAny_pure hQ

theorem init_tree {x : PySem.Str} {t : Tok} {fb : Array UInt8} {F : Struct.Format} {D : Addr} {P : Fin → Shared → Prop} (hfb : Struct.formatBytes (.str x t) = pure fb) (hp : Struct.parse fb = pure F) (hsz : fb.size ≤ 100) (hg : A.guards = some [])
    (ho : s.heap.get? D = some { cls := .type "_struct.Struct", data := .fields #[.none] })
    (h : P (.done (.ret .none)) { s with heap := s.heap.update D (Obj.mapFields (·.setIfInBounds 0 (.bytes fb s.toks))), toks := s.toks + 1 }) :
    wpAny (model prog w) A («_struct.Struct.__init__» ⟨[.ref D, .str x t], []⟩) P E s := by
  unfold «_struct.Struct.__init__»
  refine wpAny_bind (wpAny_of_eq (bind_init _) ?_)
  refine wpAny_bind (m := Struct.packUnderWay (.ref D)) ?_
  unfold Struct.packUnderWay
  refine wpAny_stackAny_false hg ?_ (fun c hc => nomatch hc) ?_
  · intro c p' hc
    split
    · rename_i heq; cases heq
      exact absurd ((show guardIds.contains "_struct.Struct.pack" = true by decide +kernel).symm.trans hc) (by decide)
    · rename_i heq; cases heq
      exact absurd ((show guardIds.contains "_struct.pack_into.held" = true by decide +kernel).symm.trans hc) (by decide)
    · rfl
  refine bm_if_false rfl ?_
  refine wpAny_bind (wpAny_of_eq hfb ?_)
  refine wpAny_bind (wpAny_of_eq hp ?_)
  refine wpAny_bind (wpAny_mkBytes ?_ (by rw [sizeLine_eq]; omega))
  refine wpAny_bind ?_
  show wpAny _ _ (updateField D 0 _) _ _ _
  unfold updateField
  refine wpAny_bind (wpAny_load ho ?_)
  refine wpAny_ite ?_
  rw [if_pos (by decide)]
  exact wpAny_update ho (wpAny_pure h)

theorem new {x : PySem.Str} {t : Tok} {fb : Array UInt8} {Fm : Struct.Format} {Q : Value → Shared → Prop} (F : Fr h₀ L s.heap m) (N : News h₀ L s.heap news) (hfb : Struct.formatBytes (.str x t) = pure fb) (hp : Struct.parse fb = pure Fm) (hsz : fb.size ≤ 100) (hg : A.guards = some [])
    (h : ∀ D h' tk k, Fr h₀ L h' m → News h₀ L h' ((D, objS fb tk) :: news) → AllLt D news → Q (.ref D) { s with heap := h', toks := k }) : wpAny (model prog w) A (call (.type "_struct.Struct") [.str x t]) Q E s := by
  refine callType_codes (Q₁ := fun obj s₁ => obj = .ref s.heap.objs.size ∧ s₁ = { s with heap := s.heap.push { cls := .type "_struct.Struct", data := .fields #[.none] } }) called (typeCall _) entry_init (new_code ⟨rfl, rfl⟩) fun obj s₁ h₁ => ?_
  obtain ⟨rfl, rfl⟩ := h₁
  have hg0 : (s.heap.push { cls := .type "_struct.Struct", data := .fields #[.none] }).get? s.heap.objs.size = some { cls := .type "_struct.Struct", data := .fields #[.none] } := Heap.get?_push_size _ rfl
  refine ⟨⟨_, hg0, rfl⟩, args_init _ _, init_tree hfb hp hsz hg hg0 ?_⟩
  have F1 := F.push { cls := .type "_struct.Struct", data := .fields #[.none] }
  have N1 := News.push F N { cls := .type "_struct.Struct", data := .fields #[.none] }
  have U := news_upd (pre := []) (post := news) (o := { cls := .type "_struct.Struct", data := .fields #[.none] }) (o' := objS fb s.toks) (f := Obj.mapFields (·.setIfInBounds 0 (.bytes fb s.toks))) F1 N1 (fun _ h => nomatch h) (fun p hp => Nat.ne_of_lt (Heap.lt_size (N p hp).1)) rfl rfl
  exact ⟨rfl, h _ _ _ _ U.1 U.2 (allLt_intro fun p hp => Heap.lt_size (N p hp).1)⟩

theorem unpacked_I {M : Model} {A : Around} {E : Value → Shared → Prop} {s : Shared} {id : String} {n sz : Nat} {b : Array UInt8} {Q : Value → Shared → Prop} (hn : n ≤ 1000)
    (h : ∀ (vs : List Value) (k' : Nat), vs.length = n → (∀ k, k < n → ∃ t, vs[k]? = some (.int (Struct.natOf true (b.extract (k * 4) ((k + 1) * 4)) : Nat) t)) → wpAny M A (newTuple vs) Q E { s with toks := k' }) :
    wpAny M A (Struct.unpacked id ⟨true, false, [⟨'I', n, 0, 4⟩], sz, n⟩ b 0) Q E s := by
  unfold Struct.unpacked
  simp only [List.forIn_cons, List.forIn_nil, Std.Legacy.Range.forIn_eq_forIn_range']
  refine wpAny_bind (wpAny_bind ?_)
  show wpAny M A (if Bytes.tooLong n = true then _ else _) _ _ _
  refine bm_if_false (by simp [Bytes.tooLong, sizeLine]; omega) ?_
  refine wpAny_bind ?_
  refine wpAny_forIn_list (M := M) (A := A) (E := E) _
    (fun (rest : List Nat) (out : Array Value) (s' : Shared) => ∃ i k', rest = List.range' i (n - i) ∧ i ≤ n ∧ s' = { s with toks := k' } ∧ out.size = i ∧ ∀ k, k < i → ∃ t, out.toList[k]? = some (.int (Struct.natOf true (b.extract (k * 4) ((k + 1) * 4)) : Nat) t)) _ ?_ ?_ _ _ ?_
  · rintro x rest out s' ⟨i, k', hr, hi, rfl, ho, hv⟩
    have hlt : i < n := by
      rcases Nat.lt_or_ge i n with h1 | h1
      · exact h1
      · rw [show n - i = 0 by omega] at hr; cases hr
    rw [show n - i = (n - i - 1) + 1 by omega, List.range'_succ] at hr
    obtain ⟨rfl, rfl⟩ := List.cons.inj hr
    refine wpAny_bind ?_
    show wpAny M A (mkInt _) _ _ _
    refine wpAny_mkInt' ?_
    refine wpAny_pure ⟨x + 1, _, by rw [show n - x - 1 = n - (x + 1) by omega], hlt, rfl, by simp [ho], fun k hk => ?_⟩
    rw [Array.toList_push]
    by_cases hkx : k < x
    · rw [List.getElem?_append_left (by simpa [ho] using hkx)]; exact hv k hkx
    · have hke : k = x := by omega
      subst hke
      refine ⟨k', ?_⟩
      rw [List.getElem?_append_right (by simp [ho])]
      simp only [Array.length_toList, ho, Nat.sub_self, List.getElem?_cons_zero]
      simp only [Nat.zero_add]
      rfl
  · rintro out s' ⟨i, k', hr, hi, rfl, ho, hv⟩
    have hin : i = n := by
      rcases Nat.lt_or_ge i n with h1 | h1
      · rw [show n - i = (n - i - 1) + 1 by omega, List.range'_succ] at hr; cases hr
      · omega
    subst hin
    refine wpAny_pure (wpAny_pure ?_)
    exact h _ _ (by simpa using ho) hv
  · exact ⟨0, s.toks, by show List.range' 0 [:n].size 1 = _; simp [Std.Legacy.Range.size], Nat.zero_le _, rfl, rfl, fun k hk => absurd hk (Nat.not_lt_zero _)⟩

theorem slot_unpack : Slot "_struct.Struct" "unpack" "_struct.Struct.unpack" :=
  .of (owner := "_struct.Struct") (n := "unpack") (by rw [typeLookup_type, builtinLookup_eq_fast]; kernel_rfl) (by decide +kernel) (by decide +kernel) (by decide +kernel)
    (by first | exact .inl (by decide +kernel) | exact .inr (by decide +kernel)) (by rw [isSubtype_type]; kernel_rfl)
theorem type_unpack : typeOf (.builtin "_struct.Struct.unpack") = pure (.type "method_descriptor") := by show builtinType _ = _; rw [builtinType_eq_fast]; kernel_rfl
theorem entry_unpack : entryFor table "_struct.Struct.unpack" = some «_struct.Struct.unpack» := by first | exact entryFor_of_tree (by kernel_rfl) | exact entryFor_of_fast (by kernel_rfl)
theorem args_unpack (a b : Value) : argsOk "_struct.Struct.unpack" ⟨[a, b], []⟩ := by unfold argsOk; kernel_rfl
theorem ga : typeLookup (.type "_struct.Struct") "__getattribute__" = pure (some (.builtin "_struct.Struct.__getattribute__")) := by rw [typeLookup_type, builtinLookup_eq_fast]; kernel_rfl
theorem canon_ga : (Manifest.canonical "_struct.Struct.__getattribute__" != "object.__getattribute__") = false := by decide +kernel
theorem no_getattr : typeLookup (.type "_struct.Struct") "__getattr__" = pure none := by rw [typeLookup_type, builtinLookup_eq_fast]; kernel_rfl
theorem method_unpack {M : Model} {A : Around} {E : Value → Shared → Prop} {s : Shared} {D : Addr} {fb : Array UInt8} {tk : Tok} {pl : Sem Bool} {Q : Value × List Value → Shared → Prop} (ho : s.heap.get? D = some (objS fb tk))
    (h : Q (.builtin "_struct.Struct.unpack", [.ref D]) s) : wpAny M A (getMethod (.ref D) (PySem.Str.ofString "unpack") pl) Q E s := by
  have hT : s.TypeIs (.ref D) "_struct.Struct" := ⟨_, ho, rfl⟩
  unfold getMethod
  refine wpAny_bind (wpAny_specialOf hT ga ?_)
  show wpAny M A (if (Manifest.canonical "_struct.Struct.__getattribute__" != "object.__getattribute__") = true then _ else _) Q E s
  rw [canon_ga, if_neg Bool.false_ne_true]
  refine wpAny_bind (wpAny_specialOf hT no_getattr ?_)
  refine wpAny_bind (wpAny_specialOf hT slot_unpack.lookup ?_)
  refine wpAny_bind (wpAny_of_eq type_unpack ?_)
  refine wpAny_bind (wpAny_load ho ?_)
  exact wpAny_bind (wpAny_rule (wpAny_pure h))

theorem natOf_be (l : List UInt8) : Struct.natOf true l.toArray = Bb.be l := by
  unfold Struct.natOf Memoryview.littleEndian Bb.be
  simp only [if_true]
  rw [Array.foldr_reverse]
  simp
theorem format_eq {M : Model} {A : Around} {E : Value → Shared → Prop} {s : Shared} {D : Addr} {fb : Array UInt8} {tk : Tok} {Fm : Struct.Format} {Q : Array UInt8 × Struct.Format → Shared → Prop} (ho : s.heap.get? D = some (objS fb tk)) (hp : Struct.parse fb = pure Fm) (h : Q (fb, Fm) s) :
    wpAny M A (Struct.structFormat (.ref D)) Q E s := by
  unfold Struct.structFormat
  refine wpAny_bind (wpAny_field (x := .bytes fb tk) ho rfl rfl ?_)
  refine wpAny_bind (wpAny_of_eq (a := fb) rfl ?_)
  exact wpAny_bind (wpAny_of_eq hp (wpAny_pure h))

theorem call_unpack {prog : Program} {w : World} {A : Around} {E : Value → Shared → Prop} {s : Shared} {h₀ : Heap} {L : Addr} {m : PySem.Str → Option Value} {news : List (Addr × Obj)} {D : Addr} {fb : Array UInt8} {tk t : Tok} {n : Nat} {b : List UInt8} {Q : Value → Shared → Prop} (F : Fr h₀ L s.heap m) (N : News h₀ L s.heap news) (hm : (D, objS fb tk) ∈ news)
    (hp : Struct.parse fb = pure ⟨true, false, [⟨'I', n, 0, 4⟩], 4 * n, n⟩) (hb : b.length = 4 * n) (hn : n ≤ 1000)
    (h : ∀ x vs h' k, Fr h₀ L h' m → News h₀ L h' ((x, ({ cls := .type "tuple", data := .seq (List.toArray vs) } : Obj)) :: news) → AllLt x news → vs.length = n → (∀ j, j < n → ∃ t, vs[j]? = some (.int (Bb.be ((b.drop (4 * j)).take 4) : Nat) t)) → Q (.ref x) { s with heap := h', toks := k }) :
    wpAny (model prog w) A (call (.builtin "_struct.Struct.unpack") [.ref D, .bytes b.toArray t]) Q E s := by
  have ho := (N _ hm).1
  have hT : s.TypeIs (.ref D) "_struct.Struct" := ⟨_, ho, rfl⟩
  refine wpAny_call_entry slot_unpack hT entry_unpack ?_ (args_unpack _ _)
  unfold «_struct.Struct.unpack»
  refine wpAny_bind (wpAny_of_eq (a := (.ref D, .bytes b.toArray t)) rfl ?_)
  show wpAny _ _ (Struct.unpackExact _ _ _) _ _ _
  unfold Struct.unpackExact
  refine wpAny_bind ?_
  unfold Bytes.bytesLike
  refine wpAny_bind (wpAny_of_eq KBy.buffer_eq (wpAny_pure ?_))
  refine wpAny_bind (wpAny_bind (format_eq ho hp (wpAny_pure ?_)))
  refine bm_if_false (by simp [hb]) ?_
  refine wpAny_bind (unpacked_I hn fun vs k' hl hv => ?_)
  refine Hh.newTuple F N (by rw [sizeLine_eq]; omega) fun x h' F' N' l1 => ?_
  refine wpAny_pure ⟨_, rfl, h x vs h' k' F' N' l1 hl fun j hj => ?_⟩
  obtain ⟨t', ht⟩ := hv j hj
  refine ⟨t', ?_⟩
  rw [ht, List.extract_toArray, natOf_be]
  rw [show List.extract b (j * 4) ((j + 1) * 4) = (b.drop (4 * j)).take 4 by rw [List.extract_eq_take_drop, Nat.mul_comm j 4, show (j + 1) * 4 - 4 * j = 4 by omega]]
theorem fmt_ok {z : Int} {n : Nat} {t : Tok} (hz : z = n) (hn : n = 1 ∨ n = 2) : ∃ fb, Struct.formatBytes (.str (PySem.Str.ofString "!" ++ PySem.Str.ofString (toString z) ++ PySem.Str.ofString "I") t) = pure fb ∧
    Struct.parse fb = pure ⟨true, false, [⟨'I', n, 0, 4⟩], 4 * n, n⟩ ∧ fb.size ≤ 100 := by
  rcases hn with rfl | rfl
  · subst hz; exact ⟨#[33, 49, 73], by kernel_rfl, by kernel_rfl, by decide⟩
  · subst hz; exact ⟨#[33, 50, 73], by kernel_rfl, by kernel_rfl, by decide⟩
end
end St

namespace Ls
open PySem.Sem (wp)
open Builtin
def BytesAre (vs : List Value) (bs : List (List UInt8)) : Prop := vs.length = bs.length ∧ ∀ (i : Nat) (b : List UInt8), bs[i]? = some b → ∃ t, vs[i]? = some (Value.bytes b.toArray t)
section
variable {prog : Program} {w : World} {A : Around} {E : Value → Shared → Prop} {s : Shared} {h₀ : Heap} {L : Addr} {m : PySem.Str → Option Value} {news : List (Addr × Obj)}
theorem isList {l : Addr} {vs : List Value} {k : Nat} (N : News h₀ L s.heap news) (hm : (l, ({ cls := .type "list", data := .seq vs.toArray k } : Obj)) ∈ news) : s.heap.IsList l vs.toArray := ⟨_, (N _ hm).1, rfl, k, rfl⟩
theorem item {value slice : Expr} {l : Addr} {vs : List Value} {n : Nat} {k : Int} {u : Tok} {x : Value} {Q : Value → Shared → Prop} (N : News h₀ L s.heap news) (hm : (l, ({ cls := .type "list", data := .seq vs.toArray n } : Obj)) ∈ news)
    (h0 : 0 ≤ k) (hfit : k < 2 ^ 63) (hx : vs[k.toNat]? = some x) (h : Q x s)
    (hs : subscripted slice false (.ref l) (.int k u) = operate [.ref l, .int k u] (getItem (.ref l) (.int k u)) := by with_unfolding_all rfl) :
    wpAny (model prog w) A (subscriptTail value slice (.ref l) (.int k u)) Q E s := item_listR (isList N hm) h0 hfit (by simpa using hx) h hs
theorem take_eq {id : String} {b : Array UInt8} {t : Tok} : Bytes.takeBufferQuiet? id (.bytes b t) 0 = pure (some (b, none)) := by
  unfold Bytes.takeBufferQuiet? Bytes.takeBuffer?
  rw [KBy.special_eq KBy.look_buffer, KBy.own_buffer, show ((0 : Int) == Bytes.fullReadOnly) = false by decide +kernel, KBy.buffer_eq]
  kernel_rfl

theorem slot_join : Slot "bytes" "join" "bytes.join" :=
  .of (owner := "bytes") (n := "join") (by rw [typeLookup_type, builtinLookup_eq_fast]; kernel_rfl) (by decide +kernel) (by decide +kernel) (by decide +kernel)
    (by first | exact .inl (by decide +kernel) | exact .inr (by decide +kernel)) (by rw [isSubtype_type]; kernel_rfl)
theorem entry_join : entryFor table "bytes.join" = some «bytes.join» := by first | exact entryFor_of_tree (by kernel_rfl) | exact entryFor_of_fast (by kernel_rfl)
theorem args_join (a b : Value) : argsOk "bytes.join" ⟨[a, b], []⟩ := by unfold argsOk; kernel_rfl
theorem type_join : typeOf (.builtin "bytes.join") = pure (.type "method_descriptor") := by show builtinType _ = _; rw [builtinType_eq_fast]; kernel_rfl
theorem method_join {M : Model} {b : Array UInt8} {t : Tok} {pl : Sem Bool} {Q : Value × List Value → Shared → Prop} (h : Q (.builtin "bytes.join", [.bytes b t]) s) : wpAny M A (getMethod (.bytes b t) "join" pl) Q E s :=
  KBd.method_of (.bytes b t) (typeIs_bytes _ _ _) slot_join type_join KBd.noRef h
theorem zip_fold (ps : List (List UInt8)) : ∀ (k : Nat) (out : Array UInt8), (((ps.map List.toArray).zipIdx k).foldl (fun out (p, i) => (if i > 0 then out ++ (#[] : Array UInt8) else out) ++ p) out) = out ++ ps.flatten.toArray := by
  induction ps with
  | nil => intro k out; simp
  | cons p r ih =>
    intro k out
    simp only [List.map_cons, List.zipIdx_cons, List.foldl_cons]
    rw [ih]
    simp
theorem joined_eq (ps : List (List UInt8)) : Bytes.joined #[] (ps.map List.toArray) = ps.flatten.toArray := by
  unfold Bytes.joined
  rw [zip_fold]; simp

theorem join {l : Addr} {vs : List Value} {bs : List (List UInt8)} {n : Nat} {t : Tok} {Q : Value → Shared → Prop} (N : News h₀ L s.heap news) (hm : (l, ({ cls := .type "list", data := .seq vs.toArray n } : Obj)) ∈ news)
    (hb : BytesAre vs bs) (h1 : 1 ≤ bs.length) (hz : bs.flatten.length ≤ 1000) (h : ∀ t' k, Q (.bytes bs.flatten.toArray t') { s with toks := k }) :
    wpAny (model prog w) A (call (.builtin "bytes.join") [.bytes #[] t, .ref l]) Q E s := by
  refine wpAny_call_entry slot_join (typeIs_bytes s _ _) entry_join ?_ (args_join _ _)
  have ho := (N _ hm).1
  unfold «bytes.join» Bytes.joinM
  refine wpAny_bind (wpAny_of_eq (a := (.bytes #[] t, .ref l)) rfl ?_)
  dsimp only
  refine bm_if_true rfl ?_
  have hT : s.TypeIs (.ref l) "list" := (isList N hm).typeIs
  refine wpAny_bind ?_
  unfold Bytes.joinItems
  refine wpAny_bind (wpAny_typeOf hT ?_)
  refine bm_if_true rfl ?_
  refine wpAny_pure ?_
  refine wpAny_bind (wpAny_seqItems ho rfl ?_)
  dsimp only
  refine bm_if_true rfl ?_
  obtain ⟨hlen, hbs⟩ := hb
  rcases vs with _ | ⟨x, _ | ⟨y, r⟩⟩
  · rw [← hlen] at h1; exact absurd h1 (by simp)
  · rcases bs with _ | ⟨b, _ | ⟨_, _⟩⟩
    · cases hlen
    · obtain ⟨tx, hx⟩ := hbs 0 b rfl
      cases hx
      refine wpAny_bind (wpAny_typeOf (typeIs_bytes s _ _) ?_)
      refine bm_if_true rfl ?_
      have := h tx s.toks
      simp only [List.flatten_cons, List.flatten_nil, List.append_nil] at this
      refine wpAny_bind (wpAny_rule ?_)
      exact wpAny_pure ⟨_, rfl, this⟩
    · simp at hlen
  · show wpAny _ _ (forIn _ _ _ >>= _) _ _ _
    refine wpAny_bind ?_
    generalize hvs : x :: y :: r = vs at hm ho hlen hbs hT
    have hsz : vs.toArray.size = bs.length := by simp [hlen]
    rw [Std.Legacy.Range.forIn_eq_forIn_range']
    refine wpAny_forIn_list (M := model prog w) (A := A.in1) (E := E) _
      (fun (rest : List Nat) (st : Array (Array UInt8) × List (Value × Option Value)) (s' : Shared) => ∃ i, rest = List.range' i (bs.length - i) ∧ i ≤ bs.length ∧ s' = s ∧ st.1.toList = (bs.take i).map List.toArray ∧ ∀ q ∈ st.2, q.2 = none ∧ q.1.onHeap = false) _ ?_ ?_ _ _ ?_
    · rintro j rest ⟨ps, tk⟩ s' ⟨i, hr, hi, rfl, hps, htk⟩
      have hlt : i < bs.length := by
        rcases Nat.lt_or_ge i bs.length with h1 | h1
        · exact h1
        · rw [show bs.length - i = 0 by omega] at hr; cases hr
      rw [show bs.length - i = (bs.length - i - 1) + 1 by omega, List.range'_succ] at hr
      obtain ⟨rfl, rfl⟩ := List.cons.inj hr
      obtain ⟨tx, hx⟩ := hbs j bs[j] (List.getElem?_eq_getElem hlt)
      have hget : vs.toArray.getD j Value.none = .bytes (bs[j]).toArray tx := by
        simp [Array.getD, hlen, hlt, List.getElem?_eq_some_iff.mp hx |>.2]
      have hany : (tk.any fun x => x.fst.onHeap) = false := by
        rw [List.any_eq_false]
        intro q hq; rw [(htk q hq).2]; simp
      refine wpAny_bind (wpAny_seqItems ho rfl ?_)
      dsimp only
      refine bm_if_false (by rw [hany]; rfl) ?_
      rw [hget]
      refine wpAny_bind (wpAny_holding (wpAny_of_eq take_eq ?_))
      dsimp only
      refine wpAny_bind (wpAny_seqItems ho rfl ?_)
      dsimp only
      refine bm_if_false (by simp) ?_
      refine wpAny_pure ⟨j + 1, by rw [show bs.length - j - 1 = bs.length - (j + 1) by omega], hlt, rfl, ?_, ?_⟩
      · dsimp only
        rw [Array.toList_push, hps, List.take_add_one, List.map_append, List.getElem?_eq_getElem hlt]
        rfl
      · intro q hq
        rcases List.mem_append.mp hq with hq | hq
        · exact htk q hq
        · rw [List.mem_singleton.mp hq]; exact ⟨rfl, rfl⟩
    · rintro ⟨ps, tk⟩ s' ⟨i, hr, hi, rfl, hps, htk⟩
      have hin : i = bs.length := by
        rcases Nat.lt_or_ge i bs.length with h1 | h1
        · rw [show bs.length - i = (bs.length - i - 1) + 1 by omega, List.range'_succ] at hr; cases hr
        · omega
      subst hin
      rw [List.take_length] at hps
      have hsum : ∀ (qs : List (List UInt8)) (a : Nat), (qs.map List.toArray).foldl (fun x1 x2 => x1 + x2.size) a = a + qs.flatten.length := by
        intro qs
        induction qs with
        | nil => intro a; simp
        | cons q r ih => intro a; simp only [List.map_cons, List.foldl_cons]; rw [ih]; simp; omega
      refine wpAny_bind ?_
      show wpAny _ _ (pure _) _ _ _
      refine wpAny_pure ?_
      dsimp only
      refine bm_if_false ?_ ?_
      · unfold Bytes.tooLong
        rw [← Array.foldl_toList, hps, hsum, sizeLine_eq]
        simp
        simp at hz
        omega
      refine wpAny_bind ?_
      show wpAny _ _ (mkBytes _) _ _ _
      rw [hps]
      refine wpAny_mkBytes ?_ (by rw [joined_eq, sizeLine_eq]; simp at hz ⊢; omega)
      rw [joined_eq]
      refine wpAny_bind (wpAny_holding (wpAny_point ?_))
      refine wpAny_bind ?_
      have key : ∀ (tk : List (Value × Option Value)) (keep : List Value) (Q : Unit → Shared → Prop) (s₁ : Shared), (∀ q ∈ tk, q.2 = none ∧ q.1.onHeap = false) → Q () s₁ → wpAny (model prog w) A.in1 (Bytes.joinLetGo tk keep) Q E s₁ := by
        intro tk
        induction tk with
        | nil => intro keep Q s₁ _ hq; exact wpAny_pure hq
        | cons q r ih =>
          intro keep Q s₁ hq hQ
          obtain ⟨v, o⟩ := q
          obtain ⟨h1, _⟩ := hq _ List.mem_cons_self
          dsimp only at h1
          subst h1
          unfold Bytes.joinLetGo
          dsimp only
          exact wpAny_bind (wpAny_letGo (ih keep Q s₁ (fun q hq' => hq q (List.mem_cons_of_mem _ hq')) hQ))
      refine key _ _ _ _ htk ?_
      exact wpAny_pure ⟨_, rfl, h _ _⟩
    · exact ⟨0, by show List.range' 0 [:vs.toArray.size].size 1 = _; simp [Std.Legacy.Range.size, hlen], Nat.zero_le _, rfl, rfl, fun q hq => nomatch hq⟩
end
end Ls

namespace Ls
open Builtin
section
variable {prog : Program} {w : World} {A : Around} {E : Value → Shared → Prop} {s : Shared} {h₀ : Heap} {L : Addr} {m : PySem.Str → Option Value} {news : List (Addr × Obj)}
abbrev lsO (vs : List Value) (k : Nat) : Obj := { cls := .type "list", data := .seq vs.toArray k }
theorem add {a b : Addr} {vs us : List Value} {k k' : Nat} {Q : Value → Shared → Prop} (F : Fr h₀ L s.heap m) (N : News h₀ L s.heap news) (ha : (a, lsO vs k) ∈ news) (hb : (b, lsO us k') ∈ news) (hz : vs.length + us.length ≤ 100000)
    (h : ∀ D h', Fr h₀ L h' m → News h₀ L h' ((D, lsO (vs ++ us) 0) :: news) → AllLt D news → Q (.ref D) { s with heap := h' }) : wpAny (model prog w) A (binaryOp .Add (.ref a) (.ref b)) Q E s :=
  add_lists F N (isList N ha) (isList N hb) (fun h' F' N' => h _ h' F' N' (allLt_intro fun p hp => Heap.lt_size (N p hp).1)) (by rw [sizeLine_eq]; omega)
end
end Ls
namespace Bb
open Builtin
section
variable {prog : Program} {w : World} {A : Around} {E : Value → Shared → Prop} {s : Shared} {b c : List UInt8} {t u : Tok}
end
end Bb

section
variable {prog : Program} {w : World} {A : Around} {E : Value → Shared → Prop} {s : Shared} {env : Env} {h₀ : Heap} {body : List Stmt} {Q : Flow → Shared → Prop}
  {m₀ : PySem.Str → Option Value} {nx₀ fix : List (Addr × Obj)}
end

namespace Bo
open Builtin
open PySem.Sem (wp)
abbrev boundO (id : String) (x : Addr) : Obj := { cls := .type "builtin_function_or_method", data := .fields #[.builtin id, .ref x] }
theorem look_get : typeLookup (.type "method_descriptor") "__get__" = pure (some (.builtin "method_descriptor.__get__")) := by rw [typeLookup_type, builtinLookup_eq_fast]; kernel_rfl
theorem look_set : typeLookup (.type "method_descriptor") "__set__" = pure none := by rw [typeLookup_type, builtinLookup_eq_fast]; kernel_rfl
theorem look_delete : typeLookup (.type "method_descriptor") "__delete__" = pure none := by rw [typeLookup_type, builtinLookup_eq_fast]; kernel_rfl
theorem look_append : typeLookup (.type "list") "append" = pure (some (.builtin "list.append")) := by rw [typeLookup_type, builtinLookup_eq_fast]; kernel_rfl
theorem type_append : typeOf (.builtin "list.append") = pure (.type "method_descriptor") := by show builtinType _ = _; rw [builtinType_eq_fast]; kernel_rfl
theorem look_pack : typeLookup (.type "_struct.Struct") "pack" = pure (some (.builtin "_struct.Struct.pack")) := by rw [typeLookup_type, builtinLookup_eq_fast]; kernel_rfl
theorem type_pack : typeOf (.builtin "_struct.Struct.pack") = pure (.type "method_descriptor") := by show builtinType _ = _; rw [builtinType_eq_fast]; kernel_rfl
theorem look_clear : typeLookup (.type "list") "clear" = pure (some (.builtin "list.clear")) := by rw [typeLookup_type, builtinLookup_eq_fast]; kernel_rfl
theorem type_clear : typeOf (.builtin "list.clear") = pure (.type "method_descriptor") := by show builtinType _ = _; rw [builtinType_eq_fast]; kernel_rfl
theorem slot_get : Slot "method_descriptor" "__get__" "method_descriptor.__get__" :=
  .of (owner := "method_descriptor") (n := "__get__") (by rw [typeLookup_type, builtinLookup_eq_fast]; kernel_rfl) (by decide +kernel) (by decide +kernel) (by decide +kernel)
    (by first | exact .inl (by decide +kernel) | exact .inr (by decide +kernel)) (by rw [isSubtype_type]; kernel_rfl)
theorem entry_get : entryFor table "method_descriptor.__get__" = some «method_descriptor.__get__» := by first | exact entryFor_of_tree (by kernel_rfl) | exact entryFor_of_fast (by kernel_rfl)
theorem args_get (a b c : Value) : argsOk "method_descriptor.__get__" ⟨[a, b, c], []⟩ := by unfold argsOk; kernel_rfl
section
variable {prog : Program} {w : World} {A : Around} {E : Value → Shared → Prop} {s : Shared}
theorem get_meets {a : Addr} {T id : String} (hsub : isSubtype (.type T) (.type T) = pure true) (hcut : (".".intercalate (id.cutAt '.').dropLast) = T) (htold : Manifest.toldItsClass.contains id = false) :
    Meets («method_descriptor.__get__» ⟨[.builtin id, .ref a, .type T], []⟩) (fun _ R s => s.TypeIs (.ref a) T ∧ R (.ok (.ret (.ref s.heap.objs.size))) { s with heap := s.heap.push (boundO id a) }) := by
  refine .of_wp fun prog w A R s hS => ?_
  obtain ⟨hT, h⟩ := hS
  unfold «method_descriptor.__get__»
  repeat (any_goals (first | assumption | wp_step))
  refine bm_if_false (by rw [htold]) ?_
  refine wpAny_bind ?_
  refine wpAny_bind ?_
  show wpAny _ _ (pure (PySem.Str.ofString ((id.cutAt '.').getLastD ""), Value.type (".".intercalate (id.cutAt '.').dropLast))) _ _ _
  rw [hcut]
  refine wpAny_pure ?_
  refine wpAny_bind (wpAny_isInstance hT hsub ?_)
  refine bm_if_false rfl ?_
  refine wpAny_pure ?_
  refine wpAny_bind ?_
  unfold newFields
  exact wpAny_newObj_type (wpAny_pure ⟨_, rfl, h⟩) (by size_fits)

theorem ga_list (a : Addr) (vs : Array Value) (k : Nat) (name : PySem.Str) (id : String) (u : Tok) (hl : typeLookup (.type "list") name = pure (some (.builtin id))) (hty : typeOf (.builtin id) = pure (.type "method_descriptor"))
    (hname : (["__module__", "__name__", "__qualname__", "__doc__", "__annotations__"] : List PySem.Str).contains name = false) (hcut : (".".intercalate (id.cutAt '.').dropLast) = "list") (htold : Manifest.toldItsClass.contains id = false) :
    Meets (Builtin.«object.__getattribute__» ⟨[.ref a, .str name u], []⟩) (fun _ R s => s.heap.get? a = some { cls := .type "list", data := .seq vs k } ∧ R (.ok (.ret (.ref s.heap.objs.size))) { s with heap := s.heap.push (boundO id a) }) := by
  refine .of_wp fun prog w A R s hS => ?_
  obtain ⟨hp, g, d, tk, os⟩ := s
  obtain ⟨hx, h⟩ := hS
  have hT : (⟨hp, g, d, tk, os⟩ : Shared).TypeIs (.ref a) "list" := ⟨_, hx, rfl⟩
  have hB : (⟨hp, g, d, tk, os⟩ : Shared).TypeIs (.builtin id) "method_descriptor" := hty
  have f1 := look_get
  have f2 := look_set
  have f3 := look_delete
  unfold Builtin.«object.__getattribute__»
  repeat (any_goals (first | assumption | wp_step))
  simp only [hname, Bool.false_eq_true, if_false]
  repeat (any_goals (first | assumption | ((with_reducible show wpAny _ _ (call (Value.builtin "method_descriptor.__get__") _ _) _ _ _); refine call_meets slot_get hB entry_get (args_get _ _ _) (get_meets (T := "list") F.sub_list_list hcut htold) ⟨hT, ?_⟩) | wp_step))
  all_goals exact wpAny_pure ⟨_, rfl, h⟩

theorem attr_list {a : Addr} {vs : Array Value} {k : Nat} {name : PySem.Str} {id : String} {Q : Value → Shared → Prop} (hx : s.heap.get? a = some { cls := .type "list", data := .seq vs k }) (hl : typeLookup (.type "list") name = pure (some (.builtin id))) (hty : typeOf (.builtin id) = pure (.type "method_descriptor"))
    (hname : (["__module__", "__name__", "__qualname__", "__doc__", "__annotations__"] : List PySem.Str).contains name = false) (hcut : (".".intercalate (id.cutAt '.').dropLast) = "list") (htold : Manifest.toldItsClass.contains id = false) (hsz : name.length ≤ 1000)
    (h : ∀ tk, Q (.ref s.heap.objs.size) { s with heap := s.heap.push (boundO id a), toks := tk }) : wpAny (model prog w) A (getAttr (.ref a) name true) Q E s := by
  obtain ⟨hp, g, d, tk, os⟩ := s
  have hT : ∀ tk', (⟨hp, g, d, tk', os⟩ : Shared).TypeIs (.ref a) "list" := fun _ => ⟨_, hx, rfl⟩
  have f3 := F.slot_list_getattribute.lookup
  have f4 := F.slot_list_getattribute.bind (.ref a)
  have hsz' : name.length ≤ sizeLine := by rw [sizeLine_eq]; omega
  unfold getAttr getAttrBy
  repeat (any_goals (first | assumption | exact hT _ | ((with_reducible show wpAny _ _ (call (Value.builtin "list.__getattribute__") _ _) _ _ _); refine call_meets F.slot_list_getattribute (hT _) am_entry_list_getattribute (F.args_list_getattribute_2 _ _) (ga_list a vs k name id _ hl hty hname hcut htold) ⟨hx, ?_⟩) | wp_step))
  show wpAny _ _ (handedOut (Value.ref _)) Q E _
  unfold handedOut
  repeat (any_goals (first | exact h _ | assumption | wp_step))
end
end Bo
namespace Bo
open Builtin
theorem entry_append : entryFor table "list.append" = some «list.append» := by first | exact entryFor_of_tree (by kernel_rfl) | exact entryFor_of_fast (by kernel_rfl)
theorem sig_append : Manifest.signature? "list.append" = some ⟨.oneArg, "list.append", "append", .self, [⟨"object", .posOnly, true⟩]⟩ := by kernel_rfl
theorem kind_append : builtinKind "list.append" = some .method := by decide +kernel
theorem plain_append : plainId "list.append" = true := by decide +kernel
section
variable {prog : Program} {w : World} {A : Around} {E : Value → Shared → Prop} {s : Shared}
theorem sub_list_module : isSubtype (.type "list") (.type "module") = pure false := by rw [isSubtype_type]; kernel_rfl
theorem call_listM {id : String} {b : Builtin} {sig : Manifest.Signature} {args : List Value} {x a : Addr} {Q : Value → Shared → Prop} (hsig : Manifest.signature? id = some sig) (hkind : builtinKind id = some .method) (hva : (Manifest.varargsMethods.contains id || false) = false) (hargs : Bind.checkArgs id { sig with full := s!"{Bind.lastOf "list"}.{Bind.lastOf id}" } ⟨.ref a :: args, []⟩ = pure ()) (hplain : plainId id = true) (hb : entryFor table id = some b)
    (hx : s.heap.get? x = some (boundO id a)) (hL : ∃ o, s.heap.get? a = some o ∧ o.cls = .type "list" ∧ (∃ xs k, o.data = .seq xs k))
    (hc : wpAny (model prog w) A.in1 (b ⟨.ref a :: args, []⟩) (fun fin s' => ∃ v, fin = .done (.ret v) ∧ Q v s') E s) :
    wpAny (model prog w) A (call (.ref x) args) Q E s := by
  have hT : s.TypeIs (.ref a) "list" := by obtain ⟨o, ho, hc, _⟩ := hL; exact ⟨o, ho, hc⟩
  refine wpAny_call (codeAny_of_tree ?_)
  show wpAny _ A.in1 (callAny (.ref x) ⟨args, []⟩) _ _ s
  unfold callAny
  refine wpAny_bind (wpAny_load hx ?_)
  dsimp only
  refine bm_if_true rfl ?_
  refine bm_if_true rfl ?_
  refine wpAny_bind ?_
  unfold checkBoundCall
  rw [hsig]
  dsimp only
  rw [hkind]
  show wpAny _ _ (if (Manifest.AttrKind.method != .method && Manifest.AttrKind.method != .classMethod) = true then _ else _) _ _ _
  refine bm_if_false (by decide) ?_
  refine wpAny_bind (wpAny_isInstance hT sub_list_module ?_)
  refine bm_if_false hva ?_
  obtain ⟨o, ho, hoc, hod⟩ : ∃ o, s.heap.get? a = some o ∧ o.cls = .type "list" ∧ (∃ xs k, o.data = .seq xs k) := hL
  obtain ⟨xs, k, hod⟩ := hod
  refine wpAny_bind ?_
  simp only [isType, loadHead]
  refine wpAny_bind (wpAny_loadPart ho ?_)
  rw [hod]
  refine wpAny_pure ?_
  refine bm_if_false rfl ?_
  refine wpAny_bind (wpAny_typeOf hT ?_)
  dsimp only
  refine wpAny_of_eq (a := ()) hargs ?_
  show wpAny _ _ (again _) _ _ _
  refine wpAny_pure ⟨plainId_quiet hplain _, codeAny_builtin hb ?_⟩
  rw [Around.under_plainId hplain _]
  refine wpAny_mono hc (fun fin s' hf => ?_) fun _ _ e => e
  obtain ⟨v, rfl, hv⟩ := hf
  exact hv

theorem sig_clear : Manifest.signature? "list.clear" = some ⟨.noArgs, "list.clear", "clear", .self, []⟩ := by kernel_rfl
theorem kind_clear : builtinKind "list.clear" = some .method := by decide +kernel
theorem plain_clear : plainId "list.clear" = true := by decide +kernel
theorem entry_clear : entryFor table "list.clear" = some «list.clear» := by first | exact entryFor_of_tree (by kernel_rfl) | exact entryFor_of_fast (by kernel_rfl)
variable {h₀ : Heap} {L : Addr} {m : PySem.Str → Option Value}
theorem append {x a : Addr} {v : Value} {vs : List Value} {k : Nat} {pre post : List (Addr × Obj)} {Q : Value → Shared → Prop} (F : Fr h₀ L s.heap m) (N : News h₀ L s.heap (pre ++ (a, Ls.lsO vs k) :: post)) (hx : (x, boundO "list.append" a) ∈ pre ++ (a, Ls.lsO vs k) :: post)
    (o1 : ∀ p ∈ pre, p.1 ≠ a) (o2 : ∀ p ∈ post, p.1 ≠ a) (hz : vs.length ≤ 1000) (h : ∀ h' k', Fr h₀ L h' m → News h₀ L h' (pre ++ (a, Ls.lsO (vs ++ [v]) k') :: post) → Q .none { s with heap := h' }) :
    wpAny (model prog w) A (call (.ref x) [v]) Q E s := by
  have ha := (N _ (List.mem_append_right _ List.mem_cons_self)).1
  refine call_listM (args := [v]) sig_append kind_append (by decide +kernel) (by kernel_rfl) plain_append entry_append (N _ hx).1 ⟨_, ha, rfl, _, _, rfl⟩ ?_
  show wpAny _ _ (updateSeq a (·.push v) >>= fun _ => ret .none) _ _ s
  refine wpAny_bind ?_
  have e : Obj.mapSeq (·.push v) (Ls.lsO vs k) = Ls.lsO (vs ++ [v]) (k + 1) := by simp [Obj.mapSeq, Ls.lsO]
  have U := news_upd (f := Obj.mapSeq (·.push v)) F N o1 o2 e rfl
  exact wpAny_updateSeq (f := (·.push v)) ha rfl (wpAny_pure ⟨.none, rfl, h _ _ U.1 U.2⟩) (by rw [sizeLine_eq, List.size_toArray]; omega) (by rw [sizeLine_eq, Array.size_push, List.size_toArray]; omega)
theorem clear {x a : Addr} {vs : List Value} {k : Nat} {pre post : List (Addr × Obj)} {Q : Value → Shared → Prop} (F : Fr h₀ L s.heap m) (N : News h₀ L s.heap (pre ++ (a, Ls.lsO vs k) :: post)) (hx : (x, boundO "list.clear" a) ∈ pre ++ (a, Ls.lsO vs k) :: post)
    (o1 : ∀ p ∈ pre, p.1 ≠ a) (o2 : ∀ p ∈ post, p.1 ≠ a) (hz : vs.length ≤ 1000) (h : ∀ h' k', Fr h₀ L h' m → News h₀ L h' (pre ++ (a, Ls.lsO [] k') :: post) → Q .none { s with heap := h' }) :
    wpAny (model prog w) A (call (.ref x) []) Q E s := by
  have ha := (N _ (List.mem_append_right _ List.mem_cons_self)).1
  refine call_listM (args := []) sig_clear kind_clear (by decide +kernel) (by kernel_rfl) plain_clear entry_clear (N _ hx).1 ⟨_, ha, rfl, _, _, rfl⟩ ?_
  unfold «list.clear»
  refine wpAny_bind (wpAny_of_eq (a := .ref a) rfl ?_)
  refine wpAny_bind ?_
  show wpAny _ _ (seqItems? (.ref a) >>= _) _ _ s
  refine wpAny_bind (wpAny_seqItems ha rfl (wpAny_pure ?_))
  refine wpAny_bind ?_
  show wpAny _ _ (updateSeq a (fun _ => #[])) _ _ _
  have e : Obj.mapSeq (fun _ => #[]) (Ls.lsO vs k) = Ls.lsO [] (if (0 == vs.length) = true then k else k + 1) := by simp [Obj.mapSeq, Ls.lsO]
  have U := news_upd (f := Obj.mapSeq (fun _ => #[])) F N o1 o2 e rfl
  refine wpAny_updateSeq (f := fun _ => #[]) ha rfl ?_ (by rw [sizeLine_eq, List.size_toArray]; omega) (by simp)
  exact wpAny_bind (wpAny_letGo (wpAny_pure ⟨.none, rfl, h _ _ U.1 U.2⟩))
end
end Bo

namespace Bo
open Builtin
open PySem.Sem (wp)
theorem slot_ga_S : Slot "_struct.Struct" "__getattribute__" "_struct.Struct.__getattribute__" :=
  .of (owner := "_struct.Struct") (n := "__getattribute__") (by rw [typeLookup_type, builtinLookup_eq_fast]; kernel_rfl) (by decide +kernel) (by decide +kernel) (by decide +kernel)
    (by first | exact .inl (by decide +kernel) | exact .inr (by decide +kernel)) (by rw [isSubtype_type]; kernel_rfl)
theorem entry_ga_S : entryFor table "_struct.Struct.__getattribute__" = some Builtin.«object.__getattribute__» :=
  entryFor_alias (id' := "object.__getattribute__") (by kernel_rfl) (by decide +kernel) (by decide +kernel) (by kernel_rfl)
theorem args_ga_S (a b : Value) : argsOk "_struct.Struct.__getattribute__" ⟨[a, b], []⟩ := by unfold argsOk; kernel_rfl
theorem sub_S : isSubtype (.type "_struct.Struct") (.type "_struct.Struct") = pure true := by rw [isSubtype_type]; kernel_rfl
section
variable {prog : Program} {w : World} {A : Around} {E : Value → Shared → Prop} {s : Shared}
theorem ga_struct (a : Addr) (fb : Array UInt8) (tb : Tok) (name : PySem.Str) (id : String) (u : Tok) (hl : typeLookup (.type "_struct.Struct") name = pure (some (.builtin id))) (hty : typeOf (.builtin id) = pure (.type "method_descriptor"))
    (hname : (["__module__", "__name__", "__qualname__", "__doc__", "__annotations__"] : List PySem.Str).contains name = false) (hcut : (".".intercalate (id.cutAt '.').dropLast) = "_struct.Struct") (htold : Manifest.toldItsClass.contains id = false) :
    Meets (Builtin.«object.__getattribute__» ⟨[.ref a, .str name u], []⟩) (fun _ R s => s.heap.get? a = some (St.objS fb tb) ∧ R (.ok (.ret (.ref s.heap.objs.size))) { s with heap := s.heap.push (boundO id a) }) := by
  refine .of_wp fun prog w A R s hS => ?_
  obtain ⟨hp, g, d, tk, os⟩ := s
  obtain ⟨hx, h⟩ := hS
  have hT : (⟨hp, g, d, tk, os⟩ : Shared).TypeIs (.ref a) "_struct.Struct" := ⟨_, hx, rfl⟩
  have hB : (⟨hp, g, d, tk, os⟩ : Shared).TypeIs (.builtin id) "method_descriptor" := hty
  have f1 := look_get
  have f2 := look_set
  have f3 := look_delete
  unfold Builtin.«object.__getattribute__»
  repeat (any_goals (first | assumption | wp_step))
  simp only [hname, Bool.false_eq_true, if_false]
  repeat (any_goals (first | assumption | ((with_reducible show wpAny _ _ (call (Value.builtin "method_descriptor.__get__") _ _) _ _ _); refine call_meets slot_get hB entry_get (args_get _ _ _) (get_meets (T := "_struct.Struct") sub_S hcut htold) ⟨hT, ?_⟩) | wp_step))
  all_goals exact wpAny_pure ⟨_, rfl, h⟩

theorem attr_struct {a : Addr} {fb : Array UInt8} {tb : Tok} {name : PySem.Str} {id : String} {Q : Value → Shared → Prop} (hx : s.heap.get? a = some (St.objS fb tb)) (hl : typeLookup (.type "_struct.Struct") name = pure (some (.builtin id))) (hty : typeOf (.builtin id) = pure (.type "method_descriptor"))
    (hname : (["__module__", "__name__", "__qualname__", "__doc__", "__annotations__"] : List PySem.Str).contains name = false) (hcut : (".".intercalate (id.cutAt '.').dropLast) = "_struct.Struct") (htold : Manifest.toldItsClass.contains id = false) (hsz : name.length ≤ 1000)
    (h : ∀ tk, Q (.ref s.heap.objs.size) { s with heap := s.heap.push (boundO id a), toks := tk }) : wpAny (model prog w) A (getAttr (.ref a) name true) Q E s := by
  obtain ⟨hp, g, d, tk, os⟩ := s
  have hT : ∀ tk', (⟨hp, g, d, tk', os⟩ : Shared).TypeIs (.ref a) "_struct.Struct" := fun _ => ⟨_, hx, rfl⟩
  have f3 := slot_ga_S.lookup
  have f4 := slot_ga_S.bind (.ref a)
  have hsz' : name.length ≤ sizeLine := by rw [sizeLine_eq]; omega
  unfold getAttr getAttrBy
  repeat (any_goals (first | assumption | exact hT _ | ((with_reducible show wpAny _ _ (call (Value.builtin "_struct.Struct.__getattribute__") _ _) _ _ _); refine call_meets slot_ga_S (hT _) entry_ga_S (args_ga_S _ _) (ga_struct a fb tb name id _ hl hty hname hcut htold) ⟨hx, ?_⟩) | wp_step))
  show wpAny _ _ (handedOut (Value.ref _)) Q E _
  unfold handedOut
  repeat (any_goals (first | exact h _ | assumption | wp_step))

theorem intBytes4 (n : Int) : Struct.intBytes true 4 n = #[((n % 2 ^ (8 * 4)).toNat / 256 ^ 3 % 256).toUInt8, ((n % 2 ^ (8 * 4)).toNat / 256 ^ 2 % 256).toUInt8, ((n % 2 ^ (8 * 4)).toNat / 256 ^ 1 % 256).toUInt8, ((n % 2 ^ (8 * 4)).toNat / 256 ^ 0 % 256).toUInt8] := by
  unfold Struct.intBytes Memoryview.toLittleEndian
  dsimp only
  rw [if_pos rfl, List.reverse_toArray]
  rfl
theorem pack_ok {id : String} {n : Int} {t : Tok} {Q : Fin → Shared → Prop} (h0 : 0 ≤ n) (h1 : n < 4294967296)
    (h : ∀ b : Array UInt8, b = Struct.intBytes true 4 n → ∀ t' k, Q (.done (.ret (.bytes b t'))) { s with toks := k }) :
    wpAny (model prog w) A (Struct.packed id "pack" ⟨true, false, [⟨'I', 1, 0, 4⟩], 4, 1⟩ [.int n t]) Q E s := by
  unfold Struct.packed
  refine bm_if_false rfl ?_
  refine bm_if_false (by decide) ?_
  refine wpAny_bind ?_
  unfold Struct.packEach
  simp only [List.forIn_cons, List.forIn_nil, Std.Legacy.Range.forIn_eq_forIn_range']
  refine wpAny_bind (wpAny_bind ?_)
  refine bm_if_false (by decide) ?_
  refine bm_if_false (by decide) ?_
  rw [show List.range' 0 ([:1] : Std.Legacy.Range).size = [0] from rfl]
  simp only [List.forIn_cons, List.forIn_nil]
  refine wpAny_bind (wpAny_bind ?_)
  refine wpAny_bind ?_
  refine wpAny_bind (wpAny_attempt ?_)
  refine wpAny_of_eq (a := n) rfl ?_
  dsimp only
  refine wpAny_bind (wpAny_pure ?_)
  refine bm_if_false ?_ ?_
  · simp; omega
  obtain ⟨b0, b1, b2, b3, hb⟩ : ∃ b0 b1 b2 b3, Struct.intBytes true 4 n = #[b0, b1, b2, b3] := ⟨_, _, _, _, intBytes4 n⟩
  rw [hb] at h ⊢
  refine wpAny_pure (wpAny_bind (wpAny_pure (wpAny_pure (wpAny_pure (wpAny_pure (wpAny_pure (wpAny_pure (wpAny_bind ?_))))))))
  refine wpAny_mkBytes (wpAny_pure (h _ rfl _ _)) (by rw [sizeLine_eq]; exact Nat.le_of_ble_eq_true rfl)
theorem sig_pack : Manifest.signature? "_struct.Struct.pack" = some ⟨.positional, "Struct.pack", "pack", .self, [⟨"values", .varPos, false⟩]⟩ := by kernel_rfl
theorem kind_pack : builtinKind "_struct.Struct.pack" = some .method := by decide +kernel
theorem entry_pack : entryFor table "_struct.Struct.pack" = some «_struct.Struct.pack» := by first | exact entryFor_of_tree (by kernel_rfl) | exact entryFor_of_fast (by kernel_rfl)
theorem sub_S_module : isSubtype (.type "_struct.Struct") (.type "module") = pure false := by rw [isSubtype_type]; kernel_rfl
theorem call_packM {v : Value} {x D : Addr} {fb : Array UInt8} {tb : Tok} {Q : Value → Shared → Prop} (hx : s.heap.get? x = some (boundO "_struct.Struct.pack" D)) (hD : s.heap.get? D = some (St.objS fb tb))
    (hc : wpAny (model prog w) (A.under (.builtin "_struct.Struct.pack" ⟨[.ref D, v], []⟩)) («_struct.Struct.pack» ⟨[.ref D, v], []⟩) (fun fin s' => ∃ v, fin = .done (.ret v) ∧ Q v s') E s) :
    wpAny (model prog w) A (call (.ref x) [v]) Q E s := by
  have hT : s.TypeIs (.ref D) "_struct.Struct" := ⟨_, hD, rfl⟩
  refine wpAny_call (codeAny_of_tree ?_)
  show wpAny _ A.in1 (callAny (.ref x) ⟨[v], []⟩) _ _ s
  unfold callAny
  refine wpAny_bind (wpAny_load hx ?_)
  dsimp only
  refine bm_if_true rfl ?_
  refine bm_if_true rfl ?_
  refine wpAny_bind ?_
  unfold checkBoundCall
  rw [sig_pack]
  dsimp only
  rw [kind_pack]
  show wpAny _ _ (if (Manifest.AttrKind.method != .method && Manifest.AttrKind.method != .classMethod) = true then _ else _) _ _ _
  refine bm_if_false (by decide) ?_
  refine wpAny_bind (wpAny_isInstance hT sub_S_module ?_)
  refine bm_if_false (by decide +kernel) ?_
  refine wpAny_bind ?_
  simp only [isType, loadHead]
  refine wpAny_bind (wpAny_loadPart hD ?_)
  refine wpAny_pure ?_
  refine bm_if_false rfl ?_
  refine wpAny_bind (wpAny_typeOf hT ?_)
  dsimp only
  refine wpAny_of_eq (a := ()) (by kernel_rfl) ?_
  show wpAny _ _ (again _) _ _ _
  refine wpAny_pure ⟨Code.quiet_builtin _ (by decide +kernel), codeAny_builtin entry_pack ?_⟩
  refine wpAny_mono hc (fun fin s' hf => ?_) fun _ _ e => e
  obtain ⟨v, rfl, hv⟩ := hf
  exact hv
theorem call_pack_ok {x D : Addr} {fb : Array UInt8} {tb t : Tok} {n : Int} {Q : Value → Shared → Prop} (hx : s.heap.get? x = some (boundO "_struct.Struct.pack" D)) (hD : s.heap.get? D = some (St.objS fb tb)) (hp : Struct.parse fb = pure ⟨true, false, [⟨'I', 1, 0, 4⟩], 4, 1⟩) (h0 : 0 ≤ n) (h1 : n < 4294967296)
    (h : ∀ t' k, Q (.bytes (Struct.intBytes true 4 n) t') { s with toks := k }) : wpAny (model prog w) A (call (.ref x) [.int n t]) Q E s := by
  refine call_packM hx hD ?_
  unfold «_struct.Struct.pack»
  refine wpAny_bind (wpAny_of_eq (a := ()) rfl ?_)
  dsimp only
  refine wpAny_bind (St.format_eq hD hp ?_)
  exact pack_ok h0 h1 fun b hb t' k => ⟨_, rfl, by rw [hb]; exact h t' k⟩
end
end Bo

namespace Bo
section
variable {prog : Program} {w : World} {A : Around} {E : Value → Shared → Prop} {s : Shared} {h₀ : Heap} {L : Addr} {m : PySem.Str → Option Value} {news : List (Addr × Obj)}
theorem attrK_struct {a : Addr} {fb : Array UInt8} {tb : Tok} {name : PySem.Str} {id : String} {Q : Value → Shared → Prop} (F : Fr h₀ L s.heap m) (N : News h₀ L s.heap news) (hm : (a, St.objS fb tb) ∈ news) (hl : typeLookup (.type "_struct.Struct") name = pure (some (.builtin id))) (hty : typeOf (.builtin id) = pure (.type "method_descriptor"))
    (hname : (["__module__", "__name__", "__qualname__", "__doc__", "__annotations__"] : List PySem.Str).contains name = false) (hcut : (".".intercalate (id.cutAt '.').dropLast) = "_struct.Struct") (htold : Manifest.toldItsClass.contains id = false) (hsz : name.length ≤ 1000)
    (h : ∀ P h' tk, Fr h₀ L h' m → News h₀ L h' ((P, boundO id a) :: news) → AllLt P news → Q (.ref P) { s with heap := h', toks := tk }) : wpAny (model prog w) A (getAttr (.ref a) name true) Q E s :=
  attr_struct (N _ hm).1 hl hty hname hcut htold hsz fun tk => h _ _ tk (F.push _) (News.push F N _) (allLt_intro fun p hp => Heap.lt_size (N p hp).1)
theorem attrK_list {a : Addr} {vs : List Value} {k : Nat} {name : PySem.Str} {id : String} {Q : Value → Shared → Prop} (F : Fr h₀ L s.heap m) (N : News h₀ L s.heap news) (hm : (a, Ls.lsO vs k) ∈ news) (hl : typeLookup (.type "list") name = pure (some (.builtin id))) (hty : typeOf (.builtin id) = pure (.type "method_descriptor"))
    (hname : (["__module__", "__name__", "__qualname__", "__doc__", "__annotations__"] : List PySem.Str).contains name = false) (hcut : (".".intercalate (id.cutAt '.').dropLast) = "list") (htold : Manifest.toldItsClass.contains id = false) (hsz : name.length ≤ 1000)
    (h : ∀ P h' tk, Fr h₀ L h' m → News h₀ L h' ((P, boundO id a) :: news) → AllLt P news → Q (.ref P) { s with heap := h', toks := tk }) : wpAny (model prog w) A (getAttr (.ref a) name true) Q E s :=
  attr_list (N _ hm).1 hl hty hname hcut htold hsz fun tk => h _ _ tk (F.push _) (News.push F N _) (allLt_intro fun p hp => Heap.lt_size (N p hp).1)
end
end Bo

local macro_rules | `(tactic| walk_at "enter") => `(tactic| (
  (case ho => k_dflt k_is)
  (case hcd => k_dflt k_is)
  (case hbind => (intro s' X'; exact BindsTo.of_eq rfl))
  (case hloc => exact locs rfl)
  (case hco => rfl)
  (case hgen => rfl)
  (case hk => rfl)
  (case hcell => decide)))
local macro_rules | `(tactic| walk_at "exec For Name Name cons nil") => `(tactic| refine Stop.intro ?_)
local macro_rules | `(tactic| walk_at "exec For Name Call cons nil") => `(tactic| refine Stop.intro ?_)
local macro_rules | `(tactic| walk_at "for") => `(tactic| ((show wpAny _ _ (exec _ _) _ _ _); with_unfolding_all refine' For_invVF (by k_asm) (by rfl) (by rfl) ?_))
local macro_rules | `(tactic| walk_at "end") => `(tactic| ((try dsimp only); (try k_unfold); (try dsimp only)))
local macro_rules | `(tactic| walk_at "off") => `(tactic| (repeat' (first | exact off_refl | exact ovr_offOf (by rfl) | (refine off_upd (by rfl) ?_))))

local macro_rules | `(tactic| walk_at "sz") => `(tactic| first | omega | ((try simp only [List.length_append, List.length_replicate, List.length_cons, List.length_nil, Bb.ofInts, List.length_map]); omega) | (simp; omega))
local macro_rules | `(tactic| walk_at "binaryOp Add bytes bytes") => `(tactic| ((with_reducible show wpAny _ _ (binaryOp Operator.Add (Value.bytes (List.toArray _) _) (Value.bytes (List.toArray _) _)) _ _ _); (refine Bb.add (by walk_at "sz") ?_); intro _ _))
local macro_rules | `(tactic| walk_at "call builtin:len") => `(tactic| ((with_reducible show wpAny _ _ (call (Value.builtin "len") [Value.bytes (List.toArray _) _]) _ _ _); (refine Bb.len (by walk_at "sz") ?_)))
local macro_rules | `(tactic| walk_at "call type:bytes") => `(tactic| ((with_reducible show wpAny _ _ (call (Value.type "bytes") [Value.int _ _]) _ _ _); (refine Bb.bytes_int (by walk_at "idx") (by walk_at "idx") ?_); intro _ _))
local macro_rules | `(tactic| walk_at "idx") => `(tactic| first | omega | (simp only [Int.fmod_eq_emod_of_nonneg, Int.fdiv_eq_ediv_of_nonneg]; omega))
local macro_rules | `(tactic| walk_at "call type:bytes") => `(tactic| ((with_reducible show wpAny _ _ (call (Value.type "bytes") [Value.ref _]) _ _ _); k_dflt (first
  | (refine' Bb.bytes_tup1 ?F ?N ?hm ?h0 ?h1 ?hh ?_; (case F => k_asm); (case N => k_asm); (case hm => k_mem); (case h0 => walk_at "idx"); (case h1 => walk_at "idx"); (case hh => rfl))
  | (refine' Bb.bytes_tup2 ?F ?N ?hm ?h0 ?h1 ?h2 ?h3 ?hh ?_; (case F => k_asm); (case N => k_asm); (case hm => k_mem); (case h0 => walk_at "idx"); (case h1 => walk_at "idx"); (case h2 => walk_at "idx"); (case h3 => walk_at "idx"); (case hh => rfl))); intro _ _ _ F' N'))
local macro_rules | `(tactic| walk_at "subscriptTail") => `(tactic| ((with_reducible show wpAny _ _ (subscriptTail _ (Expr.Slice _ _ none _) (Value.bytes (List.toArray _) _) (Value.ref _)) _ _ _); (with_reducible rename Fr _ _ _ _ => F'); (with_reducible rename News _ _ _ _ => N'); (refine Bb.slice (s := ⟨_, _, _, _, _⟩) F' N' (by constructor) (by constructor) (by walk_at "sz") ?_); intro _ _ _ F' N'))
local macro_rules | `(tactic| k_mem) => `(tactic| assumption)
local macro_rules | `(tactic| walk_at "binaryOp Mod int int") => `(tactic| ((with_reducible show wpAny _ _ (binaryOp Operator.Mod (Value.int _ _) (Value.int _ _)) _ _ _); (refine Ii.mod (by first | decide | omega) ?_)))
local macro_rules | `(tactic| walk_at "binaryOp FloorDiv int int") => `(tactic| ((with_reducible show wpAny _ _ (binaryOp Operator.FloorDiv (Value.int _ _) (Value.int _ _)) _ _ _); (refine Ii.div (by first | decide | omega) (by first | decide | omega) ?_)))
local macro_rules | `(tactic| walk_at "use") => `(tactic| (
  (case B => k_asm)
  (case F => k_asm)
  (case X => k_asm)
  (case N => k_asm)
  (case T => k_asm)
  (case hck => rfl)
  (case hd => ktr_room)
  (case hu => ktr_units)))
local macro_rules | `(tactic| walk_at "led") => `(tactic| ((rename News _ _ _ _ => lN'); (simp only [List.nil_append, List.cons_append, List.singleton_append] at lN')))
local macro_rules | `(tactic| walk_at "newTuple") => `(tactic| (k_dflt (refine' Hh.newTuple ?F ?N ?hsz ?_; (case F => k_asm); (case N => k_asm); (case hsz => size_fits); k_whole); intro D' h' F' N' l1; (simp only [AllLt] at l1); (try k_sweep)))
local macro_rules | `(tactic| walk_at "newList") => `(tactic| (k_dflt (refine' Hh.newList ?F ?N ?hsz ?_; (case F => k_asm); (case N => k_asm); (case hsz => size_fits); k_whole); intro D' h' F' N' l1; (simp only [AllLt] at l1); (try k_sweep)))
local macro_rules | `(tactic| k_all) => `(tactic| (show AllNe _ _; assumption))
local macro_rules | `(tactic| walk_at "setItem ref int") => `(tactic| (k_dflt (refine' kda_set ?F ?N ?U ?hd (intKind_is _ _ _ _) ?hsz ?_; (case F => k_asm); (case N => k_asm); (case U => k_updF); (case hd => assumption); (case hsz => (rw [sizeLine_eq]; first | omega | (refine Nat.le_trans Dd.stored_le ?_; omega))); k_whole); intro h' o' F' N' hdk'))
local macro_rules | `(tactic| walk_at "sub") => `(tactic| ((try simp only [List.nil_append, List.cons_append]); first | exact sub_refl | exact sub_nil | (with_reducible refine sub_take ?_; walk_at "sub") | (refine sub_skip ?_; walk_at "sub") | (refine sub_mem (by k_mem) ?_; walk_at "sub")))
local macro_rules | `(tactic| walk_at "toIf") => `(tactic| repeat' (first | (k_unfold; (try dsimp only)) | ((fail_if_success (with_reducible show wpAny _ _ (exec (Stmt.If _ _ _ _) _) _ _ _)); first | walk1 | (dsimp only; walk1))))
local macro_rules | `(tactic| walk_at "getMethod ref") => `(tactic| ((with_reducible show wpAny _ _ (getMethod (Value.ref _) (PySem.Str.ofString "unpack") _) _ _ _); k_dflt (refine' St.method_unpack (News.get (by k_asm) (by k_mem)) ?_)))
local macro_rules | `(tactic| walk_at "call type:_struct.Struct") => `(tactic| refine Stop.intro ?_)
local macro_rules | `(tactic| walk_at "call builtin:_struct.Struct.unpack") => `(tactic| refine Stop.intro ?_)
local macro_rules | `(tactic| walk_at "comp") => `(tactic| (
  (case hLe => rfl)
  (case hh => rfl)
  (case hsw => with_unfolding_all rfl)
  (case hclos => with_unfolding_all rfl)
  (case hcell => decide)
  (case hkind => with_unfolding_all rfl)
  (case hnames => decide)
  (case hx => with_unfolding_all rfl)
  (case hy => with_unfolding_all rfl)
  (case hp => with_unfolding_all rfl)))
local macro_rules | `(tactic| walk_at "SrcTup") => `(tactic| refine Stop.intro ?_)

namespace Ex
open PySem.Sem (wp)
section
variable {M : Model} {A : Around} {E : Value → Shared → Prop} {s : Shared}
end
end Ex

namespace Ex
open PySem.Sem (wp)
section
variable {prog : Program} {w : World} {A₀ : Around} {E : Value → Shared → Prop} {s' : Shared} {base g h : Heap} {outer : List Env} {L a e : Addr} {m : PySem.Str → Option Value} {name : PySem.Str} {scope : Scope} {cd : Value}
  {b₀ : Stmt} {suite : List Stmt} {pos : Pos} {rest : List ExceptHandler} {Q : Flow → Shared → Prop} {news : List (Addr × Obj)} {KF : Frag} {tt : Expr}
  {p : Program} {loose : List PySem.Str} {mean : ExcName → Option Value} {mg mb : PySem.Str → Option Value} {X : String}
end
end Ex

namespace Ex
open PySem.Sem (wp)
section
variable {prog : Program} {w : World} {A : Around} {E : Value → Shared → Prop} {s : Shared} {env : Env}
end
end Ex

namespace Ex
open PySem.Sem (wp)
section
variable {prog : Program} {w : World} {A : Around} {E : Value → Shared → Prop} {s : Shared} {env : Env}
end
end Ex

namespace Ex
open PySem.Sem (wp)
section
variable {M : Model} {A : Around} {E : Value → Shared → Prop} {s' : Shared} {base g g' h : Heap} {outer : List Env} {L a e t : Addr} {m : PySem.Str → Option Value} {name : PySem.Str} {scope : Scope} {cd : Value} {Q : Unit → Shared → Prop} {news : List (Addr × Obj)}
theorem turn_none {fs : List Addr} (T : KtsTurn fs g g') {b : Addr} (h : g'.get? b = none) : g.get? b = none := by
  cases q : g.get? b with
  | none => rfl
  | some o => obtain ⟨sl, e⟩ := T.up q; rw [h] at e; cases e
theorem dicts_push {cn : PySem.Str} {cs : Scope} {ccd : Value} (F : Fr g L g' m) (D : KtsDicts (outer.filterMap (·.frame)) g) : KtsDicts ((envOf cn cs L a ccd :: outer).filterMap (·.frame)) g' := fun b hb => by
  rcases kts_mem hb with rfl | hb
  · obtain ⟨o, es, ep, ho, hd, _⟩ := F.ns
    exact ⟨o, es, ep, ho, hd⟩
  · obtain ⟨o, es, n, ho, hd⟩ := D b hb
    exact ⟨o, es, n, F.keep _ _ ho, hd⟩
end
/-- a contract with two ends: R for a value; an exception of the class cls, its arguments as RV says -/
def DoesX (prog : Program) (w : World) (K : Frag) (p : Program) (loose : List PySem.Str) (mean : ExcName → Option Value) (mg mb : PySem.Str → Option Value) (f : Addr) (args : List Value) (kw : List (PySem.Str × Value)) (news : List (Addr × Obj)) (lev : Nat) (R : Value → List (Addr × Obj) → Prop) (cls : Value) (RV : List Value → Prop) : Prop :=
  ∀ (dp un : Nat) (cn : PySem.Str) (cs : Scope) (a : Addr) (ccd : Value) (outer : List Env) (A₀ : Around) (base h₀ : Heap) (L : Addr) (m : PySem.Str → Option Value) (s : Shared) (Q E : Value → Shared → Prop),
    Below A₀ base outer h₀ → Fr h₀ L s.heap m → K.In h₀ → News h₀ L s.heap news → Top p loose mean mg mb h₀ → K.In base → Top p loose mean mg mb base → KtsDicts (outer.filterMap (·.frame)) h₀ → cs.kind = .function → dp + lev + 1 < recursionLimit → un + 10 * lev + 30 < cLine →
    (∀ (v : Value) (own : List (Addr × Obj)) (h' : Heap) (tk' : Nat), Fr h₀ L h' m → News h₀ L h' (own ++ news) → Above own news → R v own → Q v { s with heap := h', toks := tk' }) →
    (∀ (e t : Addr) (vs : List Value) (G h' : Heap) (tk' : Nat), RV vs → Fr h₀ L G m → RaisedS base G (envOf cn cs L a ccd :: outer) e cls t vs news h' → G.UpToSlots h' → E (.ref e) { s with heap := h', toks := tk' }) →
    wpAny (model prog w) (ktrTop dp un (some []) cn cs L a ccd [] outer) (call (.ref f) args kw) Q E s
section
variable {prog : Program} {w : World} {K : Frag} {p : Program} {loose : List PySem.Str} {mean : ExcName → Option Value} {mg mb : PySem.Str → Option Value}
  {f : Addr} {args : List Value} {kw : List (PySem.Str × Value)} {news : List (Addr × Obj)} {R : Value → List (Addr × Obj) → Prop} {lev : Nat} {cls : Value} {RV : List Value → Prop}
  {name : PySem.Str} {params : Arguments} {body : List Stmt} {scope : Scope} {dV kV doc pm cdv ct oc : Value} {an od : Option Addr} {osl : Array (Option Value)} {binds : List (PySem.Str × Value)}
theorem does_defX (ho : K.lookup f = some ⟨oc, od, .func (fnOf name name params body scope dV kV doc pm an cdv ct), osl⟩) (hcd : codeIn K cdv name = true)
    (hbind : ∀ s : Shared, K.In s.heap → BindsTo s (fnOf name name params body scope dV kV doc pm an cdv ct) ⟨args, kw⟩ binds) (hloc : ∀ y ∈ binds, scope.names.lookup y.1 = some .local)
    (hco : scope.isCoroutine = false) (hgen : scope.isGenerator = false) (hk : scope.kind = .function) (hcell : ∀ x ∈ scope.names, x.2 ≠ .cell)
    (h : ∀ (dp un : Nat) (outer : List Env) (A₀ : Around) (base g : Heap) (L : Addr) (s : Shared) (X : Value → Shared → Prop),
      Below A₀ base outer g → Fr g L s.heap (fun y => binds.reverse.lookup y) → News g L s.heap news → K.In g → Top p loose mean mg mb g → K.In base → Top p loose mean mg mb base → KtsDicts (outer.filterMap (·.frame)) g → dp + 1 + lev < recursionLimit → un + 3 + 10 * lev + 20 < cLine → AllLt L news →
      (∀ (e t : Addr) (vs : List Value) (h' : Heap) (tk' : Nat), RV vs → RaisedS base g outer e cls t vs news h' → g.UpToSlots h' → X (.ref e) { s with heap := h', toks := tk' }) →
      wpAny (model prog w) (ktrTop (dp + 1) (un + 3) (some []) name scope L f cdv [] outer) (execs body (envOf name scope L f cdv)) (BodyEnd g L news R s)
        (fun e s' => wpAny (model prog w) (ktrTop (dp + 1) (un + 3) (some []) name scope L f cdv [] outer) (leaving (envOf name scope L f cdv) e) (fun _ s'' => X e s'') (fun e' s'' => X e' s'') s') s) :
    DoesX prog w K p loose mean mg mb f args kw news lev R cls RV := by
  intro dp un cn cs a ccd outer A₀ base h₀ L m s Q E B F X N T XB TB D hck hd hu hret hexc
  refine wpAny_call ?_
  have X' := X.keeps F.keep
  refine callX_plain (cl := []) (env := envX cn cs L a ccd []) B F N T.nolimit rfl rfl hck (X' _ _ ho) rfl (codeRec_of X' hcd) (by show dp < recursionLimit; omega) (hbind s X') hloc (fun g L' h₁ FG F' N' B' st hlt => ?_) hcell hco hgen hk
  have hh := h dp un (envX cn cs L a ccd [] :: outer) _ base g L' { s with heap := h₁, toks := s.toks + binds.length } (fun e s' => E e s') B' F' N' (X.keeps st) (T.keeps st) XB TB (dicts_push FG D) (by omega) (by omega) (allLt_intro hlt)
    (fun e t vs h' tk' hv hR hs => hexc e t vs g h' tk' hv FG hR hs)
  refine wpAny_mono hh (fun fl s' hb => ?_) fun _ _ e => e
  obtain ⟨v, own, h', tk', m', hfl, rfl, F'', N'', ha, hR⟩ := hb
  rcases hfl with rfl | ⟨rfl, rfl⟩
  · exact leaveK_ F'' N'' fun FK NK => hret v own h' tk' FK NK ha hR
  · exact leaveK_ F'' N'' fun FK NK => hret _ own h' tk' FK NK ha hR
end
end Ex

namespace Ex
open PySem.Sem (wp)
def BodyEndS (fs : List Addr) (g : Heap) (L : Addr) (news : List (Addr × Obj)) (R : Value → List (Addr × Obj) → Prop) (s₁ : Shared) (fl : Flow) (s' : Shared) : Prop :=
  ∃ g' v own h' tk' m', KtsTurn fs g g' ∧ (fl = .ret v ∨ (fl = .next ∧ v = .none)) ∧ s' = { s₁ with heap := h', toks := tk' } ∧ Fr g' L h' m' ∧ News g' L h' (own ++ news) ∧ Above own news ∧ R v own
theorem BodyEndS.ret {fs : List Addr} {g g' : Heap} {L : Addr} {news own : List (Addr × Obj)} {R : Value → List (Addr × Obj) → Prop} {s₁ : Shared} {v : Value} {h' : Heap} {tk' : Nat} {m' : PySem.Str → Option Value} {led : List (Addr × Obj)}
    (T : KtsTurn fs g g') (F : Fr g' L h' m') (N : News g' L h' led) (hs : ∀ p ∈ own ++ news, p ∈ led) (ha : Above own news) (hR : R v own) : BodyEndS fs g L news R s₁ (.ret v) { s₁ with heap := h', toks := tk' } :=
  ⟨g', v, own, h', tk', m', T, .inl rfl, rfl, F, fun p hp => N p (hs p hp), ha, hR⟩
/-- a contract in which the frames below may be turned (an exception was caught on the way) -/
def DoesS (prog : Program) (w : World) (K : Frag) (p : Program) (loose : List PySem.Str) (mean : ExcName → Option Value) (mg mb : PySem.Str → Option Value) (f : Addr) (args : List Value) (kw : List (PySem.Str × Value)) (news : List (Addr × Obj)) (lev : Nat) (R : Value → List (Addr × Obj) → Prop) : Prop :=
  ∀ (dp un : Nat) (cn : PySem.Str) (cs : Scope) (a : Addr) (ccd : Value) (outer : List Env) (A₀ : Around) (base h₀ : Heap) (L : Addr) (m : PySem.Str → Option Value) (s : Shared) (Q E : Value → Shared → Prop),
    Below A₀ base outer h₀ → Fr h₀ L s.heap m → K.In h₀ → News h₀ L s.heap news → Top p loose mean mg mb h₀ → K.In base → Top p loose mean mg mb base → KtsDicts (outer.filterMap (·.frame)) h₀ → cs.kind = .function → dp + lev + 1 < recursionLimit → un + 10 * lev + 30 < cLine →
    (∀ (v : Value) (own : List (Addr × Obj)) (h₀' h' : Heap) (tk' : Nat), KtsTurn (outer.filterMap (·.frame)) h₀ h₀' → Fr h₀' L h' m → News h₀' L h' (own ++ news) → Above own news → Below A₀ base outer h₀' → K.In h₀' → Top p loose mean mg mb h₀' → KtsDicts (outer.filterMap (·.frame)) h₀' → R v own →
      Q v { s with heap := h', toks := tk' }) →
    wpAny (model prog w) (ktrTop dp un (some []) cn cs L a ccd [] outer) (call (.ref f) args kw) Q E s
section
variable {prog : Program} {w : World} {K : Frag} {p : Program} {loose : List PySem.Str} {mean : ExcName → Option Value} {mg mb : PySem.Str → Option Value}
  {f : Addr} {args : List Value} {kw : List (PySem.Str × Value)} {news : List (Addr × Obj)} {R : Value → List (Addr × Obj) → Prop} {lev : Nat}
  {name : PySem.Str} {params : Arguments} {body : List Stmt} {scope : Scope} {dV kV doc pm cdv ct oc : Value} {an od : Option Addr} {osl : Array (Option Value)} {binds : List (PySem.Str × Value)}
theorem does_defS (ho : K.lookup f = some ⟨oc, od, .func (fnOf name name params body scope dV kV doc pm an cdv ct), osl⟩) (hcd : codeIn K cdv name = true)
    (hbind : ∀ s : Shared, K.In s.heap → BindsTo s (fnOf name name params body scope dV kV doc pm an cdv ct) ⟨args, kw⟩ binds) (hloc : ∀ y ∈ binds, scope.names.lookup y.1 = some .local)
    (hco : scope.isCoroutine = false) (hgen : scope.isGenerator = false) (hk : scope.kind = .function) (hcell : ∀ x ∈ scope.names, x.2 ≠ .cell)
    (h : ∀ (dp un : Nat) (outer : List Env) (A₀ : Around) (base g : Heap) (L : Addr) (s : Shared),
      Below A₀ base outer g → Fr g L s.heap (fun y => binds.reverse.lookup y) → News g L s.heap news → K.In g → Top p loose mean mg mb g → K.In base → Top p loose mean mg mb base → KtsDicts (outer.filterMap (·.frame)) g → dp + 1 + lev < recursionLimit → un + 3 + 10 * lev + 20 < cLine →
      wpAny (model prog w) (ktrTop (dp + 1) (un + 3) (some []) name scope L f cdv [] outer) (execs body (envOf name scope L f cdv)) (BodyEndS (outer.filterMap (·.frame)) g L news R s)
        (fun _ _ => False) s) :
    DoesS prog w K p loose mean mg mb f args kw news lev R := by
  intro dp un cn cs a ccd outer A₀ base h₀ L m s Q E B F X N T XB TB D hck hd hu hret
  refine wpAny_call ?_
  have X' := X.keeps F.keep
  refine code_defS (A := ktrTop dp un (some []) cn cs L a ccd [] outer) (cn := cn) (cs := cs) (a := a) (ccd := ccd) B F X N T XB TB D KtsTurn.refl rfl ho hcd (by show dp < recursionLimit; omega) (hbind s X') hloc (fun g L' h₁ FG F' N' B' Xg Tg Dg => ?_) hck hco hgen hk hcell
  have hh := h dp un (envOf cn cs L a ccd :: outer) _ base g L' { s with heap := h₁, toks := s.toks + binds.length } B' F' N' Xg Tg XB TB Dg (by omega) (by omega)
  refine wpAny_mono hh (fun fl s' hb => ?_) fun _ _ e => e.elim
  obtain ⟨g', v, own, h', tk', m', Tn, hfl, rfl, F'', N'', ha, hR⟩ := hb
  rcases hfl with rfl | ⟨rfl, rfl⟩
  · exact leaveS_r F'' N'' Tn fun h₀' T' F₃ N₃ B₃ X₃ T₃ D₃ => hret v own h₀' h' tk' T' F₃ N₃ ha B₃ X₃ T₃ D₃ hR
  · exact leaveS_r F'' N'' Tn fun h₀' T' F₃ N₃ B₃ X₃ T₃ D₃ => hret .none own h₀' h' tk' T' F₃ N₃ ha B₃ X₃ T₃ D₃ hR
end
end Ex

namespace Ex
open PySem.Sem (wp)
section
variable {prog : Program} {w : World} {K : Frag} {p : Program} {loose : List PySem.Str} {mean : ExcName → Option Value} {mg mb : PySem.Str → Option Value}
  {f : Addr} {args : List Value} {kw : List (PySem.Str × Value)} {news : List (Addr × Obj)} {R : Value → List (Addr × Obj) → Prop} {lev : Nat}
  {name : PySem.Str} {params : Arguments} {body : List Stmt} {scope : Scope} {dV kV doc pm cdv ct oc : Value} {an od : Option Addr} {osl : Array (Option Value)} {binds : List (PySem.Str × Value)}
end
end Ex

namespace Ex
/-- the objects of the frames below, as they stand in g -/
def frsOf (fs : List Addr) (g : Heap) : List (Addr × Obj) := fs.filterMap fun b => (g.get? b).map fun o => (b, o)
theorem frs_mem {fs : List Addr} {g : Heap} {b : Addr} {o : Obj} (hb : b ∈ fs) (h : g.get? b = some o) : (b, o) ∈ frsOf fs g :=
  List.mem_filterMap.mpr ⟨b, hb, by rw [h]; rfl⟩
theorem frs_of {fs : List Addr} {g : Heap} {q : Addr × Obj} (h : q ∈ frsOf fs g) : q.1 ∈ fs ∧ g.get? q.1 = some q.2 := by
  obtain ⟨b, hb, e⟩ := List.mem_filterMap.mp h
  cases q' : g.get? b with
  | none => rw [q'] at e; cases e
  | some o => rw [q'] at e; cases e; exact ⟨hb, q'⟩
section
variable {fs : List Addr} {h₀ g h : Heap} {L : Addr} {m : PySem.Str → Option Value} {tl : List (Addr × Obj)}
theorem turn_back (T : KtsTurn fs h₀ g) {b : Addr} {o : Obj} (hb : b ∉ fs) (h : g.get? b = some o) : h₀.get? b = some o := by
  cases q : h₀.get? b with
  | none => rw [T.none_ b q] at h; cases h
  | some o' => rw [T.other b o' q hb] at h; exact h
theorem fr_hide (T : KtsTurn fs h₀ g) (F : Fr g L h m) : Fr (hideAll h₀ fs) L h m :=
  ⟨F.ns, fun b o q => by
    have h1 := of_hideAll _ q
    have hb : b ∉ fs := fun hb => by rw [hideAll_none _ hb] at q; cases q
    exact F.keep b o (T.other b o h1 hb), by rw [hideAll_size]; exact T.size ▸ F.above⟩
theorem news_hide (T : KtsTurn fs h₀ g) (F : Fr g L h m) (N : News g L h tl) : News (hideAll h₀ fs) L h (frsOf fs g ++ tl) := fun q hq => by
  rcases List.mem_append.mp hq with hq | hq
  · obtain ⟨h1, h2⟩ := frs_of hq
    exact ⟨F.keep _ _ h2, (fun e => by rw [e, kts_self F] at h2; cases h2), hideAll_none _ h1⟩
  · refine ⟨(N q hq).1, (N q hq).2.1, ?_⟩
    cases e : (hideAll h₀ fs).get? q.1 with
    | none => rfl
    | some o => have := turn_none T (N q hq).2.2; rw [of_hideAll _ e] at this; cases this
theorem frs_off (N : News g L h tl) : ∀ q ∈ frsOf fs g, AllNe q.1 tl := fun q hq p hp e => by
  have h1 := (frs_of hq).2
  have h2 := (N p hp).2.2
  rw [e, h1] at h2; cases h2
theorem fr_show (T : KtsTurn fs h₀ g) (hL : L ∉ fs) (hab : h₀.objs.size ≤ L) (F : Fr (hideAll h₀ fs) L h m) (N : News (hideAll h₀ fs) L h (frsOf fs g ++ tl)) : Fr g L h m :=
  ⟨F.ns, fun b o q => by
    by_cases hb : b ∈ fs
    · exact (N (b, o) (List.mem_append_left _ (frs_mem hb q))).1
    · exact F.keep b o (hideAll_get _ (turn_back T hb q) hb), by rw [T.size]; exact hab⟩
theorem news_show (T : KtsTurn fs h₀ g) (hfs : ∀ b ∈ fs, ∃ o, h₀.get? b = some o) (off : ∀ q ∈ frsOf fs g, AllNe q.1 tl) (N : News (hideAll h₀ fs) L h (frsOf fs g ++ tl)) : News g L h tl := fun q hq => by
  obtain ⟨h1, h2, h3⟩ := N q (List.mem_append_right _ hq)
  refine ⟨h1, h2, ?_⟩
  cases e : g.get? q.1 with
  | none => rfl
  | some o =>
    by_cases hb : q.1 ∈ fs
    · exact absurd rfl (off _ (frs_mem hb e) q hq)
    · rw [hideAll_get _ (turn_back T hb e) hb] at h3; cases h3
theorem below_turn {A₀ : Around} {base : Heap} {outer : List Env} (T : KtsTurn (outer.filterMap (·.frame)) h₀ g) (B : Below A₀ base outer h₀) : Below A₀ base outer g :=
  ⟨B.stack, fun b o e => T.other b o (B.stays b o e) (fun hm => by rw [(B.frames.mem hm).1] at e; cases e), B.frames.of_keeps fun b o e _ => by
    obtain ⟨sl', hs'⟩ := T.up e
    exact ⟨_, hs', rfl⟩⟩
end
def TurnEndS (fs : List Addr) (h₀ : Heap) (L : Addr) (tl : List (Addr × Obj)) (J : (PySem.Str → Option Value) → Prop) (s₁ : Shared) (Q : Flow → Shared → Prop) (f : Flow) (s₂ : Shared) : Prop :=
  match f with
  | .ret v => Q (.ret v) s₂
  | .brk => Q .next s₂
  | _ => ∃ g' h' tk' m', KtsTurn fs h₀ g' ∧ s₂ = { s₁ with heap := h', toks := tk' } ∧ Fr g' L h' m' ∧ News g' L h' tl ∧ J m'
end Ex

/-- the value of figures to the base 85 -/
def val85 (g : List Int) : Int := g.foldl (fun n f => n * 85 + f) 0
/-- five figures of v: the first takes all that is left -/
def canon (v : Int) : List Int := [v / 52200625, v / 614125 % 85, v / 7225 % 85, v / 85 % 85, v % 85]
theorem val_canon (v : Int) : val85 (canon v) = v := by
  show ((((0 * 85 + v / 52200625) * 85 + v / 614125 % 85) * 85 + v / 7225 % 85) * 85 + v / 85 % 85) * 85 + v % 85 = v
  omega
/-- the figures and the carry when the list is read from its front -/
def rip (xs : List Int) : List Int × Int := xs.foldl (fun q f => ((f + q.2) % 85 :: q.1, (f + q.2) / 85)) ([], 0)
theorem rip_succ {xs : List Int} {i : Nat} {n : Int} (h : xs[i]? = some n) : rip (xs.take (i + 1)) = ((n + (rip (xs.take i)).2) % 85 :: (rip (xs.take i)).1, (n + (rip (xs.take i)).2) / 85) := by
  unfold rip
  rw [List.take_add_one, h]; simp
theorem rip_len (xs : List Int) : (rip xs).1.length = xs.length := by
  have key : ∀ (xs : List Int) (q : List Int × Int), (xs.foldl (fun q f => ((f + q.2) % 85 :: q.1, (f + q.2) / 85)) q).1.length = q.1.length + xs.length := by
    intro xs
    induction xs with
    | nil => intro q; rfl
    | cons x r ih => intro q; rw [List.foldl_cons, ih, List.length_cons, List.length_cons]; omega
  have := key xs ([], 0)
  simpa [rip] using this
theorem rip_canon (g0 g1 g2 g3 g4 : Int) : (g0 + (rip [g4, g3, g2, g1]).2) :: (rip [g4, g3, g2, g1]).1 = canon (val85 [g0, g1, g2, g3, g4]) := by
  show [g0 + (g1 + (g2 + (g3 + (g4 + 0) / 85) / 85) / 85) / 85, (g1 + (g2 + (g3 + (g4 + 0) / 85) / 85) / 85) % 85, (g2 + (g3 + (g4 + 0) / 85) / 85) % 85, (g3 + (g4 + 0) / 85) % 85, (g4 + 0) % 85] = canon (((((0 * 85 + g0) * 85 + g1) * 85 + g2) * 85 + g3) * 85 + g4)
  unfold canon
  simp only [List.cons.injEq, and_true]
  refine ⟨?_, ?_, ?_, ?_, ?_⟩ <;> omega
theorem allNe_cons' {a : Addr} {q : Addr × Obj} {l : List (Addr × Obj)} (h : q.1 ≠ a) (r : AllNe a l) : AllNe a (q :: l) := fun p hp => by
  rcases List.mem_cons.mp hp with rfl | hp
  · exact h
  · exact r p hp

/-- the order of two lists of figures, as Python's >= has it -/
def geL : List Int → List Int → Bool
  | [], [] => true
  | [], _ :: _ => false
  | _ :: _, [] => true
  | a :: r, b :: t => if a = b then geL r t else decide (b ≤ a)
namespace Or2
open PySem.AutoSeq1 (wpAny_loadPart')
open MeetsSeq MeetsSeq2 MeetsSeq3
theorem ge_loop (l b : Addr) (vs us : List Value) (ns ms : List Int) (hv : IntsAre vs ns) (hu : IntsAre us ms) (hsz : vs.length = us.length) (n n2 : Nat) (k : Nat) :
    ∀ i : Nat, vs.length - i = k → Meets (Builtin.«list.__eq__.loop» ⟨[.ref l, .ref b, rawInt i, rawInt 5], []⟩)
      (fun _ R s => s.heap.get? l = some { cls := .type "list", dict := none, data := .seq vs.toArray n, slots := #[] } ∧ s.heap.get? b = some { cls := .type "list", dict := none, data := .seq us.toArray n2, slots := #[] } ∧
        R (.ok (.ret (.bool (geL (ns.drop i) (ms.drop i))))) s) := by
  have h1 := hv.length
  have h2 := hu.length
  induction k with
  | zero =>
    intro i hk prog w A R s h
    obtain ⟨hp, g, d, tk, os⟩ := s; obtain ⟨hl, hb, h⟩ := h
    wp_walk using wpAny_loadPart' hl, wpAny_loadPart' hb
    have hi1 : vs.toArray[((i : Nat) : Int).toNat]? = none := by simp; omega
    have hi2 : us.toArray[((i : Nat) : Int).toNat]? = none := by simp; omega
    rw [List.drop_of_length_le (by omega), List.drop_of_length_le (by omega)] at h
    rw [hi1, hi2]
    wp_walk using wpAny_loadPart' hl, wpAny_loadPart' hb
    show R (.ok (.ret (.bool (decide (vs.toArray.size ≥ us.toArray.size))))) _
    rw [List.size_toArray, List.size_toArray, hsz]
    simpa [geL] using h
  | succ k ih =>
    intro i hk prog w A R s h
    obtain ⟨hp, g, d, tk, os⟩ := s; obtain ⟨hl, hb, h⟩ := h
    wp_walk using wpAny_loadPart' hl, wpAny_loadPart' hb
    have hlt : i < vs.length := by omega
    have hlt2 : i < us.length := by omega
    obtain ⟨x, tx, e1, e2⟩ := hv.at i vs[i] (List.getElem?_eq_getElem hlt)
    obtain ⟨y, ty, f1, f2⟩ := hu.at i us[i] (List.getElem?_eq_getElem hlt2)
    have hi1 : vs.toArray[((i : Nat) : Int).toNat]? = some (.int x tx) := by simp [hlt, e1]
    have hi2 : us.toArray[((i : Nat) : Int).toNat]? = some (.int y ty) := by simp [hlt2, f1]
    have hc : ((i : Int) + 1) = ((i + 1 : Nat) : Int) := by push_cast; rfl
    have d1 : ns.drop i = x :: ns.drop (i + 1) := by
      obtain ⟨hh, e⟩ := List.getElem?_eq_some_iff.mp e2
      rw [List.drop_eq_getElem_cons hh, e]
    have d2 : ms.drop i = y :: ms.drop (i + 1) := by
      obtain ⟨hh, e⟩ := List.getElem?_eq_some_iff.mp f2
      rw [List.drop_eq_getElem_cons hh, e]
    rw [d1, d2, geL] at h
    rw [hi1, hi2]
    refine wpAny_bind (wpAny_eqBool_int ?_)
    by_cases hxy : x = y
    · rw [if_pos hxy] at h
      rw [show (x == y) = true by simp [hxy]]
      wp_walk
      rw [hc]
      exact ⟨plainId_quiet plain_eq_loop _, codeAny_builtin entry_eq_loop (by
        rw [Around.under_plainId plain_eq_loop _]
        exact ih (i + 1) (by omega) prog w A R _ ⟨hl, hb, h⟩)⟩
    · rw [if_neg hxy] at h
      rw [show (x == y) = false by simp [hxy]]
      wp_walk using wpAny_loadPart' hl, wpAny_loadPart' hb
      rw [hi1, hi2]
      dsimp only
      refine wpAny_bind ?_
      show wpAny _ _ (compareOp .GtE (.int x tx) (.int y ty)) _ _ _
      refine PyProof.Rows.ge_int ?_
      exact wpAny_pure h
theorem ge_list {prog : Program} {w : World} {A : Around} {E : Value → Shared → Prop} {s : Shared} {h₀ : Heap} {L l b : Addr} {news : List (Addr × Obj)} {vs us : List Value} {k k' : Nat} {ns ms : List Int} {Q : Value → Shared → Prop} (N : News h₀ L s.heap news)
    (hm1 : (l, Ls.lsO vs k) ∈ news) (hm2 : (b, Ls.lsO us k') ∈ news) (h1 : IntsAre vs ns) (h2 : IntsAre us ms) (hsz : vs.length = us.length) (hu : A.units < cLine) (h : Q (.bool (geL ns ms)) s) : wpAny (model prog w) A (compareOp .GtE (.ref l) (.ref b)) Q E s := by
  have g : Meets (Builtin.«list.__ge__» ⟨[.ref l, .ref b], []⟩) (fun _ R s => s.heap.get? l = some (Ls.lsO vs k) ∧ s.heap.get? b = some (Ls.lsO us k') ∧ R (.ok (.ret (.bool (geL ns ms)))) s) := by
    intro prog w A R s h
    obtain ⟨hp, g, d, tk, os⟩ := s; obtain ⟨hl, hb, h⟩ := h
    have f3 := AutoSeq1.sub_list_list
    wp_walk using wpAny_loadPart' hl, wpAny_loadPart' hb
    exact ⟨plainId_quiet plain_eq_loop _, codeAny_builtin entry_eq_loop (by
      rw [Around.under_plainId plain_eq_loop _]
      exact ge_loop l b vs us ns ms h1 h2 hsz k k' _ 0 rfl prog w A R _ ⟨hl, hb, h⟩)⟩
  exact richCompare_meets_room (op := .GtE) ⟨_, (N _ hm1).1, rfl⟩ ⟨_, (N _ hm2).1, rfl⟩ F.slot_list_ge F.entry_list_ge (F.args_list_ge_2 _ _) g ⟨(N _ hm1).1, (N _ hm2).1, ⟨fun x => (by cases x), h⟩⟩ hu
end Or2
theorem geL_canon (v : Int) : geL (canon v) [82, 23, 54, 12, 1] = decide (4294967296 ≤ v) := by
  unfold canon
  simp only [geL]
  repeat' split
  all_goals (first | (symm; exact decide_eq_true (by omega)) | exact decide_eq_decide.mpr (by omega))

theorem top_off_41 : True := by
  w_top off
  trivial
section
local macro_rules | `(tactic| walk_at "pyIter ref") => `(tactic| refine Stop.intro ?_)
variable {w : World} {p : Program} {loose : List PySem.Str} {mean : ExcName → Option Value} {mg mb : PySem.Str → Option Value} {news : List (Addr × Obj)}
local macro_rules | `(tactic| walk_at "binaryOp Add ref ref") => `(tactic| refine Stop.intro ?_)
local macro_rules | `(tactic| walk_at "memq") => `(tactic| repeat (first | exact List.mem_cons_self | assumption | refine List.mem_cons_of_mem _ ?_))
local macro_rules | `(tactic| walk_at "subscriptTail") => `(tactic| ((with_reducible rename News _ _ _ _ => N'); refine Ls.item N' (by walk_at "memq") (by decide) (by decide) (by rfl) ?_ (by with_unfolding_all rfl)))
theorem c_rippled (l : Addr) (k : Nat) (g0 g1 g2 g3 g4 : Int) (t0 t1 t2 t3 t4 : Tok) (hm : (l, Ls.lsO [.int g0 t0, .int g1 t1, .int g2 t2, .int g3 t3, .int g4 t4] k) ∈ news) :
    Does PySem.Challenge.rw_kq0071_02.row.prog w (hd.heap_39 w.params) p loose mean mg mb 71 [.ref l] [] news 2 (fun v own => ∃ a vs k, v = .ref a ∧ own = [(a, Ls.lsO vs k)] ∧ IntsAre vs (canon (val85 [g0, g1, g2, g3, g4]))) := by
  refine' does_def (binds := [(PySem.Str.ofString "group", .ref l)]) ?ho ?hcd ?hbind ?hloc ?hco ?hgen ?hk ?hcell ?h
  walk_at "enter"
  intro dp un outer A₀ base g L s B F N X T hd hu hlt
  k_fold
  k_steps
  (with_reducible rename Fr _ _ _ _ => F1)
  (with_reducible rename News _ _ _ _ => N1)
  rename_i lf _ lf0 _ D _ lD
  have lf1 := allLt_intro lf0
  have hI : IntsAre [.int g4 t4, .int g3 t3, .int g2 t2, .int g1 t1] [g4, g3, g2, g1] := .cons _ _ (.cons _ _ (.cons _ _ (.cons _ _ .nil)))
  refine' for_list (L := L) (l := D) (vs := [.int g4 t4, .int g3 t3, .int g2 t2, .int g1 t1]) (k := 0) (nx₀ := [(lf, Ls.lsO [] 0)]) (fix := (D, Ls.lsO [.int g4 t4, .int g3 t3, .int g2 t2, .int g1 t1] 0) :: news)
    (fun i m nx => ∃ a vs kk c, nx = [(a, Ls.lsO vs kk)] ∧ AllLt a news ∧ IntsAre vs (rip ([g4, g3, g2, g1].take i)).1 ∧ m = ovr [(PySem.Str.ofString "figures", .ref a), (PySem.Str.ofString "carry", .int (rip ([g4, g3, g2, g1].take i)).2 c)] [PySem.Str.ofString "f"] m
      (fun y => [(PySem.Str.ofString "group", Value.ref l)].reverse.lookup y)) ?hL ?hh List.mem_cons_self F1 ?N ?hff ?hJ ?turn ?done
  case hL => rfl
  case hh => rfl
  case N => exact fun p hp => N1 p ((by walk_at "sub" : ∀ p ∈ [(lf, Ls.lsO [] 0)] ++ _, p ∈ _) p hp)
  case hff => intro q hq; rw [List.mem_singleton.mp hq]; exact allNe_cons' (Nat.ne_of_gt lD.1) (AllNe.ofLt lf1)
  case hJ => exact ⟨lf, [], 0, _, rfl, lf1, .nil, ovr_of (keys_cons rfl (keys_cons rfl keys_nil)) (by walk_at "off")⟩
  case turn =>
    rintro i v m₁ nx h tk tl hv ⟨a, vs, kk, tc, rfl, hal, hvs, hm1⟩ hsub hne F' N'
    obtain ⟨n, tn, rfl, hn⟩ := IntsAre.at hI i v hv
    have hst := rip_succ hn
    have hvl := hvs.length
    rw [rip_len] at hvl
    have hvl4 : vs.length ≤ 4 := by rw [hvl, List.length_take]; simp; omega
    have hne' : AllNe a tl := hne (a, _) List.mem_cons_self
    generalize rip ([g4, g3, g2, g1].take i) = q at *
    rw [hm1] at F'
    rw [show [(a, Ls.lsO vs kk)] ++ tl = (a, Ls.lsO vs kk) :: tl from rfl] at N'
    (try k_fold)
    (try dsimp only)
    k_steps
    (with_reducible rename Fr _ _ _ _ => F2)
    (with_reducible rename News _ _ _ _ => N2)
    refine Ls.add (vs := [_]) (us := vs) F2 N2 List.mem_cons_self (List.mem_cons_of_mem _ List.mem_cons_self) (by simp; omega) ?_
    intro D3 h3 F3 N3 l4
    simp only [AllLt] at l4
    have l4t := l4.2.2
    k_steps
    (with_reducible rename Fr _ _ _ _ => F5)
    (with_reducible rename News _ _ _ _ => N5)
    refine ⟨_, _, _, [(D3, Ls.lsO ([_] ++ vs) 0)], rfl, F5, fun p hp => N5 p ((by walk_at "sub" : ∀ p ∈ [(D3, Ls.lsO ([_] ++ vs) 0)] ++ tl, p ∈ _) p hp), TurnOff1 (AllNe.ofLt l4t), D3, _, 0, _, rfl, allLt_intro fun p hp => allLt_mem l4t p (hsub p (List.mem_cons_of_mem _ hp)), (by rw [hst]; exact .cons _ _ hvs), ovr_of (keys_cons rfl (keys_cons (by rw [hst]; rfl) keys_nil)) (by walk_at "off")⟩
  case done =>
    rintro m₁ nx h tk ⟨a, vs, kk, tc, rfl, hal, hvs, hm1⟩ F' N' hff
    rw [List.take_of_length_le (by simp)] at hvs hm1
    have hvl := hvs.length
    rw [rip_len] at hvl
    have hvl4 : vs.length ≤ 4 := by rw [hvl]; simp
    have hcan := rip_canon g0 g1 g2 g3 g4
    generalize rip [g4, g3, g2, g1] = q at *
    rw [hm1] at F'
    rw [show [(a, Ls.lsO vs kk)] ++ ((D, Ls.lsO [.int g4 t4, .int g3 t3, .int g2 t2, .int g1 t1] 0) :: news) = (a, Ls.lsO vs kk) :: (D, Ls.lsO [.int g4 t4, .int g3 t3, .int g2 t2, .int g1 t1] 0) :: news from rfl] at N'
    (try k_fold)
    (try dsimp only)
    k_steps
    (with_reducible rename Fr _ _ _ _ => F2)
    (with_reducible rename News _ _ _ _ => N2)
    refine Ls.add (vs := [_]) (us := vs) F2 N2 List.mem_cons_self (List.mem_cons_of_mem _ List.mem_cons_self) (by simp; omega) ?_
    intro D3 h3 F3 N3 l4
    simp only [AllLt] at l4
    k_steps
    refine BodyEnd.ret (own := [(D3, Ls.lsO ([_] ++ vs) 0)]) F3 N3 (by walk_at "sub") (above_cons l4.2.2.2 above_nil) ⟨D3, _, 0, rfl, rfl, by rw [← hcan]; exact .cons _ _ hvs⟩
end

section
open LCg
variable {prog : Program} {w : World} {A : Around} {E : Value → Shared → Prop} {s : Shared} {h₀ : Heap} {L : Addr} {m : PySem.Str → Option Value} {env : Env}

/-- a comprehension over pairs: what its element gives is known for each turn, what the element made is forgotten -/
theorem pair_block {elt iter : Expr} {a b : PySem.Str} {pa pb tp : Pos} {kk : Nat} {scope : Scope} {cl : List (PySem.Str × Addr)} {pos : Pos} {s₂ : Shared} {I : Addr} {fp wr : List Addr} {n : Nat} {P Md : Nat → Value → Heap → Prop} {St : Nat → Heap → Prop} {Pr : Nat → Value → Value → Prop}
    {news : List (Addr × Obj)} {R : Nat → Value → Prop} {RR : Value → Addr → Result → Shared → Prop}
    (W : KTurns prog w A (.Tuple [.Name a pa, .Name b pb] kk tp) I fp wr n P Md St) (hP : ∀ i v h, P i v h → ∃ T x y, v = .ref T ∧ Pr i x y ∧ h.IsTuple T #[x, y])
    (hself : ∀ (s : Shared) (Q E : Value → Shared → Prop), St 0 s.heap → Q (.ref I) s → wpAny (model prog w) A (pyIter (.ref I)) Q E s)
    (hh : A.handled = none) (hsz : n ≤ sizeLine)
    (hcell : ∀ y ∈ scope.names, y.2 ≠ .cell) (hkind : scope.kind = .function) (hxa : scope.names.lookup a = some .local) (hxb : scope.names.lookup b = some .local) (hab : ¬ a = b)
    (hst : St 0 s₂.heap) (hfp : ∀ b ∈ fp, b < s₂.heap.objs.size) (hLf : L ∉ fp) (hwr : ∀ b ∈ wr, h₀.get? b = none) (hnw : ∀ p ∈ news, p.1 ∉ wr)
    (F : Fr h₀ L s₂.heap m) (N : News h₀ L s₂.heap news)
    (step : ∀ i x y C oC D ys m₂ own h tk, i < n → Pr i x y → NsObj oC m₂ → m₂ a = some x → m₂ b = some y → Fr h₀ L h m → News h₀ L h ((C, oC) :: (D, lst ys) :: (news ++ own)) →
      wpAny (model prog w) A (eval elt (compEnvC scope cl C env)) (EltEnd h₀ L m ((C, oC) :: (D, lst ys) :: (news ++ own)) (R i) { s₂ with heap := h, toks := tk }) (fun _ _ => False) { s₂ with heap := h, toks := tk })
    (hRR : ∀ D C h tk m' ys, Fr h₀ L h m → News h₀ L h ((D, lst ys) :: news) → Off1 D news → h.Ns C m' → h₀.get? C = none → h₀.get? D = none → C ≠ L → D ≠ L → C ≠ D → (∀ p ∈ news, p.1 ≠ C) → ys.length = n → (∀ i y, ys[i]? = some y → R i y) → RR (.ref D) C (.ok .next) { s₂ with heap := h, toks := tk }) :
    wpAny (model prog w) A (newList []) (fun acc s₃ => wpAny (model prog w) A (newFunctionEnv scope env.globals cl [] env.qual none .none (some env)) (fun cenv s₄ =>
      codeAny (model prog w) A (.compStart (.ListComp elt [⟨.Tuple [.Name a pa, .Name b pb] kk tp, iter, [], 0⟩] scope pos) 0 (.ref I) acc { cenv with scope := relabel scope env }) (RR acc cenv.locals) s₄) E s₃) E s₂ := by
  refine wpAny_newObj_type (wpAny_newFunctionEnv hcell (by intro y hy; simp at hy) (fun h₁ hns₁ hsb₁ => ?_) hkind)
  dsimp only at hns₁ hsb₁ ⊢
  generalize hH2 : s₂.heap.push { cls := .type "list", dict := none, data := .seq ([] : List Value).toArray } = H2 at hns₁ hsb₁ ⊢
  have hC : H2.objs.size = s₂.heap.objs.size + 1 := by rw [← hH2, Heap.size_push]
  have hDC : s₂.heap.objs.size ≠ H2.objs.size := by rw [hC]; exact Nat.ne_of_lt (Nat.lt_succ_self _)
  have below : ∀ b, b < s₂.heap.objs.size → b ≠ H2.objs.size ∧ b ≠ s₂.heap.objs.size := fun b hb => ⟨by rw [hC]; exact Nat.ne_of_lt (Nat.lt_succ_of_lt hb), Nat.ne_of_lt hb⟩
  have old : ∀ b o, s₂.heap.get? b = some o → h₁.get? b = some o := fun b o e => hsb₁.extBut b o (below b (Heap.lt_size e)).1 (Heap.get?_push_of_some _ (hH2 ▸ Heap.get?_push_of_some _ e))
  have hacc : h₁.get? s₂.heap.objs.size = some (lst []) := hsb₁.extBut _ _ hDC (Heap.get?_push_of_some _ (hH2 ▸ Heap.get?_push_size _ rfl))
  have fresh : ∀ a, s₂.heap.objs.size ≤ a → s₂.heap.get? a = none := fun a ha => by
    cases e : s₂.heap.get? a with
    | none => rfl
    | some o' => exact absurd (Heap.lt_size e) (Nat.not_lt.mpr ha)
  have fresh₀ : ∀ a, s₂.heap.objs.size ≤ a → h₀.get? a = none := fun a ha => by
    cases e : h₀.get? a with
    | none => rfl
    | some o' => have := F.keep a o' e; rw [fresh a ha] at this; cases this
  have hD₀ : h₀.get? s₂.heap.objs.size = none := fresh₀ _ (Nat.le_refl _)
  have hC₀ : h₀.get? H2.objs.size = none := fresh₀ _ (by rw [hC]; exact Nat.le_succ _)
  have hLlt : L < s₂.heap.objs.size := F.ns.lt
  have hDL : s₂.heap.objs.size ≠ L := Ne.symm (below L hLlt).2
  have hCL : H2.objs.size ≠ L := Ne.symm (below L hLlt).1
  have hCf : H2.objs.size ∉ fp := fun hm => (below _ (hfp _ hm)).1 rfl
  have hDf : s₂.heap.objs.size ∉ fp := fun hm => Nat.lt_irrefl _ (hfp _ hm)
  have hCw : H2.objs.size ∉ wr := fun hm => hCf (W.sub _ hm)
  have hDw : s₂.heap.objs.size ∉ wr := fun hm => hDf (W.sub _ hm)
  have hLw : L ∉ wr := fun hm => hLf (W.sub _ hm)
  have hnC : ∀ p ∈ news, p.1 ≠ H2.objs.size := fun p hp => (below _ (Heap.lt_size (N p hp).1)).1
  have hnD : ∀ p ∈ news, p.1 ≠ s₂.heap.objs.size := fun p hp => (below _ (Heap.lt_size (N p hp).1)).2
  have hst₁ : St 0 h₁ := W.frame _ _ _ hst fun b _ o e => old b o e
  have loop : ∀ s₃ : Shared, s₃ = { s₂ with heap := h₁, toks := s₂.toks + ([] : List (PySem.Str × Value)).length } →
      codeAny (model prog w) A (.compLoop (.ListComp elt [⟨.Tuple [.Name a pa, .Name b pb] kk tp, iter, [], 0⟩] scope pos) 0 (.ref I) (.ref s₂.heap.objs.size) (compEnvC scope cl H2.objs.size env))
        (RR (.ref s₂.heap.objs.size) H2.objs.size) s₃ := by
    rintro s₃ rfl
    refine kcp_loop
      (fun k s' => ∃ h' tk i ys m', s' = { s₂ with heap := h', toks := tk } ∧ i ≤ n ∧ k = n + 1 - i ∧ ys.length = i ∧ St i h' ∧ Fr h₀ L h' m ∧ h'.Ns H2.objs.size m' ∧
        News h₀ L h' ((s₂.heap.objs.size, lst ys) :: news) ∧ ∀ j y, ys[j]? = some y → R j y) ?_ (n + 1)
      ⟨h₁, _, 0, [], _, rfl, Nat.zero_le _, rfl, rfl, hst₁, F.keeps old, hns₁, fun p hp => ?_, fun j y hj => by simp at hj⟩
    · rintro k s' ⟨h', tk, i, ys, m', rfl, hi, rfl, hyl, hst', F', hn', N', hR'⟩
      by_cases hlt : i < n
      · refine W.item i _ _ _ hlt hst' fun v h₂ tk₂ hMd hk₂ => ?_
        refine W.go i v _ _ _ hMd fun h₃ hPv hst₃ hk₃ => ?_
        obtain ⟨T, x, y, rfl, hxy, hT⟩ := hP i v h₃ hPv
        have up₃ : ∀ c o, c ∉ wr → h'.get? c = some o → h₃.get? c = some o := fun c o hc e => hk₃ c o hc (hk₂ c o hc e)
        refine kcp_assign (env := compEnvC scope cl H2.objs.size env) hh hT (lookup_relabel_local hxa) (lookup_relabel_local hxb) (by simp [compEnvC, relabel, hkind]) (hn'.at' fun o e => up₃ _ o hCw e) fun h₄ tk₄ hn₄ hs₄ => ?_
        have up : ∀ c o, c ∉ wr → c ≠ H2.objs.size → h'.get? c = some o → h₄.get? c = some o := fun c o h1 h2 e => hs₄ c o h2 (up₃ c o h1 e)
        have hst₄ : St (i + 1) h₄ := W.frame _ _ _ hst₃ fun b hb o e => hs₄ b o (fun q => hCf ((show b = H2.objs.size from q) ▸ hb)) e
        obtain ⟨oC, heC, hoC⟩ := ns_obj hn₄
        have F₄ : Fr h₀ L h₄ m := ⟨F'.ns.at' fun o e => up _ o hLw (Ne.symm hCL) e, fun c o e => up c o (fun q => by rw [hwr c q] at e; cases e) (fun q => by rw [q, hC₀] at e; cases e) (F'.keep c o e), F'.above⟩
        have Nown : News h₀ L h₄ (PyProof.Rows.ownOf h₀ fp h₄) := news_ownOf hLf
        have N₄ : News h₀ L h₄ ((H2.objs.size, oC) :: (s₂.heap.objs.size, lst ys) :: (news ++ PyProof.Rows.ownOf h₀ fp h₄)) := fun q hq => by
          rcases List.mem_cons.mp hq with rfl | hq
          · exact ⟨heC, hCL, hC₀⟩
          rcases List.mem_cons.mp hq with rfl | hq
          · have z := N' _ List.mem_cons_self
            exact ⟨up _ _ hDw hDC z.1, z.2⟩
          rcases List.mem_append.mp hq with hq | hq
          · have z := N' q (List.mem_cons_of_mem _ hq)
            exact ⟨up _ _ (hnw q hq) (hnC q hq) z.1, z.2⟩
          · exact Nown q hq
        refine wpAny_mono (step i x y H2.objs.size oC s₂.heap.objs.size ys _ _ h₄ _ hlt hxy hoC (by simp [hab]) (by simp) F₄ N₄) (fun y' s₅ h₅ => ?_) fun _ _ e => e.elim
        obtain ⟨h₅, tk₅, rfl, F₅, N₅, hRy⟩ := h₅
        have zC := (N₅ (H2.objs.size, oC) List.mem_cons_self).1
        have zD := (N₅ (s₂.heap.objs.size, lst ys) (List.mem_cons_of_mem _ List.mem_cons_self)).1
        have hst₅ : St (i + 1) h₅ := W.frame _ _ _ hst₄ fun b hb o e => by
          cases hn : h₀.get? b with
          | some o₀ =>
            have : o₀ = o := by have q := F₄.keep b o₀ hn; rw [e] at q; exact (Option.some.inj q).symm
            exact this ▸ F₅.keep b o₀ hn
          | none => exact (N₅ _ (List.mem_cons_of_mem _ (List.mem_cons_of_mem _ (List.mem_append_right _ (mem_ownOf hb hn e))))).1
        refine append_at (hsz := by show ys.toArray.size ≤ sizeLine; rw [List.size_toArray, hyl]; exact Nat.le_trans hi hsz) zD fun h₆ hs₆ hD₆ => ?_
        refine ⟨n + 1 - (i + 1), by omega, h₆, tk₅, i + 1, ys ++ [y'], _, rfl, hlt, rfl, by rw [List.length_append, List.length_singleton, hyl], W.frame _ _ _ hst₅ fun b hb o e => hs₆.extBut b o (fun q => hDf (q ▸ hb)) e, F₅.change hs₆ hDL hD₀,
          (hoC.ns zC).sameBut hs₆ (Ne.symm hDC), fun q hq => ?_, fun j z hj => ?_⟩
        · rcases List.mem_cons.mp hq with rfl | hq
          · exact ⟨hD₆.trans (congrArg some (lst_snoc ys y')), hDL, hD₀⟩
          · have z := N₅ q (List.mem_cons_of_mem _ (List.mem_cons_of_mem _ (List.mem_append_left _ hq)))
            exact ⟨hs₆.extBut _ _ (hnD q hq) z.1, z.2⟩
        · by_cases hlt' : j < ys.length
          · rw [List.getElem?_append_left hlt'] at hj; exact hR' j z hj
          · have hj' : j = i := by
              have h1 := (List.getElem?_eq_some_iff.mp hj).1
              simp only [List.length_append, List.length_singleton] at h1
              omega
            subst hj'
            rw [← hyl, List.getElem?_append_right (Nat.le_refl _), Nat.sub_self] at hj
            simp only [List.getElem?_cons_zero, Option.some.injEq] at hj
            exact hj ▸ hRy
      · have hin : i = n := Nat.le_antisymm hi (Nat.not_lt.mp hlt)
        subst hin
        refine W.done _ _ _ hst' fun h₂ tk₂ hk₂ => ?_
        exact hRR _ _ h₂ tk₂ _ ys ⟨F'.ns.at' fun o e => hk₂ _ o hLw e, fun c o e => hk₂ c o (fun q => by rw [hwr c q] at e; cases e) (F'.keep c o e), F'.above⟩
          (fun q hq => ⟨hk₂ _ _ (by
            rcases List.mem_cons.mp hq with rfl | hq
            · exact hDw
            · exact hnw q hq) (N' q hq).1, (N' q hq).2⟩) (Off3.of (I := s₂.heap.objs.size) (C := s₂.heap.objs.size) fun p hp => ⟨hnD p hp, hnD p hp, hnD p hp⟩).one (hn'.at' fun o e => hk₂ _ o hCw e) hC₀ hD₀ hCL hDL (Ne.symm hDC) hnC hyl hR'
    · rcases List.mem_cons.mp hp with rfl | hp
      · exact ⟨hacc, hDL, hD₀⟩
      · exact ⟨old _ _ (N p hp).1, (N p hp).2⟩
  exact codeAny_compStart_list (loop _ rfl) (hself _ _ _ hst₁ (loop _ rfl))

/-- what a comprehension over pairs needs of its iterator -/
def PT (prog : Program) (w : World) (A : Around) (h₀ : Heap) (L : Addr) (m : PySem.Str → Option Value) (env : Env) (elt target : Expr) (a b : PySem.Str) (scope : Scope) (cl : List (PySem.Str × Addr)) (Fin : Shared → List Value → List (Addr × Obj) → Prop) (it : Value) (s₂ : Shared) : Prop :=
  ∃ (I : Addr) (fp wr : List Addr) (n : Nat) (P Md : Nat → Value → Heap → Prop) (St : Nat → Heap → Prop) (Pr : Nat → Value → Value → Prop) (news : List (Addr × Obj)) (R : Nat → Value → Prop),
    it = .ref I ∧ A.handled = none ∧ KTurns prog w A target I fp wr n P Md St ∧ (∀ i v h, P i v h → ∃ T x y, v = .ref T ∧ Pr i x y ∧ h.IsTuple T #[x, y]) ∧
    (∀ (s : Shared) (Q E : Value → Shared → Prop), St 0 s.heap → Q (.ref I) s → wpAny (model prog w) A (pyIter (.ref I)) Q E s) ∧ n ≤ sizeLine ∧ St 0 s₂.heap ∧ (∀ b ∈ fp, b < s₂.heap.objs.size) ∧ L ∉ fp ∧ (∀ b ∈ wr, h₀.get? b = none) ∧ (∀ p ∈ news, p.1 ∉ wr) ∧
    Fr h₀ L s₂.heap m ∧ News h₀ L s₂.heap news ∧
    (∀ i x y C oC D ys m₂ own h tk, i < n → Pr i x y → NsObj oC m₂ → m₂ a = some x → m₂ b = some y → Fr h₀ L h m → News h₀ L h ((C, oC) :: (D, lst ys) :: (news ++ own)) →
      wpAny (model prog w) A (eval elt (compEnvC scope cl C env)) (EltEnd h₀ L m ((C, oC) :: (D, lst ys) :: (news ++ own)) (R i) { s₂ with heap := h, toks := tk }) (fun _ _ => False) { s₂ with heap := h, toks := tk }) ∧
    ∀ ys : List Value, ys.length = n → (∀ i y, ys[i]? = some y → R i y) → Fin s₂ ys news

theorem pair_ListComp {elt iter : Expr} {a b : PySem.Str} {pa pb tp : Pos} {kk : Nat} {scope : Scope} {cl : List (PySem.Str × Addr)} {pos : Pos} {Q : Value → Shared → Prop} (_F₀ : Fr h₀ L s.heap m)
    (hclos : closureFor scope env = pure cl) (hcell : ∀ y ∈ scope.names, y.2 ≠ .cell) (hkind : scope.kind = .function)
    (hnames : ∀ y ∈ scope.names, y.2 = .local → scope.names.lookup y.1 = some .local) (hxa : scope.names.lookup a = some .local) (hxb : scope.names.lookup b = some .local) (hab : ¬ a = b)
    (h : wpAny (model prog w) A (eval iter env) (fun xv s₁ => wpAny (model prog w) A (pyIter xv) (PT prog w A h₀ L m env elt (.Tuple [.Name a pa, .Name b pb] kk tp) a b scope cl (fun s₂ => FinE h₀ L m s₂ Q)) E s₁) E s)
    (hs : ∀ x, foldedSetIterable iter env x = pure x := by intro _; rfl) :
    wpAny (model prog w) A (eval (.ListComp elt [⟨.Tuple [.Name a pa, .Name b pb] kk tp, iter, [], 0⟩] scope pos) env) Q E s := by
  rw [eval_ListComp]
  refine wpAny_comprehension_free (use := none) rfl hs hclos hkind hnames (wpAny_mono h (fun xv s₁ h₁ => wpAny_mono h₁ (fun it s₂ h₂ => ?_) fun _ _ e => e) fun _ _ e => e)
  obtain ⟨I, fp, wr, n, P, Md, St, Pr, news, R, rfl, hh, W, hP, hself, hsz, hst, hfp, hLf, hwr, hnw, F, N, step, fin⟩ := h₂
  refine pair_block W hP hself hh hsz hcell hkind hxa hxb hab hst hfp hLf hwr hnw F N step ?_
  intro D C h tk m' ys F' N' o1 hn hC₀ hD₀ hCL hDL hCD offC hyl hyR
  refine ⟨m', hn, fun h'' hs'' => fin ys hyl hyR D h'' tk (F'.change hs'' hCL hC₀) (fun p hp => ?_) o1⟩
  refine ⟨hs''.extBut _ _ ?_ (N' p hp).1, (N' p hp).2⟩
  rcases List.mem_cons.mp hp with rfl | hp
  · exact Ne.symm hCD
  · exact offC p hp

theorem pair_Assign {elt iter : Expr} {a b y : PySem.Str} {pa pb tp py : Pos} {kk : Nat} {scope : Scope} {cl : List (PySem.Str × Addr)} {pos spos : Pos} {Q : Flow → Shared → Prop} (_F₀ : Fr h₀ L s.heap m) (hLe : env.locals = L)
    (hsw : swapsWith (.ListComp elt [⟨.Tuple [.Name a pa, .Name b pb] kk tp, iter, [], 0⟩] scope pos) (some (.Name y py)) spos.line env = pure true)
    (hclos : closureFor scope env = pure cl) (hcell : ∀ z ∈ scope.names, z.2 ≠ .cell) (hkind : scope.kind = .function)
    (hnames : ∀ z ∈ scope.names, z.2 = .local → scope.names.lookup z.1 = some .local) (hxa : scope.names.lookup a = some .local) (hxb : scope.names.lookup b = some .local) (hab : ¬ a = b)
    (hy : env.kindOf y = some .local) (hp : (env.scope.kind == .class || (env.scope.kind == .module && env.locals != env.globals)) = false)
    (h : wpAny (model prog w) A (eval iter env) (fun xv s₁ => wpAny (model prog w) A (pyIter xv) (PT prog w A h₀ L m env elt (.Tuple [.Name a pa, .Name b pb] kk tp) a b scope cl (fun s₂ => FinA h₀ L m s₂ y Q)) E s₁) E s)
    (hs : ∀ x, foldedSetIterable iter env x = pure x := by intro _; rfl) :
    wpAny (model prog w) A (exec (.Assign [.Name y py] (.ListComp elt [⟨.Tuple [.Name a pa, .Name b pb] kk tp, iter, [], 0⟩] scope pos) spos) env) Q E s := by
  subst hLe
  rw [exec_Assign_Name_used _ _ _ _ hsw]
  refine wpAny_bind (wpAny_standAt (wpAny_bind ?_))
  show wpAny _ A (do let _ ← comprehension (.ListComp elt [⟨.Tuple [.Name a pa, .Name b pb] kk tp, iter, [], 0⟩] scope pos) scope env _ (newList []) false (eval iter env) (some (assign (.Name y py) env))) _ _ s
  refine wpAny_bind (wpAny_mono (wpAny_comprehension_free (use := some (assign (.Name y py) env)) (Q := fun _ s' => Q .next s') rfl hs hclos hkind hnames
    (wpAny_mono h (fun xv s₁ h₁ => wpAny_mono h₁ (fun it s₂ h₂ => ?_) fun _ _ e => e) fun _ _ e => e)) (fun _ s' hq => wpAny_pure (wpAny_pure hq)) fun _ _ e => e)
  obtain ⟨I, fp, wr, n, P, Md, St, Pr, news, R, rfl, hh, W, hP, hself, hsz, hst, hfp, hLf, hwr, hnw, F, N, step, fin⟩ := h₂
  refine pair_block W hP hself hh hsz hcell hkind hxa hxb hab hst hfp hLf hwr hnw F N step ?_
  intro D C h' tk m' ys F' N' o1 hn hC₀ hD₀ hCL hDL hCD offC hyl hyR
  show wpAny _ A (assign (.Name y py) env (.ref D)) _ _ _
  refine wpAny_assign_Name (wpAny_storeName_local hy F'.ns (fun h₂ hn₂ hs₂ => ?_) hp)
  have hL₀ : h₀.get? env.locals = none := Heap.get?_none_of_le F'.above
  have F₂ : Fr h₀ env.locals h₂ (fun z => if z = y then some (.ref D) else m z) := ⟨hn₂, fun b o e => hs₂.extBut b o (fun q => by rw [q, hL₀] at e; cases e) (F'.keep b o e), F'.above⟩
  refine ⟨m', hn.sameBut hs₂ hCL, fun h'' hs'' => fin ys hyl hyR D h'' _ (F₂.change hs'' hCL hC₀) (fun p hp => ?_) o1⟩
  have z : h₂.get? p.1 = some p.2 := hs₂.extBut _ _ (N' p hp).2.1 (N' p hp).1
  refine ⟨hs''.extBut _ _ ?_ z, (N' p hp).2⟩
  rcases List.mem_cons.mp hp with rfl | hp
  · exact Ne.symm hCD
  · exact offC p hp

theorem zip_PT {elt : Expr} {elts : List Expr} {kk : Nat} {tp : Pos} {a b : PySem.Str} {scope : Scope} {cl : List (PySem.Str × Addr)} {Fin : Shared → List Value → List (Addr × Obj) → Prop} {l1 l2 : Addr} {xs ys : List Value} {n1 n2 : Nat} {news : List (Addr × Obj)} (R : Nat → Value → Prop)
    (hh : A.handled = none) (F : Fr h₀ L s.heap m) (N : News h₀ L s.heap news) (hm1 : (l1, ({ cls := .type "list", data := .seq xs.toArray n1 } : Obj)) ∈ news) (hm2 : (l2, ({ cls := .type "list", data := .seq ys.toArray n2 } : Obj)) ∈ news) (hlen : xs.length = ys.length) (hsz : xs.length ≤ 1000)
    (step : ∀ g i x y C oC D zs m₂ own h tk, xs[i]? = some x → ys[i]? = some y → NsObj oC m₂ → m₂ a = some x → m₂ b = some y → Fr h₀ L h m → News h₀ L h ((C, oC) :: (D, lst zs) :: (news ++ own)) →
      wpAny (model prog w) A (eval elt (compEnvC scope cl C env)) (EltEnd h₀ L m ((C, oC) :: (D, lst zs) :: (news ++ own)) (R i) { ({ s with heap := g } : Shared) with heap := h, toks := tk }) (fun _ _ => False) { ({ s with heap := g } : Shared) with heap := h, toks := tk })
    (fin : ∀ g, ∀ zs : List Value, zs.length = xs.length → (∀ i y, zs[i]? = some y → R i y) → Fin { s with heap := g } zs news) :
    wpAny (model prog w) A (call (.type "zip") [.ref l1, .ref l2]) (fun xv s₁ => wpAny (model prog w) A (pyIter xv) (PT prog w A h₀ L m env elt (.Tuple elts kk tp) a b scope cl Fin) E s₁) E s := by
  have hax1 := N _ hm1
  have hax2 := N _ hm2
  have hl1 : s.heap.IsList l1 xs.toArray := ⟨_, hax1.1, rfl, n1, rfl⟩
  have hl2 : s.heap.IsList l2 ys.toArray := ⟨_, hax2.1, rfl, n2, rfl⟩
  have hlt1 : l1 < s.heap.objs.size := Heap.lt_size hax1.1
  have hlt2 : l2 < s.heap.objs.size := Heap.lt_size hax2.1
  have hLs : L < s.heap.objs.size := F.ns.lt
  have D : ZipApart (s.heap.objs.size + 4) (s.heap.objs.size + 2) (s.heap.objs.size + 3) s.heap.objs.size (s.heap.objs.size + 1) l1 l2 := ktu_apart _ _ _ hlt1 hlt2
  refine call_zip_2 hl1 hl2 fun h' hz hTI hTO hi1 hi2 hsz' hk => ?_
  refine wpAny_pyIter_zip hz ?_
  refine ⟨_, _, _, _, _, _, _, fun i x y => xs[i]? = some x ∧ ys[i]? = some y, news, R, rfl, hh, KTurns.ofWalksU (WalksT.zip2 hh _ _ _ _ _ _ _ D xs.toArray ys.toArray).toU, ?_, ?_, ?_, ⟨hz, hTI, ⟨_, _, hTO⟩, hi1, hi2, hl1.at fun o e => hk l1 o e, hl2.at fun o e => hk l2 o e⟩, ?_, ?_, ?_, ?_, F.keeps hk, N.grown hk, ?_, ?_⟩
  · rintro i v h ⟨T, vals, rfl, ⟨x, y, hx, hy, rfl⟩, hT⟩
    exact ⟨T, x, y, rfl, ⟨by simpa using hx, by simpa using hy⟩, hT⟩
  · intro s Q E st hQ
    exact wpAny_pyIter_zip st.1 hQ
  · rw [sizeLine_eq]; simp; omega
  · intro b hb
    rw [hsz']
    have hb' : b = s.heap.objs.size + 4 ∨ b = s.heap.objs.size + 2 ∨ b = s.heap.objs.size + 3 ∨ b = s.heap.objs.size ∨ b = s.heap.objs.size + 1 ∨ b = l1 ∨ b = l2 := by simpa using hb
    rcases hb' with rfl | rfl | rfl | rfl | rfl | rfl | rfl
    all_goals first | exact Nat.lt_of_lt_of_le hlt1 (Nat.le_add_right _ _) | exact Nat.lt_of_lt_of_le hlt2 (Nat.le_add_right _ _) | exact Nat.lt_add_of_pos_right (by decide) | exact Nat.add_lt_add_left (by decide) _
  · intro hI'
    have hb' : L = s.heap.objs.size + 4 ∨ L = s.heap.objs.size + 2 ∨ L = s.heap.objs.size + 3 ∨ L = s.heap.objs.size ∨ L = s.heap.objs.size + 1 ∨ L = l1 ∨ L = l2 := by simpa using hI'
    rcases hb' with e | e | e | e | e | e | e
    · exact ktu_ne 4 hLs e
    · exact ktu_ne 2 hLs e
    · exact ktu_ne 3 hLs e
    · exact Nat.ne_of_lt hLs e
    · exact ktu_ne 1 hLs e
    · exact hax1.2.1 e.symm
    · exact hax2.2.1 e.symm
  · intro b hb
    have hb' : b = s.heap.objs.size + 4 ∨ b = s.heap.objs.size + 3 ∨ b = s.heap.objs.size ∨ b = s.heap.objs.size + 1 := by simpa using hb
    rcases hb' with rfl | rfl | rfl | rfl
    · exact ktu_new F (Nat.le_add_right _ _)
    · exact ktu_new F (Nat.le_add_right _ _)
    · exact ktu_new F (Nat.le_refl _)
    · exact ktu_new F (Nat.le_add_right _ _)
  · intro p hp hI'
    have hb' : p.1 = s.heap.objs.size + 4 ∨ p.1 = s.heap.objs.size + 3 ∨ p.1 = s.heap.objs.size ∨ p.1 = s.heap.objs.size + 1 := by simpa using hI'
    have hlp := Heap.lt_size (N p hp).1
    rcases hb' with e | e | e | e
    · exact ktu_ne 4 hlp e
    · exact ktu_ne 3 hlp e
    · exact Nat.ne_of_lt hlp e
    · exact ktu_ne 1 hlp e
  · intro i x y C oC D' zs m₂ own h tk _ hxy
    exact step h' i x y C oC D' zs m₂ own h tk hxy.1 hxy.2
  · intro zs hzl hzR
    exact fin h' zs (by rw [hzl]; simp; omega) hzR

theorem enum_PT {elt : Expr} {elts : List Expr} {kk : Nat} {tp : Pos} {a b : PySem.Str} {scope : Scope} {cl : List (PySem.Str × Addr)} {Fin : Shared → List Value → List (Addr × Obj) → Prop} {l : Addr} {xs : List Value} {n1 : Nat} {news : List (Addr × Obj)} (R : Nat → Value → Prop)
    (hh : A.handled = none) (F : Fr h₀ L s.heap m) (N : News h₀ L s.heap news) (hm1 : (l, ({ cls := .type "list", data := .seq xs.toArray n1 } : Obj)) ∈ news) (hsz : xs.length ≤ 1000)
    (step : ∀ (g : Heap) (i : Nat) (t : Tok) y C oC D zs m₂ own h tk, xs[i]? = some y → NsObj oC m₂ → m₂ a = some (.int (i : Int) t) → m₂ b = some y → Fr h₀ L h m → News h₀ L h ((C, oC) :: (D, lst zs) :: (news ++ own)) →
      wpAny (model prog w) A (eval elt (compEnvC scope cl C env)) (EltEnd h₀ L m ((C, oC) :: (D, lst zs) :: (news ++ own)) (R i) { ({ s with heap := g } : Shared) with heap := h, toks := tk }) (fun _ _ => False) { ({ s with heap := g } : Shared) with heap := h, toks := tk })
    (fin : ∀ g, ∀ zs : List Value, zs.length = xs.length → (∀ i y, zs[i]? = some y → R i y) → Fin { s with heap := g } zs news) :
    wpAny (model prog w) A (call (.type "enumerate") [.ref l]) (fun xv s₁ => wpAny (model prog w) A (pyIter xv) (PT prog w A h₀ L m env elt (.Tuple elts kk tp) a b scope cl Fin) E s₁) E s := by
  have hax := N _ hm1
  have hl : s.heap.IsList l xs.toArray := ⟨_, hax.1, rfl, n1, rfl⟩
  have hlt : l < s.heap.objs.size := Heap.lt_size hax.1
  have hLs : L < s.heap.objs.size := F.ns.lt
  refine call_enumerate_list hl fun h' hE hI hsz' hk => ?_
  refine wpAny_pyIter_enum hE ?_
  refine ⟨_, _, _, _, _, _, _, fun i x y => (∃ t, x = .int (i : Int) t) ∧ xs[i]? = some y, news, R, rfl, hh, KTurns.ofWalksU (WalksT.enumerate hh (s.heap.objs.size + 1) s.heap.objs.size l (Nat.succ_ne_self _) (ktu_ne 1 hlt) (Nat.ne_of_lt hlt) xs.toArray).toU, ?_, ?_, ?_, ⟨⟨.none, hE⟩, hI, hl.at fun o e => hk l o e⟩, ?_, ?_, ?_, ?_, F.keeps hk, N.grown hk, ?_, ?_⟩
  · rintro i v h ⟨T, vals, rfl, ⟨t, x, hx, rfl⟩, hT⟩
    exact ⟨T, _, x, rfl, ⟨⟨t, rfl⟩, by simpa using hx⟩, hT⟩
  · intro s Q E st hQ
    obtain ⟨⟨old, he⟩, _⟩ := st
    exact wpAny_pyIter_enum he hQ
  · rw [sizeLine_eq]; simp; omega
  · intro b hb
    rw [hsz']
    have hb' : b = s.heap.objs.size + 1 ∨ b = s.heap.objs.size ∨ b = l := by simpa using hb
    rcases hb' with rfl | rfl | rfl
    · exact Nat.add_lt_add_left (by decide) _
    · exact Nat.lt_add_of_pos_right (by decide)
    · exact Nat.lt_of_lt_of_le hlt (Nat.le_add_right _ _)
  · intro hI'
    have hb' : L = s.heap.objs.size + 1 ∨ L = s.heap.objs.size ∨ L = l := by simpa using hI'
    rcases hb' with e | e | e
    · exact ktu_ne 1 hLs e
    · exact Nat.ne_of_lt hLs e
    · exact hax.2.1 e.symm
  · intro b hb
    have hb' : b = s.heap.objs.size + 1 ∨ b = s.heap.objs.size := by simpa using hb
    rcases hb' with rfl | rfl
    · exact ktu_new F (Nat.le_add_right _ _)
    · exact ktu_new F (Nat.le_refl _)
  · intro p hp hI'
    have hb' : p.1 = s.heap.objs.size + 1 ∨ p.1 = s.heap.objs.size := by simpa using hI'
    have hlp := Heap.lt_size (N p hp).1
    rcases hb' with e | e
    · exact ktu_ne 1 hlp e
    · exact Nat.ne_of_lt hlp e
  · rintro i x y C oC D' zs m₂ own h tk _ ⟨⟨t, rfl⟩, hy⟩
    exact step h' i t y C oC D' zs m₂ own h tk hy
  · intro zs hzl hzR
    exact fin h' zs (by rw [hzl]; simp) hzR
end

section
variable {prog : Program} {w : World} {A : Around} {E : Value → Shared → Prop} {s : Shared} {env : Env} {test : Expr} {body orelse : List Stmt} {Q : Flow → Shared → Prop}
def WhlEnd (J : Nat → Shared → Prop) (Q : Flow → Shared → Prop) (n : Nat) (f : Flow) (s : Shared) : Prop :=
  match f with
  | .next => ∃ k, k < n ∧ J k s
  | .cont => ∃ k, k < n ∧ J k s
  | .brk => Q .next s
  | .ret v => Q (.ret v) s
/-- a while loop by an invariant with a measure -/
theorem whl_inv (J : Nat → Shared → Prop) {pos : Pos} (hE : PassesOwn (model prog w) A env E)
    (turn : ∀ n s, J n s → wpAny (model prog w) A (isTrue test env (eval test env)) (fun b s₂ => WhlIf b (wpAny (model prog w) A (execs body env) (WhlEnd J Q n) E s₂) (wpAny (model prog w) A (execs orelse env) Q E s₂)) E s)
    (n : Nat) (h0 : J n s) : wpAny (model prog w) A (exec (.While test body orelse pos) env) Q E s := by
  refine whl_start 1 ?_
  have all : ∀ (N n : Nat) (s : Shared), n < N → J n s → WhlRest prog w A E env test body orelse Q 1 s := by
    intro N
    induction N with
    | zero => intro n s h; omega
    | succ N ih =>
      intro n s hn hJ
      refine whl_turn hE (wpAny_mono (turn n s hJ) (fun b s₂ h₂ => ?_) fun _ _ e => e)
      cases b with
      | false =>
        unfold WhlIf at h₂ ⊢
        rw [if_neg Bool.false_ne_true] at h₂ ⊢
        exact h₂
      | true =>
        unfold WhlIf at h₂ ⊢
        rw [if_pos rfl] at h₂ ⊢
        refine wpAny_mono h₂ (fun f s₃ h₃ => ?_) fun _ _ e => e
        have st : (∃ k, k < n ∧ J k s₃) → WhlRest prog w A E env test body orelse Q 0 s₃ := fun ⟨k, hk, hJk⟩ => ih k s₃ (by omega) hJk
        cases f with
        | next => exact st h₃
        | cont => exact st h₃
        | brk => exact h₃
        | ret v => exact h₃
  exact all (n + 1) n s (by omega) h0
end
theorem five_of {ys : List Value} {f : Nat → Int} (hl : ys.length = 5) (h : ∀ (i : Nat) (y : Value), ys[i]? = some y → ∃ t, y = .int (f i) t) :
    ∃ t0 t1 t2 t3 t4, ys = [.int (f 0) t0, .int (f 1) t1, .int (f 2) t2, .int (f 3) t3, .int (f 4) t4] := by
  match ys, hl with
  | [y0, y1, y2, y3, y4], _ =>
    obtain ⟨t0, e0⟩ := h 0 y0 rfl
    obtain ⟨t1, e1⟩ := h 1 y1 rfl
    obtain ⟨t2, e2⟩ := h 2 y2 rfl
    obtain ⟨t3, e3⟩ := h 3 y3 rfl
    obtain ⟨t4, e4⟩ := h 4 y4 rfl
    exact ⟨t0, t1, t2, t3, t4, by rw [e0, e1, e2, e3, e4]⟩
theorem ints_five {ys : List Value} {a b c d e : Int} (h : IntsAre ys [a, b, c, d, e]) : ∃ t0 t1 t2 t3 t4, ys = [.int a t0, .int b t1, .int c t2, .int d t3, .int e t4] := by
  cases h with | cons _ t0 h => cases h with | cons _ t1 h => cases h with | cons _ t2 h => cases h with | cons _ t3 h => cases h with | cons _ t4 h => cases h; exact ⟨_, _, _, _, _, rfl⟩
def figAt (v : Int) (i : Nat) : Int := (canon v).getD i 0
def wholeAt (i : Nat) : Int := ([82, 23, 54, 12, 1] : List Int).getD i 0
theorem val_less (v : Int) : val85 [figAt v 0 - wholeAt 0, figAt v 1 - wholeAt 1, figAt v 2 - wholeAt 2, figAt v 3 - wholeAt 3, figAt v 4 - wholeAt 4] = v - 4294967296 := by
  have := val_canon v
  unfold val85 canon at this
  simp only [List.foldl_cons, List.foldl_nil] at this
  simp [val85, figAt, wholeAt, canon]
  omega
theorem val_more (v : Int) : val85 [figAt v 0 + wholeAt 0, figAt v 1 + wholeAt 1, figAt v 2 + wholeAt 2, figAt v 3 + wholeAt 3, figAt v 4 + wholeAt 4] = v + 4294967296 := by
  have := val_canon v
  unfold val85 canon at this
  simp only [List.foldl_cons, List.foldl_nil] at this
  simp [val85, figAt, wholeAt, canon]
  omega
theorem ints_fig {vs : List Value} {v : Int} (h : IntsAre vs (canon v)) : ∃ t0 t1 t2 t3 t4, vs = [.int (figAt v 0) t0, .int (figAt v 1) t1, .int (figAt v 2) t2, .int (figAt v 3) t3, .int (figAt v 4) t4] := ints_five h
theorem fig_item {v : Int} {t0 t1 t2 t3 t4 : Tok} {i : Nat} {x : Value} (h : ([.int (figAt v 0) t0, .int (figAt v 1) t1, .int (figAt v 2) t2, .int (figAt v 3) t3, .int (figAt v 4) t4] : List Value)[i]? = some x) : ∃ t, x = .int (figAt v i) t := by
  match i, h with
  | 0, h => cases h; exact ⟨_, rfl⟩
  | 1, h => cases h; exact ⟨_, rfl⟩
  | 2, h => cases h; exact ⟨_, rfl⟩
  | 3, h => cases h; exact ⟨_, rfl⟩
  | 4, h => cases h; exact ⟨_, rfl⟩
  | i + 5, h => simp at h
theorem whole_item {t0 t1 t2 t3 t4 : Tok} {i : Nat} {x : Value} (h : ([.int 82 t0, .int 23 t1, .int 54 t2, .int 12 t3, .int 1 t4] : List Value)[i]? = some x) : ∃ t, x = .int (wholeAt i) t := by
  match i, h with
  | 0, h => cases h; exact ⟨_, rfl⟩
  | 1, h => cases h; exact ⟨_, rfl⟩
  | 2, h => cases h; exact ⟨_, rfl⟩
  | 3, h => cases h; exact ⟨_, rfl⟩
  | 4, h => cases h; exact ⟨_, rfl⟩
  | i + 5, h => simp at h
theorem fig_neg (v : Int) : figAt v 0 < 0 ↔ v < 0 := by
  show v / 52200625 < 0 ↔ v < 0
  omega
theorem WhlEnd.next_ {J : Nat → Shared → Prop} {Q : Flow → Shared → Prop} {n : Nat} {s : Shared} (h : ∃ k, k < n ∧ J k s) : WhlEnd J Q n .next s := h

theorem top_off_42 : True := by
  w_top off
  trivial
section
variable {w : World} {p : Program} {loose : List PySem.Str} {mean : ExcName → Option Value} {mg mb : PySem.Str → Option Value} {news : List (Addr × Obj)}
local macro_rules | `(tactic| walk_at "exec While Compare") => `(tactic| refine Stop.intro ?_)
local macro_rules | `(tactic| walk_at "eval ListComp") => `(tactic| refine Stop.intro ?_)
local macro_rules | `(tactic| walk_at "exec While") => `(tactic| refine Stop.intro ?_)
local macro_rules | `(tactic| walk_at "call type:zip") => `(tactic| refine Stop.intro ?_)
local macro_rules | `(tactic| walk_at "memq") => `(tactic| repeat (first | exact List.mem_cons_self | assumption | refine List.mem_cons_of_mem _ ?_))
local macro_rules | `(tactic| walk_at "subscriptTail") => `(tactic| ((with_reducible rename News _ _ _ _ => N'); refine Ls.item N' (by walk_at "memq") (by decide) (by decide) (by rfl) ?_ (by with_unfolding_all rfl)))
theorem c_settled (l : Addr) (k : Nat) (g0 g1 g2 g3 g4 : Int) (t0 t1 t2 t3 t4 : Tok) (hm : (l, Ls.lsO [.int g0 t0, .int g1 t1, .int g2 t2, .int g3 t3, .int g4 t4] k) ∈ news) (V : Int) (hV : val85 [g0, g1, g2, g3, g4] = V) (hV1 : -12884901888 ≤ V) (hV2 : V < 12884901888) :
    Does PySem.Challenge.rw_kq0071_02.row.prog w (hd.heap_39 w.params) p loose mean mg mb 76 [.ref l] [] news 6 (fun v own => ∃ tp a vs k kt t, v = .ref tp ∧ own = [(tp, tupO [.ref a, .int (V / 4294967296) t] kt), (a, Ls.lsO vs k)] ∧ IntsAre vs (canon (V % 4294967296))) := by
  refine' does_def (binds := [(PySem.Str.ofString "group", .ref l)]) ?ho ?hcd ?hbind ?hloc ?hco ?hgen ?hk ?hcell ?h
  walk_at "enter"
  intro dp un outer A₀ base g L s B F N X T hd hu hlt
  k_fold
  k_steps
  (with_reducible rename Fr _ _ _ _ => F1)
  (with_reducible rename News _ _ _ _ => N1)
  rename_i wh _ lwh _
  have lwh1 := allLt_intro lwh
  refine does_use (c_rippled l k g0 g1 g2 g3 g4 t0 t1 t2 t3 t4 (List.mem_cons_of_mem _ hm)) (by k_asm) F1 (by k_asm) N1 (by k_asm) (by rfl) (by ktr_room) (by ktr_units) ?_
  rintro _ _ h2 tk2 F2 N2 ha2 ⟨a, vs, ka, rfl, rfl, hvs⟩
  simp only [List.nil_append, List.cons_append] at N2
  rw [hV] at hvs
  have ha3 : AllLt a news := (ha2 _ List.mem_cons_self).2
  k_steps
  (with_reducible rename Fr _ _ _ _ => F3)
  (with_reducible rename News _ _ _ _ => N3)
  refine' whl_inv (fun n s' => ∃ h tk m' a vs ka c tc V', s' = { s with heap := h, toks := tk } ∧
      m' = ovr [(PySem.Str.ofString "whole", .ref wh), (PySem.Str.ofString "figures", .ref a), (PySem.Str.ofString "carry", .int c tc)] [] m' (fun y => [(PySem.Str.ofString "group", Value.ref l)].reverse.lookup y) ∧
      Fr g L h m' ∧ News g L h ((a, Ls.lsO vs ka) :: (wh, Ls.lsO [Value.int 82 s.toks, Value.int 23 (s.toks + 1), Value.int 54 (s.toks + 1 + 1), Value.int 12 (s.toks + 1 + 1 + 1), Value.int 1 (s.toks + 1 + 1 + 1 + 1)] 0) :: news) ∧
      AllLt a news ∧ IntsAre vs (canon V') ∧ V' + c * 4294967296 = V ∧ 0 ≤ c ∧ c ≤ 3 ∧ (c = 0 ∨ 0 ≤ V') ∧ n = (3 - c).toNat) (by with_unfolding_all passes_own) ?turn 3 ?h0
  case h0 => exact ⟨_, _, _, a, vs, ka, 0, _, V, rfl, ovr_of (keys_cons rfl (keys_cons rfl (keys_cons rfl keys_nil))) (by walk_at "off"), F3, N3, ha3, hvs, by omega, by omega, by omega, .inl rfl, rfl⟩
  case turn =>
    rintro n _ ⟨h, tk, m', a, vs, ka, c, tc, V', rfl, hm', F', N', hal, hvs, hVc, hc0, hc3, hcV, hn⟩
    clear F3 N3
    rw [hm'] at F'
    obtain ⟨u0, u1, u2, u3, u4, rfl⟩ := ints_fig hvs
    (try k_fold)
    (try dsimp only)
    k_steps
    refine Or2.ge_list N' List.mem_cons_self (List.mem_cons_of_mem _ List.mem_cons_self) hvs (ms := [82, 23, 54, 12, 1]) (.cons _ _ (.cons _ _ (.cons _ _ (.cons _ _ (.cons _ _ .nil))))) rfl (by ktr_units) ?_
    rw [geL_canon]
    by_cases hge : 4294967296 ≤ V'
    · rw [decide_eq_true hge]
      have hval := val_less V'
      k_steps
      refine pair_ListComp F' (by with_unfolding_all rfl) (by decide) (by with_unfolding_all rfl) (by decide) (by with_unfolding_all rfl) (by with_unfolding_all rfl) (by decide) ?_
      k_steps
      (with_reducible rename Fr _ _ _ _ => F3)
      (with_reducible rename News _ _ _ _ => N3)
      refine zip_PT (fun i y => ∃ t, y = .int (figAt V' i - wholeAt i) t) rfl F3 N3 List.mem_cons_self (List.mem_cons_of_mem _ List.mem_cons_self) rfl (by show 5 ≤ 1000; decide) ?step ?fin
      case step =>
        intro g' i x y C oC D zs m₂ own h3 tk3 hx hy hC hma hmb F4 N4
        obtain ⟨tx, rfl⟩ := fig_item hx
        obtain ⟨ty, rfl⟩ := whole_item hy
        clear F3 N3
        simp only [List.cons_append] at N4
        (try k_fold)
        (try dsimp only)
        k_steps
        exact EltEnd.intro (by k_asm) (by k_asm) sub_refl ⟨_, rfl⟩
      case fin =>
        intro g' zs hzl hzR D h5 tk5 F5 N5 o5
        obtain ⟨v0, v1, v2, v3, v4, rfl⟩ := five_of hzl hzR
        clear F3 N3
        (try dsimp only)
        k_steps
        refine does_use (c_rippled D 5 _ _ _ _ _ v0 v1 v2 v3 v4 List.mem_cons_self) (by k_asm) F5 (by k_asm) N5 (by k_asm) (by rfl) (by ktr_room) (by ktr_units) ?_
        rintro _ _ h6 tk6 F6 N6 ha6 ⟨a', vs', ka', rfl, rfl, hvs'⟩
        simp only [List.nil_append, List.cons_append] at N6
        rw [hval] at hvs'
        have ha7 : AllLt a' news := (ha6 _ List.mem_cons_self).2.2.2
        clear F5 N5
        k_steps
        (with_reducible rename Fr _ _ _ _ => F8)
        (with_reducible rename News _ _ _ _ => N8)
        exact WhlEnd.next_ ⟨(3 - (c + 1)).toNat, by omega, _, _, _, a', vs', ka', c + 1, _, V' - 4294967296, rfl, ovr_of (keys_cons rfl (keys_cons rfl (keys_cons rfl keys_nil))) (by walk_at "off"), F8, fun p hp => N8 p ((by walk_at "sub" : ∀ p ∈ [(a', Ls.lsO vs' ka'), (wh, Ls.lsO [Value.int 82 s.toks, Value.int 23 (s.toks + 1), Value.int 54 (s.toks + 1 + 1), Value.int 12 (s.toks + 1 + 1 + 1), Value.int 1 (s.toks + 1 + 1 + 1 + 1)] 0)] ++ news, p ∈ _) p hp), ha7, hvs', by omega, by omega, by omega, .inr (by omega), rfl⟩
    · rw [decide_eq_false hge]
      k_steps
      (with_reducible rename Fr _ _ _ _ => F3)
      (with_reducible rename News _ _ _ _ => N3)
      refine' whl_inv (fun n s' => ∃ h tk m' a vs ka c tc V', s' = { s with heap := h, toks := tk } ∧
          m' = ovr [(PySem.Str.ofString "whole", .ref wh), (PySem.Str.ofString "figures", .ref a), (PySem.Str.ofString "carry", .int c tc)] [] m' (fun y => [(PySem.Str.ofString "group", Value.ref l)].reverse.lookup y) ∧
          Fr g L h m' ∧ News g L h ((a, Ls.lsO vs ka) :: (wh, Ls.lsO [Value.int 82 s.toks, Value.int 23 (s.toks + 1), Value.int 54 (s.toks + 1 + 1), Value.int 12 (s.toks + 1 + 1 + 1), Value.int 1 (s.toks + 1 + 1 + 1 + 1)] 0) :: news) ∧
          AllLt a news ∧ IntsAre vs (canon V') ∧ V' + c * 4294967296 = V ∧ -3 ≤ c ∧ c ≤ 3 ∧ V' < 4294967296 ∧ n = (3 + c).toNat) (by with_unfolding_all passes_own) ?turn2 (3 + c).toNat ?h1
      case h1 => exact ⟨_, _, _, a, _, ka, c, tc, V', rfl, ovr_of (keys_cons rfl (keys_cons rfl (keys_cons rfl keys_nil))) (by walk_at "off"), F3, N3, hal, hvs, by omega, by omega, by omega, by omega, rfl⟩
      case turn2 =>
        clear F3 N3 hm' hvs hVc hcV hc0 hc3 hn hge
        rintro n _ ⟨h, tk, m', a, vs, ka, c, tc, V', rfl, hm', F', N', hal, hvs, hVc, hc0, hc3, hcV, hn⟩
        rw [hm'] at F'
        obtain ⟨u0, u1, u2, u3, u4, rfl⟩ := ints_fig hvs
        (try k_fold)
        (try dsimp only)
        have hval := val_more V'
        have hneg := fig_neg V'
        k_steps
        by_cases hlt0 : figAt V' 0 < 0
        · refine WhlIf.yes (decide_eq_true hlt0) ?_
          have hV0 := hneg.mp hlt0
          k_steps
          refine pair_ListComp F' (by with_unfolding_all rfl) (by decide) (by with_unfolding_all rfl) (by decide) (by with_unfolding_all rfl) (by with_unfolding_all rfl) (by decide) ?_
          k_steps
          (with_reducible rename Fr _ _ _ _ => F3)
          (with_reducible rename News _ _ _ _ => N3)
          refine zip_PT (fun i y => ∃ t, y = .int (figAt V' i + wholeAt i) t) rfl F3 N3 List.mem_cons_self (List.mem_cons_of_mem _ List.mem_cons_self) rfl (by show 5 ≤ 1000; decide) ?step2 ?fin2
          case step2 =>
            intro g' i x y C oC D zs m₂ own h3 tk3 hx hy hC hma hmb F4 N4
            obtain ⟨tx, rfl⟩ := fig_item hx
            obtain ⟨ty, rfl⟩ := whole_item hy
            clear F3 N3
            simp only [List.cons_append] at N4
            (try k_fold)
            (try dsimp only)
            k_steps
            exact EltEnd.intro (by k_asm) (by k_asm) sub_refl ⟨_, rfl⟩
          case fin2 =>
            intro g' zs hzl hzR D h5 tk5 F5 N5 o5
            obtain ⟨v0, v1, v2, v3, v4, rfl⟩ := five_of hzl hzR
            clear F3 N3
            (try dsimp only)
            k_steps
            refine does_use (c_rippled D 5 _ _ _ _ _ v0 v1 v2 v3 v4 List.mem_cons_self) (by k_asm) F5 (by k_asm) N5 (by k_asm) (by rfl) (by ktr_room) (by ktr_units) ?_
            rintro _ _ h6 tk6 F6 N6 ha6 ⟨a', vs', ka', rfl, rfl, hvs'⟩
            simp only [List.nil_append, List.cons_append] at N6
            rw [hval] at hvs'
            have ha7 : AllLt a' news := (ha6 _ List.mem_cons_self).2.2.2
            clear F5 N5
            k_steps
            (with_reducible rename Fr _ _ _ _ => F8)
            (with_reducible rename News _ _ _ _ => N8)
            exact WhlEnd.next_ ⟨(3 + (c - 1)).toNat, by omega, _, _, _, a', vs', ka', c - 1, _, V' + 4294967296, rfl, ovr_of (keys_cons rfl (keys_cons rfl (keys_cons rfl keys_nil))) (by walk_at "off"), F8, fun p hp => N8 p ((by walk_at "sub" : ∀ p ∈ [(a', Ls.lsO vs' ka'), (wh, Ls.lsO [Value.int 82 s.toks, Value.int 23 (s.toks + 1), Value.int 54 (s.toks + 1 + 1), Value.int 12 (s.toks + 1 + 1 + 1), Value.int 1 (s.toks + 1 + 1 + 1 + 1)] 0)] ++ news, p ∈ _) p hp), ha7, hvs', by omega, by omega, by omega, by omega, rfl⟩
        · refine WhlIf.no (decide_eq_false hlt0) ?_
          have hV0 : ¬ V' < 0 := fun h => hlt0 (hneg.mpr h)
          have e1 : V % 4294967296 = V' := by omega
          have e2 : V / 4294967296 = c := by omega
          k_steps
          (with_reducible rename Fr _ _ _ _ => F8)
          (with_reducible rename News _ _ _ _ => N8)
          rename_i D _ lD
          exact BodyEnd.ret (own := [(D, tupO [.ref a, .int c tc] 0), (a, Ls.lsO _ ka)]) F8 N8 (by walk_at "sub") (above_cons lD.2.2 (above_cons hal above_nil)) ⟨D, a, _, _, _, _, rfl, by rw [e2], by rw [e1]; exact hvs⟩
end

theorem top_off_43 : True := by
  w_top off
  trivial
section
variable {w : World} {p : Program} {loose : List PySem.Str} {mean : ExcName → Option Value} {mg mb : PySem.Str → Option Value} {news : List (Addr × Obj)}
def worth (v : Int) : Int := (v % 171 - 85) * 85 ^ (v / 171 % 5).toNat
theorem c_worth (v : Int) (tv : Tok) :
    Does PySem.Challenge.rw_kq0071_02.row.prog w (hd.heap_39 w.params) p loose mean mg mb 83 [.int v tv] [] news 2 (fun u own => own = [] ∧ ∃ t, u = .int (worth v) t) := by
  refine' does_def (binds := [(PySem.Str.ofString "v", .int v tv)]) ?ho ?hcd ?hbind ?hloc ?hco ?hgen ?hk ?hcell ?h
  walk_at "enter"
  intro dp un outer A₀ base g L s B F N X T hd hu hlt
  k_fold
  k_steps
  walk_at "end"
  exact BodyEnd.ret (own := []) (by k_asm) (by k_asm) (fun _ h => h) above_nil ⟨rfl, _, rfl⟩
end

def addAt (v : Int) (i : Nat) : Int := if (i : Int) = 4 - v / 171 % 5 then v % 171 - 85 else 0
theorem val_added (v g0 g1 g2 g3 g4 c : Int) : val85 [g0 + addAt v 0, g1 + addAt v 1, g2 + addAt v 2, g3 + addAt v 3, g4 + addAt v 4 + c] = val85 [g0, g1, g2, g3, g4] + (v % 171 - 85) * 85 ^ (v / 171 % 5).toNat + c := by
  have h : v / 171 % 5 = 0 ∨ v / 171 % 5 = 1 ∨ v / 171 % 5 = 2 ∨ v / 171 % 5 = 3 ∨ v / 171 % 5 = 4 := by omega
  simp only [val85, List.foldl_cons, List.foldl_nil]
  rcases h with h | h | h | h | h <;> simp [addAt, h] <;> omega
def gAt (g0 g1 g2 g3 g4 : Int) (i : Nat) : Int := ([g0, g1, g2, g3, g4] : List Int).getD i 0
theorem g_item {g0 g1 g2 g3 g4 : Int} {t0 t1 t2 t3 t4 : Tok} {i : Nat} {x : Value} (h : ([.int g0 t0, .int g1 t1, .int g2 t2, .int g3 t3, .int g4 t4] : List Value)[i]? = some x) : ∃ t, x = .int (gAt g0 g1 g2 g3 g4 i) t := by
  match i, h with
  | 0, h => cases h; exact ⟨_, rfl⟩
  | 1, h => cases h; exact ⟨_, rfl⟩
  | 2, h => cases h; exact ⟨_, rfl⟩
  | 3, h => cases h; exact ⟨_, rfl⟩
  | 4, h => cases h; exact ⟨_, rfl⟩
  | i + 5, h => simp at h

theorem top_off_44 : True := by
  w_top off
  trivial
section
local macro_rules | `(tactic| walk_at "exec Assign cons ListComp") => `(tactic| refine Stop.intro ?_)
local macro_rules | `(tactic| walk_at "call type:enumerate") => `(tactic| refine Stop.intro ?_)
variable {w : World} {p : Program} {loose : List PySem.Str} {mean : ExcName → Option Value} {mg mb : PySem.Str → Option Value} {news : List (Addr × Obj)}
theorem c_added (l : Addr) (k : Nat) (g0 g1 g2 g3 g4 : Int) (t0 t1 t2 t3 t4 : Tok) (hm : (l, Ls.lsO [.int g0 t0, .int g1 t1, .int g2 t2, .int g3 t3, .int g4 t4] k) ∈ news) (v : Int) (tv : Tok) (c : Int) (tc : Tok) :
    Does PySem.Challenge.rw_kq0071_02.row.prog w (hd.heap_39 w.params) p loose mean mg mb 88 [.ref l, .int v tv, .int c tc] [] news 4 (fun u own => ∃ a k h0 h1 h2 h3 h4 u0 u1 u2 u3 u4, u = .ref a ∧ own = [(a, Ls.lsO [.int h0 u0, .int h1 u1, .int h2 u2, .int h3 u3, .int h4 u4] k)] ∧
      val85 [h0, h1, h2, h3, h4] = val85 [g0, g1, g2, g3, g4] + worth v + c) := by
  refine' does_defC (binds := [(PySem.Str.ofString "group", .ref l), (PySem.Str.ofString "v", .int v tv), (PySem.Str.ofString "carry", .int c tc)]) ?ho ?hcd ?hbind ?hkind ?hnd ?hco ?hgen ?hk ?h
  (case ho => k_dflt k_is)
  (case hcd => k_dflt k_is)
  (case hbind => intro s' X'; exact BindsTo.of_eq rfl)
  (case hkind => rfl)
  (case hnd => decide +kernel)
  (case hco => rfl)
  (case hgen => rfl)
  (case hk => rfl)
  intro dp un outer A₀ base g L s cells B F N Y X T hd hu hlt
  k_cells Y
  (try simp only [List.cons_append, List.nil_append] at N)
  (try k_unmd)
  k_fold
  k_steps
  refine pair_Assign F rfl (by with_unfolding_all rfl) (by with_unfolding_all rfl) (by decide) (by with_unfolding_all rfl) (by decide) (by with_unfolding_all rfl) (by with_unfolding_all rfl) (by decide) (by with_unfolding_all rfl) (by with_unfolding_all rfl) ?_
  k_steps
  (with_reducible rename Fr _ _ _ _ => F3)
  (with_reducible rename News _ _ _ _ => N3)
  refine enum_PT (fun i y => ∃ t, y = .int (gAt g0 g1 g2 g3 g4 i + addAt v i) t) rfl F3 N3 (List.mem_cons_of_mem _ hm) (by show 5 ≤ 1000; decide) ?step ?fin
  case step =>
    intro g' i tt y C oC D zs m₂ own h3 tk3 hy hC hma hmb F4 N4
    obtain ⟨ty, rfl⟩ := g_item hy
    clear F3 N3
    simp only [List.cons_append] at N4
    (try k_fold)
    (try dsimp only)
    k_steps
    · rename_i hi
      exact EltEnd.intro (by k_asm) (by k_asm) sub_refl ⟨_, by unfold addAt; rw [if_pos hi]⟩
    · rename_i hi
      exact EltEnd.intro (by k_asm) (by k_asm) sub_refl ⟨_, by unfold addAt; rw [if_neg hi]⟩
  case fin =>
    intro g' zs hzl hzR D h5 tk5 F5 N5 o5
    obtain ⟨v0, v1, v2, v3, v4, rfl⟩ := five_of hzl hzR
    clear F3 N3
    (try dsimp only)
    k_steps
    (with_reducible rename Fr _ _ _ _ => F8)
    (with_reducible rename News _ _ _ _ => N8)
    rename_i D2 _ lD2
    walk_at "end"
    exact BodyEnd.ret (own := [(D2, Ls.lsO [_, _, _, _, _] 0)]) F8 N8 (by walk_at "sub") (above_cons lD2.2.2.2.2 above_nil) ⟨D2, 0, _, _, _, _, _, _, _, _, _, _, rfl, rfl, val_added v g0 g1 g2 g3 g4 c⟩
end

theorem worth_bound (v : Int) : -4437053125 ≤ worth v ∧ worth v ≤ 4437053125 := by
  unfold worth
  have h : v / 171 % 5 = 0 ∨ v / 171 % 5 = 1 ∨ v / 171 % 5 = 2 ∨ v / 171 % 5 = 3 ∨ v / 171 % 5 = 4 := by omega
  rcases h with h | h | h | h | h <;> simp only [h] <;> simp <;> omega
theorem canon_ints {vs : List Value} {n : Int} (h : IntsAre vs (canon n)) : ∃ g0 g1 g2 g3 g4 t0 t1 t2 t3 t4, vs = [.int g0 t0, .int g1 t1, .int g2 t2, .int g3 t3, .int g4 t4] ∧ val85 [g0, g1, g2, g3, g4] = n := by
  obtain ⟨t0, t1, t2, t3, t4, e⟩ := ints_five h
  exact ⟨_, _, _, _, _, t0, t1, t2, t3, t4, e, val_canon n⟩

theorem top_off_45 : True := by
  w_top off
  trivial
section
variable {w : World} {p : Program} {loose : List PySem.Str} {mean : ExcName → Option Value} {mg mb : PySem.Str → Option Value} {news : List (Addr × Obj)}
local macro_rules | `(tactic| walk_at "memq") => `(tactic| repeat (first | exact List.mem_cons_self | assumption | refine List.mem_cons_of_mem _ ?_))
local macro_rules | `(tactic| walk_at "subscriptTail") => `(tactic| ((with_reducible rename News _ _ _ _ => N'); refine Ls.item N' (by walk_at "memq") (by decide) (by decide) (by rfl) ?_ (by with_unfolding_all rfl)))
theorem c_counted (fa a0 a1 : Addr) (kf k0 k1 : Nat) (us vs : List Value) (hmf : (fa, Ls.lsO [.ref a0, .ref a1] kf) ∈ news) (hm0 : (a0, Ls.lsO us k0) ∈ news) (hm1 : (a1, Ls.lsO vs k1) ∈ news) (H W : Int) (hus : IntsAre us (canon H)) (hvs : IntsAre vs (canon W))
    (hH0 : 0 ≤ H) (hH1 : H < 4294967296) (hW0 : 0 ≤ W) (hW1 : W < 4294967296) (v : Int) (tv : Tok) :
    Does PySem.Challenge.rw_kq0071_02.row.prog w (hd.heap_39 w.params) p loose mean mg mb 95 [.ref fa, .int v tv] [] news 8 (fun u own => ∃ f a b us vs kf ka kb, u = .ref f ∧ own = [(f, Ls.lsO [.ref a, .ref b] kf), (a, Ls.lsO us ka), (b, Ls.lsO vs kb)] ∧
      IntsAre us (canon ((H + worth (v / 855) + (W + worth v) / 4294967296) % 4294967296)) ∧ IntsAre vs (canon ((W + worth v) % 4294967296))) := by
  obtain ⟨e0, e1, e2, e3, e4, s0, s1, s2, s3, s4, rfl, hve⟩ := canon_ints hus
  obtain ⟨g0, g1, g2, g3, g4, t0, t1, t2, t3, t4, rfl, hvg⟩ := canon_ints hvs
  have hb1 := worth_bound v
  have hb2 := worth_bound (v / 855)
  refine' does_def (binds := [(PySem.Str.ofString "face", .ref fa), (PySem.Str.ofString "v", .int v tv)]) ?ho ?hcd ?hbind ?hloc ?hco ?hgen ?hk ?hcell ?h
  walk_at "enter"
  intro dp un outer A₀ base g L s B F N X T hd hu hlt
  k_fold
  k_steps
  (with_reducible rename Fr _ _ _ _ => F1)
  (with_reducible rename News _ _ _ _ => N1)
  refine does_use (c_added a1 k1 g0 g1 g2 g3 g4 t0 t1 t2 t3 t4 hm1 v tv 0 _) (by k_asm) F1 (by k_asm) N1 (by k_asm) (by rfl) (by ktr_room) (by ktr_units) ?_
  rintro _ _ h2 tk2 F2 N2 ha2 ⟨a, ka, x0, x1, x2, x3, x4, y0, y1, y2, y3, y4, rfl, rfl, hval⟩
  simp only [List.nil_append, List.cons_append] at N2
  rw [hvg, Int.add_zero] at hval
  clear F1 N1
  k_steps
  refine does_use (c_settled a ka x0 x1 x2 x3 x4 y0 y1 y2 y3 y4 List.mem_cons_self (W + worth v) hval (by omega) (by omega)) (by k_asm) F2 (by k_asm) N2 (by k_asm) (by rfl) (by ktr_room) (by ktr_units) ?_
  rintro _ _ h3 tk3 F3 N3 ha3 ⟨tp, b, vs', kb, kt, tt, rfl, rfl, hvs'⟩
  simp only [List.nil_append, List.cons_append] at N3
  have hab : AllLt b news := (ha3 _ (List.mem_cons_of_mem _ List.mem_cons_self)).2
  clear F2 N2 ha2 ha3
  generalize hc : (W + worth v) / 4294967296 = c at *
  have hc0 : -3 ≤ c ∧ c ≤ 3 := by omega
  k_steps
  (with_reducible rename Fr _ _ _ _ => F4)
  (with_reducible rename News _ _ _ _ => N4)
  refine does_use (c_added a0 k0 e0 e1 e2 e3 e4 s0 s1 s2 s3 s4 (List.mem_cons_of_mem _ (List.mem_cons_of_mem _ (List.mem_cons_of_mem _ hm0))) (v / 855) _ c _) (by k_asm) F4 (by k_asm) N4 (by k_asm) (by rfl) (by ktr_room) (by ktr_units) ?_
  rintro _ _ h5 tk5 F5 N5 ha5 ⟨a', ka', z0, z1, z2, z3, z4, q0, q1, q2, q3, q4, rfl, rfl, hval'⟩
  simp only [List.nil_append, List.cons_append] at N5
  rw [hve] at hval'
  clear F4 N4 ha5
  k_steps
  refine does_use (c_settled a' ka' z0 z1 z2 z3 z4 q0 q1 q2 q3 q4 List.mem_cons_self (H + worth (v / 855) + c) hval' (by omega) (by omega)) (by k_asm) F5 (by k_asm) N5 (by k_asm) (by rfl) (by ktr_room) (by ktr_units) ?_
  rintro _ _ h6 tk6 F6 N6 ha6 ⟨tp', b', us', kb', kt', tt', rfl, rfl, hus'⟩
  simp only [List.nil_append, List.cons_append] at N6
  have hab' : AllLt b' news := (ha6 _ (List.mem_cons_of_mem _ List.mem_cons_self)).2.2.2.2
  clear F5 N5 ha6
  k_steps
  (with_reducible rename Fr _ _ _ _ => F8)
  (with_reducible rename News _ _ _ _ => N8)
  rename_i D _ lD
  exact BodyEnd.ret (own := [(D, Ls.lsO [.ref b', .ref b] 0), (b', Ls.lsO us' kb'), (b, Ls.lsO vs' kb)]) F8 N8 (by walk_at "sub") (above_cons lD.2.2.2.2.2.2 (above_cons hab' (above_cons hab above_nil))) ⟨D, b', b, us', vs', 0, kb', kb, rfl, rfl, by rw [hc]; exact hus', hvs'⟩
end

/-- the five signs of a number -/
def fiveS (n : Int) : List UInt8 := Bb.ofInts ((canon n).map fun f => 33 + f)
/-- the writing of a number of four octets -/
def signB (fn fs : Bool) (n : Int) : List UInt8 := if fn = true ∧ n = 0 then [122] else if fs = true ∧ n = 538976288 then [121] else fiveS n
theorem canon_inj {a b : Int} (h : canon a = canon b) : a = b := by rw [← val_canon a, ← val_canon b, h]
theorem canon_zero (n : Int) : canon n = [0, 0, 0, 0, 0] ↔ n = 0 := ⟨fun h => canon_inj (h.trans (by decide)), fun h => by rw [h]; decide⟩
theorem canon_space (n : Int) : canon n = [10, 27, 53, 67, 43] ↔ n = 538976288 := ⟨fun h => canon_inj (h.trans (by decide)), fun h => by rw [h]; decide⟩
theorem signB_len (fn fs : Bool) (n : Int) : (signB fn fs n).length ≤ 5 := by
  unfold signB
  split
  · simp
  · split
    · simp
    · simp [fiveS, Bb.ofInts, canon]
/-- the signs of the first i groups -/
def signsTo (fn fs : Bool) (a b : Int) : Nat → List UInt8
  | 0 => []
  | 1 => signB fn fs a
  | _ => signB fn fs a ++ signB fn fs b
def groupAt (a b : Int) : Nat → Int
  | 0 => a
  | _ => b
theorem signsTo_succ (fn fs : Bool) (a b : Int) (i : Nat) (hi : i < 2) : signsTo fn fs a b (i + 1) = signsTo fn fs a b i ++ signB fn fs (groupAt a b i) := by
  match i, hi with
  | 0, _ => simp [signsTo, groupAt]
  | 1, _ => simp [signsTo, groupAt]
theorem signsTo_len (fn fs : Bool) (a b : Int) (i : Nat) : (signsTo fn fs a b i).length ≤ 10 := by
  have h1 := signB_len fn fs a
  have h2 := signB_len fn fs b
  match i with
  | 0 => simp [signsTo]
  | 1 => simp only [signsTo]; omega
  | i + 2 => simp only [signsTo, List.length_append]; omega
theorem fig_bound (n : Int) (h0 : 0 ≤ n) (h1 : n < 4294967296) (i : Nat) : 0 ≤ figAt n i ∧ figAt n i ≤ 84 := by
  match i with
  | 0 => show 0 ≤ n / 52200625 ∧ n / 52200625 ≤ 84; omega
  | 1 => show 0 ≤ n / 614125 % 85 ∧ n / 614125 % 85 ≤ 84; omega
  | 2 => show 0 ≤ n / 7225 % 85 ∧ n / 7225 % 85 ≤ 84; omega
  | 3 => show 0 ≤ n / 85 % 85 ∧ n / 85 % 85 ≤ 84; omega
  | 4 => show 0 ≤ n % 85 ∧ n % 85 ≤ 84; omega
  | i + 5 => show (0 : Int) ≤ 0 ∧ (0 : Int) ≤ 84; omega
theorem signB_1 {fn fs : Bool} {n : Int} (h : fn = true) (h' : n = 0) : signB fn fs n = [122] := if_pos ⟨h, h'⟩
theorem signB_2 {fn fs : Bool} {n : Int} (h : ¬ (fn = true ∧ n = 0)) (h1 : fs = true) (h2 : n = 538976288) : signB fn fs n = [121] := (if_neg h).trans (if_pos ⟨h1, h2⟩)
theorem signB_3 {fn fs : Bool} {n : Int} (h : ¬ (fn = true ∧ n = 0)) (h' : ¬ (fs = true ∧ n = 538976288)) : signB fn fs n = fiveS n := (if_neg h).trans (if_neg h')
theorem notboth_a {b : Bool} {P : Prop} (h : b = false) : ¬ (b = true ∧ P) := fun x => by rw [h] at x; exact absurd x.1 (by decide)
theorem notboth_b {b : Bool} {P : Prop} (h : ¬ P) : ¬ (b = true ∧ P) := fun x => h x.2
theorem fiveS_range {n : Int} (h0 : 0 ≤ n) (h1 : n < 4294967296) : ∀ x ∈ [33 + figAt n 0, 33 + figAt n 1, 33 + figAt n 2, 33 + figAt n 3, 33 + figAt n 4], 0 ≤ x ∧ x < 256 := by
  intro x hx
  simp only [List.mem_cons, List.not_mem_nil, or_false] at hx
  rcases hx with rfl | rfl | rfl | rfl | rfl
  · have := fig_bound n h0 h1 0; omega
  · have := fig_bound n h0 h1 1; omega
  · have := fig_bound n h0 h1 2; omega
  · have := fig_bound n h0 h1 3; omega
  · have := fig_bound n h0 h1 4; omega

theorem top_off_46 : True := by
  w_top off
  trivial
section
local macro_rules | `(tactic| walk_at "pyIter ref") => `(tactic| refine Stop.intro ?_)
local macro_rules | `(tactic| walk_at "compareOp Eq ref ref") => `(tactic| refine Stop.intro ?_)
local macro_rules | `(tactic| walk_at "CompSrc") => `(tactic| refine Stop.intro ?_)
local macro_rules | `(tactic| walk_at "notboth") => `(tactic| first | exact notboth_a (by assumption) | exact notboth_b (by assumption))
local macro_rules | `(tactic| walk_at "signB") => `(tactic| first | exact signB_1 (by assumption) (by assumption) | exact signB_2 (by walk_at "notboth") (by assumption) (by assumption) | exact signB_3 (by walk_at "notboth") (by walk_at "notboth"))
local macro_rules | `(tactic| walk_at "call type:bytes") => `(tactic| refine Stop.intro ?_)
variable {w : World} {p : Program} {loose : List PySem.Str} {mean : ExcName → Option Value} {mg mb : PySem.Str → Option Value} {news : List (Addr × Obj)}
theorem c_signs (fa a0 a1 : Addr) (kf k0 k1 : Nat) (us vs : List Value) (hmf : (fa, Ls.lsO [.ref a0, .ref a1] kf) ∈ news) (hm0 : (a0, Ls.lsO us k0) ∈ news) (hm1 : (a1, Ls.lsO vs k1) ∈ news) (H W : Int) (hus : IntsAre us (canon H)) (hvs : IntsAre vs (canon W))
    (hH0 : 0 ≤ H) (hH1 : H < 4294967296) (hW0 : 0 ≤ W) (hW1 : W < 4294967296) (fn fs : Bool) :
    Does PySem.Challenge.rw_kq0071_02.row.prog w (hd.heap_39 w.params) p loose mean mg mb 100 [.ref fa, .bool fn, .bool fs] [] news 8 (fun u own => own = [] ∧ ∃ t, u = .bytes (signB fn fs H ++ signB fn fs W).toArray t) := by
  refine' does_def (binds := [(PySem.Str.ofString "face", .ref fa), (PySem.Str.ofString "foldnuls", .bool fn), (PySem.Str.ofString "foldspaces", .bool fs)]) ?ho ?hcd ?hbind ?hloc ?hco ?hgen ?hk ?hcell ?h
  walk_at "enter"
  intro dp un outer A₀ base g L s B F N X T hd hu hlt
  k_fold
  k_steps
  walk_at "for"
  k_steps
  (with_reducible rename Fr _ _ _ _ => F1)
  (with_reducible rename News _ _ _ _ => N1)
  have hit : ∀ i v, ([.ref a0, .ref a1] : List Value)[i]? = some v → ∃ a ws k, v = .ref a ∧ (a, Ls.lsO ws k) ∈ news ∧ IntsAre ws (canon (groupAt H W i)) ∧ i < 2 ∧ 0 ≤ groupAt H W i ∧ groupAt H W i < 4294967296 := by
    intro i v h
    match i, h with
    | 0, h => cases h; exact ⟨a0, us, k0, rfl, hm0, hus, by decide, hH0, hH1⟩
    | 1, h => cases h; exact ⟨a1, vs, k1, rfl, hm1, hvs, by decide, hW0, hW1⟩
    | i + 2, h => simp at h
  refine' for_list (L := L) (l := fa) (vs := [.ref a0, .ref a1]) (k := kf) (nx₀ := []) (fix := news) (fun i m nx => nx = [] ∧ ∃ t, m = ovr [(PySem.Str.ofString "text", .bytes (signsTo fn fs H W i).toArray t)] [PySem.Str.ofString "group"] m
      (fun y => [(PySem.Str.ofString "face", Value.ref fa), (PySem.Str.ofString "foldnuls", .bool fn), (PySem.Str.ofString "foldspaces", .bool fs)].reverse.lookup y)) ?hL ?hh hmf F1 N1 ?hff ?hJ ?turn ?done
  case hL => rfl
  case hh => rfl
  case hff => intro q hq; cases hq
  case hJ => exact ⟨rfl, _, ovr_of (keys_cons rfl keys_nil) (by walk_at "off")⟩
  case turn =>
    rintro i v m₁ nx h tk tl hv ⟨rfl, tt, hm1⟩ hsub hne F' N'
    clear F1 N1
    obtain ⟨a, ws, k, rfl, hma, hws, hi2, hg0, hg1⟩ := hit i v hv
    have hma' := hsub _ hma
    have hsucc := signsTo_succ fn fs H W i hi2
    have hsl := signsTo_len fn fs H W i
    generalize groupAt H W i = n at *
    generalize signsTo fn fs H W (i + 1) = nxt at *
    generalize signsTo fn fs H W i = cur at *
    obtain ⟨u0, u1, u2, u3, u4, rfl⟩ := ints_fig hws
    have hrange := fiveS_range hg0 hg1
    rw [hm1] at F'
    rw [List.nil_append] at N'
    (try k_fold)
    (try dsimp only)
    k_steps
    all_goals (try (
      (with_reducible rename News _ _ _ _ => N2)
      refine ke_eq_ints (Ls.isList N2 (List.mem_cons_of_mem _ hma')) (Ls.isList N2 List.mem_cons_self) hws (.cons _ _ (.cons _ _ (.cons _ _ (.cons _ _ (.cons _ _ .nil))))) (by ktr_units) ?_
      simp only [canon_zero, canon_space]
      k_steps))
    all_goals (try (
      (with_reducible rename News _ _ _ _ => N2)
      refine ke_eq_ints (Ls.isList N2 (List.mem_cons_of_mem _ (List.mem_cons_of_mem _ hma'))) (Ls.isList N2 List.mem_cons_self) hws (.cons _ _ (.cons _ _ (.cons _ _ (.cons _ _ (.cons _ _ .nil))))) (by ktr_units) ?_
      simp only [canon_zero, canon_space]
      k_steps))
    all_goals (try (
      (with_reducible rename Fr _ _ _ _ => F3)
      (with_reducible rename News _ _ _ _ => N3)
      refine LCg.CompSrc.ledger rfl F3 N3 (by k_mem) (by rw [sizeLine_eq]; exact Nat.le_of_ble_eq_true rfl) ?_
      intro g3
      refine compRest_all (fun i y => ∃ t, y = .int (33 + figAt n i) t) (.inr ⟨_, by k_mem, rfl, _, rfl⟩) ?_ ?_
      · intro i v I oI C oC D' ys m₂ h tk hi hv hC hx F N
        clear F3 N3
        obtain ⟨t, rfl⟩ := fig_item (by simpa using hv)
        (try k_fold)
        k_steps
        exact EltEnd.intro (by k_asm) (by k_asm) sub_refl ⟨_, rfl⟩
      · intro zs hzl hzR D h5 tk5 F5 N5 o5
        obtain ⟨v0, v1, v2, v3, v4, rfl⟩ := five_of hzl hzR
        clear F3 N3
        (try dsimp only)
        k_steps
        refine Bb.bytes_list F5 N5 List.mem_cons_self (.cons _ _ (.cons _ _ (.cons _ _ (.cons _ _ (.cons _ _ .nil))))) hrange (by show 5 ≤ 1000; decide) rfl ?_
        intro h6 t6 k6 F6 N6
        clear F5 N5
        k_steps
        (with_reducible rename Fr _ _ _ _ => F8)
        (with_reducible rename News _ _ _ _ => N8)
        exact ⟨_, _, _, [], rfl, F8, fun p hp => N8 p ((by walk_at "sub" : ∀ p ∈ tl, p ∈ _) p hp), hne, rfl, _, ovr_of (keys_cons (by rw [hsucc, (by walk_at "signB" : signB fn fs n = fiveS n)]; rfl) keys_nil) (by walk_at "off")⟩))
    all_goals (
      (with_reducible rename Fr _ _ _ _ => F8)
      (with_reducible rename News _ _ _ _ => N8)
      first
        | exact ⟨_, _, _, [], rfl, F8, fun p hp => N8 p ((by walk_at "sub" : ∀ p ∈ tl, p ∈ _) p hp), hne, rfl, _, ovr_of (keys_cons (by rw [hsucc, (by walk_at "signB" : signB fn fs n = [122])]; rfl) keys_nil) (by walk_at "off")⟩
        | exact ⟨_, _, _, [], rfl, F8, fun p hp => N8 p ((by walk_at "sub" : ∀ p ∈ tl, p ∈ _) p hp), hne, rfl, _, ovr_of (keys_cons (by rw [hsucc, (by walk_at "signB" : signB fn fs n = [121])]; rfl) keys_nil) (by walk_at "off")⟩)
  case done =>
    rintro m₁ nx h tk ⟨rfl, tt, hm1⟩ F' N' hff
    clear F1 N1
    rw [hm1] at F'
    (try k_fold)
    (try dsimp only)
    k_steps
    walk_at "end"
    exact BodyEnd.ret (own := []) (by k_asm) (by k_asm) (by walk_at "sub") above_nil ⟨rfl, _, rfl⟩
end

def pairB (k : Int) : List UInt8 := Bb.ofInts [33 + k / 85, 33 + k % 85]
def Has (kvs : List (Int × Value)) (k : Int) : Prop := ∃ t, valueAt kvs k = some (.bytes (pairB k).toArray t)
theorem has_stored {kvs : List (Int × Value)} {k k' : Int} {t : Tok} (h : Has kvs k) : Has (stored kvs k' (.bytes (pairB k').toArray t)) k := by
  unfold Has
  rw [Dd.valueAt_stored]
  by_cases e : k' = k
  · subst e; exact ⟨t, if_pos rfl⟩
  · rw [if_neg e]; exact h
theorem has_new {kvs : List (Int × Value)} {k : Int} {t : Tok} : Has (stored kvs k (.bytes (pairB k).toArray t)) k := by
  unfold Has
  rw [Dd.valueAt_stored]; exact ⟨t, if_pos rfl⟩
theorem fig_pair1 (n : Int) : 85 * figAt n 0 + figAt n 1 = n / 614125 := by
  show 85 * (n / 52200625) + n / 614125 % 85 = n / 614125
  omega
theorem fig_pair2 (n : Int) : 85 * figAt n 2 + figAt n 3 = n / 85 % 7225 := by
  show 85 * (n / 7225 % 85) + n / 85 % 85 = n / 85 % 7225
  omega
theorem pair_fig1 (n : Int) : Bb.ofInts [33 + figAt n 0, 33 + figAt n 1] = pairB (n / 614125) := by
  show Bb.ofInts [33 + n / 52200625, 33 + n / 614125 % 85] = Bb.ofInts [33 + n / 614125 / 85, 33 + n / 614125 % 85]
  rw [show n / 614125 / 85 = n / 52200625 by omega]
theorem pair_fig2 (n : Int) : Bb.ofInts [33 + figAt n 2, 33 + figAt n 3] = pairB (n / 85 % 7225) := by
  show Bb.ofInts [33 + n / 7225 % 85, 33 + n / 85 % 85] = Bb.ofInts [33 + n / 85 % 7225 / 85, 33 + n / 85 % 7225 % 85]
  rw [show n / 85 % 7225 / 85 = n / 7225 % 85 by omega, show n / 85 % 7225 % 85 = n / 85 % 85 by omega]
def HasN (kvs : List (Int × Value)) (n : Int) : Prop := Has kvs (n / 614125) ∧ Has kvs (n / 85 % 7225)

theorem top_off_47 : True := by
  w_top off
  trivial
section
variable {w : World} {p : Program} {loose : List PySem.Str} {mean : ExcName → Option Value} {mg mb : PySem.Str → Option Value} {news : List (Addr × Obj)}
local macro_rules | `(tactic| walk_at "pyIter ref") => `(tactic| refine Stop.intro ?_)
local macro_rules | `(tactic| walk_at "memq") => `(tactic| repeat (first | exact List.mem_cons_self | assumption | refine List.mem_cons_of_mem _ ?_))
local macro_rules | `(tactic| walk_at "subscriptTail") => `(tactic| ((with_reducible rename News _ _ _ _ => N'); refine Ls.item N' (by walk_at "memq") (by decide) (by decide) (by rfl) ?_ (by with_unfolding_all rfl); (try dsimp only)))
theorem c_pairs (fa a0 a1 : Addr) (kf k0 k1 : Nat) (us vs : List Value) (hmf : (fa, Ls.lsO [.ref a0, .ref a1] kf) ∈ news) (hm0 : (a0, Ls.lsO us k0) ∈ news) (hm1 : (a1, Ls.lsO vs k1) ∈ news) (H W : Int) (hus : IntsAre us (canon H)) (hvs : IntsAre vs (canon W))
    (hH0 : 0 ≤ H) (hH1 : H < 4294967296) (hW0 : 0 ≤ W) (hW1 : W < 4294967296) :
    Does PySem.Challenge.rw_kq0071_02.row.prog w (hd.heap_39 w.params) p loose mean mg mb 107 [.ref fa] [] news 4 (fun u own => ∃ d o kvs, u = .ref d ∧ own = [(d, o)] ∧ (d == sysModules) = false ∧ o.IsDictOf (intKind PySem.Challenge.rw_kq0071_02.row.prog w) kvs ∧ HasN kvs H ∧ HasN kvs W) := by
  refine' does_def (binds := [(PySem.Str.ofString "face", .ref fa)]) ?ho ?hcd ?hbind ?hloc ?hco ?hgen ?hk ?hcell ?h
  walk_at "enter"
  intro dp un outer A₀ base g L s B F N X T hd hu hlt
  k_fold
  k_steps
  walk_at "for"
  k_steps
  (with_reducible rename Fr _ _ _ _ => F1)
  (with_reducible rename News _ _ _ _ => N1)
  rename_i d _ o l1 lo _ _ hdo _ _
  have hit : ∀ i v, ([.ref a0, .ref a1] : List Value)[i]? = some v → ∃ a ws k, v = .ref a ∧ (a, Ls.lsO ws k) ∈ news ∧ IntsAre ws (canon (groupAt H W i)) ∧ i < 2 ∧ 0 ≤ groupAt H W i ∧ groupAt H W i < 4294967296 := by
    intro i v h
    match i, h with
    | 0, h => cases h; exact ⟨a0, us, k0, rfl, hm0, hus, by decide, hH0, hH1⟩
    | 1, h => cases h; exact ⟨a1, vs, k1, rfl, hm1, hvs, by decide, hW0, hW1⟩
    | i + 2, h => simp at h
  refine' for_list (L := L) (l := fa) (vs := [.ref a0, .ref a1]) (k := kf) (nx₀ := [(d, o)]) (fix := news) (fun i m nx => ∃ o' kvs, nx = [(d, o')] ∧ o'.IsDictOf (intKind PySem.Challenge.rw_kq0071_02.row.prog w) kvs ∧ kvs.length ≤ 2 * i ∧ (∀ j, j < i → HasN kvs (groupAt H W j)) ∧
      m = ovr [(PySem.Str.ofString "table", .ref d)] [PySem.Str.ofString "f"] m (fun y => [(PySem.Str.ofString "face", Value.ref fa)].reverse.lookup y)) ?hL ?hh hmf F1 N1 ?hff ?hJ ?turn ?done
  case hL => rfl
  case hh => rfl
  case hff => intro q hq; rw [List.mem_singleton.mp hq]; exact AllNe.ofLt (allLt_intro l1)
  case hJ => exact ⟨o, [], rfl, hdo, Nat.zero_le _, (fun j hj => absurd hj (Nat.not_lt_zero _)), ovr_of (keys_cons rfl keys_nil) (by walk_at "off")⟩
  case turn =>
    rintro i v m₁ nx h tk tl hv ⟨o', kvs, rfl, hdk, hkl, hHas, hm1⟩ hsub hne F' N'
    clear F1 N1
    obtain ⟨a, ws, k, rfl, hma, hws, hi2, hg0, hg1⟩ := hit i v hv
    have hma' := hsub _ hma
    have hne' : AllNe d tl := hne (d, o') List.mem_cons_self
    generalize hgn : groupAt H W i = n at *
    obtain ⟨u0, u1, u2, u3, u4, rfl⟩ := ints_fig hws
    have b0 := fig_bound n hg0 hg1 0
    have b1 := fig_bound n hg0 hg1 1
    have b2 := fig_bound n hg0 hg1 2
    have b3 := fig_bound n hg0 hg1 3
    have e1 := fig_pair1 n
    have e2 := fig_pair2 n
    have p1 := pair_fig1 n
    have p2 := pair_fig2 n
    clear hws hv hma
    generalize figAt n 0 = f0 at *
    generalize figAt n 1 = f1 at *
    generalize figAt n 2 = f2 at *
    generalize figAt n 3 = f3 at *
    generalize figAt n 4 = f4 at *
    rw [hm1] at F'
    rw [show [(d, o')] ++ tl = (d, o') :: tl from rfl] at N'
    (try k_fold)
    (try dsimp only)
    k_steps
    (with_reducible rename Fr _ _ _ _ => F8)
    (with_reducible rename News _ _ _ _ => N8)
    (with_reducible rename Obj.IsDictOf _ _ _ => hdk2)
    rename_i o2
    rw [e1, e2, p1, p2] at hdk2
    refine ⟨_, _, _, [(d, o2)], rfl, F8, fun p hp => N8 p ((by walk_at "sub" : ∀ p ∈ [(d, o2)] ++ tl, p ∈ _) p hp), TurnOff1 hne', _, _, rfl, hdk2, Nat.le_trans Dd.stored_le (Nat.le_trans (Nat.add_le_add_right Dd.stored_le 1) (by omega)), ?_, ovr_of (keys_cons rfl keys_nil) (by walk_at "off")⟩
    intro j hj
    by_cases hji : j = i
    · rw [hji, hgn]
      exact ⟨has_stored has_new, has_new⟩
    · have := hHas j (by omega)
      exact ⟨has_stored (has_stored this.1), has_stored (has_stored this.2)⟩
  case done =>
    rintro m₁ nx h tk ⟨o', kvs, rfl, hdk, hkl, hHas, hm1⟩ F' N' hff
    clear F1 N1
    rw [hm1] at F'
    rw [show [(d, o')] ++ news = (d, o') :: news from rfl] at N'
    (try k_fold)
    (try dsimp only)
    k_steps
    walk_at "end"
    exact BodyEnd.ret (own := [(d, o')]) (by k_asm) (by k_asm) (by walk_at "sub") (above_cons (allLt_intro l1) above_nil) ⟨d, o', kvs, rfl, rfl, lo, hdk, hHas 0 Nat.zero_lt_two, hHas 1 Nat.one_lt_two⟩
end

def numberF (first bs : Int) (b : List UInt8) : Int := b.foldl (fun n o => n * bs + (o.toNat : Int) - first) 0
theorem numberF_succ {first bs : Int} {b : List UInt8} {i : Nat} {c : UInt8} (h : b[i]? = some c) : numberF first bs (b.take (i + 1)) = numberF first bs (b.take i) * bs + (c.toNat : Int) - first := by
  unfold numberF
  rw [List.take_add_one, h]; simp
def wordAt (l : List UInt8) (i : Nat) : Int := numberF 0 256 ((l.drop (4 * i)).take 4)
theorem be_word (l : List UInt8) (i : Nat) : ((Bb.be ((l.drop (4 * i)).take 4) : Nat) : Int) = wordAt l i := by
  have key : ∀ (r : List UInt8) (n : Nat), ((r.foldl (fun n o => n * 256 + o.toNat) n : Nat) : Int) = r.foldl (fun (n : Int) o => n * 256 + (o.toNat : Int) - 0) (n : Int) := by
    intro r
    induction r with
    | nil => intro n; rfl
    | cons c r ih => intro n; rw [List.foldl_cons, List.foldl_cons, ih]; congr 1
  exact key _ 0
def SignsAre (vs : List Value) : Prop := vs.length = 85 ∧ ∀ i : Nat, i < 85 → ∃ t, vs[i]? = some (.bytes (Bb.ofInts [33 + (i : Int)]).toArray t)
theorem signs_at {vl : List Value} (hs : SignsAre vl) (n : Int) : ∃ t, vl[(n % 85).toNat]? = some (.bytes (Bb.ofInts [33 + n % 85]).toArray t) := by
  obtain ⟨t, h⟩ := hs.2 (n % 85).toNat (by omega)
  rw [show ((n % 85).toNat : Int) = n % 85 by omega] at h
  exact ⟨t, h⟩
theorem mod_fits (n : Int) : 0 ≤ n % 85 ∧ n % 85 < 2 ^ 63 := by omega
theorem five_pairs (n : Int) : pairB (n / 614125) ++ pairB (n / 85 % 7225) ++ Bb.ofInts [33 + n % 85] = fiveS n := by
  show Bb.ofInts [33 + n / 614125 / 85, 33 + n / 614125 % 85, 33 + n / 85 % 7225 / 85, 33 + n / 85 % 7225 % 85, 33 + n % 85] = Bb.ofInts [33 + n / 52200625, 33 + n / 614125 % 85, 33 + n / 7225 % 85, 33 + n / 85 % 85, 33 + n % 85]
  rw [show n / 614125 / 85 = n / 52200625 by omega, show n / 85 % 7225 / 85 = n / 7225 % 85 by omega, show n / 85 % 7225 % 85 = n / 85 % 85 by omega]
theorem chunks_two {ys : List Value} {x y : List UInt8} (hl : ys.length = 2) (h0 : ∀ v, ys[0]? = some v → ∃ t, v = .bytes x.toArray t) (h1 : ∀ v, ys[1]? = some v → ∃ t, v = .bytes y.toArray t) : Ls.BytesAre ys [x, y] := by
  refine ⟨hl, fun i b hb => ?_⟩
  match i, hb with
  | 0, hb =>
    cases hb
    obtain ⟨t, e⟩ := h0 _ (List.getElem?_eq_getElem (by omega))
    exact ⟨t, by rw [List.getElem?_eq_getElem (by omega), e]⟩
  | 1, hb =>
    cases hb
    obtain ⟨t, e⟩ := h1 _ (List.getElem?_eq_getElem (by omega))
    exact ⟨t, by rw [List.getElem?_eq_getElem (by omega), e]⟩
  | i + 2, hb => simp at hb
theorem word_group {b : List UInt8} {H W : Int} (hH : wordAt b 0 = H) (hW : wordAt b 1 = W) {i : Nat} (hi : i < 2) : wordAt b i = groupAt H W i := by
  match i, hi with
  | 0, _ => exact hH
  | 1, _ => exact hW
theorem has_group {kvs : List (Int × Value)} {H W : Int} (hH : HasN kvs H) (hW : HasN kvs W) (i : Nat) : HasN kvs (groupAt H W i) := by
  match i with
  | 0 => exact hH
  | i + 1 => exact hW
theorem len8 {prog : Program} {w : World} {A : Around} {E : Value → Shared → Prop} {s : Shared} {b : List UInt8} {t : Tok} {Q : Value → Shared → Prop} (hb : b.length = 8) (h : ∀ t' k, Q (.int 8 t') { s with toks := k }) : wpAny (model prog w) A (call (.builtin "len") [.bytes b.toArray t]) Q E s :=
  Bb.len (by omega) (by rw [hb]; exact h _ _)

namespace Ba
open PySem.Sem (wp)
open Builtin
abbrev baO (b : List UInt8) : Obj := { cls := .type "bytearray", data := .bytearray b.toArray }
theorem mro : mroOf (.type "bytearray") = pure [.type "bytearray", .type "object"] := by rw [mroOf_type]; kernel_rfl
theorem lookup_new : typeLookup (.type "bytearray") "__new__" = pure (some (.builtin "bytearray.__new__")) := by rw [typeLookup_type, builtinLookup_eq_fast]; kernel_rfl
theorem sub : isSubtype (.type "bytearray") (.type "bytearray") = pure true := by rw [isSubtype_type]; kernel_rfl
theorem slot_init : Slot "bytearray" "__init__" "bytearray.__init__" :=
  .of (owner := "bytearray") (n := "__init__") (by rw [typeLookup_type, builtinLookup_eq_fast]; kernel_rfl) (by decide +kernel) (by decide +kernel) (by decide +kernel)
    (by first | exact .inl (by decide +kernel) | exact .inr (by decide +kernel)) sub
theorem called : TypeCalled "bytearray" "bytearray.__new__" "bytearray.__init__" :=
  ⟨by decide +kernel, by decide +kernel, ⟨_, _, mro⟩, madeBy_type mro lookup_new (by decide +kernel), by decide +kernel, sub, slot_init⟩
theorem typeCall (a : Value) : checkTypeCall "bytearray" ⟨[a], []⟩ = pure () := by kernel_rfl
theorem newCall (a : Value) : checkBuiltinCall "bytearray.__new__" ⟨[.type "bytearray", a], []⟩ = pure () := by kernel_rfl
theorem plain_new : plainId "bytearray.__new__" = true := by decide +kernel
theorem entry_new : entryFor table "bytearray.__new__" = some «list.__new__» :=
  entryFor_alias (id' := "list.__new__") (by kernel_rfl) (by decide +kernel) (by decide +kernel) (by kernel_rfl)
theorem entry_init : entryFor table "bytearray.__init__" = some «bytearray.__init__» := by first | exact entryFor_of_tree (by kernel_rfl) | exact entryFor_of_fast (by kernel_rfl)
theorem args_init (a b : Value) : argsOk "bytearray.__init__" ⟨[a, b], []⟩ := by unfold argsOk; kernel_rfl
theorem owner_new : ("bytearray.__new__".splitOn ".__new__").headD "" = "bytearray" := by rw [PySem.W.split_bytearray]; rfl
theorem look_buffer : typeLookup (.type "bytearray") "__buffer__" = pure (some (.builtin "bytearray.__buffer__")) := by rw [typeLookup_type, builtinLookup_eq_fast]; kernel_rfl
theorem look_release : typeLookup (.type "bytearray") "__release_buffer__" = pure (some (.builtin "bytearray.__release_buffer__")) := by rw [typeLookup_type, builtinLookup_eq_fast]; kernel_rfl
theorem bind_init (v : Value) : Bytes.bindOptional "bytearray.__init__" "bytearray" ["source", "encoding", "errors"] [v] [] = pure [some v, none, none] := by kernel_rfl
theorem no_idx : typeLookup (.type "bytes") "__index__" = pure none := by rw [typeLookup_type, builtinLookup_eq_fast]; kernel_rfl
section
variable {prog : Program} {w : World} {A : Around} {E : Value → Shared → Prop} {s : Shared} {h₀ : Heap} {L : Addr} {m : PySem.Str → Option Value} {news : List (Addr × Obj)}

theorem new_code {v : Value} {Q : Value → Shared → Prop} (hQ : Q (.ref s.heap.objs.size) { s with heap := s.heap.push { cls := .type "bytearray", data := .bytearray #[] } }) :
    codeAny (model prog w) A (.call (.builtin "bytearray.__new__") ⟨[.type "bytearray", v], []⟩) (wants Q E) s := by
  refine codeAny_of_tree ?_
  show wpAny _ A.in1 (do checkBuiltinCall "bytearray.__new__" ⟨[.type "bytearray", v], []⟩; again (.builtin "bytearray.__new__" ⟨[.type "bytearray", v], []⟩)) _ _ s
  refine wpAny_bind (wpAny_of_eq (newCall v) (wpAny_pure ⟨plainId_quiet plain_new _, codeAny_builtin_stack entry_new rfl fun p st => ?_⟩))
  rw [Around.under_plainId plain_new _]
  have hsub := sub
  have hown := owner_new
  obtain ⟨hp, g, d, tk, os⟩ := s
  simp only [hown]
  wp_walk
  exact hQ

theorem own_release {M : Model} {v : Value} {Q : Bool → Shared → Prop} (hT : s.TypeIs v "bytearray") (h : Q false s) : wpAny M A (Bytes.ownRelease v) Q E s := by
  unfold Bytes.ownRelease Bytes.slotIsOwn
  refine wpAny_bind (wpAny_bind (wpAny_specialOf hT look_release ?_))
  dsimp only
  rw [if_neg (by decide +kernel)]
  rw [show ("bytearray.__release_buffer__".dropRight ("__release_buffer__".length + 1)) = "bytearray" by decide +kernel]
  exact wpAny_isInstance hT sub (wpAny_pure h)
theorem own_buffer {M : Model} {v : Value} {Q : Bool → Shared → Prop} (hT : s.TypeIs v "bytearray") (h : Q true s) : wpAny M A (Bytes.slotIsOwn v "__buffer__") Q E s := by
  unfold Bytes.slotIsOwn
  refine wpAny_bind (wpAny_specialOf hT look_buffer ?_)
  dsimp only
  rw [if_neg (by decide +kernel)]
  rw [show ("bytearray.__buffer__".dropRight ("__buffer__".length + 1)) = "bytearray" by decide +kernel]
  exact wpAny_isInstance hT sub h
theorem payload {M : Model} {a : Addr} {b : List UInt8} {Q : Array UInt8 → Shared → Prop} (ho : s.heap.get? a = some (baO b)) (h : Q b.toArray s) : wpAny M A (Bytes.payload (.ref a)) Q E s := by
  unfold Bytes.payload Bytes.payload?
  refine wpAny_bind (wpAny_bind (wpAny_load ho ?_))
  exact wpAny_pure (wpAny_pure h)
theorem buffer {M : Model} {a : Addr} {b : List UInt8} {id : String} {full : Bool} {Q : Option (Array UInt8) → Shared → Prop} (ho : s.heap.get? a = some (baO b)) (h : Q (some b.toArray) s) : wpAny M A (Bytes.buffer? id (.ref a) full) Q E s := by
  have hT : s.TypeIs (.ref a) "bytearray" := ⟨_, ho, rfl⟩
  unfold Bytes.buffer?
  refine wpAny_bind (wpAny_specialOf hT look_buffer ?_)
  refine wpAny_bind (own_buffer hT ?_)
  refine bm_if_false rfl ?_
  refine wpAny_bind (wpAny_specialOf hT look_buffer ?_)
  dsimp only
  refine wpAny_bind (own_release hT ?_)
  refine bm_if_false rfl ?_
  refine wpAny_bind (payload ho ?_)
  exact wpAny_pure h
end

theorem slot_len : Slot "bytearray" "__len__" "bytearray.__len__" :=
  .of (owner := "bytearray") (n := "__len__") (by rw [typeLookup_type, builtinLookup_eq_fast]; kernel_rfl) (by decide +kernel) (by decide +kernel) (by decide +kernel)
    (by first | exact .inl (by decide +kernel) | exact .inr (by decide +kernel)) sub
theorem entry_len : entryFor table "bytearray.__len__" = some «bytearray.__len__» := by first | exact entryFor_of_tree (by kernel_rfl) | exact entryFor_of_fast (by kernel_rfl)
theorem args_len (a : Value) : argsOk "bytearray.__len__" ⟨[a], []⟩ := by unfold argsOk; kernel_rfl
theorem slot_ne : Slot "bytearray" "__ne__" "bytearray.__ne__" :=
  .of (owner := "bytearray") (n := "__ne__") (by rw [typeLookup_type, builtinLookup_eq_fast]; kernel_rfl) (by decide +kernel) (by decide +kernel) (by decide +kernel)
    (by first | exact .inl (by decide +kernel) | exact .inr (by decide +kernel)) sub
theorem entry_ne : entryFor table "bytearray.__ne__" = some «bytearray.__ne__» := by first | exact entryFor_of_tree (by kernel_rfl) | exact entryFor_of_fast (by kernel_rfl)
theorem args_ne (a b : Value) : argsOk "bytearray.__ne__" ⟨[a, b], []⟩ := by unfold argsOk; kernel_rfl
theorem not_sub : isSubtype (.type "bytes") (.type "bytearray") = pure false := by rw [isSubtype_type]; kernel_rfl
section
variable {prog : Program} {w : World} {A : Around} {E : Value → Shared → Prop} {s : Shared} {h₀ : Heap} {L : Addr} {m : PySem.Str → Option Value} {news : List (Addr × Obj)}
theorem len_body {a : Addr} {b : List UInt8} {Q : Value → Shared → Prop} (ho : s.heap.get? a = some (baO b)) (hsz : b.length ≤ 1000)
    (h : Q (.int b.length (s.toks + 1)) { s with toks := s.toks + 1 + 1 }) : wpAny (model prog w) A (Builtin.«len» ⟨[.ref a], []⟩) (fun fin s' => ∃ r, fin = .done (.ret r) ∧ Q r s') E s := by
  have hT : s.TypeIs (.ref a) "bytearray" := ⟨_, ho, rfl⟩
  unfold Builtin.«len»
  refine wpAny_bind (m := oneArg "len" _) (wpAny_pure ?_)
  refine wpAny_bind (m := callSpecial? (.ref a) (Str.ofString "__len__")) (wpAny_callSpecial?_slot (name := Str.ofString "__len__") hT slot_len
    (wpAny_call_entry slot_len hT entry_len ?_ (args_len _)))
  show wpAny _ _ (do retInt ((← Bytes.payload (.ref a)).size)) _ _ s
  refine wpAny_bind (payload ho ?_)
  refine wpAny_bind (wpAny_mkInt (wpAny_pure ⟨_, rfl, ?_⟩))
  refine wpAny_bind (wpAny_holding (wpAny_pure ?_))
  refine wpAny_bind (wpAny_letGo ?_)
  show wpAny _ _ (if ((b.toArray.size : Nat) : Int) < 0 then _ else _) _ _ _
  rw [if_neg (by omega)]
  show wpAny _ _ (if ((b.toArray.size : Nat) : Int) ≥ 2 ^ 63 then _ else _) _ _ _
  rw [if_neg (by simp; omega)]
  exact wpAny_bind (wpAny_mkInt (wpAny_pure ⟨_, rfl, by simpa using h⟩))
theorem len {a : Addr} {b : List UInt8} {Q : Value → Shared → Prop} (N : News h₀ L s.heap news) (hm : (a, baO b) ∈ news) (hsz : b.length ≤ 1000) (h : ∀ t k, Q (.int b.length t) { s with toks := k }) : wpAny (model prog w) A (call (.builtin "len") [.ref a]) Q E s :=
  Calls.call_function_entry kind_len plain_len PySem.entry_len (args_len1 _) (len_body (N _ hm).1 hsz (h _ _))
end
end Ba

theorem top_off_48 : True := by
  w_top off
  trivial
section
local macro_rules | `(tactic| walk_at "exec Assign cons ListComp") => `(tactic| refine Stop.intro ?_)
local macro_rules | `(tactic| walk_at "subscriptTail") => `(tactic| (refine Stop.intro ?_))
local macro_rules | `(tactic| walk_at "getMethod bytes") => `(tactic| (with_reducible refine Ls.method_join ?_))
local macro_rules | `(tactic| walk_at "call builtin:bytes.join") => `(tactic| (refine Stop.intro ?_))
local macro_rules | `(tactic| walk_at "call builtin:len") => `(tactic| (refine len8 (by assumption) ?_; intro _ _))
local macro_rules | `(tactic| walk_at "notboth") => `(tactic| first | exact notboth_a (by assumption) | exact notboth_b (by assumption))
local macro_rules | `(tactic| walk_at "signB") => `(tactic| first | exact signB_1 (by assumption) (by assumption) | exact signB_2 (by walk_at "notboth") (by assumption) (by assumption) | exact signB_3 (by walk_at "notboth") (by walk_at "notboth"))
variable {w : World} {p : Program} {loose : List PySem.Str} {mean : ExcName → Option Value} {mg mb : PySem.Str → Option Value} {news : List (Addr × Obj)}
set_option maxHeartbeats 2000000 in
theorem c_encode (b : List UInt8) (tb : Tok) (hb : b.length = 8) (l d : Addr) (vl : List Value) (kl : Nat) (od : Obj) (kvs : List (Int × Value)) (hl : (l, ({ cls := .type "list", data := .seq vl.toArray kl } : Obj)) ∈ news) (hs : SignsAre vl)
    (hdm : (d, od) ∈ news) (hdk : od.IsDictOf (intKind PySem.Challenge.rw_kq0071_02.row.prog w) kvs) (H W : Int) (hH : wordAt b 0 = H) (hW : wordAt b 1 = W) (hasH : HasN kvs H) (hasW : HasN kvs W) (fn fs : Bool) :
    Does PySem.Challenge.rw_kq0071_02.row.prog w (hd.heap_39 w.params) p loose mean mg mb 56 [.bytes b.toArray tb, .ref l, .ref d, .bool false, .bool fn, .bool fs] [] news 4 (fun v own => own = [] ∧ ∃ t, v = .bytes (signB fn fs H ++ signB fn fs W).toArray t) := by
  refine' does_defC (binds := [(PySem.Str.ofString "b", .bytes b.toArray tb), (PySem.Str.ofString "chars", .ref l), (PySem.Str.ofString "chars2", .ref d), (PySem.Str.ofString "pad", .bool false), (PySem.Str.ofString "foldnuls", .bool fn), (PySem.Str.ofString "foldspaces", .bool fs)]) ?ho ?hcd ?hbind ?hkind ?hnd ?hco ?hgen ?hk ?h
  (case ho => k_dflt k_is)
  (case hcd => k_dflt k_is)
  (case hbind => intro s' X'; first | exact binds_K X' rfl (by k_dflt k_is) rfl rfl rfl | exact BindsTo.of_eq rfl)
  (case hkind => rfl)
  (case hnd => decide +kernel)
  (case hco => rfl)
  (case hgen => rfl)
  (case hk => rfl)
  intro dp un outer A₀ base g L s cells B F N Y X T hd hu hlt
  k_cells Y
  (try simp only [List.cons_append, List.nil_append] at N)
  (try k_unmd)
  k_fold
  k_steps
  (with_reducible rename Fr _ _ _ _ => F')
  (with_reducible rename News _ _ _ _ => N')
  obtain ⟨fb, hfb, hfp, hfs⟩ := St.fmt_ok (z := 8 / 4) (n := 2) (t := 0) (by decide) (by decide)
  show wpAny _ _ (call (Value.type "_struct.Struct") [.str _ _]) _ _ _
  refine St.new F' N' hfb hfp hfs rfl ?_
  intro D h1 tk1 k1 F1 N1 l1
  clear F' N'
  k_steps
  show wpAny _ _ (call (Value.builtin "_struct.Struct.unpack") [.ref _, .bytes _ _]) _ _ _
  refine St.call_unpack F1 N1 List.mem_cons_self hfp (by omega) (by omega) ?_
  intro x vs h2 k2 F2 N2 l2 hvl hvs
  clear F1 N1
  k_steps
  show wpAny _ _ (exec _ _) _ _ _
  refine' assign_comp_tup ?F₀ ?hLe ?hh ?hsw ?hclos ?hcell ?hkind ?hnames ?hx ?hy ?hp ?h
  case F₀ => k_asm
  walk_at "comp"
  case h =>
    k_steps
    rename Fr _ _ _ _ => F3
    rename News _ _ _ _ => N3
    refine ⟨x, vs, _, _, rfl, F3, N3, List.mem_cons_self, by omega, fun g' => ?_⟩
    refine compRest_all (fun i y => ∃ t, y = .bytes (signB fn fs (groupAt H W i)).toArray t) List.mem_cons_self ?_ ?_
    · intro i v I oI C oC D' ys m₂ h tk hi hv hC hx F4 N4
      clear F3 N3
      obtain ⟨tw, hw⟩ := hvs i (by omega)
      rw [hv] at hw
      cases hw
      rw [be_word, word_group hH hW (by omega)] at hx
      have hHas := has_group hasH hasW i
      generalize groupAt H W i = n at *
      obtain ⟨⟨ta, hHa⟩, ⟨tb', hHb⟩⟩ := hHas
      obtain ⟨tc, hcv⟩ := signs_at hs n
      obtain ⟨hk0, hk1⟩ := mod_fits n
      have h5p := five_pairs n
      (try k_fold)
      k_steps
      all_goals first
        | (refine kda_item (knd := PySem.intKind _ _) (by k_asm) (by k_mem) hdk (intKind_is _ _ _ _) hHa ?_ ?_ ?_
           · k_steps
             refine kda_item (knd := PySem.intKind _ _) (by k_asm) (by k_mem) hdk (intKind_is _ _ _ _) hHb ?_ ?_ ?_
             · k_steps
               (with_reducible rename News _ _ _ _ => N5)
               refine Ls.item (vs := vl) (n := kl) N5 (List.mem_cons_of_mem _ (List.mem_cons_of_mem _ (List.mem_cons_of_mem _ (List.mem_cons_of_mem _ (List.mem_cons_of_mem _ (List.mem_cons_of_mem _ (List.mem_cons_of_mem _ (List.mem_cons_of_mem _ (List.mem_cons_of_mem _ hl))))))))) hk0 hk1 hcv ?_ ?_
               · k_steps
                 exact EltEnd.intro (by k_asm) N5 sub_refl ⟨_, by rw [(by walk_at "signB" : signB fn fs n = fiveS n), ← h5p]⟩
               · with_unfolding_all rfl
             · with_unfolding_all rfl
             · intro _; with_unfolding_all rfl
           · with_unfolding_all rfl
           · intro _; with_unfolding_all rfl)
        | exact EltEnd.intro (by k_asm) (by k_asm) sub_refl ⟨_, by rw [(by walk_at "signB" : signB fn fs n = [122])]⟩
        | exact EltEnd.intro (by k_asm) (by k_asm) sub_refl ⟨_, by rw [(by walk_at "signB" : signB fn fs n = [121])]⟩
    · intro ys hyl hyR
      intro D'' h5 tk5 F5 N5 o5
      clear F3 N3
      have hBA : Ls.BytesAre ys [signB fn fs H, signB fn fs W] := chunks_two (by omega) (fun v hv => hyR 0 v hv) (fun v hv => hyR 1 v hv)
      have hl0 := signB_len fn fs H
      have hl1 := signB_len fn fs W
      dsimp only
      k_steps
      refine Ls.join N5 List.mem_cons_self hBA (by simp) (by simp only [List.flatten_cons, List.flatten_nil, List.append_nil, List.length_append]; omega) ?_
      intro t' k'
      k_steps
      rw [show [signB fn fs H, signB fn fs W].flatten = signB fn fs H ++ signB fn fs W by simp only [List.flatten_cons, List.flatten_nil, List.append_nil]]
      exact BodyEnd.ret (own := []) F5 N5 (by walk_at "sub") above_nil ⟨rfl, _, rfl⟩
end

namespace Ba
open PySem.Sem (wp)
open Builtin
section
variable {prog : Program} {w : World} {A : Around} {E : Value → Shared → Prop} {s : Shared} {h₀ : Heap} {L : Addr} {m : PySem.Str → Option Value} {news : List (Addr × Obj)}
theorem call_unpack {a D : Addr} {fb : Array UInt8} {tk : Tok} {n : Nat} {b : List UInt8} {Q : Value → Shared → Prop} (F : Fr h₀ L s.heap m) (N : News h₀ L s.heap news) (hm : (D, St.objS fb tk) ∈ news) (ha : (a, baO b) ∈ news)
    (hp : Struct.parse fb = pure ⟨true, false, [⟨'I', n, 0, 4⟩], 4 * n, n⟩) (hb : b.length = 4 * n) (hn : n ≤ 1000)
    (h : ∀ x vs h' k, Fr h₀ L h' m → News h₀ L h' ((x, ({ cls := .type "tuple", data := .seq (List.toArray vs) } : Obj)) :: news) → AllLt x news → vs.length = n → (∀ j, j < n → ∃ t, vs[j]? = some (.int (Bb.be ((b.drop (4 * j)).take 4) : Nat) t)) → Q (.ref x) { s with heap := h', toks := k }) :
    wpAny (model prog w) A (call (.builtin "_struct.Struct.unpack") [.ref D, .ref a]) Q E s := by
  have ho := (N _ hm).1
  have hT : s.TypeIs (.ref D) "_struct.Struct" := ⟨_, ho, rfl⟩
  refine wpAny_call_entry St.slot_unpack hT St.entry_unpack ?_ (St.args_unpack _ _)
  unfold «_struct.Struct.unpack»
  refine wpAny_bind (wpAny_of_eq (a := (.ref D, .ref a)) rfl ?_)
  show wpAny _ _ (Struct.unpackExact _ _ _) _ _ _
  unfold Struct.unpackExact
  refine wpAny_bind ?_
  unfold Bytes.bytesLike
  refine wpAny_bind (buffer (N _ ha).1 (wpAny_pure ?_))
  refine wpAny_bind (wpAny_bind (St.format_eq ho hp (wpAny_pure ?_)))
  refine bm_if_false (by simp [hb]) ?_
  refine wpAny_bind (St.unpacked_I hn fun vs k' hl hv => ?_)
  refine Hh.newTuple F N (by rw [sizeLine_eq]; omega) fun x h' F' N' l1 => ?_
  refine wpAny_pure ⟨_, rfl, h x vs h' k' F' N' l1 hl fun j hj => ?_⟩
  obtain ⟨t', ht⟩ := hv j hj
  refine ⟨t', ?_⟩
  rw [ht, List.extract_toArray, St.natOf_be]
  rw [show List.extract b (j * 4) ((j + 1) * 4) = (b.drop (4 * j)).take 4 by rw [List.extract_eq_take_drop, Nat.mul_comm j 4, show (j + 1) * 4 - 4 * j = 4 by omega]]
theorem ne_bytes {a : Addr} {b c : List UInt8} {t : Tok} {Q : Value → Shared → Prop} (N : News h₀ L s.heap news) (ha : (a, baO b) ∈ news) (hu : A.units < cLine) (h : Q (.bool (Bytes.order b c != .eq)) s) :
    wpAny (model prog w) A (compareOp .NotEq (.ref a) (.bytes c.toArray t)) Q E s := by
  have ho := (N _ ha).1
  have hT : s.TypeIs (.ref a) "bytearray" := ⟨_, ho, rfl⟩
  have hT2 : s.TypeIs (.bytes c.toArray t) "bytes" := typeIs_bytes _ _ _
  show wpAny _ _ (richCompare .NotEq _ _) _ _ _
  have h1 : Slot "bytearray" (cmpInfo .NotEq).2.1 "bytearray.__ne__" := slot_ne
  simp only [richCompare, cmpInfo, hT.oneThing_none] at h1 ⊢
  refine wpAny_holding ?_
  refine wpAny_bind (wpAny_cRoomFor hu ?_)
  refine wpAny_bind (wpAny_typeOf hT (wpAny_bind (wpAny_typeOf hT2 ?_)))
  simp only [show (Value.type "bytearray" != Value.type "bytes") = true by decide, if_true]
  refine wpAny_bind (wpAny_of_eq not_sub ?_)
  simp only [Bool.false_eq_true, if_false, Bool.not_false, if_true]
  refine wpAny_bind (m := tryCompare (.ref a) _ _) (wpAny_tryCompare_slot hT h1 ?_)
  refine wpAny_call_entry slot_ne hT entry_ne ?_ (args_ne _ _)
  show wpAny _ _ (do
    let (self, [other]) ← slotArgs "__ne__" 1 ⟨[.ref a, .bytes c.toArray t], []⟩ | unsupported "internal:bytearray.compare"
    let some a ← Bytes.buffer? s!"bytearray.{"__ne__"}" self | unsupported "internal:bytearray.compare"
    let some b ← Bytes.bufferQuiet? s!"bytearray.{"__ne__"}" other | rule s!"bytearray.{"__ne__"}.declined"; ret .notImplemented
    ret (.bool (Bytes.holds "__ne__" (Bytes.order a.toList b.toList)))) _ _ _
  refine wpAny_bind (wpAny_of_eq (a := (.ref a, [.bytes c.toArray t])) rfl ?_)
  refine wpAny_bind (buffer ho ?_)
  refine wpAny_bind (wpAny_of_eq KBy.quiet_eq ?_)
  exact wpAny_pure ⟨_, rfl, (fun x => nomatch x), wpAny_pure h⟩
end
end Ba
theorem Ba.len8 {prog : Program} {w : World} {A : Around} {E : Value → Shared → Prop} {s : Shared} {h₀ : Heap} {L a : Addr} {news : List (Addr × Obj)} {b : List UInt8} {Q : Value → Shared → Prop} (N : News h₀ L s.heap news) (hm : (a, Ba.baO b) ∈ news) (hb : b.length = 8) (h : ∀ t k, Q (.int 8 t) { s with toks := k }) : wpAny (model prog w) A (call (.builtin "len") [.ref a]) Q E s :=
  Ba.len N hm (by omega) (by rw [hb]; exact h)
namespace Ba
open PySem.Sem (wp)
open Builtin
theorem slot_ga : Slot "bytearray" "__getattribute__" "bytearray.__getattribute__" :=
  .of (owner := "bytearray") (n := "__getattribute__") (by rw [typeLookup_type, builtinLookup_eq_fast]; kernel_rfl) (by decide +kernel) (by decide +kernel) (by decide +kernel)
    (by first | exact .inl (by decide +kernel) | exact .inr (by decide +kernel)) sub
theorem args_ga (a b : Value) : argsOk "bytearray.__getattribute__" ⟨[a, b], []⟩ := by unfold argsOk; kernel_rfl
theorem entry_ga : entryFor table "bytearray.__getattribute__" = some Builtin.«object.__getattribute__» :=
  entryFor_alias (id' := "object.__getattribute__") (by kernel_rfl) (by first | rfl | decide +kernel) (by decide +kernel) (by kernel_rfl)
theorem look_class : typeLookup (.type "bytearray") "__class__" = pure (some (.builtin "object.__class__")) := by rw [typeLookup_type, builtinLookup_eq_fast]; kernel_rfl
theorem sub_owner : isSubtype (.type "bytearray") (.type (".".intercalate ("object.__class__".cutAt '.').dropLast)) = pure true := by
  rw [F.owner_object_class, isSubtype_type]; kernel_rfl
section
variable {prog : Program} {w : World} {A : Around} {E : Value → Shared → Prop} {h : Heap} {g : Array GenState} {d : Drawn} {t : Nat} {os : OsState} {a : Addr} {o : Obj}
theorem cls_get {R : Result → Shared → Prop} (hx : h.get? a = some o) (hc : o.cls = .type "bytearray") (hq : R (.ok (.ret (.type "bytearray"))) ⟨h, g, d, t, os⟩) :
    codeAny (model prog w) A (.call (.builtin "getset_descriptor.__get__") ⟨[.builtin "object.__class__", .ref a, .type "bytearray"], []⟩) R ⟨h, g, d, t, os⟩ := by
  have hT : (⟨h, g, d, t, os⟩ : Shared).TypeIs (.ref a) "bytearray" := ⟨_, hx, hc⟩
  have hD : (⟨h, g, d, t, os⟩ : Shared).TypeIs (.builtin "object.__class__") "getset_descriptor" := F.typeOf_object_class
  have f8 := sub_owner
  refine codeAny_call_builtin F.slot_gs_get.plain F.entry_gs_get (F.slot_gs_get.check _ _ _ _ _ _ _ _ hD (F.args_gs_get _ _ _) ?_)
  repeat (any_goals (first | assumption | wp_step))
  refine ⟨Code.quiet_builtin _ (by decide +kernel), codeAny_builtin F.entry_object_class ?_⟩
  repeat (any_goals (first | assumption | wp_step))
theorem cls_entry {tk : Tok} {Q : Fin → Shared → Prop} (hx : h.get? a = some o) (hc : o.cls = .type "bytearray") (hq : Q (.done (.ret (.type "bytearray"))) ⟨h, g, d, t, os⟩) :
    wpAny (model prog w) A (Builtin.«object.__getattribute__» ⟨[.ref a, .str "__class__" tk], []⟩) Q E ⟨h, g, d, t, os⟩ := by
  have hT : (⟨h, g, d, t, os⟩ : Shared).TypeIs (.ref a) "bytearray" := ⟨_, hx, hc⟩
  have hD : (⟨h, g, d, t, os⟩ : Shared).TypeIs (.builtin "object.__class__") "getset_descriptor" := F.typeOf_object_class
  have f4 := look_class
  have f5 := F.typeOf_object_class
  have f6 := F.slot_gs_get.lookup
  have f7 := F.slot_gs_set.lookup
  repeat (any_goals (first | assumption | wp_step))
  refine cls_get hx hc ?_
  repeat (any_goals (first | assumption | wp_step))
theorem cls_call {tk : Tok} {R : Result → Shared → Prop} (hx : h.get? a = some o) (hc : o.cls = .type "bytearray") (hq : R (.ok (.ret (.type "bytearray"))) ⟨h, g, d, t, os⟩) :
    codeAny (model prog w) A (.call (.builtin "bytearray.__getattribute__") ⟨[.ref a, .str "__class__" tk], []⟩) R ⟨h, g, d, t, os⟩ :=
  codeAny_call_builtin slot_ga.plain entry_ga (slot_ga.check _ _ _ _ _ _ _ _ (show (⟨h, g, d, t, os⟩ : Shared).TypeIs (.ref a) "bytearray" from ⟨_, hx, hc⟩) (args_ga _ _) (cls_entry hx hc hq))
theorem cls_by {tk : Tok} {Q : Value → Shared → Prop} (hx : h.get? a = some o) (hc : o.cls = .type "bytearray") (hq : Q (.type "bytearray") ⟨h, g, d, t, os⟩) : wpAny (model prog w) A (getAttrBy (.ref a) (.str "__class__" tk) false) Q E ⟨h, g, d, t, os⟩ := by
  have hT : (⟨h, g, d, t, os⟩ : Shared).TypeIs (.ref a) "bytearray" := ⟨_, hx, hc⟩
  have f2 := slot_ga.lookup
  have f3 := slot_ga.bind (.ref a)
  repeat (any_goals (first | assumption | wp_step))
  refine cls_call hx hc ?_
  repeat (any_goals (first | assumption | wp_step))
theorem cls_attr {Q : Option Value → Shared → Prop} (hx : h.get? a = some o) (hc : o.cls = .type "bytearray") (hq : Q (some (.type "bytearray")) ⟨h, g, d, t + 1, os⟩) : wpAny (model prog w) A (getAttr? (.ref a) "__class__") Q E ⟨h, g, d, t, os⟩ := by
  unfold getAttr? getAttrBy?
  repeat (any_goals (first | assumption | with_reducible apply cls_by hx hc | wp_step))
end
theorem kitx {K : Frag} {a : Addr} : KitX K (.ref a) (.type "bytearray") (KitAt a "bytearray") :=
  kitx_of kitAt_ty (fun {_ _ _ _ _ s} p k => by obtain ⟨h, g, d, t, os⟩ := s; obtain ⟨o, h1, h2⟩ := p; exact cls_attr h1 h2 k)
end Ba
theorem Ba.at_ {h₀ h : Heap} {L a : Addr} {b : List UInt8} {news : List (Addr × Obj)} (N : News h₀ L h news) (hm : (a, Ba.baO b) ∈ news) : KitAt a "bytearray" h := ⟨_, (N _ hm).1, rfl⟩

theorem top_off_48b : True := by
  w_top off
  trivial
section
local macro_rules | `(tactic| walk_at "exec Assign cons ListComp") => `(tactic| refine Stop.intro ?_)
local macro_rules | `(tactic| walk_at "subscriptTail") => `(tactic| (refine Stop.intro ?_))
local macro_rules | `(tactic| walk_at "getMethod bytes") => `(tactic| (with_reducible refine Ls.method_join ?_))
local macro_rules | `(tactic| walk_at "call builtin:bytes.join") => `(tactic| (refine Stop.intro ?_))
local macro_rules | `(tactic| walk_at "memq") => `(tactic| repeat (first | exact List.mem_cons_self | assumption | refine List.mem_cons_of_mem _ ?_))
local macro_rules | `(tactic| walk_at "call builtin:isinstance") => `(tactic| ((with_reducible show wpAny _ _ (call _ [Value.ref _, Value.ref _]) _ _ _); (with_reducible rename News _ _ _ _ => N'); k_dflt (refine' kia_tup Ba.kitx ?X ?c ?p ?ee ?nb ?_; (case X => k_in); (case c => exact Ba.at_ N' (by walk_at "memq")); (case p => kit_tp); (case ee => kit_is); (case nb => kit_nb); k_whole; intro _)))
local macro_rules | `(tactic| walk_at "call builtin:len") => `(tactic| ((with_reducible rename News _ _ _ _ => N'); refine Ba.len8 N' (by walk_at "memq") (by assumption) ?_; intro _ _))
local macro_rules | `(tactic| walk_at "notboth") => `(tactic| first | exact notboth_a (by assumption) | exact notboth_b (by assumption))
local macro_rules | `(tactic| walk_at "signB") => `(tactic| first | exact signB_1 (by assumption) (by assumption) | exact signB_2 (by walk_at "notboth") (by assumption) (by assumption) | exact signB_3 (by walk_at "notboth") (by walk_at "notboth"))
variable {w : World} {p : Program} {loose : List PySem.Str} {mean : ExcName → Option Value} {mg mb : PySem.Str → Option Value} {news : List (Addr × Obj)}
set_option maxHeartbeats 2000000 in
theorem c_encode_ba (ba : Addr) (b : List UInt8) (hba : (ba, Ba.baO b) ∈ news) (hb : b.length = 8) (l d : Addr) (vl : List Value) (kl : Nat) (od : Obj) (kvs : List (Int × Value)) (hl : (l, ({ cls := .type "list", data := .seq vl.toArray kl } : Obj)) ∈ news) (hs : SignsAre vl)
    (hdm : (d, od) ∈ news) (hdk : od.IsDictOf (intKind PySem.Challenge.rw_kq0071_02.row.prog w) kvs) (H W : Int) (hH : wordAt b 0 = H) (hW : wordAt b 1 = W) (hasH : HasN kvs H) (hasW : HasN kvs W) (fn fs : Bool) :
    Does PySem.Challenge.rw_kq0071_02.row.prog w (hd.heap_39 w.params) p loose mean mg mb 56 [.ref ba, .ref l, .ref d, .bool false, .bool fn, .bool fs] [] news 4 (fun v own => own = [] ∧ ∃ t, v = .bytes (signB fn fs H ++ signB fn fs W).toArray t) := by
  refine' does_defC (binds := [(PySem.Str.ofString "b", .ref ba), (PySem.Str.ofString "chars", .ref l), (PySem.Str.ofString "chars2", .ref d), (PySem.Str.ofString "pad", .bool false), (PySem.Str.ofString "foldnuls", .bool fn), (PySem.Str.ofString "foldspaces", .bool fs)]) ?ho ?hcd ?hbind ?hkind ?hnd ?hco ?hgen ?hk ?h
  (case ho => k_dflt k_is)
  (case hcd => k_dflt k_is)
  (case hbind => intro s' X'; first | exact binds_K X' rfl (by k_dflt k_is) rfl rfl rfl | exact BindsTo.of_eq rfl)
  (case hkind => rfl)
  (case hnd => decide +kernel)
  (case hco => rfl)
  (case hgen => rfl)
  (case hk => rfl)
  intro dp un outer A₀ base g L s cells B F N Y X T hd hu hlt
  k_cells Y
  (try simp only [List.cons_append, List.nil_append] at N)
  (try k_unmd)
  k_fold
  k_steps
  (with_reducible rename Fr _ _ _ _ => F')
  (with_reducible rename News _ _ _ _ => N')
  obtain ⟨fb, hfb, hfp, hfs⟩ := St.fmt_ok (z := 8 / 4) (n := 2) (t := 0) (by decide) (by decide)
  show wpAny _ _ (call (Value.type "_struct.Struct") [.str _ _]) _ _ _
  refine St.new F' N' hfb hfp hfs rfl ?_
  intro D h1 tk1 k1 F1 N1 l1
  clear F' N'
  k_steps
  show wpAny _ _ (call (Value.builtin "_struct.Struct.unpack") [.ref _, .ref _]) _ _ _
  refine Ba.call_unpack F1 N1 List.mem_cons_self (List.mem_cons_of_mem _ (by walk_at "memq")) hfp (by omega) (by omega) ?_
  intro x vs h2 k2 F2 N2 l2 hvl hvs
  clear F1 N1
  k_steps
  show wpAny _ _ (exec _ _) _ _ _
  refine' assign_comp_tup ?F₀ ?hLe ?hh ?hsw ?hclos ?hcell ?hkind ?hnames ?hx ?hy ?hp ?h
  case F₀ => k_asm
  walk_at "comp"
  case h =>
    k_steps
    rename Fr _ _ _ _ => F3
    rename News _ _ _ _ => N3
    refine ⟨x, vs, _, _, rfl, F3, N3, List.mem_cons_self, by omega, fun g' => ?_⟩
    refine compRest_all (fun i y => ∃ t, y = .bytes (signB fn fs (groupAt H W i)).toArray t) List.mem_cons_self ?_ ?_
    · intro i v I oI C oC D' ys m₂ h tk hi hv hC hx F4 N4
      clear F3 N3
      obtain ⟨tw, hw⟩ := hvs i (by omega)
      rw [hv] at hw
      cases hw
      rw [be_word, word_group hH hW (by omega)] at hx
      have hHas := has_group hasH hasW i
      generalize groupAt H W i = n at *
      obtain ⟨⟨ta, hHa⟩, ⟨tb', hHb⟩⟩ := hHas
      obtain ⟨tc, hcv⟩ := signs_at hs n
      obtain ⟨hk0, hk1⟩ := mod_fits n
      have h5p := five_pairs n
      (try k_fold)
      k_steps
      all_goals first
        | (refine kda_item (knd := PySem.intKind _ _) (by k_asm) (by k_mem) hdk (intKind_is _ _ _ _) hHa ?_ ?_ ?_
           · k_steps
             refine kda_item (knd := PySem.intKind _ _) (by k_asm) (by k_mem) hdk (intKind_is _ _ _ _) hHb ?_ ?_ ?_
             · k_steps
               (with_reducible rename News _ _ _ _ => N5)
               refine Ls.item (vs := vl) (n := kl) N5 (List.mem_cons_of_mem _ (List.mem_cons_of_mem _ (List.mem_cons_of_mem _ (List.mem_cons_of_mem _ (List.mem_cons_of_mem _ (List.mem_cons_of_mem _ (List.mem_cons_of_mem _ (List.mem_cons_of_mem _ (List.mem_cons_of_mem _ hl))))))))) hk0 hk1 hcv ?_ ?_
               · k_steps
                 exact EltEnd.intro (by k_asm) N5 sub_refl ⟨_, by rw [(by walk_at "signB" : signB fn fs n = fiveS n), ← h5p]⟩
               · with_unfolding_all rfl
             · with_unfolding_all rfl
             · intro _; with_unfolding_all rfl
           · with_unfolding_all rfl
           · intro _; with_unfolding_all rfl)
        | exact EltEnd.intro (by k_asm) (by k_asm) sub_refl ⟨_, by rw [(by walk_at "signB" : signB fn fs n = [122])]⟩
        | exact EltEnd.intro (by k_asm) (by k_asm) sub_refl ⟨_, by rw [(by walk_at "signB" : signB fn fs n = [121])]⟩
    · intro ys hyl hyR
      intro D'' h5 tk5 F5 N5 o5
      clear F3 N3
      have hBA : Ls.BytesAre ys [signB fn fs H, signB fn fs W] := chunks_two (by omega) (fun v hv => hyR 0 v hv) (fun v hv => hyR 1 v hv)
      have hl0 := signB_len fn fs H
      have hl1 := signB_len fn fs W
      dsimp only
      k_steps
      refine Ls.join N5 List.mem_cons_self hBA (by simp) (by simp only [List.flatten_cons, List.flatten_nil, List.append_nil, List.length_append]; omega) ?_
      intro t' k'
      k_steps
      rw [show [signB fn fs H, signB fn fs W].flatten = signB fn fs H ++ signB fn fs W by simp only [List.flatten_cons, List.flatten_nil, List.append_nil]]
      exact BodyEnd.ret (own := []) F5 N5 (by walk_at "sub") above_nil ⟨rfl, _, rfl⟩
end

theorem top_off_49 : True := by
  w_top off
  trivial
section
variable {w : World} {p : Program} {loose : List PySem.Str} {mean : ExcName → Option Value} {mg mb : PySem.Str → Option Value} {news : List (Addr × Obj)}
local macro_rules | `(tactic| walk_at "exec Try") => `(tactic| refine wpAny_Try_except ?_)
theorem written_of (v : Value) (l fa a0 a1 : Addr) (kf k0 k1 : Nat) (us vs : List Value) (hmf : (fa, Ls.lsO [.ref a0, .ref a1] kf) ∈ news) (hm0 : (a0, Ls.lsO us k0) ∈ news) (hm1 : (a1, Ls.lsO vs k1) ∈ news) (H W : Int) (hus : IntsAre us (canon H)) (hvs : IntsAre vs (canon W))
    (hH0 : 0 ≤ H) (hH1 : H < 4294967296) (hW0 : 0 ≤ W) (hW1 : W < 4294967296) (fn fs : Bool)
    (henc : ∀ d o kvs, o.IsDictOf (intKind PySem.Challenge.rw_kq0071_02.row.prog w) kvs → HasN kvs H → HasN kvs W →
      Does PySem.Challenge.rw_kq0071_02.row.prog w (hd.heap_39 w.params) p loose mean mg mb 56 [v, .ref l, .ref d, .bool false, .bool fn, .bool fs] [] ((d, o) :: news) 4 (fun v own => own = [] ∧ ∃ t, v = .bytes (signB fn fs H ++ signB fn fs W).toArray t)) :
    Does PySem.Challenge.rw_kq0071_02.row.prog w (hd.heap_39 w.params) p loose mean mg mb 114 [v, .ref l, .ref fa, .bool fn, .bool fs] [] news 6 (fun v own => own = [] ∧ ∃ t, v = .bytes (signB fn fs H ++ signB fn fs W).toArray t) := by
  refine' does_def (binds := [(PySem.Str.ofString "row", v), (PySem.Str.ofString "signs", .ref l), (PySem.Str.ofString "face", .ref fa), (PySem.Str.ofString "foldnuls", .bool fn), (PySem.Str.ofString "foldspaces", .bool fs)]) ?ho ?hcd ?hbind ?hloc ?hco ?hgen ?hk ?hcell ?h
  walk_at "enter"
  intro dp un outer A₀ base g L s B F N X T hd hu hlt
  k_fold
  k_steps
  (with_reducible rename Fr _ _ _ _ => F1)
  (with_reducible rename News _ _ _ _ => N1)
  refine does_use (c_pairs fa a0 a1 kf k0 k1 us vs hmf hm0 hm1 H W hus hvs hH0 hH1 hW0 hW1) (by k_asm) F1 (by k_asm) N1 (by k_asm) (by rfl) (by ktr_room) (by ktr_units) ?_
  rintro _ _ h2 tk2 F2 N2 ha ⟨d, o, kvs, rfl, rfl, lo, hdk, hasH, hasW⟩
  rw [List.singleton_append] at N2
  clear F1 N1
  k_steps
  (with_reducible rename Fr _ _ _ _ => F3)
  (with_reducible rename News _ _ _ _ => N3)
  refine does_use (henc d o kvs hdk hasH hasW) (by k_asm) F3 (by k_asm) N3 (by k_asm) (by rfl) (by ktr_room) (by ktr_units) ?_
  rintro _ _ h4 tk4 F4 N4 - ⟨rfl, t, rfl⟩
  rw [List.nil_append] at N4
  clear F3 N3
  k_steps
  exact BodyEnd.ret (own := []) (by k_asm) (by k_asm) (by walk_at "sub") above_nil ⟨rfl, _, rfl⟩
end
section
variable {w : World} {p : Program} {loose : List PySem.Str} {mean : ExcName → Option Value} {mg mb : PySem.Str → Option Value} {news : List (Addr × Obj)}
theorem c_written (b : List UInt8) (tb : Tok) (hb : b.length = 8) (l : Addr) (vl : List Value) (kl : Nat) (hl : (l, ({ cls := .type "list", data := .seq vl.toArray kl } : Obj)) ∈ news) (hs : SignsAre vl)
    (fa a0 a1 : Addr) (kf k0 k1 : Nat) (us vs : List Value) (hmf : (fa, Ls.lsO [.ref a0, .ref a1] kf) ∈ news) (hm0 : (a0, Ls.lsO us k0) ∈ news) (hm1 : (a1, Ls.lsO vs k1) ∈ news) (H W : Int) (hus : IntsAre us (canon H)) (hvs : IntsAre vs (canon W))
    (hH0 : 0 ≤ H) (hH1 : H < 4294967296) (hW0 : 0 ≤ W) (hW1 : W < 4294967296) (hH : wordAt b 0 = H) (hW : wordAt b 1 = W) (fn fs : Bool) :
    Does PySem.Challenge.rw_kq0071_02.row.prog w (hd.heap_39 w.params) p loose mean mg mb 114 [.bytes b.toArray tb, .ref l, .ref fa, .bool fn, .bool fs] [] news 6 (fun v own => own = [] ∧ ∃ t, v = .bytes (signB fn fs H ++ signB fn fs W).toArray t) :=
  written_of _ l fa a0 a1 kf k0 k1 us vs hmf hm0 hm1 H W hus hvs hH0 hH1 hW0 hW1 fn fs fun d o kvs hdk hasH hasW =>
    c_encode b tb hb l d vl kl o kvs (List.mem_cons_of_mem _ hl) hs List.mem_cons_self hdk H W hH hW hasH hasW fn fs
theorem c_written_ba (ba : Addr) (b : List UInt8) (hba : (ba, Ba.baO b) ∈ news) (hb : b.length = 8) (l : Addr) (vl : List Value) (kl : Nat) (hl : (l, ({ cls := .type "list", data := .seq vl.toArray kl } : Obj)) ∈ news) (hs : SignsAre vl)
    (fa a0 a1 : Addr) (kf k0 k1 : Nat) (us vs : List Value) (hmf : (fa, Ls.lsO [.ref a0, .ref a1] kf) ∈ news) (hm0 : (a0, Ls.lsO us k0) ∈ news) (hm1 : (a1, Ls.lsO vs k1) ∈ news) (H W : Int) (hus : IntsAre us (canon H)) (hvs : IntsAre vs (canon W))
    (hH0 : 0 ≤ H) (hH1 : H < 4294967296) (hW0 : 0 ≤ W) (hW1 : W < 4294967296) (hH : wordAt b 0 = H) (hW : wordAt b 1 = W) (fn fs : Bool) :
    Does PySem.Challenge.rw_kq0071_02.row.prog w (hd.heap_39 w.params) p loose mean mg mb 114 [.ref ba, .ref l, .ref fa, .bool fn, .bool fs] [] news 6 (fun v own => own = [] ∧ ∃ t, v = .bytes (signB fn fs H ++ signB fn fs W).toArray t) :=
  written_of _ l fa a0 a1 kf k0 k1 us vs hmf hm0 hm1 H W hus hvs hH0 hH1 hW0 hW1 fn fs fun d o kvs hdk hasH hasW =>
    c_encode_ba ba b (List.mem_cons_of_mem _ hba) hb l d vl kl o kvs (List.mem_cons_of_mem _ hl) hs List.mem_cons_self hdk H W hH hW hasH hasW fn fs
end

theorem top_off_50 : True := by
  w_top off
  trivial
section
variable {w : World} {p : Program} {loose : List PySem.Str} {mean : ExcName → Option Value} {mg mb : PySem.Str → Option Value} {news : List (Addr × Obj)}
theorem c_from (b : List UInt8) (tb : Tok) :
    Does PySem.Challenge.rw_kq0071_02.row.prog w (hd.heap_39 w.params) p loose mean mg mb 50 [.bytes b.toArray tb] [] news 2 (fun r own => own = [] ∧ r = .bytes b.toArray tb) := by
  refine' does_def (binds := [(PySem.Str.ofString "s", .bytes b.toArray tb)]) ?ho ?hcd ?hbind ?hloc ?hco ?hgen ?hk ?hcell ?h
  walk_at "enter"
  intro dp un outer A₀ base g L s B F N X T hd hu hlt
  k_fold
  k_steps
  exact BodyEnd.ret (own := []) (by k_asm) (by k_asm) (by walk_at "sub") above_nil ⟨rfl, rfl⟩
end

def padU (b : List UInt8) : List UInt8 := b ++ [117, 117, 117, 117]
theorem padU_len (b : List UInt8) : (padU b).length = b.length + 4 := by simp [padU]
def packed (n : Int) : List UInt8 := (Builtin.Struct.intBytes true 4 n).toList
theorem packed_len (n : Int) : (packed n).length = 4 := by unfold packed; rw [Bo.intBytes4]; rfl
theorem packed_arr (n : Int) : (packed n).toArray = Builtin.Struct.intBytes true 4 n := by simp [packed]
def intsOf (l : List UInt8) : List Int := l.map fun c => (c.toNat : Int)
theorem intsOf_snoc (l : List UInt8) (c : UInt8) : intsOf (l ++ [c]) = intsOf l ++ [(c.toNat : Int)] := by simp [intsOf]
theorem intsOf_len (l : List UInt8) : (intsOf l).length = l.length := by simp [intsOf]
theorem intsAre_snoc {vs : List Value} {ns : List Int} {n : Int} {t : Tok} (h : IntsAre vs ns) : IntsAre (vs ++ [.int n t]) (ns ++ [n]) := by
  induction h with
  | nil => exact .cons _ _ .nil
  | cons n' t' _ ih => exact .cons _ _ ih
/-- the signs since the last whole group, and what was read: behind one more sign -/
def stepD (q : List UInt8 × List (List UInt8)) (c : UInt8) : List UInt8 × List (List UInt8) :=
  if 33 ≤ c.toNat ∧ c.toNat ≤ 117 then (if q.1.length = 4 then ([], q.2 ++ [packed (numberF 33 85 (q.1 ++ [c]))]) else (q.1 ++ [c], q.2))
  else if c = 122 then (q.1, q.2 ++ [[0, 0, 0, 0]]) else (q.1, q.2 ++ [[32, 32, 32, 32]])
def runD (l : List UInt8) : List UInt8 × List (List UInt8) := l.foldl stepD ([], [])
theorem runD_succ {l : List UInt8} {i : Nat} {c : UInt8} (h : l[i]? = some c) : runD (l.take (i + 1)) = stepD (runD (l.take i)) c := by
  unfold runD
  rw [List.take_add_one, h]; simp
/-- where the sign may stand -/
def OkC (q : List UInt8 × List (List UInt8)) (c : UInt8) : Prop :=
  (33 ≤ c.toNat ∧ c.toNat ≤ 117 ∧ q.1.length ≤ 4 ∧ (q.1.length = 4 → 0 ≤ numberF 33 85 (q.1 ++ [c]) ∧ numberF 33 85 (q.1 ++ [c]) < 4294967296)) ∨ (c = 122 ∧ q.1 = []) ∨ (c = 121 ∧ q.1 = [])
theorem stepD_out (q : List UInt8 × List (List UInt8)) (c : UInt8) : (stepD q c).2.length ≤ q.2.length + 1 := by
  unfold stepD
  repeat' split
  all_goals simp
theorem runD_out (l : List UInt8) : (runD l).2.length ≤ l.length := by
  have key : ∀ (l : List UInt8) (q : List UInt8 × List (List UInt8)), (l.foldl stepD q).2.length ≤ q.2.length + l.length := by
    intro l
    induction l with
    | nil => intro q; exact Nat.le_refl _
    | cons c r ih =>
      intro q
      rw [List.foldl_cons, List.length_cons]
      have h1 := ih (stepD q c)
      have h2 := stepD_out q c
      omega
  simpa [runD] using key l ([], [])
theorem stepD_group {cur : List UInt8} {out : List (List UInt8)} {c : UInt8} (h33 : 33 ≤ c.toNat) (h117 : c.toNat ≤ 117) (h4 : cur.length = 4) : stepD (cur, out) c = ([], out ++ [packed (numberF 33 85 (cur ++ [c]))]) := by
  unfold stepD
  rw [if_pos ⟨h33, h117⟩, if_pos h4]
theorem stepD_more {cur : List UInt8} {out : List (List UInt8)} {c : UInt8} (h33 : 33 ≤ c.toNat) (h117 : c.toNat ≤ 117) (h4 : ¬ cur.length = 4) : stepD (cur, out) c = (cur ++ [c], out) := by
  unfold stepD
  rw [if_pos ⟨h33, h117⟩, if_neg h4]
theorem stepD_z (cur : List UInt8) (out : List (List UInt8)) : stepD (cur, out) 122 = (cur, out ++ [[0, 0, 0, 0]]) := rfl
theorem stepD_y (cur : List UInt8) (out : List (List UInt8)) : stepD (cur, out) 121 = (cur, out ++ [[32, 32, 32, 32]]) := rfl
theorem bytes_one {b : List UInt8} {t : Tok} : Ls.BytesAre [.bytes b.toArray t] [b] := by
  refine ⟨rfl, fun i c hc => ?_⟩
  match i, hc with
  | 0, hc => cases hc; exact ⟨t, rfl⟩
  | i + 1, hc => simp at hc
theorem bytes_app {vs us : List Value} {bs cs : List (List UInt8)} (h : Ls.BytesAre vs bs) (h' : Ls.BytesAre us cs) : Ls.BytesAre (vs ++ us) (bs ++ cs) := by
  refine ⟨by rw [List.length_append, List.length_append, h.1, h'.1], fun i b hb => ?_⟩
  by_cases hi : i < bs.length
  · rw [List.getElem?_append_left hi] at hb
    obtain ⟨t, e⟩ := h.2 i b hb
    exact ⟨t, by rw [List.getElem?_append_left (by rw [h.1]; exact hi)]; exact e⟩
  · rw [List.getElem?_append_right (by omega)] at hb
    obtain ⟨t, e⟩ := h'.2 _ b hb
    exact ⟨t, by rw [List.getElem?_append_right (by rw [h.1]; omega), h.1]; exact e⟩
theorem ints_nil {vs : List Value} (h : IntsAre vs (intsOf [])) : vs = [] := by
  cases h; rfl

section
variable {prog : Program} {w : World} {A : Around} {E : Value → Shared → Prop} {s : Shared} {h₀ : Heap} {L : Addr} {m : PySem.Str → Option Value}
theorem append0 {x a : Addr} {v : Value} {vs : List Value} {k : Nat} {post : List (Addr × Obj)} {Q : Value → Shared → Prop} (F : Fr h₀ L s.heap m) (N : News h₀ L s.heap ((a, Ls.lsO vs k) :: post)) (hx : (x, Bo.boundO "list.append" a) ∈ post)
    (o2 : AllNe a post) (hz : vs.length ≤ 1000) (h : ∀ h' k', Fr h₀ L h' m → News h₀ L h' ((a, Ls.lsO (vs ++ [v]) k') :: post) → Q .none { s with heap := h' }) : wpAny (model prog w) A (call (.ref x) [v]) Q E s :=
  Bo.append (pre := []) F N (List.mem_cons_of_mem _ hx) (fun _ h => nomatch h) o2 hz h
theorem append1 {x a : Addr} {v : Value} {vs : List Value} {k : Nat} {q : Addr × Obj} {post : List (Addr × Obj)} {Q : Value → Shared → Prop} (F : Fr h₀ L s.heap m) (N : News h₀ L s.heap (q :: (a, Ls.lsO vs k) :: post)) (hx : (x, Bo.boundO "list.append" a) ∈ post)
    (o1 : q.1 ≠ a) (o2 : AllNe a post) (hz : vs.length ≤ 1000) (h : ∀ h' k', Fr h₀ L h' m → News h₀ L h' (q :: (a, Ls.lsO (vs ++ [v]) k') :: post) → Q .none { s with heap := h' }) : wpAny (model prog w) A (call (.ref x) [v]) Q E s :=
  Bo.append (pre := [q]) F N (List.mem_cons_of_mem _ (List.mem_cons_of_mem _ hx)) (fun p hp => by rw [List.mem_singleton.mp hp]; exact o1) o2 hz h
theorem clear0 {x a : Addr} {vs : List Value} {k : Nat} {post : List (Addr × Obj)} {Q : Value → Shared → Prop} (F : Fr h₀ L s.heap m) (N : News h₀ L s.heap ((a, Ls.lsO vs k) :: post)) (hx : (x, Bo.boundO "list.clear" a) ∈ post)
    (o2 : AllNe a post) (hz : vs.length ≤ 1000) (h : ∀ h' k', Fr h₀ L h' m → News h₀ L h' ((a, Ls.lsO [] k') :: post) → Q .none { s with heap := h' }) : wpAny (model prog w) A (call (.ref x) []) Q E s :=
  Bo.clear (pre := []) F N (List.mem_cons_of_mem _ hx) (fun _ h => nomatch h) o2 hz h
end
section
variable {prog : Program} {w : World} {A : Around} {E : Value → Shared → Prop} {s : Shared} {h₀ : Heap} {L : Addr} {m : PySem.Str → Option Value} {news : List (Addr × Obj)}
theorem callW_go {pos : Pos} {u x : Addr} {id : String} {first : List Value} {args : List (Bool × Sem Value)} {Q : Value → Shared → Prop} (hplain : args.any (·.1) = false)
    (h : wpAny (model prog w) A (evalArgs (.ref u) true args []) (fun a s₁ => s₁.heap.get? u = some (Bo.boundO id x) ∧ wpAny (model prog w) A (call (.ref u) (first ++ a.pos) a.kw) Q E s₁) E s) : wpAny (model prog w) A (callWith pos (.ref u) first args []) Q E s := by
  unfold callWith
  refine wpAny_bind (wpAny_holding (wpAny_mono h (fun a s₁ h₁ => wpAny_bind (wpAny_standAt ?_)) fun _ _ x => x))
  obtain ⟨ho, hcall⟩ := h₁
  simp only [hplain, List.any_nil, Bool.or_false]
  have hk : wpAny (model prog w) A (keeperOf (.ref u)) (fun k s' => k = .machine ∧ s' = s₁) E s₁ := by
    unfold keeperOf
    refine wpAny_bind (wpAny_load ho ?_)
    simp only [show (Value.type "builtin_function_or_method" != Value.type "method") = true by decide, show (Value.type "builtin_function_or_method" == Value.type "builtin_function_or_method") = true by decide, Bool.true_or, if_true]
    exact wpAny_pure ⟨rfl, rfl⟩
  refine wpAny_bind (wpAny_mono hk (fun k s' q => ?_) fun _ _ x => x)
  obtain ⟨rfl, rfl⟩ := q
  dsimp only
  exact wpAny_bind (wpAny_mono hcall (fun r s₂ hr => wpAny_bind (wpAny_holding (wpAny_point (wpAny_pure hr)))) fun _ _ x => x)
theorem callW {pos : Pos} {u x : Addr} {id : String} {first : List Value} {env : Env} {e : Expr} {rest : List Expr} {Q : Value → Shared → Prop} (_N : News h₀ L s.heap news) (_hm : (u, Bo.boundO id x) ∈ news)
    (h : wpAny (model prog w) A (spliced (backTo pos (starEach (e :: rest) env))) (fun vs s₁ => s₁.heap.get? u = some (Bo.boundO id x) ∧ wpAny (model prog w) A (call (.ref u) (first ++ vs)) Q E s₁) E s)
    (he : starEach (e :: rest) env = (false, eval e env) :: starEach rest env := by rfl) (hplain : (backTo pos (starEach rest env)).any (·.1) = false := by rfl) :
    wpAny (model prog w) A (callWith pos (.ref u) first (backTo pos (starEach (e :: rest) env)) []) Q E s := by
  rw [he] at h ⊢
  refine callW_go (x := x) (id := id) (by show (false || (backTo pos (starEach rest env)).any (·.1)) = false; rw [hplain]; rfl) ?_
  exact Calls.evalArgs_plain h
theorem callW0 {pos : Pos} {u x : Addr} {id : String} {first : List Value} {env : Env} {Q : Value → Shared → Prop} (N : News h₀ L s.heap news) (hm : (u, Bo.boundO id x) ∈ news)
    (h : wpAny (model prog w) A (call (.ref u) first) Q E s) : wpAny (model prog w) A (callWith pos (.ref u) first (backTo pos (starEach [] env)) []) Q E s := by
  show wpAny _ _ (callWith pos (.ref u) first [] []) _ _ _
  exact callW_go (x := x) (id := id) rfl (evalArgs_nil3 ⟨(N _ hm).1, by simpa using h⟩)
end
theorem len_led {prog : Program} {w : World} {A : Around} {E : Value → Shared → Prop} {s : Shared} {h₀ : Heap} {L a : Addr} {news : List (Addr × Obj)} {vs : List Value} {k : Nat} {n : Int} {Q : Value → Shared → Prop} (N : News h₀ L s.heap news) (hm : (a, Ls.lsO vs k) ∈ news) (hn : (vs.length : Int) = n) (hz : vs.length ≤ 10000)
    (h : ∀ t' k', Q (.int n t') { s with toks := k' }) : wpAny (model prog w) A (call (.builtin "len") [.ref a]) Q E s :=
  kun_lenL (Ls.isList N hm) (by simpa using hn) (by omega) (h _ _)
theorem off_ovr {xs : List (PySem.Str × Value)} {ts' ts ks : List PySem.Str} {u m m₀ : PySem.Str → Option Value} (h1 : (xs.map (·.1) ++ ts').all (fun a => (ts ++ ks).contains a) = true) (h : OffOf ts ks m m₀) : OffOf ts ks (ovr xs ts' u m) m₀ := fun z z1 z2 => by
  have key : ∀ a ∈ xs.map (·.1) ++ ts', z ≠ a := fun a ha => by
    have := List.contains_iff_mem.mp (List.all_eq_true.mp h1 a ha)
    rcases List.mem_append.mp this with h | h
    · exact z1 a h
    · exact z2 a h
  rw [ovr_off (fun t ht => key t (List.mem_append_right _ ht)) fun p hp => key p.1 (List.mem_append_left _ (List.mem_map_of_mem hp))]
  exact h z z1 z2

namespace By
open Builtin
theorem gives_in {b : Array UInt8} {n : Int} {t u : Tok} (h0 : 0 ≤ n) (h1 : n < 256) : Gives («bytes.__contains__» ⟨[.bytes b t, .int n u], []⟩) (.val (.bool (b.contains n.toNat.toUInt8))) := by
  refine .of_wp fun M A E s Q hq => ?_
  unfold «bytes.__contains__» Bytes.containsIn
  refine wpAny_bind (wpAny_of_eq (a := (.bytes b t, [.int n u])) rfl ?_)
  refine wpAny_bind ?_
  refine wpAny_bind (wpAny_attempt (wpAny_of_eq (rfl : asIndex (.int n u) = pure n) ?_))
  refine wpAny_bind (wpAny_of_eq KBy.buffer_eq ?_)
  refine bm_if_false (by simp only [Bool.or_eq_false_iff, decide_eq_false_iff_not]; omega) ?_
  exact wpAny_pure (wpAny_pure ⟨_, rfl, hq⟩)
theorem in_bytes {prog : Program} {w : World} {A : Around} {E : Value → Shared → Prop} {s : Shared} {b : Array UInt8} {n : Int} {t u : Tok} {Q : Value → Shared → Prop} (h0 : 0 ≤ n) (h1 : n < 256) (h : Q (.bool (b.contains n.toNat.toUInt8)) s) :
    wpAny (model prog w) A (compareOp .In (.int n u) (.bytes b t)) Q E s :=
  in_gives (typeIs_bytes _ _ _) PySem.W.FB.slot_bytes_contains PySem.W.FB.entry_bytes_contains (PySem.W.FB.args_bytes_contains_2 _ _) (gives_in h0 h1) h
end By

theorem top_off_51 : True := by
  w_top off
  trivial
theorem fmt_one (t : Tok) : ∃ fb, Builtin.Struct.formatBytes (.str (PySem.Str.ofString "!I") t) = pure fb ∧ Builtin.Struct.parse fb = pure ⟨true, false, [⟨'I', 1, 0, 4⟩], 4, 1⟩ ∧ fb.size ≤ 100 :=
  ⟨#[33, 73], by kernel_rfl, by kernel_rfl, by decide⟩
theorem item0 {prog : Program} {w : World} {A : Around} {E : Value → Shared → Prop} {s : Shared} {value slice : PySem.Expr} {c : UInt8} {n : Int} {t u : Tok} {Q : Value → Shared → Prop} (hn : (c.toNat : Int) = n) (h : ∀ t' k, Q (.int n t') { s with toks := k })
    (hs : subscripted slice false (.bytes #[c] t) (.int 0 u) = operate [.bytes #[c] t, .int 0 u] (getItem (.bytes #[c] t) (.int 0 u)) := by with_unfolding_all rfl)
    (ht : ∀ r, letTemporaryGo value (.bytes #[c] t) r = pure () := by intro _; with_unfolding_all rfl) :
    wpAny (model prog w) A (subscriptTail value slice (.bytes #[c] t) (.int 0 u)) Q E s :=
  KBw.item_K (ks := [n]) (by rw [← hn]; rfl) (by simp) (by decide) (by simp) (fun t' k _ _ => h t' k) hs ht
section
local macro_rules | `(tactic| walk_at "off") => `(tactic| (repeat' (first | exact off_refl | exact ovr_offOf (by rfl) | (refine off_upd (by rfl) ?_) | (refine off_ovr (by rfl) ?_))))
local macro_rules | `(tactic| walk_at "memq") => `(tactic| repeat (first | exact List.mem_cons_self | assumption | refine List.mem_cons_of_mem _ ?_))
local macro_rules | `(tactic| walk_at "callWith ref") => `(tactic| ((with_reducible show wpAny _ _ (callWith _ (Value.ref _) _ (backTo _ (starEach (_ :: _) _)) []) _ _ _); k_dflt (refine' callW ?k1 ?k2 ?_; (case k1 => k_asm); (case k2 => walk_at "memq"); k_whole)))
local macro_rules | `(tactic| walk_at "callWith ref") => `(tactic| ((with_reducible show wpAny _ _ (callWith _ (Value.ref _) _ (backTo _ (starEach [] _)) []) _ _ _); k_dflt (refine' callW0 ?k1 ?k2 ?_; (case k1 => k_asm); (case k2 => walk_at "memq"); k_whole)))
local macro_rules | `(tactic| walk_at "And") => `(tactic| (k_dflt (refine ⟨News.get (o := Bo.boundO _ _) (by k_asm) (by walk_at "memq"), ?_⟩); (try dsimp only [List.nil_append, List.cons_append])))
local macro_rules | `(tactic| walk_at "subscriptTail") => `(tactic| ((with_reducible show wpAny _ _ (subscriptTail _ _ (Value.bytes _ _) (Value.int _ _)) _ _ _); (first | refine item0 (c := 33) (n := 33) rfl ?_ | refine item0 (c := 117) (n := 117) rfl ?_ | refine item0 (c := 122) (n := 122) rfl ?_ | refine item0 (c := 121) (n := 121) rfl ?_); intro _ _))
local macro_rules | `(tactic| walk_at "exec For Name BinOp cons nil") => `(tactic| refine Stop.intro ?_)
local macro_rules | `(tactic| walk_at "pyIter bytes") => `(tactic| refine Stop.intro ?_)
local macro_rules | `(tactic| walk_at "pyIter ref") => `(tactic| refine Stop.intro ?_)
local macro_rules | `(tactic| walk_at "getMethod bytes") => `(tactic| (with_reducible refine Ls.method_join ?_))
local macro_rules | `(tactic| walk_at "call builtin:bytes.join") => `(tactic| (refine Stop.intro ?_))
local macro_rules | `(tactic| walk_at "exec Try") => `(tactic| refine Stop.intro ?_)
local macro_rules | `(tactic| walk_at "exec Raise some none") => `(tactic| refine Stop.intro ?_)
variable {w : World} {p : Program} {loose : List PySem.Str} {mean : ExcName → Option Value} {mg mb : PySem.Str → Option Value} {news : List (Addr × Obj)}
set_option maxHeartbeats 4000000 in
theorem c_decode (b : List UInt8) (tb : Tok) (fsp : Bool) (hb : b.length ≤ 100) (hok : ∀ i c, (padU b)[i]? = some c → OkC (runD ((padU b).take i)) c) (hend : (runD (padU b)).1.length = 4) (h1 : 1 ≤ (runD (padU b)).2.length) (h2 : (runD (padU b)).2.flatten.length ≤ 1000) :
    Ex.DoesX PySem.Challenge.rw_kq0071_02.row.prog w (hd.heap_39 w.params) p loose mean mg mb 64 [.bytes b.toArray tb] [(PySem.Str.ofString "foldspaces", .bool fsp)] news 4 (fun v own => own = [] ∧ (fsp = true ∨ (121 : UInt8) ∉ padU b) ∧ ∃ t, v = .bytes (runD (padU b)).2.flatten.toArray t)
      (.type "ValueError") (fun vs => fsp = false ∧ (121 : UInt8) ∈ padU b ∧ ∃ t, vs = [.str (PySem.Str.ofString "Non-Ascii85 digit found: y") t]) := by
  refine' Ex.does_defX (binds := [(PySem.Str.ofString "b", .bytes b.toArray tb), (PySem.Str.ofString "foldspaces", .bool fsp), (PySem.Str.ofString "adobe", .bool false), (PySem.Str.ofString "ignorechars", .bytes #[32, 9, 10, 13, 11] 343)]) ?ho ?hcd ?hbind ?hloc ?hco ?hgen ?hk ?hcell ?h
  (case ho => k_dflt k_is)
  (case hcd => k_dflt k_is)
  case hbind =>
    intro s' X' M A E Q hq
    have hn : s'.heap.Ns 57 _ := ⟨_, _, _, X' _ _ (by k_dflt k_is), rfl, (by intro e he; simp only [Array.mem_toArray, List.mem_cons, List.not_mem_nil, or_false] at he; rcases he with rfl | rfl | rfl <;> exact ⟨_, _, rfl⟩), fun _ => rfl⟩
    unfold bindArgs
    repeat (any_goals (first | assumption | (refine wpAny_nsGet hn ?_) | wp_step))
  (case hloc => exact locs rfl)
  (case hco => rfl)
  (case hgen => rfl)
  (case hk => rfl)
  (case hcell => decide)
  intro dp un outer A₀ base g L s Xp B F N X T XB TB D hd hu hlt hX
  k_fold
  k_steps
  refine does_use (c_from b tb) (by k_asm) F (by k_asm) N (by k_asm) (by rfl) (by ktr_room) (by ktr_units) ?_
  rintro _ _ h3 tk3 F3 N3 - ⟨rfl, rfl⟩
  simp only [List.nil_append] at N3
  clear F N
  k_steps
  rename_i h4 F4 N4
  obtain ⟨fb, hfb, hfp, hfs⟩ := fmt_one 0
  show wpAny _ _ (call (Value.type "_struct.Struct") [.str _ _]) _ _ _
  refine St.new F4 N4 hfb hfp hfs rfl ?_
  intro D h5 tk5 k5 F5 N5 l5
  k_steps
  refine Bo.attrK_struct F5 N5 List.mem_cons_self Bo.look_pack Bo.type_pack (by decide +kernel) (by decide +kernel) (by decide +kernel) (by decide +kernel) ?_
  intro P1 h6 tk6 F6 N6 l6
  k_steps
  rename_i D1 _ l7 h7 F7 N7
  refine Bo.attrK_list (vs := []) F7 N7 List.mem_cons_self Bo.look_append Bo.type_append (by decide +kernel) (by decide +kernel) (by decide +kernel) (by decide +kernel) ?_
  intro P2 h8 tk8 F8 N8 l8
  k_steps
  rename_i D2 _ l9 h9 F9 N9
  refine Bo.attrK_list (vs := []) F9 N9 List.mem_cons_self Bo.look_append Bo.type_append (by decide +kernel) (by decide +kernel) (by decide +kernel) (by decide +kernel) ?_
  intro P3 h10 tk10 F10 N10 l10
  k_steps
  rename_i h11 F11 N11
  refine Bo.attrK_list (vs := []) F11 N11 (List.mem_cons_of_mem _ List.mem_cons_self) Bo.look_clear Bo.type_clear (by decide +kernel) (by decide +kernel) (by decide +kernel) (by decide +kernel) ?_
  intro P4 h12 tk12 F12 N12 l12
  k_steps
  rename_i h13 F13 N13
  (try clear F3 N3); (try clear F4 N4); (try clear F5 N5); (try clear F6 N6); (try clear F7 N7); (try clear F8 N8); (try clear F9 N9); (try clear F10 N10); (try clear F11 N11); (try clear F12 N12)
  have hpl := padU_len b
  have oD2 : AllNe D2 ((P4, Bo.boundO "list.clear" D2) :: (P3, Bo.boundO "list.append" D2) :: (P2, Bo.boundO "list.append" D1) :: (P1, Bo.boundO "_struct.Struct.pack" D) :: (D, St.objS fb tk5) :: news) :=
    allNe_cons' (Nat.ne_of_gt l12.2.1) (allNe_cons' (Nat.ne_of_gt l10.1) (allNe_cons' (Nat.ne_of_lt l9.1) (allNe_cons' (Nat.ne_of_lt l9.2.2.1) (allNe_cons' (Nat.ne_of_lt l9.2.2.2.1) (AllNe.ofLt l9.2.2.2.2)))))
  have oD1 : AllNe D1 ((P4, Bo.boundO "list.clear" D2) :: (P3, Bo.boundO "list.append" D2) :: (P2, Bo.boundO "list.append" D1) :: (P1, Bo.boundO "_struct.Struct.pack" D) :: (D, St.objS fb tk5) :: news) :=
    allNe_cons' (Nat.ne_of_gt l12.2.2.2.1) (allNe_cons' (Nat.ne_of_gt l10.2.2.1) (allNe_cons' (Nat.ne_of_gt l8.1) (allNe_cons' (Nat.ne_of_lt l7.1) (allNe_cons' (Nat.ne_of_lt l7.2.1) (AllNe.ofLt l7.2.2)))))
  have oD12 : D1 ≠ D2 := Nat.ne_of_lt l9.2.1
  walk_at "for"
  k_steps
  refine' for_bytes (L := L) (nx₀ := [(D2, Ls.lsO [] 0), (D1, Ls.lsO [] 0)]) (fix := (P4, Bo.boundO "list.clear" D2) :: (P3, Bo.boundO "list.append" D2) :: (P2, Bo.boundO "list.append" D1) :: (P1, Bo.boundO "_struct.Struct.pack" D) :: (D, St.objS fb tk5) :: news)
    (fun i m nx => ∃ cv ck dv dk, nx = [(D2, Ls.lsO cv ck), (D1, Ls.lsO dv dk)] ∧ IntsAre cv (intsOf (runD ((padU b).take i)).1) ∧ Ls.BytesAre dv (runD ((padU b).take i)).2 ∧ (fsp = true ∨ (121 : UInt8) ∉ (padU b).take i) ∧ m = ovr [(PySem.Str.ofString "curr_clear", .ref P4), (PySem.Str.ofString "curr_append", .ref P3), (PySem.Str.ofString "curr", .ref D2), (PySem.Str.ofString "decoded_append", .ref P2), (PySem.Str.ofString "decoded", .ref D1), (PySem.Str.ofString "packI", .ref P1), (PySem.Str.ofString "b", .bytes b.toArray tb)] [PySem.Str.ofString "x", PySem.Str.ofString "acc"] m
      (fun y => [(PySem.Str.ofString "b", Value.bytes b.toArray tb), (PySem.Str.ofString "foldspaces", .bool fsp), (PySem.Str.ofString "adobe", .bool false), (PySem.Str.ofString "ignorechars", .bytes #[32, 9, 10, 13, 11] 343)].reverse.lookup y)) ?hL ?hh F13 ?N ?hff ?hJ ?turn ?done
  case hL => rfl
  case hh => rfl
  case N => exact fun p hp => N13 p ((by walk_at "sub" : ∀ p ∈ [(D2, Ls.lsO [] 0), (D1, Ls.lsO [] 0)] ++ _, p ∈ _) p hp)
  case hff =>
    intro q hq
    simp only [List.mem_cons, List.not_mem_nil, or_false] at hq
    rcases hq with rfl | rfl
    · exact oD2
    · exact oD1
  case hJ => exact ⟨[], 0, [], 0, rfl, .nil, ⟨rfl, fun i b h => nomatch h⟩, .inr (by simp), ovr_of (keys_cons rfl (keys_cons rfl (keys_cons rfl (keys_cons rfl (keys_cons rfl (keys_cons rfl (keys_cons rfl keys_nil))))))) (by walk_at "off")⟩
  case turn =>
    rintro i c t m₁ nx h tk tl hc ⟨cv, ck, dv, dk, rfl, hcv, hdv, hyy, hm⟩ hsub hne F' N'
    have hc' : (padU b)[i]? = some c := by simpa [padU] using hc
    have hi : i < (padU b).length := (List.getElem?_eq_some_iff.mp hc').1
    have hstep := runD_succ hc'
    have hokc := hok i c hc'
    have hout := runD_out ((padU b).take i)
    rw [List.length_take] at hout
    have hmem : c ∈ padU b := List.mem_of_getElem? hc'
    have htk : (padU b).take (i + 1) = (padU b).take i ++ [c] := by rw [List.take_add_one, hc']; rfl
    generalize runD ((padU b).take (i + 1)) = q' at *
    generalize runD ((padU b).take i) = q at *
    obtain ⟨cur, out⟩ := q
    dsimp only at *
    have hcl : cv.length = cur.length := by rw [hcv.length, intsOf_len]
    have hdl : dv.length ≤ 200 := by rw [hdv.1]; omega
    rw [hm] at F'
    rw [show [(D2, Ls.lsO cv ck), (D1, Ls.lsO dv dk)] ++ tl = (D2, Ls.lsO cv ck) :: (D1, Ls.lsO dv dk) :: tl from rfl] at N'
    have hn2 : AllNe D2 tl := hne (D2, _) List.mem_cons_self
    have hn1 : AllNe D1 tl := hne (D1, _) (List.mem_cons_of_mem _ List.mem_cons_self)
    have mP4 := hsub _ List.mem_cons_self
    have mP3 := hsub _ (List.mem_cons_of_mem _ List.mem_cons_self)
    have mP2 := hsub _ (List.mem_cons_of_mem _ (List.mem_cons_of_mem _ List.mem_cons_self))
    have mP1 := hsub _ (List.mem_cons_of_mem _ (List.mem_cons_of_mem _ (List.mem_cons_of_mem _ List.mem_cons_self)))
    have mD := hsub _ (List.mem_cons_of_mem _ (List.mem_cons_of_mem _ (List.mem_cons_of_mem _ (List.mem_cons_of_mem _ List.mem_cons_self))))
    rcases hokc with ⟨h33, h117, hcl4, hpk⟩ | ⟨rfl, hcur⟩ | ⟨rfl, hcur⟩
    · dsimp only at hcl4 hpk
      have hl5 : (cv ++ [Value.int (c.toNat : Int) t]).length = cur.length + 1 := by rw [List.length_append, hcl]; rfl
      have hl100 : cv.length ≤ 1000 := by omega
      have hcy : c ≠ 121 := fun e => by rw [e] at h117; exact absurd h117 (by decide)
      have hyy' : fsp = true ∨ (121 : UInt8) ∉ (padU b).take (i + 1) := hyy.imp id fun h hm' => by
        rw [htk] at hm'
        rcases List.mem_append.mp hm' with hm' | hm'
        · exact h hm'
        · exact hcy (List.mem_singleton.mp hm').symm
      have hci : IntsAre (cv ++ [Value.int (c.toNat : Int) t]) (intsOf (cur ++ [c])) := by rw [intsOf_snoc]; exact intsAre_snoc hcv
      clear hok hend h1 h2 hout hmem htk hyy
      (try k_fold)
      k_steps
      by_cases h4 : cur.length = 4
      · rw [stepD_group h33 h117 h4] at hstep
        obtain ⟨hp0, hp1⟩ := hpk h4
        refine append0 (post := (D1, Ls.lsO dv dk) :: tl) F' N' (List.mem_cons_of_mem _ mP3) (allNe_cons' oD12 hn2) hl100 ?_
        intro h1 k1 F1 N1
        clear F' N'
        k_steps
        refine len_led (n := 5) N1 List.mem_cons_self (by rw [hl5, h4]; rfl) (by rw [hl5]; omega) ?_
        intro t5 k5
        k_steps
        have hgr5 : (cur ++ [c]).length = 5 := by rw [List.length_append, h4]; rfl
        rename Fr _ _ _ _ => F2
        rename News _ _ _ _ => N2
        walk_at "for"
        k_steps
        refine' for_list (L := L) (l := D2) (vs := cv ++ [Value.int (c.toNat : Int) t]) (k := k1) (nx₀ := []) (fix := (D2, Ls.lsO (cv ++ [Value.int (c.toNat : Int) t]) k1) :: (D1, Ls.lsO dv dk) :: tl)
          (fun j m nx => nx = [] ∧ ∃ ta, m = ovr [(PySem.Str.ofString "acc", .int (numberF 33 85 ((cur ++ [c]).take j)) ta)] [PySem.Str.ofString "x"] m (ovr [(PySem.Str.ofString "curr_clear", .ref P4), (PySem.Str.ofString "curr_append", .ref P3), (PySem.Str.ofString "curr", .ref D2), (PySem.Str.ofString "decoded_append", .ref P2), (PySem.Str.ofString "decoded", .ref D1), (PySem.Str.ofString "packI", .ref P1), (PySem.Str.ofString "b", .bytes b.toArray tb)] [PySem.Str.ofString "x", PySem.Str.ofString "acc"] m₁ (fun y => [(PySem.Str.ofString "b", Value.bytes b.toArray tb), (PySem.Str.ofString "foldspaces", .bool fsp), (PySem.Str.ofString "adobe", .bool false), (PySem.Str.ofString "ignorechars", .bytes #[32, 9, 10, 13, 11] 343)].reverse.lookup y))) ?hL2 ?hh2 List.mem_cons_self F2 N2 ?hff2 ?hJ2 ?turn2 ?done2
        case hL2 => rfl
        case hh2 => rfl
        case hff2 => intro q hq; cases hq
        case hJ2 => exact ⟨rfl, _, ovr_of (keys_cons rfl keys_nil) (by walk_at "off")⟩
        case turn2 =>
          rintro j v m₂ nx hh2 tk2 tl2 hv ⟨rfl, ta, hm2⟩ hsub2 hne2 F3 N3
          obtain ⟨n, tn, rfl, hn⟩ := IntsAre.at hci j v hv
          obtain ⟨c2, hc2, rfl⟩ : ∃ c2 : UInt8, (cur ++ [c])[j]? = some c2 ∧ (c2.toNat : Int) = n := by
            unfold intsOf at hn
            rw [List.getElem?_map] at hn
            obtain ⟨c2, e1, e2⟩ := Option.map_eq_some_iff.mp hn
            exact ⟨c2, e1, e2⟩
          have hstep2 := numberF_succ (first := 33) (bs := 85) hc2
          have hacc : 85 * numberF 33 85 ((cur ++ [c]).take j) + ((c2.toNat : Int) - 33) = numberF 33 85 ((cur ++ [c]).take (j + 1)) := by rw [hstep2]; omega
          rw [hm2] at F3
          (try k_fold)
          k_steps
          refine ⟨_, _, _, [], rfl, by k_asm, by k_asm, (fun _ h => nomatch h), rfl, _, ovr_of (keys_cons (by rw [← hacc]; rfl) keys_nil) (by walk_at "off")⟩
        case done2 =>
          rintro m₂ nx h3 tk3 ⟨rfl, ta, hm2⟩ F3 N3 -
          rw [List.nil_append] at N3
          rw [List.take_of_length_le (by rw [hci.length, intsOf_len]; exact Nat.le_refl _)] at hm2
          rw [hm2] at F3
          clear hm2
          (try k_fold)
          k_steps
          refine wpAny_Try_except ?_
          k_steps
          refine Bo.call_pack_ok (N3.get (List.mem_cons_of_mem _ (List.mem_cons_of_mem _ mP1))) (N3.get (List.mem_cons_of_mem _ (List.mem_cons_of_mem _ mD))) hfp hp0 hp1 ?_
          intro t9 k9
          rw [← packed_arr]
          k_steps
          refine append1 F3 N3 mP2 (Ne.symm oD12) hn1 (by omega) ?_
          intro h4' k4 F4 N4
          k_steps
          refine clear0 F4 N4 (List.mem_cons_of_mem _ mP4) (allNe_cons' oD12 hn2) (by rw [hl5]; omega) ?_
          intro h5' k5' F5 N5
          k_steps
          refine ⟨_, _, _, [(D2, Ls.lsO [] k5'), (D1, Ls.lsO (dv ++ [_]) k4)], rfl, F5, N5, ?_, _, _, _, _, rfl, by rw [hstep]; exact .nil, by rw [hstep]; exact bytes_app hdv bytes_one, hyy', ovr_of (keys_cons rfl (keys_cons rfl (keys_cons rfl (keys_cons rfl (keys_cons rfl (keys_cons rfl (keys_cons rfl keys_nil))))))) (by walk_at "off")⟩
          intro q hq
          simp only [List.mem_cons, List.not_mem_nil, or_false] at hq
          rcases hq with rfl | rfl
          · exact hn2
          · exact hn1
      · rw [stepD_more h33 h117 h4] at hstep
        refine append0 (post := (D1, Ls.lsO dv dk) :: tl) F' N' (List.mem_cons_of_mem _ mP3) (allNe_cons' oD12 hn2) hl100 ?_
        intro h1 k1 F1 N1
        clear F' N'
        k_steps
        obtain ⟨kl, hkl, hkl5⟩ : ∃ kl : Int, ((cv ++ [Value.int (c.toNat : Int) t]).length : Int) = kl ∧ kl < 5 := ⟨_, rfl, by rw [hl5]; omega⟩
        refine len_led (n := kl) N1 List.mem_cons_self hkl (by rw [hl5]; omega) ?_
        intro t5 k5
        k_steps
        · exfalso; omega
        · refine ⟨_, _, _, [(D2, Ls.lsO (cv ++ [_]) k1), (D1, Ls.lsO dv dk)], rfl, F1, N1, ?_, _, _, _, _, rfl, by rw [hstep]; exact hci, by rw [hstep]; exact hdv, hyy', ovr_of (keys_cons rfl (keys_cons rfl (keys_cons rfl (keys_cons rfl (keys_cons rfl (keys_cons rfl (keys_cons rfl keys_nil))))))) (by walk_at "off")⟩
          intro q hq
          simp only [List.mem_cons, List.not_mem_nil, or_false] at hq
          rcases hq with rfl | rfl
          · exact hn2
          · exact hn1
    · dsimp only at hcur
      subst hcur
      rw [stepD_z] at hstep
      obtain rfl := ints_nil hcv
      have hyy' : fsp = true ∨ (121 : UInt8) ∉ (padU b).take (i + 1) := hyy.imp id fun h hm' => by
        rw [htk] at hm'
        rcases List.mem_append.mp hm' with hm' | hm'
        · exact h hm'
        · exact absurd (List.mem_singleton.mp hm') (by decide)
      rw [show (((122 : UInt8).toNat : Nat) : Int) = 122 from rfl] at F'
      clear hok hend h1 h2 hout hmem htk hyy
      (try k_fold)
      k_steps
      (with_reducible rename Fr _ _ _ _ => F1)
      (with_reducible rename News _ _ _ _ => N1)
      refine append1 F1 N1 mP2 (Ne.symm oD12) hn1 (by omega) ?_
      intro h4' k4 F4 N4
      k_steps
      refine ⟨_, _, _, [(D2, Ls.lsO [] ck), (D1, Ls.lsO (dv ++ [_]) k4)], rfl, F4, N4, ?_, _, _, _, _, rfl, by rw [hstep]; exact .nil, by rw [hstep]; exact bytes_app hdv bytes_one, hyy', ovr_of (keys_cons rfl (keys_cons rfl (keys_cons rfl (keys_cons rfl (keys_cons rfl (keys_cons rfl (keys_cons rfl keys_nil))))))) (by walk_at "off")⟩
      intro q hq
      simp only [List.mem_cons, List.not_mem_nil, or_false] at hq
      rcases hq with rfl | rfl
      · exact hn2
      · exact hn1
    · dsimp only at hcur
      subst hcur
      rw [stepD_y] at hstep
      obtain rfl := ints_nil hcv
      rw [show (((121 : UInt8).toNat : Nat) : Int) = 121 from rfl] at F'
      clear hok hend h1 h2 hout
      by_cases hf : fsp = true
      · subst hf
        (try k_fold)
        k_steps
        (with_reducible rename Fr _ _ _ _ => F1)
        (with_reducible rename News _ _ _ _ => N1)
        refine append1 F1 N1 mP2 (Ne.symm oD12) hn1 (by omega) ?_
        intro h4' k4 F4 N4
        k_steps
        refine ⟨_, _, _, [(D2, Ls.lsO [] ck), (D1, Ls.lsO (dv ++ [_]) k4)], rfl, F4, N4, ?_, _, _, _, _, rfl, by rw [hstep]; exact .nil, by rw [hstep]; exact bytes_app hdv bytes_one, (.inl trivial), ovr_of (keys_cons rfl (keys_cons rfl (keys_cons rfl (keys_cons rfl (keys_cons rfl (keys_cons rfl (keys_cons rfl keys_nil))))))) (by walk_at "off")⟩
        intro q hq
        simp only [List.mem_cons, List.not_mem_nil, or_false] at hq
        rcases hq with rfl | rfl
        · exact hn2
        · exact hn1
      · have hf' : fsp = false := by simpa using hf
        subst hf'
        (try k_fold)
        k_steps
        refine By.in_bytes (by decide) (by decide) ?_
        rw [show (#[32, 9, 10, 13, 11] : Array UInt8).contains (121 : Int).toNat.toUInt8 = false by decide +kernel]
        k_steps
        (with_reducible rename Fr _ _ _ _ => F1)
        (with_reducible rename News _ _ _ _ => N1)
        refine Raise_madeB PySem.F.excCall_ValueError PySem.F.excRaise_ValueError rfl ?_
        refine kts_name (.inr ⟨by k_dflt k_is, PyProof.Rows.Boot.«ValueError», by decide⟩) F1 X (topRead_of T) ⟨rfl, ?_⟩ rfl rfl rfl
        k_steps
        rename_i he
        refine leave_raiseS (A := ⟨none, dp, some outer, some [], un⟩) (news := news) ⟨rfl, B.stays, B.frames⟩ he.of F1 (fun p hp => N1 p (List.mem_cons_of_mem _ (List.mem_cons_of_mem _ (hsub p (List.mem_cons_of_mem _ (List.mem_cons_of_mem _ (List.mem_cons_of_mem _ (List.mem_cons_of_mem _ (List.mem_cons_of_mem _ hp))))))))) ?_
        intro h12 t12 R12 _ U12
        exact hX _ _ _ _ _ ⟨rfl, hmem, _, rfl⟩ R12 U12
  case done =>
    rintro m₁ nx h tk ⟨cv, ck, dv, dk, rfl, hcv, hdv, hyy, hm⟩ F' N' -
    have hsz : (b ++ [117, 117, 117, 117]).toArray.size = (padU b).length := by simp [padU]
    rw [hsz] at hcv hdv hyy
    rw [List.take_length] at hcv hdv hyy
    have hcl : cv.length = 4 := by rw [hcv.length, intsOf_len, hend]
    rw [hm] at F'
    rw [show [(D2, Ls.lsO cv ck), (D1, Ls.lsO dv dk)] ++ ((P4, Bo.boundO "list.clear" D2) :: (P3, Bo.boundO "list.append" D2) :: (P2, Bo.boundO "list.append" D1) :: (P1, Bo.boundO "_struct.Struct.pack" D) :: (D, St.objS fb tk5) :: news) = (D2, Ls.lsO cv ck) :: (D1, Ls.lsO dv dk) :: ((P4, Bo.boundO "list.clear" D2) :: (P3, Bo.boundO "list.append" D2) :: (P2, Bo.boundO "list.append" D1) :: (P1, Bo.boundO "_struct.Struct.pack" D) :: (D, St.objS fb tk5) :: news) from rfl] at N'
    clear hm hok
    (try k_fold)
    k_steps
    refine Ls.join N' (List.mem_cons_of_mem _ List.mem_cons_self) hdv h1 h2 ?_
    intro t6 k6
    k_steps
    rename News _ _ _ _ => N7
    refine len_led (n := 4) N7 List.mem_cons_self (by rw [hcl]; rfl) (by rw [hcl]; decide) ?_
    intro t7 k7
    k_steps
    exact BodyEnd.ret (own := []) (by k_asm) (by k_asm) (by walk_at "sub") above_nil ⟨rfl, hyy, _, rfl⟩
end

theorem top_off_52 : True := by
  w_top off
  trivial
def ReadR (b : List UInt8) (fsp : Bool) (v : Value) (own : List (Addr × Obj)) : Prop := own = [] ∧ (((fsp = true ∨ (121 : UInt8) ∉ padU b) ∧ ∃ t, v = .bytes (runD (padU b)).2.flatten.toArray t) ∨
      (fsp = false ∧ (121 : UInt8) ∈ padU b ∧ ∃ t, v = .str (PySem.Str.ofString "Non-Ascii85 digit found: y") t))
theorem got_left {n n' : List (Addr × Obj)} {e t : Addr} {cls : Value} {vs : List Value} (x : Got n e t cls vs) : Got (n ++ n') e t cls vs :=
  let ⟨oe, ot, ws, nt, h1, h2, r⟩ := x; ⟨oe, ot, ws, nt, List.mem_append_left _ h1, List.mem_append_left _ h2, r⟩
section
variable {w : World} {p : Program} {loose : List PySem.Str} {mean : ExcName → Option Value} {mg mb : PySem.Str → Option Value} {news : List (Addr × Obj)}
local macro_rules | `(tactic| walk_at "exec Try") => `(tactic| refine Stop.intro ?_)
local macro_rules | `(tactic| walk_at "call type:type") => `(tactic| (refine type_got (by k_asm) (by got_up) rfl ?_))
local macro_rules | `(tactic| walk_at "call type:str") => `(tactic| ((rename Got _ _ _ _ _ => gX); (refine str_got_one PySem.F.excStr_ValueError (by k_asm) (by got_up) (by show _ + 3 + 2 < cLine; omega) ?_)))
set_option maxHeartbeats 1000000 in
theorem c_read (b : List UInt8) (tb : Tok) (fsp : Bool) (hb : b.length ≤ 100) (hok : ∀ i c, (padU b)[i]? = some c → OkC (runD ((padU b).take i)) c) (hend : (runD (padU b)).1.length = 4) (h1 : 1 ≤ (runD (padU b)).2.length) (h2 : (runD (padU b)).2.flatten.length ≤ 1000) :
    Ex.DoesS PySem.Challenge.rw_kq0071_02.row.prog w (hd.heap_39 w.params) p loose mean mg mb 121 [.bytes b.toArray tb, .bool fsp] [] news 8 (ReadR b fsp) := by
  refine' Ex.does_defS (binds := [(PySem.Str.ofString "text", .bytes b.toArray tb), (PySem.Str.ofString "foldspaces", .bool fsp)]) ?ho ?hcd ?hbind ?hloc ?hco ?hgen ?hk ?hcell ?h
  walk_at "enter"
  intro dp un outer A₀ base g L s B F N X T XB TB D hd hu
  k_fold
  k_steps
  refine wpAny_Try_except ?_
  k_steps
  refine c_decode b tb fsp hb hok hend h1 h2 _ _ _ _ _ _ _ _ _ _ _ _ _ _ _ B F X N T XB TB D rfl (by ktr_room) (by ktr_units) ?ret ?exc
  case ret =>
    rintro _ _ h' tk' F' N' ha ⟨rfl, hh, t, rfl⟩
    k_steps
    exact Ex.BodyEndS.ret (own := []) KtsTurn.refl F' N' (by walk_at "sub") above_nil ⟨rfl, Or.inl ⟨hh, _, rfl⟩⟩
  case exc =>
    rintro e t _ G h' tk' ⟨hf, hm, tt, rfl⟩ FG R U
    refine caught_SB (A₀ := ⟨none, dp, some outer, some [], un⟩) R FG ⟨rfl, B.stays, B.frames⟩ U XB TB D KtsTurn.refl (by k_dflt k_is) PyProof.Rows.Boot.«ValueError» (by decide) PySem.F.isExc_ValueError PySem.F.notTuple_ValueError (by rw [isSubtype_type]; kernel_rfl) ?_
    intro h2 g2 n2 tk2 Tn F2 N2 G2 N2' B2 X2 T2 D2
    have N3 : News g2 L h2 (n2 ++ news) := fun q hq => (List.mem_append.mp hq).elim (N2 q) (N2' q)
    have G3 := got_left (n' := news) G2
    clear N2 N2' G2
    k_steps
    rename_i h7 v7 F7 N7
    exact Ex.BodyEndS.ret (own := []) Tn F7 N7 (fun p hp => List.mem_append_right _ hp) above_nil ⟨rfl, Or.inr ⟨hf, hm, _, rfl⟩⟩
end

section
theorem ofI {z : Int} (h0 : 0 ≤ z) (h1 : z < 256) : ((z.toNat.toUInt8).toNat : Int) = z := by
  show ((UInt8.ofNat z.toNat).toNat : Int) = z
  rw [UInt8.toNat_ofNat']
  omega
def Sign (c : UInt8) : Prop := 33 ≤ c.toNat ∧ c.toNat ≤ 117
/-- every sign of the list may stand where it stands -/
def OkRun (q : List UInt8 × List (List UInt8)) (l : List UInt8) : Prop := ∀ i c, l[i]? = some c → OkC ((l.take i).foldl stepD q) c
theorem okRun_app {q : List UInt8 × List (List UInt8)} {x y : List UInt8} (hx : OkRun q x) (hy : OkRun (x.foldl stepD q) y) : OkRun q (x ++ y) := by
  intro i c h
  by_cases hi : i < x.length
  · rw [List.getElem?_append_left hi] at h
    rw [List.take_append_of_le_length (Nat.le_of_lt hi)]
    exact hx i c h
  · rw [List.getElem?_append_right (by omega)] at h
    rw [List.take_append, List.take_of_length_le (by omega), List.foldl_append]
    exact hy _ c h
theorem run_signs : ∀ (x cur : List UInt8) (out : List (List UInt8)), (∀ c ∈ x, Sign c) → cur.length + x.length ≤ 4 → x.foldl stepD (cur, out) = (cur ++ x, out)
  | [], cur, out, _, _ => by simp
  | c :: r, cur, out, h, hl => by
    have hc := h c List.mem_cons_self
    rw [List.length_cons] at hl
    rw [List.foldl_cons, stepD_more hc.1 hc.2 (by omega), run_signs r (cur ++ [c]) out (fun d hd => h d (List.mem_cons_of_mem _ hd)) (by simp; omega)]
    simp
theorem okRun_short {x : List UInt8} {out : List (List UInt8)} (h : ∀ c ∈ x, Sign c) (hl : x.length ≤ 4) : OkRun ([], out) x := by
  intro i c hc
  have hi := (List.getElem?_eq_some_iff.mp hc).1
  have hs := h c (List.mem_of_getElem? hc)
  rw [run_signs _ _ _ (fun d hd => h d (List.mem_of_mem_take hd)) (by simp; omega), List.nil_append]
  refine .inl ⟨hs.1, hs.2, by simp; omega, fun e => ?_⟩
  simp at e
  omega
theorem okRun_five {x : List UInt8} {out : List (List UInt8)} (h : ∀ c ∈ x, Sign c) (hl : x.length = 5) (h0 : 0 ≤ numberF 33 85 x) (h1 : numberF 33 85 x < 4294967296) : OkRun ([], out) x ∧ x.foldl stepD ([], out) = ([], out ++ [packed (numberF 33 85 x)]) := by
  obtain ⟨y, c, rfl⟩ : ∃ y c, x = y ++ [c] := by
    refine ⟨x.dropLast, x.getLast (by intro e; rw [e] at hl; simp at hl), ?_⟩
    rw [List.dropLast_concat_getLast]
  have hy : y.length = 4 := by simpa using hl
  have hys : ∀ d ∈ y, Sign d := fun d hd => h d (List.mem_append_left _ hd)
  have hcs := h c (List.mem_append_right _ List.mem_cons_self)
  have hr := run_signs y [] out hys (by simp; omega)
  rw [List.nil_append] at hr
  refine ⟨okRun_app (okRun_short hys (by omega)) ?_, ?_⟩
  · rw [hr]
    intro i d hd
    match i, hd with
    | 0, hd =>
      cases hd
      refine .inl ⟨hcs.1, hcs.2, by show y.length ≤ 4; omega, fun _ => ⟨h0, h1⟩⟩
    | i + 1, hd => simp at hd
  · rw [List.foldl_append, hr]
    exact stepD_group hcs.1 hcs.2 hy
theorem fiveS_sign {n : Int} (h0 : 0 ≤ n) (h1 : n < 4294967296) : ∀ c ∈ fiveS n, Sign c := by
  intro c hc
  obtain ⟨z, hz, rfl⟩ := List.mem_map.mp hc
  obtain ⟨f, hf, rfl⟩ := List.mem_map.mp hz
  have hfb : 0 ≤ f ∧ f ≤ 84 := by
    unfold canon at hf
    simp only [List.mem_cons, List.not_mem_nil, or_false] at hf
    rcases hf with rfl | rfl | rfl | rfl | rfl <;> omega
  have := ofI (z := 33 + f) (by omega) (by omega)
  unfold Sign
  omega
theorem fiveS_len (n : Int) : (fiveS n).length = 5 := by simp [fiveS, Bb.ofInts, canon]
theorem fiveS_number {n : Int} (h0 : 0 ≤ n) (h1 : n < 4294967296) : numberF 33 85 (fiveS n) = n := by
  unfold fiveS canon Bb.ofInts numberF
  simp only [List.map_cons, List.map_nil, List.foldl_cons, List.foldl_nil]
  rw [ofI (by omega) (by omega), ofI (by omega) (by omega), ofI (by omega) (by omega), ofI (by omega) (by omega), ofI (by omega) (by omega)]
  omega
theorem packed_zero : packed 0 = [0, 0, 0, 0] := by unfold packed; rw [Bo.intBytes4]; decide
theorem packed_space : packed 538976288 = [32, 32, 32, 32] := by unfold packed; rw [Bo.intBytes4]; decide
theorem okRun_sign {fn fs : Bool} {n : Int} {out : List (List UInt8)} (h0 : 0 ≤ n) (h1 : n < 4294967296) : OkRun ([], out) (signB fn fs n) ∧ (signB fn fs n).foldl stepD ([], out) = ([], out ++ [packed n]) := by
  by_cases hz : fn = true ∧ n = 0
  · rw [signB_1 hz.1 hz.2, hz.2, packed_zero]
    refine ⟨fun i c hc => ?_, rfl⟩
    match i, hc with
    | 0, hc => cases hc; exact .inr (.inl ⟨rfl, rfl⟩)
    | i + 1, hc => simp at hc
  · by_cases hy : fs = true ∧ n = 538976288
    · rw [signB_2 hz hy.1 hy.2, hy.2, packed_space]
      refine ⟨fun i c hc => ?_, rfl⟩
      match i, hc with
      | 0, hc => cases hc; exact .inr (.inr ⟨rfl, rfl⟩)
      | i + 1, hc => simp at hc
    · rw [signB_3 hz hy]
      have hn := fiveS_number h0 h1
      have := okRun_five (out := out) (fiveS_sign h0 h1) (fiveS_len n) (by omega) (by omega)
      rw [hn] at this
      exact this
theorem sign_y {fn fs : Bool} {n : Int} (h0 : 0 ≤ n) (h1 : n < 4294967296) : (121 : UInt8) ∈ signB fn fs n ↔ fs = true ∧ n = 538976288 := by
  by_cases hz : fn = true ∧ n = 0
  · rw [signB_1 hz.1 hz.2]
    refine ⟨fun h => absurd (List.mem_singleton.mp h) (by decide), fun h => ?_⟩
    have := hz.2; omega
  · by_cases hy : fs = true ∧ n = 538976288
    · rw [signB_2 hz hy.1 hy.2]
      exact ⟨fun _ => hy, fun _ => List.mem_singleton.mpr rfl⟩
    · rw [signB_3 hz hy]
      refine ⟨fun h => ?_, fun h => absurd h hy⟩
      have := (fiveS_sign h0 h1 _ h).2
      exact absurd this (by decide)
/-- the writing of the two halves -/
def textB (fn fs : Bool) (H W : Int) : List UInt8 := signB fn fs H ++ signB fn fs W
section
variable {fn fs : Bool} {H W : Int} (hH0 : 0 ≤ H) (hH1 : H < 4294967296) (hW0 : 0 ≤ W) (hW1 : W < 4294967296)
include hH0 hH1 hW0 hW1
theorem text_run : OkRun ([], []) (padU (textB fn fs H W)) ∧ runD (padU (textB fn fs H W)) = ([117, 117, 117, 117], [packed H, packed W]) := by
  obtain ⟨a1, a2⟩ := okRun_sign (fn := fn) (fs := fs) (out := []) hH0 hH1
  obtain ⟨b1, b2⟩ := okRun_sign (fn := fn) (fs := fs) (out := [packed H]) hW0 hW1
  rw [List.nil_append] at a2
  have u : ∀ c ∈ ([117, 117, 117, 117] : List UInt8), Sign c := by
    intro c hc
    have : c = 117 := by simpa using hc
    subst this; exact ⟨by decide, by decide⟩
  have e : ([packed H] ++ [packed W] : List (List UInt8)) = [packed H, packed W] := rfl
  rw [e] at b2
  refine ⟨okRun_app (okRun_app a1 (by rw [a2]; exact b1)) ?_, ?_⟩
  · rw [textB, List.foldl_append, a2, b2]
    exact okRun_short u (by decide)
  · unfold runD padU textB
    rw [List.foldl_append, List.foldl_append, a2, b2, run_signs _ _ _ u (by decide)]
    rfl
theorem text_y : (121 : UInt8) ∈ padU (textB fn fs H W) ↔ fs = true ∧ (H = 538976288 ∨ W = 538976288) := by
  unfold padU textB
  rw [List.mem_append, List.mem_append, sign_y hH0 hH1, sign_y hW0 hW1]
  constructor
  · rintro ((h | h) | h)
    · exact ⟨h.1, .inl h.2⟩
    · exact ⟨h.1, .inr h.2⟩
    · exact absurd h (by decide)
  · rintro ⟨h, h' | h'⟩
    · exact .inl (.inl ⟨h, h'⟩)
    · exact .inl (.inr ⟨h, h'⟩)
end
theorem text_len (fn fs : Bool) (H W : Int) : (textB fn fs H W).length ≤ 10 := by
  have h1 := signB_len fn fs H
  have h2 := signB_len fn fs W
  unfold textB
  rw [List.length_append]; omega
end

/-- the octets of a row -/
def rowB (k : Nat) (x : Int) : List UInt8 := Bb.ofInts (KTBy.little k x).reverse
theorem rowB_len (k : Nat) (x : Int) : (rowB k x).length = k := by simp [rowB, Bb.ofInts, KTBy.little_length]
theorem bInts_arr {b : Array UInt8} {is : List Int} (h : KBw.bInts b = is) : b = (Bb.ofInts is).toArray := by
  subst h
  unfold KBw.bInts Bb.ofInts
  rw [List.map_map]
  have : ((fun n : Int => n.toNat.toUInt8) ∘ fun c : UInt8 => (c.toNat : Int)) = id := by
    funext c
    show ((c.toNat : Int)).toNat.toUInt8 = c
    rw [Int.toNat_natCast]
    simp
  rw [this, List.map_id, Array.toArray_toList]
theorem packed_ints {n : Int} (h0 : 0 ≤ n) (h1 : n < 4294967296) : packed n = Bb.ofInts [n / 16777216, n / 65536 % 256, n / 256 % 256, n % 256] := by
  unfold packed
  rw [Bo.intBytes4]
  have e : (n % 2 ^ (8 * 4)).toNat = n.toNat := by
    have : n % 2 ^ (8 * 4) = n := Int.emod_eq_of_lt h0 (by simpa using h1)
    rw [this]
  rw [e]
  unfold Bb.ofInts
  simp only [List.map_cons, List.map_nil]
  obtain ⟨m, rfl⟩ := Int.eq_ofNat_of_zero_le h0
  have hm : m < 4294967296 := by omega
  rw [show ((m : Int) / 16777216).toNat = m / 256 ^ 3 % 256 by omega, show ((m : Int) / 65536 % 256).toNat = m / 256 ^ 2 % 256 by omega, show ((m : Int) / 256 % 256).toNat = m / 256 ^ 1 % 256 by omega, show ((m : Int) % 256).toNat = m / 256 ^ 0 % 256 by omega]
  rfl
theorem row_packed {n : Int} (h0 : 0 ≤ n) (h1 : n < 18446744073709551616) : rowB 8 n = packed (n / 4294967296) ++ packed (n % 4294967296) := by
  rw [packed_ints (by omega) (by omega), packed_ints (by omega) (by omega)]
  show Bb.ofInts [n / 256 / 256 / 256 / 256 / 256 / 256 / 256 % 256, n / 256 / 256 / 256 / 256 / 256 / 256 % 256, n / 256 / 256 / 256 / 256 / 256 % 256, n / 256 / 256 / 256 / 256 % 256, n / 256 / 256 / 256 % 256, n / 256 / 256 % 256, n / 256 % 256, n % 256] =
    Bb.ofInts [n / 4294967296 / 16777216, n / 4294967296 / 65536 % 256, n / 4294967296 / 256 % 256, n / 4294967296 % 256, n % 4294967296 / 16777216, n % 4294967296 / 65536 % 256, n % 4294967296 / 256 % 256, n % 4294967296 % 256]
  congr 1
  simp only [List.cons.injEq, and_true]
  refine ⟨?_, ?_, ?_, ?_, ?_, ?_, ?_, ?_⟩ <;> omega
theorem word_packed {n : Int} (h0 : 0 ≤ n) (h1 : n < 4294967296) : numberF 0 256 (packed n) = n := by
  rw [packed_ints h0 h1]
  unfold Bb.ofInts numberF
  simp only [List.map_cons, List.map_nil, List.foldl_cons, List.foldl_nil]
  rw [ofI (by omega) (by omega), ofI (by omega) (by omega), ofI (by omega) (by omega), ofI (by omega) (by omega)]
  omega
theorem row_words {n : Int} (h0 : 0 ≤ n) (h1 : n < 18446744073709551616) : wordAt (rowB 8 n) 0 = n / 4294967296 ∧ wordAt (rowB 8 n) 1 = n % 4294967296 := by
  rw [row_packed h0 h1]
  unfold wordAt
  have l1 := packed_len (n / 4294967296)
  have l2 := packed_len (n % 4294967296)
  refine ⟨?_, ?_⟩
  · rw [List.drop_zero, List.take_append_of_le_length (by omega), List.take_of_length_le (by omega)]
    exact word_packed (by omega) (by omega)
  · rw [show 4 * 1 = (packed (n / 4294967296)).length by omega, List.drop_left, List.take_of_length_le (by omega)]
    exact word_packed (by omega) (by omega)
theorem run_row {fn fs : Bool} {n : Int} (h0 : 0 ≤ n) (h1 : n < 18446744073709551616) : (runD (padU (textB fn fs (n / 4294967296) (n % 4294967296)))).2.flatten = rowB 8 n := by
  rw [(text_run (fn := fn) (fs := fs) (H := n / 4294967296) (W := n % 4294967296) (by omega) (by omega) (by omega) (by omega)).2, row_packed h0 h1]
  simp
theorem order_self : ∀ x : List UInt8, Builtin.Bytes.order x x = .eq
  | [] => rfl
  | c :: r => by
    have h1 : ¬ c < c := by simp
    unfold Builtin.Bytes.order
    rw [if_neg h1, if_neg h1]
    exact order_self r

namespace Ex
section
variable {prog : Program} {w : World} {A : Around} {E : Value → Shared → Prop} {s s₂ : Shared} {env : Env} {h₀ : Heap} {target : Expr} {body : List Stmt} {Q : Flow → Shared → Prop}
  {m₀ : PySem.Str → Option Value} {nx₀ fix : List (Addr × Obj)}
theorem turns_core {L : Addr} {I : Addr} {fp : List Addr} {n : Nat} {P Md : Nat → Value → Heap → Prop} {St : Nat → Heap → Prop} (W : KTurns prog w A target I fp [I] n P Md St)
    (J : Nat → (PySem.Str → Option Value) → List (Addr × Obj) → Prop)
    (hLf : L ∉ fp) (hI : h₀.get? I = none) (hIo : ∀ i h, St i h → ∃ o, h.get? I = some o) (hnx : ∀ p ∈ nx₀, p.1 ≠ I) (hfix : ∀ p ∈ fix, p.1 ≠ I) (hff : ∀ q ∈ nx₀, AllNe q.1 fix)
    (hfp : ∀ b ∈ fp, b = I ∨ (h₀.get? b).isSome = true ∨ ∃ o, (b, o) ∈ fix)
    (hL : env.locals = L) (hst : St 0 s₂.heap) (F : Fr h₀ L s₂.heap m₀) (N : News h₀ L s₂.heap (nx₀ ++ fix)) (hJ : J 0 m₀ nx₀)
    (turn : ∀ i v m₁ nx h tk tl, i < n → P i v h → J i m₁ nx → (∀ p ∈ fix, p ∈ tl) → (∀ q ∈ nx, AllNe q.1 tl) → Fr h₀ L h m₁ → News h₀ L h (nx ++ tl) →
      wpAny (model prog w) A (assign target env v) (fun _ s₃ => wpAny (model prog w) A (execs body env) (TurnEnd h₀ L tl (J (i + 1)) { s₂ with heap := h, toks := tk } Q) E s₃) E { s₂ with heap := h, toks := tk })
    (done : ∀ m₁ nx h tk, J n m₁ nx → Fr h₀ L h m₁ → News h₀ L h (nx ++ fix) → (∀ q ∈ nx, AllNe q.1 fix) → Q .next { s₂ with heap := h, toks := tk }) :
    TurnsAt prog w A h₀ env target body Q E (.ref I) s₂ := by
  subst hL
  refine ⟨I, fp, [I], n, P, Md, St, m₀, nx₀ ++ fix, fun i m led => ∃ nx, led = nx ++ fix ∧ (∀ q ∈ nx, AllNe q.1 fix) ∧ J i m nx, rfl, W, hLf, ?_, ?_, hst, F, N, ⟨nx₀, rfl, hff, hJ⟩, ?_, ?_⟩
  · intro b hb; rw [List.mem_singleton.mp hb]; exact hI
  · intro p hp hm
    have hpI := List.mem_singleton.mp hm
    rcases List.mem_append.mp hp with hp | hp
    · exact hnx p hp hpI
    · exact hfix p hp hpI
  · rintro i v m₁ led h tk own hi hP ⟨nx, rfl, hoff, hJi⟩ hled hown hown2 hown3 hst' F' N'
    obtain ⟨oI, heI⟩ := hIo _ _ hst'
    have hIown : (I, oI) ∈ own := hown3 I (W.sub I (List.mem_singleton.mpr rfl)) hI oI heI
    have N₂ : News h₀ env.locals h (nx ++ (fix ++ own)) := fun p hp => by
      refine N' p ?_
      simp only [List.mem_append] at hp ⊢
      rcases hp with hp | hp | hp
      · exact .inr (.inl hp)
      · exact .inr (.inr hp)
      · exact .inl hp
    have ne : ∀ q ∈ nx, AllNe q.1 (fix ++ own) := fun q hq => by
      refine allNe_app (hoff q hq) fun p hp e => ?_
      have h1 := hown p hp
      rcases hfp p.1 h1 with h2 | h2 | ⟨o, h2⟩
      · exact hled q (List.mem_append_left _ hq) (List.mem_singleton.mpr (by rw [← e, h2]))
      · have h3 := (N' p (List.mem_append_left _ hp)).2.2
        rw [h3] at h2; cases h2
      · exact hoff q hq _ h2 e
    refine wpAny_mono (turn i v m₁ nx h tk (fix ++ own) hi hP hJi (fun p hp => List.mem_append_left _ hp) ne F' N₂) (fun _ s₄ h₄ => wpAny_mono h₄ (fun f s₃ h₃ => ?_) fun _ _ e => e) fun _ _ e => e
    have fin : (∃ h' tk' m' nx', s₃ = { s₂ with heap := h', toks := tk' } ∧ Fr h₀ env.locals h' m' ∧ News h₀ env.locals h' (nx' ++ (fix ++ own)) ∧ (∀ q ∈ nx', AllNe q.1 (fix ++ own)) ∧ J (i + 1) m' nx') →
        LoopStepU h₀ env.locals [I] own (fun m led => ∃ nx, led = nx ++ fix ∧ (∀ q ∈ nx, AllNe q.1 fix) ∧ J (i + 1) m nx) { s₂ with heap := h, toks := tk } .next s₃ := by
      rintro ⟨h', tk', m', nx', rfl, F₃, N₃, off₃, J₃⟩
      refine ⟨rfl, h', tk', m', nx' ++ fix, rfl, F₃, fun p hp => N₃ p ?_, fun p hp hm => ?_, nx', rfl, fun q hq p hp => off₃ q hq p (List.mem_append_left _ hp), J₃⟩
      · simp only [List.mem_append] at hp ⊢
        rcases hp with hp | hp | hp
        · exact .inr (.inr hp)
        · exact .inl hp
        · exact .inr (.inl hp)
      · have hpI := List.mem_singleton.mp hm
        rcases List.mem_append.mp hp with hp | hp
        · exact off₃ p hp (I, oI) (List.mem_append_right _ hIown) hpI.symm
        · exact hfix p hp hpI
    cases f with
    | ret v => exact .ret h₃
    | brk => exact .brk h₃
    | next => exact .next (fin h₃)
    | cont => exact .cont (fin h₃)
  · rintro h' tk m' led F' N' _ ⟨nx, rfl, hoff, hJn⟩
    exact done m' nx h' tk hJn F' N' hoff
theorem for_tup {L : Addr} {l : Addr} {vs : List Value} {k : Nat} (J : Nat → (PySem.Str → Option Value) → List (Addr × Obj) → Prop) (hL : env.locals = L) (hh : A.handled = none) (hm : (l, tupO vs k) ∈ fix)
    (F : Fr h₀ L s.heap m₀) (N : News h₀ L s.heap (nx₀ ++ fix)) (hff : ∀ q ∈ nx₀, AllNe q.1 fix) (hJ : J 0 m₀ nx₀)
    (turn : ∀ i v m₁ nx h tk tl, vs[i]? = some v → J i m₁ nx → (∀ p ∈ fix, p ∈ tl) → (∀ q ∈ nx, AllNe q.1 tl) → Fr h₀ L h m₁ → News h₀ L h (nx ++ tl) →
      wpAny (model prog w) A (assign target env v) (fun _ s₃ => wpAny (model prog w) A (execs body env) (TurnEnd h₀ L tl (J (i + 1)) { s with heap := h, toks := tk } Q) E s₃) E { s with heap := h, toks := tk })
    (done : ∀ m₁ nx h tk, J vs.length m₁ nx → Fr h₀ L h m₁ → News h₀ L h (nx ++ fix) → (∀ q ∈ nx, AllNe q.1 fix) → Q .next { s with heap := h, toks := tk }) :
    wpAny (model prog w) A (pyIter (.ref l)) (fun it s₂ => TurnsAt prog w A h₀ env target body Q E it s₂) E s := by
  have hls : s.heap.IsTuple l vs.toArray := ⟨_, (N _ (List.mem_append_right _ hm)).1, rfl, k, rfl⟩
  obtain ⟨ol, hol, _⟩ := id hls
  have hlt := Heap.lt_size hol
  have hz : vs.toArray.size = vs.length := by simp
  refine wpAny_pyIter_tuple hls ?_
  have W := Walks.tuple (prog := prog) (w := w) hh s.heap.objs.size l (Nat.ne_of_lt hlt) vs.toArray
  rw [hz] at W
  refine turns_core (KTurns.ofWalks W fun i v s Q E st q => letGo_tupleiter st.1 q) J ?_ (next_is_new F) (fun i h st => by obtain ⟨o, e, _⟩ := st.1; exact ⟨o, e⟩) (fun p hp => Nat.ne_of_lt (Heap.lt_size (N p (List.mem_append_left _ hp)).1)) (fun p hp => Nat.ne_of_lt (Heap.lt_size (N p (List.mem_append_right _ hp)).1)) hff ?_ hL
    ⟨⟨_, Heap.get?_push_size _ rfl, rfl, rfl⟩, hls.at fun o e => Heap.get?_push_of_some _ e⟩ (F.push _) (fun p hp => ⟨Heap.get?_push_of_some _ (N p hp).1, (N p hp).2⟩) hJ ?_ done
  · intro hm'
    rcases List.mem_cons.mp hm' with e | hm'
    · exact absurd F.ns.lt (e ▸ Nat.lt_irrefl _)
    · have e := List.mem_singleton.mp hm'
      exact (N _ (List.mem_append_right _ hm)).2.1 e.symm
  · intro b hb
    rcases List.mem_cons.mp hb with rfl | hb
    · exact .inl rfl
    · rw [List.mem_singleton.mp hb]; exact .inr (.inr ⟨_, hm⟩)
  · intro i v m₁ nx h tk tl _ hP hJi hsub hne F' N'
    exact turn i v m₁ nx h tk tl (by simpa using hP) hJi hsub hne F' N'
/-- a loop over a tuple, in whose turns the frames below may be turned -/
theorem for_tupS {fix : List (Addr × Obj)} {L : Addr} {l : Addr} {vs : List Value} {k : Nat} (fs : List Addr) (J : Nat → (PySem.Str → Option Value) → Prop) (hL : env.locals = L) (hh : A.handled = none) (hfs : ∀ b ∈ fs, ∃ o, h₀.get? b = some o) (hm : (l, tupO vs k) ∈ fix)
    (F : Fr h₀ L s.heap m₀) (N : News h₀ L s.heap fix) (hJ : J 0 m₀)
    (turn : ∀ i v m₁ h tk tl g, vs[i]? = some v → J i m₁ → (∀ p ∈ fix, p ∈ tl) → KtsTurn fs h₀ g → Fr g L h m₁ → News g L h tl →
      wpAny (model prog w) A (assign target env v) (fun _ s₃ => wpAny (model prog w) A (execs body env) (TurnEndS fs h₀ L tl (J (i + 1)) { s with heap := h, toks := tk } Q) E s₃) E { s with heap := h, toks := tk })
    (done : ∀ m₁ h tk g, J vs.length m₁ → KtsTurn fs h₀ g → Fr g L h m₁ → News g L h fix → Q .next { s with heap := h, toks := tk }) :
    wpAny (model prog w) A (pyIter (.ref l)) (fun it s₂ => TurnsAt prog w A (hideAll h₀ fs) env target body Q E it s₂) E s := by
  have hLf : L ∉ fs := fun hb => by
    obtain ⟨o, e⟩ := hfs L hb
    rw [kts_self F] at e; cases e
  have hab := F.above
  refine for_tup (h₀ := hideAll h₀ fs) (nx₀ := frsOf fs h₀) (fix := fix) (fun i m nx => ∃ g, KtsTurn fs h₀ g ∧ nx = frsOf fs g ∧ J i m) hL hh hm (fr_hide .refl F) (news_hide .refl F N) (frs_off N) ⟨h₀, .refl, rfl, hJ⟩ ?_ ?_
  · rintro i v m₁ nx h tk tl hv ⟨g, T, rfl, hJi⟩ hsub off F' N'
    have F2 := fr_show T hLf hab F' N'
    have N2 := news_show T hfs off N'
    refine wpAny_mono (turn i v m₁ h tk tl g hv hJi hsub T F2 N2) (fun _ s₃ h₃ => wpAny_mono h₃ (fun f s₂ hf => ?_) fun _ _ e => e) fun _ _ e => e
    cases f with
    | ret v => exact hf
    | brk => exact hf
    | next =>
      obtain ⟨g', h', tk', m', T', rfl, F3, N3, J3⟩ := hf
      exact ⟨h', tk', m', frsOf fs g', rfl, fr_hide T' F3, news_hide T' F3 N3, frs_off N3, g', T', rfl, J3⟩
    | cont =>
      obtain ⟨g', h', tk', m', T', rfl, F3, N3, J3⟩ := hf
      exact ⟨h', tk', m', frsOf fs g', rfl, fr_hide T' F3, news_hide T' F3 N3, frs_off N3, g', T', rfl, J3⟩
  · rintro m₁ nx h tk ⟨g, T, rfl, hJn⟩ F' N' off
    exact done m₁ h tk g hJn T (fr_show T hLf hab F' N') (news_show T hfs off N')
end
end Ex

namespace Ex
theorem ints_inj {vs : List Value} {ns ms : List Int} (h : IntsAre vs ns) (h' : IntsAre vs ms) : ns = ms := by
  induction h generalizing ms with
  | nil => cases h'; rfl
  | cons n t _ ih => cases h' with | cons _ _ r => rw [ih r]
/-- a list of ints among two lists of ints -/
theorem in_groups {prog : Program} {w : World} {A : Around} {E : Value → Shared → Prop} {s : Shared} {h₀ : Heap} {L fa D a0 a1 : Addr} {news : List (Addr × Obj)} {kf k0 k1 kd : Nat} {us vs ws : List Value} {ns0 ns1 ms : List Int} {Q : Value → Shared → Prop}
    (N : News h₀ L s.heap news) (hmf : (fa, Ls.lsO [.ref a0, .ref a1] kf) ∈ news) (hm0 : (a0, Ls.lsO us k0) ∈ news) (hm1 : (a1, Ls.lsO vs k1) ∈ news) (hD : (D, Ls.lsO ws kd) ∈ news) (hne0 : a0 ≠ D) (hne1 : a1 ≠ D)
    (hus : IntsAre us ns0) (hvs : IntsAre vs ns1) (hws : IntsAre ws ms) (hu : A.units + 1 + 64 < cLine) (h : Q (.bool (decide (ns0 = ms) || decide (ns1 = ms))) s) : wpAny (model prog w) A (compareOp .In (.ref D) (.ref fa)) Q E s := by
  have same : a1 = a0 → ns0 = ns1 := by
    intro e
    subst e
    have e1 := (N _ hm0).1
    have e2 := (N _ hm1).1
    rw [e1] at e2
    have e3 : us.toArray = vs.toArray := by
      have := congrArg Obj.data (Option.some.inj e2)
      injection this
    have e4 : us = vs := by simpa using e3
    subst e4
    exact ints_inj hus hvs
  refine SeqAt.in_listAt (fun y => if y = .ref a0 then decide (ns0 = ms) else decide (ns1 = ms)) (Ls.isList N hmf) (fun y hy => ?_) ?_
  · have hy' : y = .ref a0 ∨ y = .ref a1 := by simpa using hy
    by_cases e : y = .ref a0
    · subst e
      rw [if_pos rfl]
      exact SeqAt.EqAt.of_refs hne0 fun prog w E Q hq => ke_eq_ints (Ls.isList N hm0) (Ls.isList N hD) hus hws hu hq
    · obtain rfl := hy'.resolve_left e
      rw [if_neg e]
      exact SeqAt.EqAt.of_refs hne1 fun prog w E Q hq => ke_eq_ints (Ls.isList N hm1) (Ls.isList N hD) hvs hws hu hq
  · have e : ([.ref a0, .ref a1] : List Value).toArray.any (fun y => if y = .ref a0 then decide (ns0 = ms) else decide (ns1 = ms)) = (decide (ns0 = ms) || decide (ns1 = ms)) := by
      simp only [List.any_toArray, List.any_cons, List.any_nil, Bool.or_false, if_pos]
      by_cases e : a1 = a0
      · rw [if_pos (by rw [e]), same e]
      · rw [if_neg (by intro q; exact e (by injection q))]
    rw [e]
    exact h
end Ex

namespace Cn
open PySem.Sem (wp)
open Builtin Ba
section
variable {prog : Program} {w : World} {A : Around} {s : Shared} {h₀ : Heap} {L : Addr} {m : PySem.Str → Option Value} {news : List (Addr × Obj)}
theorem orB {M : Model} {x y : Sem Bool} {Q : Bool → Shared → Prop} (h : wpN M A x (fun a s' => if a then Q true s' else wpN M A y Q s') s) : wpN M A (x <||> y) Q s := by
  unfold orM
  refine .bind (h.mono fun a s' h' => ?_)
  cases a with
  | true => exact .pure h'
  | false => exact h'
theorem write_ba {M : Model} {a : Addr} {b : List UInt8} {f : Array UInt8 → Array UInt8} {E : Value → Shared → Prop} {Q : Unit → Shared → Prop} (ho : s.heap.get? a = some (baO b)) (hz : (f b.toArray).size ≤ 1000)
    (h : Q () { s with heap := s.heap.update a (Obj.mapBytearray f) }) : wpAny M A (Bytes.write (.ref a) f) Q E s := by
  show wpAny M A (updateBytearray a f) Q E s
  unfold updateBytearray
  refine wpAny_bind (wpAny_load ho ?_)
  show wpAny _ _ (update a (Obj.mapBytearray f) >>= fun _ => lookBehind a) _ _ _
  refine wpAny_bind (wpAny_update ho ?_)
  refine wpAny_lookBehind (Heap.get?_update_self (Obj.mapBytearray f) ho rfl) ?_ h
  show (if (f b.toArray).size > sizeLine then some "bytearray:memory" else none) = none
  rw [if_neg (by rw [sizeLine_eq]; omega)]
theorem buffer_full {b : Array UInt8} {t : Tok} {id : String} : Bytes.buffer? id (.bytes b t) true = pure (some b) := by
  unfold Bytes.buffer?
  rw [KBy.special_eq KBy.look_buffer, KBy.own_buffer, KBy.own_release]
  kernel_rfl
theorem init_tree {a : Addr} {b : List UInt8} {t : Tok} {P : Fin → Shared → Prop} (hg : A.guards = some []) (hsz : b.length ≤ 1000)
    (ho : s.heap.get? a = some (baO [])) (h : P (.done (.ret .none)) { s with heap := (s.heap.update a (Obj.mapBytearray fun _ => #[])).update a (Obj.mapBytearray fun _ => b.toArray) }) :
    wpN (model prog w) A («bytearray.__init__» ⟨[.ref a, .bytes b.toArray t], []⟩) P s := by
  have hT : s.TypeIs (.ref a) "bytearray" := ⟨_, ho, rfl⟩
  unfold «bytearray.__init__»
  refine .bindA (own_release hT ?_)
  refine .if_false rfl ?_
  refine .bindA (wpAny_of_eq (bind_init _) ?_)
  dsimp only
  refine .bindA (wpAny_of_eq (a := ()) rfl ?_)
  refine .bindA (wpAny_of_eq (a := ()) rfl ?_)
  refine .bind (orB (exported hg ?_))
  refine .any (wpAny_bind ?_)
  unfold Bytes.exportsOf
  refine wpAny_bind (wpAny_load ho ?_)
  refine wpAny_pure (wpAny_pure ?_)
  refine .if_false rfl ?_
  refine .bindA (write_ba ho (by simp) ?_)
  have ho1 : (s.heap.update a (Obj.mapBytearray fun _ => #[])).get? a = some (baO []) := Heap.get?_update_self (Obj.mapBytearray fun _ => #[]) ho rfl
  refine .any ?_
  refine wpAny_bind (wpAny_of_eq (a := none) rfl ?_)
  refine bm_if_false rfl ?_
  refine wpAny_bind ?_
  refine bm_if_false rfl ?_
  refine bm_if_false rfl ?_
  refine wpAny_pure ?_
  refine wpAny_bind (wpAny_specialOf (T := "bytes") (typeIs_bytes _ _ _) no_idx ?_)
  refine bm_if_false rfl ?_
  refine wpAny_bind (wpAny_of_eq (a := some b.toArray) buffer_full ?_)
  dsimp only
  refine wpAny_bind (wpAny_rule ?_)
  refine wpAny_bind (write_ba ho1 (by simpa using hsz) ?_)
  exact wpAny_bind (wpAny_pure (wpAny_pure h))
theorem codeN.builtin {id : String} {args : Args} {b : Builtin} {Q : Flow → Shared → Prop} (hb : entryFor table id = some b) (hok : Bytes.decodersThatHold.contains id = false)
    (h : wpN (model prog w) (A.under (.builtin id args)) (b args) (fun fin s' => match fin with | .done f => Q f s' | .again c' => c'.quiet = true ∧ codeN (model prog w) A c' Q s') s) : codeN (model prog w) A (.builtin id args) Q s := by
  refine codeN.tree (ok_of hok) ?_
  show wpN _ _ (match entryFor table id with | some b => b args | none => unsupported ((withoutEnding? id "#data").getD id)) _ s
  rw [hb]; exact h
theorem call_slot {T : String} {name : PySem.Str} {id : String} {b : Builtin} {self : Value} {rest : List Value} {Q : Value → Shared → Prop} (hs : Slot T name id) (hT : s.TypeIs self T) (hb : entryFor table id = some b) (hok : Bytes.decodersThatHold.contains id = false) (ha : argsOk id ⟨self :: rest, []⟩)
    (h : wpN (model prog w) A.in1 (b ⟨self :: rest, []⟩) (fun fin s' => ∃ v, fin = .done (.ret v) ∧ Q v s') s) : wpN (model prog w) A (PySem.call (.builtin id) (self :: rest)) Q s := by
  refine .call (codeN.treeA ?_)
  show wpAny _ A.in1 (do checkBuiltinCall id ⟨self :: rest, []⟩; again (.builtin id ⟨self :: rest, []⟩)) _ _ s
  refine wpAny_bind (hs.check _ _ _ _ _ _ _ _ hT ha (wpAny_pure ⟨plainId_quiet hs.plain _, codeN.builtin hb hok ?_⟩))
  rw [Around.under_plainId hs.plain _]
  refine h.mono fun fin s' h' => ?_
  obtain ⟨v, rfl, hv⟩ := h'
  exact ⟨v, rfl, hv⟩
theorem special_slot {self : Value} {T : String} {name : PySem.Str} {id : String} {args : List Value} {Q : Option Value → Shared → Prop} (hT : s.TypeIs self T) (h : Slot T name id)
    (hc : wpN (model prog w) A (PySem.call (.builtin id) (self :: args)) (fun v => Q (some v)) s) : wpN (model prog w) A (callSpecial? self name args) Q s := by
  unfold callSpecial?
  refine .bindA (wpAny_specialOf hT h.lookup ?_)
  dsimp only
  rw [h.bind]
  exact .holding (.bindA (wpAny_pure (.bind (hc.mono fun v s' h' => .pure h'))))
theorem new_ba {b : List UInt8} {t : Tok} {Q : Value → Shared → Prop} (hg : A.guards = some []) (hsz : b.length ≤ 1000) (F : Fr h₀ L s.heap m) (N : News h₀ L s.heap news)
    (h : ∀ D h' k, Fr h₀ L h' m → News h₀ L h' ((D, baO b) :: news) → AllLt D news → Q (.ref D) { s with heap := h', toks := k }) : wpN (model prog w) A (PySem.call (.type "bytearray") [.bytes b.toArray t]) Q s := by
  refine .call (codeN.treeA ?_)
  show wpAny _ _ (callAny (.type "bytearray") _) _ _ _
  refine wpAny_pure ⟨Code.quiet_builtin _ (by decide +kernel), codeN.builtin PySem.F.entry_type_call (by decide +kernel) ?_⟩
  rw [Around.under_plain (weight_type_call_type "bytearray" [.bytes b.toArray t] []) rfl]
  unfold «type.__call__»
  dsimp only
  refine .if_false rfl ?_
  refine .if_false called.canCreate ?_
  refine .bindA (wpAny_of_eq (typeCall _) ?_)
  refine .bindA (wpAny_of_eq mro ?_)
  refine .if_false rfl ?_
  refine .bindA (wpAny_of_eq called.made ?_)
  dsimp only
  refine .bindA (wpAny_pure ?_)
  have F1 := F.push (baO [])
  have N1 := News.push F N (baO [])
  have l1 : AllLt s.heap.objs.size news := allLt_intro fun p hp => Heap.lt_size (N p hp).1
  refine .bindA (wpAny_holding (wpAny_call (codeAny_mono (new_code (v := .bytes b.toArray t) (E := fun _ _ => False) (Q := fun v s₁ => v = .ref s.heap.objs.size ∧ s₁ = { s with heap := s.heap.push (baO []) }) ⟨rfl, rfl⟩) fun r s₁ hr => ?_)))
  cases r with
  | error e => exact hr.elim
  | ok fl =>
    cases fl with
    | ret obj =>
      obtain ⟨rfl, rfl⟩ := hr
      have ho : (s.heap.push (baO [])).get? s.heap.objs.size = some (baO []) := Heap.get?_push_size _ rfl
      have hT : ({ s with heap := s.heap.push (baO []) } : Shared).TypeIs (.ref s.heap.objs.size) "bytearray" := ⟨_, ho, rfl⟩
      refine .bindA (wpAny_isInstance hT sub ?_)
      refine .if_false rfl ?_
      refine .bind (.holding (special_slot hT slot_init (call_slot slot_init hT entry_init (by decide +kernel) (args_init _ _) (init_tree hg hsz ho ?_))))
      refine ⟨_, rfl, ?_⟩
      refine .if_false rfl ?_
      have U1 := news_upd (pre := []) (post := news) (o := baO []) (o' := baO []) (f := Obj.mapBytearray fun _ => #[]) F1 N1 (fun _ h => nomatch h) (fun p hp => Nat.ne_of_lt (Heap.lt_size (N p hp).1)) rfl rfl
      have U2 := news_upd (pre := []) (post := news) (o := baO []) (o' := baO b) (f := Obj.mapBytearray fun _ => b.toArray) U1.1 U1.2 (fun _ h => nomatch h) (fun p hp => Nat.ne_of_lt (Heap.lt_size (N p hp).1)) rfl rfl
      exact .pure ⟨_, rfl, h _ _ _ U2.1 U2.2 l1⟩
    | _ => exact hr.elim
end
end Cn

namespace Cn
open PySem.Sem (wp)
open Builtin
def Both (P Q : Prop) : Prop := P ∧ Q
def RefThen (v : Value) (P : Addr → Prop) : Prop := ∃ a, v = .ref a ∧ P a
def TypeThen (v : Value) (P : String → Prop) : Prop := ∃ T, v = .type T ∧ P T
section
variable {α : Type} {M : Model} {A : Around} {s : Shared} {env : Env}
theorem wpN.execs_cons {st : Stmt} {rest : List Stmt} {Q : Flow → Shared → Prop} (h : wpN M A (exec st env) (fun f s' => match f with | .next => wpN M A (execs rest env) Q s' | f => Q f s') s) : wpN M A (execs (st :: rest) env) Q s := by
  rw [PySem.execs_cons]
  refine .bind (h.mono fun f s' h' => ?_)
  cases f with
  | next => exact h'
  | ret v => exact .pure h'
  | brk => exact .pure h'
  | cont => exact .pure h'
theorem wpN.execs_nil {Q : Flow → Shared → Prop} (h : Q .next s) : wpN M A (execs [] env) Q s := .any (wpAny_execs_nil h)
/-- a first statement that is told of every stack -/
theorem wpN.consA {st : Stmt} {rest : List Stmt} {Q : Flow → Shared → Prop} (h : wpAny M A (exec st env) (fun f s' => match f with | .next => wpN M A (execs rest env) Q s' | _ => False) (fun _ _ => False) s) : wpN M A (execs (st :: rest) env) Q s :=
  .execs_cons (.any (wpAny_mono h (fun f s' h' => by cases f <;> first | exact h' | exact h'.elim) fun _ _ e => e))
theorem wpN.Assign_Name {x : PySem.Str} {pos' pos : Pos} {value : Expr} {Q : Flow → Shared → Prop} (h : wpN M A (eval value env) (fun v s₁ => wpAny M A (storeName env x v) (fun _ => Q .next) (fun _ _ => False) s₁) s)
    (hs : swapsWith value (some (.Name x pos')) pos.line env = Pure.pure false := by rfl) : wpN M A (exec (.Assign [.Name x pos'] value pos) env) Q s := fun Γ p hΓ a b => by
  simp only [exec_Assign_Name env x pos' value pos hs, Sem.wp_bind', Sem.wp_cmd_standAt, Sem.wp_bindName, Sem.wp_pure']
  exact Sem.wp_mono M Γ _ (fun v _ s₁ h₁ => h₁ Γ _ hΓ) (fun _ _ _ h' => h') _ _ (h Γ _ hΓ a b)
theorem wpN.Return_some {e : Expr} {pos : Pos} {Q : Flow → Shared → Prop} (h : wpN M A (eval e env) (fun v => Q (.ret v)) s) : wpN M A (exec (.Return (some e) pos) env) Q s := by
  rw [exec_Return_some]
  exact .bindA (wpAny_standAt (.bind (h.mono fun v s' h' => .pure h')))
theorem wpN.If_not_call {f : PySem.Str} {fp cpos npos pos : Pos} {args : List Expr} {body : List Stmt} {Q : Flow → Shared → Prop}
    (h : wpN M A (eval (.Call (.Name f fp) args [] cpos) env) (fun v s₁ => wpAny M A (truthy v) (fun b s₂ => Both (b = true) (Q .next s₂)) (fun _ _ => False) s₁) s) :
    wpN M A (exec (.If (.UnaryOp .Not (.Call (.Name f fp) args [] cpos) npos) body [] pos) env) Q s := by
  rw [exec_If]
  refine .bindA (wpAny_standAt (.bind ?_))
  rw [arm_isTrue_UnaryOp]
  refine .bind ?_
  have e : isTrue (.Call (.Name f fp) args [] cpos) env (eval (.Call (.Name f fp) args [] cpos) env) = (do let v ← eval (.Call (.Name f fp) args [] cpos) env; standAt (Expr.Call (.Name f fp) args [] cpos).pos; PySem.holding [v] (truthy v)) := rfl
  rw [e]
  refine .bind (h.mono fun v s₁ h₁ => .bindA (wpAny_standAt (.holding (.any (wpAny_mono h₁ (fun b s₂ h₂ => ?_) fun _ _ e => e)))))
  obtain ⟨rfl, hq⟩ := h₂
  refine .pure ?_
  exact .if_false rfl (.execs_nil hq)
theorem wpN.keep {vs : List Value} {m : Sem α} {Q : α → Shared → Prop} (h : wpN M A m Q s) : wpN M A (m.keep vs) Q s := fun Γ p hΓ a b => by rw [Sem.wp_keep]; exact h Γ p hΓ a b
theorem wpN.tail {t : Sem Value} {Q : Value → Shared → Prop} (h : wpN M A t Q s) : wpN M A (t >>= fun r => PySem.holding [r] point >>= fun _ => Pure.pure r) Q s :=
  .bind (h.mono fun r s₂ hr => .bindA (wpAny_holding (wpAny_point (.pure hr))))
theorem wpN.callWith_def {pos : Pos} {a : Addr} {args : List (Bool × Sem Value)} {Q : Value → Shared → Prop}
    (h : wpAny M A (evalArgs (.ref a) true args []) (fun x s₁ => (∃ o fd, s₁.heap.get? a = some o ∧ o.data = .func fd) ∧ wpN M A (PySem.call (.ref a) x.pos x.kw) Q s₁) (fun _ _ => False) s) : wpN M A (callWith pos (.ref a) [] args []) Q s := by
  unfold callWith
  refine .bindA (wpAny_holding (wpAny_mono h (fun x s₁ h₁ => .bindA (wpAny_standAt ?_)) fun _ _ e => e))
  have h2 := h₁.2
  obtain ⟨o, fd, ho, hd⟩ := h₁.1
  cases hs : args.any (·.1) <;> simp only [List.any_nil, Bool.or_false, List.nil_append] <;>
    refine .bind (m := keeperOf (.ref a)) ?_ <;> unfold keeperOf <;>
    refine .any (wpAny_bind (wpAny_load ho ?_)) <;> rw [hd] <;> refine wpAny_pure ?_
  · dsimp only
    split
    · exact .tail h2
    · exact .tail (by unfold callMarked; exact .keep h2)
  · exact .tail (by unfold callMarked; exact .keep h2)
theorem wpN.callWith_type {pos : Pos} {T : String} {args : List (Bool × Sem Value)} {Q : Value → Shared → Prop} (hplain : args.any (·.1) = false)
    (h : wpAny M A (evalArgs (.type T) true args []) (fun x s₁ => wpN M A (PySem.call (.type T) x.pos x.kw) Q s₁) (fun _ _ => False) s) : wpN M A (callWith pos (.type T) [] args []) Q s := by
  unfold callWith
  refine .bindA (wpAny_holding (wpAny_mono h (fun x s₁ h₁ => .bindA (wpAny_standAt ?_)) fun _ _ e => e))
  simp only [hplain, List.any_nil, Bool.or_false, List.nil_append]
  exact .bindA (wpAny_pure (.tail h₁))
theorem wpN.Call_def {f : PySem.Str} {fp pos : Pos} {e : Expr} {rest : List Expr} {Q : Value → Shared → Prop}
    (h : wpAny M A (eval (.Name f fp) env) (fun fv s₁ => RefThen fv fun a => wpAny M A (spliced (backTo pos (starEach (e :: rest) env))) (fun vs s₂ => Both (∃ o fd, s₂.heap.get? a = some o ∧ o.data = .func fd) (wpN M A (PySem.call (.ref a) vs) Q s₂)) (fun _ _ => False) s₁) (fun _ _ => False) s)
    (he : starEach (e :: rest) env = (false, eval e env) :: starEach rest env := by rfl) : wpN M A (eval (.Call (.Name f fp) (e :: rest) [] pos) env) Q s := by
  show wpN M A (do callWith pos (← eval (.Name f fp) env) [] (backTo pos (starEach (e :: rest) env)) (backToKw pos (keywordEach [] env))) Q s
  refine .bindA (wpAny_mono h (fun fv s₁ h₁ => ?_) fun _ _ e => e)
  obtain ⟨a, rfl, h₁⟩ := h₁
  rw [he] at h₁ ⊢
  refine wpN.callWith_def ?_
  exact Calls.evalArgs_plain h₁
theorem wpN.Call_type {f : PySem.Str} {fp pos : Pos} {e : Expr} {rest : List Expr} {Q : Value → Shared → Prop}
    (h : wpAny M A (eval (.Name f fp) env) (fun fv s₁ => TypeThen fv fun T => wpAny M A (spliced (backTo pos (starEach (e :: rest) env))) (fun vs s₂ => wpN M A (PySem.call (.type T) vs) Q s₂) (fun _ _ => False) s₁) (fun _ _ => False) s)
    (he : starEach (e :: rest) env = (false, eval e env) :: starEach rest env := by rfl) (hplain : (backTo pos (starEach rest env)).any (·.1) = false := by rfl) : wpN M A (eval (.Call (.Name f fp) (e :: rest) [] pos) env) Q s := by
  show wpN M A (do callWith pos (← eval (.Name f fp) env) [] (backTo pos (starEach (e :: rest) env)) (backToKw pos (keywordEach [] env))) Q s
  refine .bindA (wpAny_mono h (fun fv s₁ h₁ => ?_) fun _ _ e => e)
  obtain ⟨T, rfl, h₁⟩ := h₁
  rw [he] at h₁ ⊢
  refine wpN.callWith_type (by show (false || (backTo pos (starEach rest env)).any (·.1)) = false; rw [hplain]; rfl) ?_
  exact Calls.evalArgs_plain h₁
end
section
variable {prog : Program} {w : World} {A : Around} {s : Shared} {env : Env}
theorem codeN.block_nil {Q : Flow → Shared → Prop} (h : Q .next s) : codeN (model prog w) A (.block [] env) Q s :=
  codeN.any (codeAny_block (wpAny_execs_nil h))
theorem codeN.forLoop {target : Expr} {it : Value} {body : List Stmt} {Q : Flow → Shared → Prop} (I : Nat → Shared → Prop)
    (turn : ∀ n s, I n s → wpAny (model prog w) A (pyNext it) (fun r s₁ => match r with
      | none => Q .next s₁
      | some v => wpAny (model prog w) A (assign target env v) (fun _ s₂ => wpN (model prog w) A (execs body env) (fun f s₃ => match f with
          | .next | .cont => ∃ m, m < n ∧ I m s₃
          | .brk => Q .next s₃
          | .ret v => Q (.ret v) s₃) s₂) (fun _ _ => False) s₁) (fun _ _ => False) s)
    (n : Nat) (h : I n s) (ht : ∀ v, letOwnedTupleGo target it v = pure () := by intro _; rfl) : codeN (model prog w) A (.forLoop target it body [] env) Q s := by
  induction n using Nat.strongRecOn generalizing s with
  | ind n ih =>
    refine codeN.tree (fun _ _ e => nomatch e) ?_
    rw [Around.under_of_weight rfl]
    show wpN _ _ ((forTurn target it body [] env).onRaise (fun x => do noteFrame x env; theTreesLotGoes x)) _ s
    refine .onRaise ?_
    simp only [forTurn]
    refine .bindA (wpAny_standAt (.bindA (wpAny_onRaise (wpAny_mono (turn n s h) (fun r s₁ h₁ => ?_) fun _ _ e => e.elim))))
    cases r with
    | none => exact .pure ⟨rfl, codeN.block_nil h₁⟩
    | some v =>
      refine .bindA (wpAny_of_eq (ht v) ?_)
      refine .bindA (wpAny_mono h₁ (fun _ s₂ h₂ => .bind (h₂.mono fun f s₃ h₃ => ?_)) fun _ _ e => e)
      cases f with
      | next => obtain ⟨m, hm, hI⟩ := h₃; exact .pure ⟨rfl, ih m hm hI⟩
      | cont => obtain ⟨m, hm, hI⟩ := h₃; exact .pure ⟨rfl, ih m hm hI⟩
      | brk => exact .pure h₃
      | ret v => exact .pure h₃
theorem wpN.For {target iter : Expr} {body : List Stmt} {pos : Pos} {Q : Flow → Shared → Prop}
    (h : wpAny (model prog w) A (eval iter env) (fun xv s₁ => wpAny (model prog w) A (pyIter xv) (fun it s₂ => codeN (model prog w) A (.forLoop target it body [] env) Q s₂) (fun _ _ => False) s₁) (fun _ _ => False) s)
    (hs : ∀ x, foldedSetIterable iter env x = Pure.pure x := by intro _; rfl) : wpN (model prog w) A (exec (.For target iter body [] pos) env) Q s := by
  rw [exec_For]
  refine .bindA (wpAny_standAt (.bindA (wpAny_mono h (fun x s₁ h₁ => ?_) fun _ _ e => e)))
  refine .bindA (wpAny_of_eq (hs x) (.bindA (wpAny_standAt (.bindA (wpAny_holding (wpAny_mono h₁ (fun it s₂ h₂ => ?_) fun _ _ e => e))))))
  exact .runOwn h₂
theorem codeN.func {body : List Stmt} {Q : Flow → Shared → Prop} (h : wpN (model prog w) (A.deeper env) (execs body env) (fun f s' => Q (.ret (match f with | .ret v => v | _ => .none)) s') s) : codeN (model prog w) A (.func body env) Q s := by
  refine codeN.tree ok_func ?_
  show wpN _ (A.deeper env) (do point; match ← (execs body env).onRaise (leaving env) with | .ret v => ret v | _ => ret .none) _ s
  refine .bindA (wpAny_point (.bind (.onRaise (h.mono fun f s' h' => ?_))))
  cases f <;> exact .pure h'
theorem codeN.call_def {Q : Flow → Shared → Prop} {a : Addr} {o : Obj} {fd : FuncData} {body : List Stmt} {args : Args} {binds : List (PySem.Str × Value)}
    (hroom : A.depth < recursionLimit) (ho : s.heap.get? a = some o) (hdata : o.data = .func fd) (hlim : s.heap.NoLimit) (hcd : s.heap.CodeRec fd.code fd.qualname) (hbody : fd.body = .stmts body) (hbind : BindsTo s fd args binds)
    (hcell : ∀ x ∈ fd.scope.names, x.2 ≠ .cell) (hloc : ∀ x ∈ binds, fd.scope.names.lookup x.1 = some .local)
    (h : ∀ h₀, h₀.Ns s.heap.objs.size (fun x => binds.reverse.lookup x) → (∀ b o, s.heap.get? b = some o → h₀.get? b = some o) →
      wpN (model prog w) (A.deeper (callEnv fd s.heap.objs.size a)) (execs body (callEnv fd s.heap.objs.size a)) (fun f s' => Q (.ret (match f with | .ret v => v | _ => .none)) s') { s with heap := h₀, toks := s.toks + binds.length })
    (hco : fd.scope.isCoroutine = false) (hgen : fd.scope.isGenerator = false) (hk : fd.scope.kind = .function) : codeN (model prog w) A (.call (.ref a) args) Q s := by
  refine codeN.treeA ?_
  show wpAny _ A.in1 (callAny (.ref a) args) _ _ s
  simp only [callAny]
  refine wpAny_bind (wpAny_load ho ?_)
  obtain ⟨c, oc, vs, tq, hc, hoc, hdc, hq⟩ := hcd
  simp only [hdata, callFunction, hco, hgen, hbody, hc]
  refine wpAny_bind (m := field (.ref c) 1) (wpAny_field hoc hdc hq (wpAny_bind (wpAny_pure ?_)))
  refine wpAny_bind (hbind _ _ _ _ ?_)
  rw [← hc]
  refine wpAny_bind (wpAny_newFunctionEnv hcell hloc (fun h₀ hns₀ hsb₀ => ?_) hk)
  refine wpAny_bind (wpAny_enterFrame (hlim.fresh _ hsb₀) hroom (wpAny_pure ⟨rfl, codeN.func (h h₀ hns₀ fun b o e => ?_)⟩))
  exact hsb₀.extBut b o (Nat.ne_of_lt (Heap.lt_size e)) (Heap.get?_push_of_some _ e)
end
end Cn

namespace Cn
open PySem.Sem (wp)
open Ex
/-- DoesS on clean stacks, with no exception's end -/
def DoesNS (prog : Program) (w : World) (K : Frag) (p : Program) (loose : List PySem.Str) (mean : ExcName → Option Value) (mg mb : PySem.Str → Option Value) (f : Addr) (args : List Value) (kw : List (PySem.Str × Value)) (news : List (Addr × Obj)) (lev : Nat) (R : Value → List (Addr × Obj) → Prop) : Prop :=
  ∀ (dp un : Nat) (cn : PySem.Str) (cs : Scope) (a : Addr) (ccd : Value) (outer : List Env) (A₀ : Around) (base h₀ : Heap) (L : Addr) (m : PySem.Str → Option Value) (s : Shared) (Q : Value → Shared → Prop),
    Below A₀ base outer h₀ → Fr h₀ L s.heap m → K.In h₀ → News h₀ L s.heap news → Top p loose mean mg mb h₀ → K.In base → Top p loose mean mg mb base → KtsDicts (outer.filterMap (·.frame)) h₀ → cs.kind = .function → dp + lev + 1 < recursionLimit → un + 10 * lev + 30 < cLine →
    (∀ (v : Value) (own : List (Addr × Obj)) (h₀' h' : Heap) (tk' : Nat), KtsTurn (outer.filterMap (·.frame)) h₀ h₀' → Fr h₀' L h' m → News h₀' L h' (own ++ news) → Above own news → Below A₀ base outer h₀' → K.In h₀' → Top p loose mean mg mb h₀' → KtsDicts (outer.filterMap (·.frame)) h₀' → R v own →
      Q v { s with heap := h', toks := tk' }) →
    wpN (model prog w) (ktrTop dp un (some []) cn cs L a ccd [] outer) (call (.ref f) args kw) Q s
/-- the same for a caller that stands at the bottom -/
def DoesNT (prog : Program) (w : World) (K : Frag) (p : Program) (loose : List PySem.Str) (mean : ExcName → Option Value) (mg mb : PySem.Str → Option Value) (f : Addr) (args : List Value) (kw : List (PySem.Str × Value)) (news : List (Addr × Obj)) (lev : Nat) (R : Value → List (Addr × Obj) → Prop) : Prop :=
  ∀ (dp un : Nat) (cn : PySem.Str) (cs : Scope) (a : Addr) (ccd : Value) (cl : List (PySem.Str × Addr)) (A₀ : Around) (h₀ : Heap) (L : Addr) (m : PySem.Str → Option Value) (s : Shared) (Q : Value → Shared → Prop),
    Below A₀ h₀ [] h₀ → Fr h₀ L s.heap m → K.In h₀ → News h₀ L s.heap news → Top p loose mean mg mb h₀ → cs.kind = .function → dp + lev + 1 < recursionLimit → un + 10 * lev + 30 < cLine →
    (∀ (v : Value) (own : List (Addr × Obj)) (h' : Heap) (tk' : Nat), Fr h₀ L h' m → News h₀ L h' (own ++ news) → Above own news → R v own → Q v { s with heap := h', toks := tk' }) →
    wpN (model prog w) (ktrTop dp un (some []) cn cs L a ccd cl []) (call (.ref f) args kw) Q s
section
variable {prog : Program} {w : World} {K : Frag} {p : Program} {loose : List PySem.Str} {mean : ExcName → Option Value} {mg mb : PySem.Str → Option Value}
  {f : Addr} {args : List Value} {kw : List (PySem.Str × Value)} {news : List (Addr × Obj)} {R : Value → List (Addr × Obj) → Prop} {lev : Nat}
  {name : PySem.Str} {params : Arguments} {body : List Stmt} {scope : Scope} {dV kV doc pm cdv ct oc : Value} {an od : Option Addr} {osl : Array (Option Value)} {binds : List (PySem.Str × Value)}
theorem does_defNS (ho : K.lookup f = some ⟨oc, od, .func (fnOf name name params body scope dV kV doc pm an cdv ct), osl⟩) (hcd : codeIn K cdv name = true)
    (hbind : ∀ s : Shared, K.In s.heap → BindsTo s (fnOf name name params body scope dV kV doc pm an cdv ct) ⟨args, kw⟩ binds) (hloc : ∀ y ∈ binds, scope.names.lookup y.1 = some .local)
    (hco : scope.isCoroutine = false) (hgen : scope.isGenerator = false) (hk : scope.kind = .function) (hcell : ∀ x ∈ scope.names, x.2 ≠ .cell)
    (h : ∀ (dp un : Nat) (outer : List Env) (A₀ : Around) (base g : Heap) (L : Addr) (s : Shared),
      Below A₀ base outer g → Fr g L s.heap (fun y => binds.reverse.lookup y) → News g L s.heap news → K.In g → Top p loose mean mg mb g → K.In base → Top p loose mean mg mb base → KtsDicts (outer.filterMap (·.frame)) g → dp + 1 + lev < recursionLimit → un + 3 + 10 * lev + 20 < cLine →
      wpN (model prog w) (ktrTop (dp + 1) (un + 3) (some []) name scope L f cdv [] outer) (execs body (envOf name scope L f cdv)) (BodyEndS (outer.filterMap (·.frame)) g L news R s) s) :
    DoesNS prog w K p loose mean mg mb f args kw news lev R := by
  intro dp un cn cs a ccd outer A₀ base h₀ L m s Q B F X N T XB TB D hck hd hu hret
  have X' := X.keeps F.keep
  refine wpN.call (codeN.call_def (fd := fnOf name name params body scope dV kV doc pm an cdv ct) (body := body) (binds := binds) (by show dp < recursionLimit; omega) (X' _ _ ho) rfl (T.nolimit.keeps F.keep) (codeRec_of X' hcd) rfl (hbind s X') hcell hloc (fun h₁ hns hk₁ => ?_) hco hgen hk)
  obtain ⟨oL, es, ep, hLg, hLd, hN, hNs, st, B₂⟩ := kts_enter (A := ktrTop dp un (some []) cn cs L a ccd [] outer) B F N rfl hck
  have hh := h dp un (envOf cn cs L a ccd :: outer) _ base _ s.heap.objs.size { s with heap := h₁, toks := s.toks + binds.length } B₂ ⟨hns, fun b o e => hk₁ b o (of_hideAll _ e), Nat.le_of_eq (hideAll_size _ _)⟩
    (fun p hp => ⟨hk₁ _ _ (N p hp).1, Nat.ne_of_lt (Heap.lt_size (N p hp).1), hideAll_none _ (List.mem_map_of_mem hp)⟩) (X.keeps st) (T.keeps st) XB TB (fun b hb => by
      rcases kts_mem hb with rfl | hb
      · exact ⟨oL, es, ep, hLg, hLd⟩
      · obtain ⟨o, es', n', ho', hd'⟩ := D b hb
        exact ⟨o, es', n', st b o ho', hd'⟩) (by omega) (by omega)
  refine hh.mono (fun fl s' hb => ?_)
  obtain ⟨g', v, own, h', tk', m', T', hfl, rfl, F', N', ha, hR⟩ := hb
  have nL₀ : h₀.get? L = none := kts_self F
  obtain ⟨sl, hs⟩ := T'.up hLg
  obtain ⟨T₁, S₁⟩ := kts_turn_at (h := h') (fs := outer.filterMap (·.frame)) (g := h₀)
    (fun b hb => by
      obtain ⟨_, o, ho', _⟩ := B.frames.mem hb
      exact ⟨o, ho'⟩)
    (fun b o e nmem => F'.keep b o (T'.other b o (st b o e) (fun q => by
      rcases kts_mem q with z | z
      · rw [z, nL₀] at e
        cases e
      · exact nmem z)))
    (fun b o e hm => by
      obtain ⟨sl', hs'⟩ := T'.up (st b o e)
      exact ⟨sl', F'.keep _ _ hs'⟩)
  have B₃ := below_turn T₁ B
  have F₃ : Fr (ktsHeap h' (outer.filterMap (·.frame)) h₀) L h' m := ⟨hNs sl _ (F'.keep _ _ hs), S₁, by rw [T₁.size]; exact F.above⟩
  have N₃ : News (ktsHeap h' (outer.filterMap (·.frame)) h₀) L h' (own ++ news) := fun p hp => ⟨(N' p hp).1, (fun q => by have := (N' p hp).2.2; rw [q, hs] at this; cases this), by
    refine T₁.none_ _ ?_
    cases q : h₀.get? p.1 with
    | none => rfl
    | some o =>
      obtain ⟨sl', hs'⟩ := T'.up (st _ _ q)
      have := (N' p hp).2.2
      rw [hs'] at this
      cases this⟩
  have fin := fun u => hret u own _ h' tk' T₁ F₃ N₃ ha B₃ (XB.keeps B₃.stays) (TB.keeps B₃.stays) (D.turn T₁)
  rcases hfl with rfl | ⟨rfl, rfl⟩
  · exact ⟨_, rfl, fin v hR⟩
  · exact ⟨_, rfl, fin .none hR⟩
theorem does_defNT (ho : K.lookup f = some ⟨oc, od, .func (fnOf name name params body scope dV kV doc pm an cdv ct), osl⟩) (hcd : codeIn K cdv name = true)
    (hbind : ∀ s : Shared, K.In s.heap → BindsTo s (fnOf name name params body scope dV kV doc pm an cdv ct) ⟨args, kw⟩ binds) (hloc : ∀ y ∈ binds, scope.names.lookup y.1 = some .local)
    (hco : scope.isCoroutine = false) (hgen : scope.isGenerator = false) (hk : scope.kind = .function) (hcell : ∀ x ∈ scope.names, x.2 ≠ .cell)
    (h : ∀ (dp un : Nat) (outer : List Env) (A₀ : Around) (base g : Heap) (L : Addr) (s : Shared),
      Below A₀ base outer g → Fr g L s.heap (fun y => binds.reverse.lookup y) → News g L s.heap news → K.In g → Top p loose mean mg mb g → K.In base → Top p loose mean mg mb base → KtsDicts (outer.filterMap (·.frame)) g → dp + 1 + lev < recursionLimit → un + 3 + 10 * lev + 20 < cLine →
      wpN (model prog w) (ktrTop (dp + 1) (un + 3) (some []) name scope L f cdv [] outer) (execs body (envOf name scope L f cdv)) (BodyEndS (outer.filterMap (·.frame)) g L news R s) s) :
    DoesNT prog w K p loose mean mg mb f args kw news lev R := by
  intro dp un cn cs a ccd cl A₀ h₀ L m s Q B F X N T hck hd hu hret
  have X' := X.keeps F.keep
  obtain ⟨FG, BG, st, -⟩ := groundX (R := fun _ _ => True) (A := ktrTop dp un (some []) cn cs L a ccd cl []) (env := envX cn cs L a ccd cl) B F N rfl rfl hck
  refine wpN.call (codeN.call_def (fd := fnOf name name params body scope dV kV doc pm an cdv ct) (body := body) (binds := binds) (by show dp < recursionLimit; omega) (X' _ _ ho) rfl (T.nolimit.keeps F.keep) (codeRec_of X' hcd) rfl (hbind s X') hcell hloc (fun h₁ hns hk₁ => ?_) hco hgen hk)
  obtain ⟨oL, es, ep, hL, hLd, hLk, hLf⟩ := FG.ns
  have nL₀ : h₀.get? L = none := kts_self F
  have hh := h dp un [envX cn cs L a ccd cl] _ h₀ _ s.heap.objs.size { s with heap := h₁, toks := s.toks + binds.length } BG
    ⟨hns, fun b o e => hk₁ b o (of_hideAll _ e), Nat.le_of_eq (hideAll_size _ _)⟩
    (fun p hp => ⟨hk₁ _ _ (N p hp).1, Nat.ne_of_lt (Heap.lt_size (N p hp).1), hideAll_none _ (List.mem_map_of_mem hp)⟩) (X.keeps st) (T.keeps st) X T (fun b hb => by
      have hb' : b = L := List.mem_singleton.mp hb
      subst hb'
      exact ⟨oL, es, ep, hL, hLd⟩) (by omega) (by omega)
  refine hh.mono (fun fl s' hb => ?_)
  obtain ⟨g', v, own, h', tk', m', T', hfl, rfl, F', N', ha, hR⟩ := hb
  obtain ⟨sl, hs⟩ := T'.up hL
  have FK : Fr h₀ L h' m := ⟨⟨_, es, ep, F'.keep _ _ hs, hLd, hLk, hLf⟩, fun b o e => F'.keep b o (T'.other b o (st b o e) (fun q => by
      have q' : b = L := List.mem_singleton.mp q
      rw [q', nL₀] at e; cases e)), F.above⟩
  have NK : News h₀ L h' (own ++ news) := fun q hq => ⟨(N' q hq).1, (fun e => by have := (N' q hq).2.2; rw [e, hs] at this; cases this), by
    cases e : h₀.get? q.1 with
    | none => rfl
    | some o =>
      obtain ⟨sl', hs'⟩ := T'.up (st _ _ e)
      have := (N' q hq).2.2
      rw [hs'] at this; cases this⟩
  rcases hfl with rfl | ⟨rfl, rfl⟩
  · exact ⟨_, rfl, hret v own h' tk' FK NK ha hR⟩
  · exact ⟨_, rfl, hret .none own h' tk' FK NK ha hR⟩
end
end Cn

theorem top_off_61 : True := by
  w_top off
  trivial
def fnAt : Nat → Bool
  | 1 => true
  | 3 => true
  | _ => false
def fsAt : Nat → Bool
  | 2 => true
  | 3 => true
  | _ => false
theorem ovr_more {m m₀ : PySem.Str → Option Value} {ts : List PySem.Str} {x : PySem.Str} {v : Value} (hm : m = ovr [] ts m m₀) (hx : m x = some v) : m = ovr [(x, v)] ts m m₀ :=
  ovr_of (keys_cons hx keys_nil) fun z h1 _ => (congrFun hm z).trans (ovr_off h1 fun p hp => nomatch hp)
theorem flags_hit {T0 T1 T2 T3 : Addr} {fix : List (Addr × Obj)} (h0 : (T0, tupO [.bool false, .bool false] 0) ∈ fix) (h1 : (T1, tupO [.bool true, .bool false] 0) ∈ fix) (h2 : (T2, tupO [.bool false, .bool true] 0) ∈ fix) (h3 : (T3, tupO [.bool true, .bool true] 0) ∈ fix)
    {i : Nat} {v : Value} (h : ([.ref T0, .ref T1, .ref T2, .ref T3] : List Value)[i]? = some v) : ∃ T, v = .ref T ∧ (T, tupO [.bool (fnAt i), .bool (fsAt i)] 0) ∈ fix ∧ i < 4 := by
  match i, h with
  | 0, h => cases h; exact ⟨_, rfl, h0, by decide⟩
  | 1, h => cases h; exact ⟨_, rfl, h1, by decide⟩
  | 2, h => cases h; exact ⟨_, rfl, h2, by decide⟩
  | 3, h => cases h; exact ⟨_, rfl, h3, by decide⟩
  | i + 4, h => simp at h
section
variable {w : World} {p : Program} {loose : List PySem.Str} {mean : ExcName → Option Value} {mg mb : PySem.Str → Option Value} {news : List (Addr × Obj)}
local macro_rules | `(tactic| walk_at "call type:bytearray") => `(tactic| refine Stop.intro ?_)
local macro_rules | `(tactic| walk_at "exec For Tuple Tuple cons nil") => `(tactic| refine Stop.intro ?_)
local macro_rules | `(tactic| walk_at "pyIter ref") => `(tactic| refine Stop.intro ?_)
local macro_rules | `(tactic| walk_at "compareOp NotEq bytes bytes") => `(tactic| refine Stop.intro ?_)
local macro_rules | `(tactic| walk_at "compareOp NotEq ref bytes") => `(tactic| refine Stop.intro ?_)
local macro_rules | `(tactic| walk_at "compareOp Eq bytes bytes") => `(tactic| refine Stop.intro ?_)
local macro_rules | `(tactic| walk_at "compareOp In ref ref") => `(tactic| refine Stop.intro ?_)
local macro_rules | `(tactic| walk_at "off") => `(tactic| (repeat' (first | exact off_refl | exact ovr_offOf (by rfl) | (refine off_upd (by rfl) ?_) | (refine off_ovr (by rfl) ?_))))
local macro_rules | `(tactic| walk_at "call type:type") => `(tactic| ((with_reducible show wpAny _ _ (call _ [Value.bytes _ _]) _ _ _); refine call_type_of (Tx := "bytes") (typeIs_bytes _ _ _) (by decide +kernel) ?_))
set_option maxHeartbeats 1000000 in
theorem c_right (n : Int) (tn : Tok) (hn0 : 0 ≤ n) (hn1 : n < 18446744073709551616) (l : Addr) (vl : List Value) (kl : Nat) (hl : (l, ({ cls := .type "list", data := .seq vl.toArray kl } : Obj)) ∈ news) (hs : SignsAre vl)
    (fa a0 a1 : Addr) (kf k0 k1 : Nat) (us vs : List Value) (hmf : (fa, Ls.lsO [.ref a0, .ref a1] kf) ∈ news) (hm0 : (a0, Ls.lsO us k0) ∈ news) (hm1 : (a1, Ls.lsO vs k1) ∈ news) (hus : IntsAre us (canon (n / 4294967296))) (hvs : IntsAre vs (canon (n % 4294967296))) :
    Cn.DoesNS PySem.Challenge.rw_kq0071_02.row.prog w (hd.heap_39 w.params) p loose mean mg mb 128 [.int n tn, .ref fa, .ref l] [] news 12 (fun v own => own = [] ∧ v = .bool true) := by
  refine' Cn.does_defNS (binds := [(PySem.Str.ofString "n", .int n tn), (PySem.Str.ofString "face", .ref fa), (PySem.Str.ofString "signs", .ref l)]) ?ho ?hcd ?hbind ?hloc ?hco ?hgen ?hk ?hcell ?h
  walk_at "enter"
  intro dp un outer A₀ base g L s B F N X T XB TB D hd hu
  refine Cn.wpN.consA ?_
  k_fold
  k_steps
  (with_reducible rename (KBw.bInts _ = _) => hbI)
  obtain rfl := bInts_arr hbI
  (with_reducible rename Fr _ _ _ _ => F1)
  (with_reducible rename News _ _ _ _ => N1)
  refine Cn.wpN.execs_cons (Cn.wpN.Assign_Name (Cn.wpN.Call_type ?_))
  k_steps
  refine ⟨_, rfl, ?_⟩
  k_steps
  (with_reducible rename Fr _ _ _ _ => F1)
  (with_reducible rename News _ _ _ _ => N1)
  change Cn.wpN _ _ (call (.type "bytearray") [.bytes (rowB 8 n).toArray _]) _ _
  refine Cn.new_ba rfl (by rw [rowB_len]; decide) F1 N1 ?_
  intro ba h2 tk2 F2 N2 l2
  change Fr g L h2 (fun y => if y = PySem.Str.ofString "row" then some (.bytes (rowB 8 n).toArray _) else _) at F2
  have hrl := rowB_len 8 n
  obtain ⟨hw0, hw1⟩ := row_words hn0 hn1
  have hH : 0 ≤ n / 4294967296 ∧ n / 4294967296 < 4294967296 := by omega
  have hW : 0 ≤ n % 4294967296 ∧ n % 4294967296 < 4294967296 := by omega
  have hrun := fun (fn fs : Bool) => run_row (fn := fn) (fs := fs) hn0 hn1
  generalize rowB 8 n = row at *
  generalize n / 4294967296 = H at *
  generalize n % 4294967296 = W at *
  clear F1 N1 hbI
  k_steps
  refine Cn.wpN.any ?_
  k_steps
  (with_reducible rename Fr _ _ _ _ => F3)
  (with_reducible rename News _ _ _ _ => N3)
  show wpAny _ _ (exec _ _) _ _ _
  with_unfolding_all refine' For_turns (Ex.fr_hide (fs := outer.filterMap (·.frame)) .refl F3) ?_
  k_steps
  (with_reducible rename Fr _ _ _ _ => F4)
  (with_reducible rename News _ _ _ _ => N4)
  have hfs : ∀ b ∈ outer.filterMap (·.frame), ∃ o, g.get? b = some o := by intro b hb; obtain ⟨o, _, _, ho, _⟩ := D b hb; exact ⟨o, ho⟩
  change wpAny _ _ (pyIter (.ref _)) _ _ _
  refine' Ex.for_tupS (L := L) (outer.filterMap (·.frame)) (fun i m => ∃ t tr, (∀ k, i = k + 1 → m (PySem.Str.ofString "text") = some (.bytes (textB (fnAt k) (fsAt k) H W).toArray t)) ∧ m = ovr [] [PySem.Str.ofString "foldnuls", PySem.Str.ofString "foldspaces", PySem.Str.ofString "text", PySem.Str.ofString "back"] m
    (fun y => if y = PySem.Str.ofString "other" then some (.ref ba) else if y = PySem.Str.ofString "row" then some (Value.bytes row.toArray tr) else [(PySem.Str.ofString "n", Value.int n tn), (PySem.Str.ofString "face", .ref fa), (PySem.Str.ofString "signs", .ref l)].reverse.lookup y)) ?hL ?hh hfs ?hm ?F ?N ?hJ ?turn ?done
  case F => exact F4
  case N => exact N4
  case hL => rfl
  case hh => rfl
  case hm => exact List.mem_cons_self
  case hJ => exact ⟨0, _, (fun k hk => by cases hk), ovr_of keys_nil (by walk_at "off")⟩
  case turn =>
    rintro i v m₁ h tk tl g1 hv ⟨t0, tr, -, hm⟩ hsub T1 F' N'
    obtain ⟨Tf, rfl, hTf, hi4⟩ := flags_hit (hsub _ (List.mem_cons_of_mem _ (List.mem_cons_of_mem _ (List.mem_cons_of_mem _ (List.mem_cons_of_mem _ List.mem_cons_self))))) (hsub _ (List.mem_cons_of_mem _ (List.mem_cons_of_mem _ (List.mem_cons_of_mem _ List.mem_cons_self)))) (hsub _ (List.mem_cons_of_mem _ (List.mem_cons_of_mem _ List.mem_cons_self))) (hsub _ (List.mem_cons_of_mem _ List.mem_cons_self)) hv
    have mnews : ∀ p ∈ news, p ∈ tl := fun p hp => hsub p (List.mem_cons_of_mem _ (List.mem_cons_of_mem _ (List.mem_cons_of_mem _ (List.mem_cons_of_mem _ (List.mem_cons_of_mem _ (List.mem_cons_of_mem _ hp))))))
    have hsucc : ∀ (v : Option Value) t, v = some (.bytes (textB (fnAt i) (fsAt i) H W).toArray t) → ∀ k, i + 1 = k + 1 → v = some (.bytes (textB (fnAt k) (fsAt k) H W).toArray t) := fun v t h k hk => by cases hk; exact h
    have B1 := Ex.below_turn T1 B
    have X1 := XB.keeps B1.stays
    have Tp1 := TB.keeps B1.stays
    have D1 := D.turn T1
    have hT : IsTup h Tf #[.bool (fnAt i), .bool (fsAt i)] := ⟨_, (N' _ hTf).1, rfl, _, rfl⟩
    have htl := text_len (fnAt i) (fsAt i) H W
    obtain ⟨hr1, hr2⟩ := text_run (fn := fnAt i) (fs := fsAt i) hH.1 hH.2 hW.1 hW.2
    have hrw := hrun (fnAt i) (fsAt i)
    (try clear F2 N2); (try clear F3 N3); clear F4 N4
    generalize hfn : fnAt i = fn at *
    generalize hfsp : fsAt i = fsp at *
    rw [hm] at F'
    clear hm hv
    (try k_fold)
    (try dsimp only)
    k_steps
    (with_reducible rename Fr _ _ _ _ => F5)
    (with_reducible rename News _ _ _ _ => N5)
    refine does_use (c_written row _ hrl l vl kl (mnews _ hl) hs fa a0 a1 kf k0 k1 us vs (mnews _ hmf) (mnews _ hm0) (mnews _ hm1) H W hus hvs hH.1 hH.2 hW.1 hW.2 hw0 hw1 fn fsp) B1 F5 X1 N5 Tp1 (by rfl) (by ktr_room) (by ktr_units) ?_
    rintro _ _ h6 tk6 F6 N6 - ⟨rfl, t6, rfl⟩
    rw [List.nil_append] at N6
    clear F5 N5
    k_steps
    (with_reducible rename Fr _ _ _ _ => F7)
    (with_reducible rename News _ _ _ _ => N7)
    refine does_use (c_signs fa a0 a1 kf k0 k1 us vs (mnews _ hmf) (mnews _ hm0) (mnews _ hm1) H W hus hvs hH.1 hH.2 hW.1 hW.2 fn fsp) B1 F7 X1 N7 Tp1 (by rfl) (by ktr_room) (by ktr_units) ?_
    rintro _ _ h8 tk8 F8 N8 - ⟨rfl, t8, rfl⟩
    rw [List.nil_append] at N8
    (try clear F7 N7); (try clear F6 N6)
    refine ne_bytes ?_
    rw [show ((signB fn fsp H ++ signB fn fsp W).toArray.toList != (signB fn fsp H ++ signB fn fsp W).toArray.toList) = false by simp]
    k_steps
    (with_reducible rename Fr _ _ _ _ => F9)
    (with_reducible rename News _ _ _ _ => N9)
    change wpAny _ _ (call _ [.bytes (textB fn fsp H W).toArray _, _]) _ _ _
    refine c_read (textB fn fsp H W) t6 fsp (by omega) hr1 (by rw [hr2]; rfl) (by rw [hr2]; exact Nat.le_succ 1) (by rw [hrw, hrl]; decide) _ _ _ _ _ _ _ _ _ _ _ _ _ _ _ B1 F9 X1 N9 Tp1 XB TB D1 rfl (by ktr_room) (by ktr_units) ?_
    rintro _ _ g2 h10 tk10 T2 F10 N10 - B2 X2 Tp2 D2 ⟨rfl, hR⟩
    rw [List.nil_append] at N10
    (try clear F9 N9); (try clear F8 N8)
    rcases hR with ⟨-, t10, rfl⟩ | ⟨hf, hy, -⟩
    · rw [hrw]
      k_steps
      refine ne_bytes ?_
      rw [show (row.toArray.toList != row.toArray.toList) = false by simp]
      k_steps
      (with_reducible rename Fr _ _ _ _ => F11)
      (with_reducible rename News _ _ _ _ => N11)
      exact ⟨g2, _, _, _, T1.trans T2, rfl, F11, N11, t6, tr, hsucc _ t6 rfl, ovr_of keys_nil (by walk_at "off")⟩
    · exfalso
      rw [hf] at hy
      have := (text_y (fn := fn) (fs := false) hH.1 hH.2 hW.1 hW.2).mp hy
      exact absurd this.1 (by decide)
  case done =>
    rintro m₁ h tk g1 ⟨t0, tr, htx, hm⟩ T1 F' N'
    have htx := htx 3 rfl
    change m₁ (PySem.Str.ofString "text") = some (.bytes (textB true true H W).toArray t0) at htx
    have hm' := ovr_more hm htx
    have B1 := Ex.below_turn T1 B
    have X1 := XB.keeps B1.stays
    have Tp1 := TB.keeps B1.stays
    have D1 := D.turn T1
    have N1 : News g1 L h ((ba, Ba.baO row) :: news) := fun p hp => N' p (List.mem_cons_of_mem _ (List.mem_cons_of_mem _ (List.mem_cons_of_mem _ (List.mem_cons_of_mem _ (List.mem_cons_of_mem _ hp)))))
    clear N'
    rw [hm'] at F'
    clear hm hm' htx
    (try clear F2 N2); (try clear F3 N3); clear F4 N4
    (try k_fold)
    (try dsimp only)
    k_steps
    (with_reducible rename Fr _ _ _ _ => F5)
    (with_reducible rename News _ _ _ _ => N5)
    refine does_use (c_written_ba ba row List.mem_cons_self hrl l vl kl (List.mem_cons_of_mem _ hl) hs fa a0 a1 kf k0 k1 us vs (List.mem_cons_of_mem _ hmf) (List.mem_cons_of_mem _ hm0) (List.mem_cons_of_mem _ hm1) H W hus hvs hH.1 hH.2 hW.1 hW.2 hw0 hw1 true true) B1 F5 X1 N5 Tp1 (by rfl) (by ktr_room) (by ktr_units) ?_
    rintro _ _ h6 tk6 F6 N6 - ⟨rfl, t6, rfl⟩
    rw [List.nil_append] at N6
    (try clear F5 N5)
    k_steps
    refine ne_bytes ?_
    rw [show ((signB true true H ++ signB true true W).toArray.toList != (textB true true H W).toArray.toList) = false by simp [textB]]
    k_steps
    (with_reducible rename News _ _ _ _ => N7)
    refine Ba.ne_bytes N7 List.mem_cons_self (by ktr_units) ?_
    rw [order_self]
    have hrw := hrun true true
    have htl := text_len true true H W
    obtain ⟨hr1, hr2⟩ := text_run (fn := true) (fs := true) hH.1 hH.2 hW.1 hW.2
    have hty := text_y (fn := true) (fs := true) hH.1 hH.2 hW.1 hW.2
    k_steps
    rename_i D3 h9 F9 N9 l9
    refine Ex.in_groups N9 (List.mem_cons_of_mem _ (List.mem_cons_of_mem _ hmf)) (List.mem_cons_of_mem _ (List.mem_cons_of_mem _ hm0)) (List.mem_cons_of_mem _ (List.mem_cons_of_mem _ hm1)) List.mem_cons_self (Nat.ne_of_lt (allLt_mem l9.2 _ hm0)) (Nat.ne_of_lt (allLt_mem l9.2 _ hm1)) hus hvs (.cons _ _ (.cons _ _ (.cons _ _ (.cons _ _ (.cons _ _ .nil))))) (by ktr_units) ?_
    by_cases hsp : H = 538976288 ∨ W = 538976288
    · rw [show (decide (canon H = [10, 27, 53, 67, 43]) || decide (canon W = [10, 27, 53, 67, 43])) = true by simpa only [Bool.or_eq_true, decide_eq_true_eq, canon_space] using hsp]
      k_steps
      (with_reducible rename Fr _ _ _ _ => F10)
      (with_reducible rename News _ _ _ _ => N10)
      refine c_read (textB true true H W) _ false (by omega) hr1 (by rw [hr2]; rfl) (by rw [hr2]; exact Nat.le_succ 1) (by rw [hrw, hrl]; decide) _ _ _ _ _ _ _ _ _ _ _ _ _ _ _ B1 F10 X1 N10 Tp1 XB TB D1 rfl (by ktr_room) (by ktr_units) ?_
      rintro _ _ g2 h11 tk11 T2 F11 N11 - B2 X2 Tp2 D2 ⟨rfl, hR⟩
      rw [List.nil_append] at N11
      (try clear F10 N10)
      rcases hR with ⟨hx, -⟩ | ⟨-, -, t11, rfl⟩
      · exfalso
        rcases hx with hx | hx
        · exact absurd hx (by decide)
        · exact hx (hty.mpr ⟨rfl, hsp⟩)
      · k_steps
        (with_reducible rename Fr _ _ _ _ => F12)
        (with_reducible rename News _ _ _ _ => N12)
        exact Ex.BodyEndS.ret (own := []) (T1.trans T2) F12 N12 (fun p hp => List.mem_cons_of_mem _ (List.mem_cons_of_mem _ hp)) above_nil ⟨rfl, rfl⟩
    · rw [show (decide (canon H = [10, 27, 53, 67, 43]) || decide (canon W = [10, 27, 53, 67, 43])) = false by rw [Bool.or_eq_false_iff, decide_eq_false_iff_not, decide_eq_false_iff_not, canon_space, canon_space]; exact ⟨fun h => hsp (.inl h), fun h => hsp (.inr h)⟩]
      k_steps
      (with_reducible rename Fr _ _ _ _ => F10)
      (with_reducible rename News _ _ _ _ => N10)
      refine c_read (textB true true H W) _ false (by omega) hr1 (by rw [hr2]; rfl) (by rw [hr2]; exact Nat.le_succ 1) (by rw [hrw, hrl]; decide) _ _ _ _ _ _ _ _ _ _ _ _ _ _ _ B1 F10 X1 N10 Tp1 XB TB D1 rfl (by ktr_room) (by ktr_units) ?_
      rintro _ _ g2 h11 tk11 T2 F11 N11 - B2 X2 Tp2 D2 ⟨rfl, hR⟩
      rw [List.nil_append] at N11
      (try clear F10 N10)
      rcases hR with ⟨-, t11, rfl⟩ | ⟨-, hy, -⟩
      · rw [hrw]
        k_steps
        refine eq_bytes ?_
        rw [show (row.toArray.toList == row.toArray.toList) = true by simp]
        k_steps
        (with_reducible rename Fr _ _ _ _ => F12)
        (with_reducible rename News _ _ _ _ => N12)
        exact Ex.BodyEndS.ret (own := []) (T1.trans T2) F12 N12 (fun p hp => List.mem_cons_of_mem _ (List.mem_cons_of_mem _ hp)) above_nil ⟨rfl, rfl⟩
      · exact absurd (hty.mp hy).2 hsp
end

namespace Cn
open PySem.Sem (wp)
open Ex
def TurnEndN (fs : List Addr) (h₀ : Heap) (L : Addr) (tl : List (Addr × Obj)) (J : (PySem.Str → Option Value) → List (Addr × Obj) → Prop) (s₁ : Shared) (Q : Flow → Shared → Prop) (f : Flow) (s₂ : Shared) : Prop :=
  match f with
  | .ret v => Q (.ret v) s₂
  | .brk => Q .next s₂
  | _ => ∃ g' h' tk' m' nx, KtsTurn fs h₀ g' ∧ s₂ = { s₁ with heap := h', toks := tk' } ∧ Fr g' L h' m' ∧ News g' L h' (nx ++ tl) ∧ (∀ q ∈ nx, AllNe q.1 tl) ∧ J m' nx
/-- a loop over a list on clean stacks, in whose turns the frames below may be turned -/
theorem for_listN {prog : Program} {w : World} {A : Around} {s : Shared} {env : Env} {h₀ : Heap} {x : PySem.Str} {px : Pos} {body : List Stmt} {Q : Flow → Shared → Prop} {m₀ : PySem.Str → Option Value} {fix nx₀ : List (Addr × Obj)}
    {L : Addr} {l : Addr} {vs : List Value} {k : Nat} (fs : List Addr) (J : Nat → (PySem.Str → Option Value) → List (Addr × Obj) → Prop) (hL : env.locals = L) (hh : A.handled = none) (hx : env.kindOf x = some .local) (hp : (env.scope.kind == .class || (env.scope.kind == .module && env.locals != env.globals)) = false)
    (hm : (l, ({ cls := .type "list", data := .seq vs.toArray k } : Obj)) ∈ fix)
    (F : Fr h₀ L s.heap m₀) (N : News h₀ L s.heap (nx₀ ++ fix)) (hff : ∀ q ∈ nx₀, AllNe q.1 fix) (hJ : J 0 m₀ nx₀)
    (turn : ∀ i v m₁ nx h tk tl g, vs[i]? = some v → J i m₁ nx → (∀ p ∈ fix, p ∈ tl) → (∀ q ∈ nx, AllNe q.1 tl) → KtsTurn fs h₀ g → Fr g L h (fun y => if y = x then some v else m₁ y) → News g L h (nx ++ tl) →
      wpN (model prog w) A (execs body env) (TurnEndN fs h₀ L tl (J (i + 1)) { s with heap := h, toks := tk } Q) { s with heap := h, toks := tk })
    (done : ∀ m₁ nx h tk g, J vs.length m₁ nx → KtsTurn fs h₀ g → Fr g L h m₁ → News g L h (nx ++ fix) → Q .next { s with heap := h, toks := tk }) :
    wpAny (model prog w) A (pyIter (.ref l)) (fun it s₂ => codeN (model prog w) A (.forLoop (.Name x px) it body [] env) Q s₂) (fun _ _ => False) s := by
  subst hL
  have hls : s.heap.IsList l vs.toArray := ⟨_, (N _ (List.mem_append_right _ hm)).1, rfl, k, rfl⟩
  obtain ⟨ol, hol, _⟩ := id hls
  have hlt := Heap.lt_size hol
  have hz : vs.toArray.size = vs.length := by simp
  refine wpAny_pyIter_list hls ?_
  generalize hI : s.heap.objs.size = I at *
  have W := Walks.list (prog := prog) (w := w) hh I l (Nat.ne_of_lt hlt) vs.toArray
  have hI0 : h₀.get? I = none := hI ▸ next_is_new F
  have hIL : I ≠ env.locals := by rw [← hI]; exact Nat.ne_of_gt F.ns.lt
  have hIf : ∀ p ∈ nx₀ ++ fix, p.1 ≠ I := fun p hp => by rw [← hI]; exact Nat.ne_of_lt (Heap.lt_size (N p hp).1)
  have hIx : ∀ p ∈ fix, p.1 ≠ I := fun p hp => hIf p (List.mem_append_right _ hp)
  refine codeN.forLoop (fun n s' => ∃ h tk m g i oI nx, s' = { s with heap := h, toks := tk } ∧ h.IsListIter I l i ∧ h.get? I = some oI ∧ KtsTurn fs h₀ g ∧ Fr g env.locals h m ∧ News g env.locals h (nx ++ (I, oI) :: fix) ∧ (∀ q ∈ nx, AllNe q.1 ((I, oI) :: fix)) ∧ J i m nx ∧ i ≤ vs.length ∧ n = vs.length + 1 - i) ?_ (vs.length + 1) ?_
  · rintro n s' ⟨h, tk, m, g, i, oI, nx, rfl, hit, hoI, T, F', N', off, hJi, hi, rfl⟩
    have hl' : h.IsList l vs.toArray := ⟨_, (N' _ (List.mem_append_right _ (List.mem_cons_of_mem _ hm))).1, rfl, k, rfl⟩
    have gI : g.get? I = none := T.none_ _ hI0
    have nxI : ∀ q ∈ nx, q.1 ≠ I := fun q hq e => off q hq _ List.mem_cons_self e.symm
    have keepF : ∀ h₁ : Heap, (∀ b o, b ∉ [I] → h.get? b = some o → h₁.get? b = some o) → Fr g env.locals h₁ m := fun h₁ hk => ⟨F'.ns.at' fun o e => hk _ o (by simpa using Ne.symm hIL) e, fun b o e => hk b o (fun hb => by rw [List.mem_singleton.mp hb, gI] at e; cases e) (F'.keep b o e), F'.above⟩
    have keepN : ∀ h₁ : Heap, (∀ b o, b ∉ [I] → h.get? b = some o → h₁.get? b = some o) → News g env.locals h₁ (nx ++ fix) := fun h₁ hk q hq => by
      have hq' : q ∈ nx ++ (I, oI) :: fix := by
        rcases List.mem_append.mp hq with hq | hq
        · exact List.mem_append_left _ hq
        · exact List.mem_append_right _ (List.mem_cons_of_mem _ hq)
      have hqI : q.1 ≠ I := by
        rcases List.mem_append.mp hq with hq | hq
        · exact nxI q hq
        · exact hIx q hq
      exact ⟨hk _ _ (by simpa using hqI) (N' q hq').1, (N' q hq').2⟩
    by_cases hlt : i < vs.length
    · refine W.item i _ _ _ (by rw [hz]; exact hlt) ⟨hit, hl'⟩ fun v h₁ tk₁ hP st₁ hk₁ => ?_
      have F₁ := keepF h₁ hk₁
      have N₁ := keepN h₁ hk₁
      refine wpAny_assign_Name (wpAny_storeName_local hx F₁.ns (fun h₂ hn₂ hs₂ => ?_) hp)
      have F₂ := F₁.set hn₂ hs₂
      obtain ⟨oJ, hoJ, hcJ, hdJ⟩ := id st₁.1
      have hoJ₂ : h₂.get? I = some oJ := (hs₂.2 I hIL).trans hoJ
      have off₂ : ∀ q ∈ nx, AllNe q.1 ((I, oJ) :: fix) := fun q hq p hp => by
        rcases List.mem_cons.mp hp with rfl | hp
        · exact (nxI q hq).symm
        · exact off q hq p (List.mem_cons_of_mem _ hp)
      have N₂ : News g env.locals h₂ (nx ++ (I, oJ) :: fix) := fun q hq => by
        have up : ∀ q, q ∈ nx ++ fix → h₂.get? q.1 = some q.2 ∧ q.1 ≠ env.locals ∧ g.get? q.1 = none := fun q hq => ⟨(hs₂.2 q.1 (N₁ q hq).2.1).trans (N₁ q hq).1, (N₁ q hq).2⟩
        rcases List.mem_append.mp hq with hq | hq
        · exact up q (List.mem_append_left _ hq)
        · rcases List.mem_cons.mp hq with rfl | hq
          · exact ⟨hoJ₂, hIL, gI⟩
          · exact up q (List.mem_append_right _ hq)
      have hv : vs[i]? = some v := by simpa using hP
      refine (turn i v m nx h₂ _ ((I, oJ) :: fix) g hv hJi (fun p hp => List.mem_cons_of_mem _ hp) off₂ T F₂ N₂).mono fun f s₃ h₃ => ?_
      have fin : (∃ g' h' tk' m' nx, KtsTurn fs h₀ g' ∧ s₃ = { s with heap := h', toks := tk' } ∧ Fr g' env.locals h' m' ∧ News g' env.locals h' (nx ++ (I, oJ) :: fix) ∧ (∀ q ∈ nx, AllNe q.1 ((I, oJ) :: fix)) ∧ J (i + 1) m' nx) →
          ∃ n', n' < vs.length + 1 - i ∧ ∃ h tk m g i' oI nx, s₃ = { s with heap := h, toks := tk } ∧ h.IsListIter I l i' ∧ h.get? I = some oI ∧ KtsTurn fs h₀ g ∧ Fr g env.locals h m ∧ News g env.locals h (nx ++ (I, oI) :: fix) ∧ (∀ q ∈ nx, AllNe q.1 ((I, oI) :: fix)) ∧ J i' m nx ∧ i' ≤ vs.length ∧ n' = vs.length + 1 - i' := by
        rintro ⟨g', h', tk', m', nx', T', rfl, F₃, N₃, off₃, J₃⟩
        have hI₃ := (N₃ _ (List.mem_append_right _ List.mem_cons_self)).1
        exact ⟨vs.length + 1 - (i + 1), by omega, h', tk', m', g', i + 1, oJ, nx', rfl, ⟨oJ, hI₃, hcJ, hdJ⟩, hI₃, T', F₃, N₃, off₃, J₃, hlt, rfl⟩
      cases f with
      | ret v => exact h₃
      | brk => exact h₃
      | next => exact fin h₃
      | cont => exact fin h₃
    · have hin : i = vs.length := by omega
      subst hin
      rw [← hz] at hit
      refine W.done _ _ _ ⟨hit, hl'⟩ fun h₁ tk₁ hk₁ => ?_
      exact done m nx h₁ tk₁ g hJi T (keepF h₁ hk₁) (keepN h₁ hk₁)
  · have hpI : (s.heap.push { cls := .type "list_iterator", data := .fields #[.ref l, .int 0 0] }).get? I = some { cls := .type "list_iterator", data := .fields #[.ref l, .int 0 0] } := by rw [← hI]; exact Heap.get?_push_size _ rfl
    exact ⟨_, s.toks, m₀, h₀, 0, _, nx₀, rfl, ⟨_, hpI, rfl, rfl⟩, hpI, .refl, F.push _, fun p hp => by
      have up : p ∈ nx₀ ++ fix → (s.heap.push { cls := .type "list_iterator", data := .fields #[.ref l, .int 0 0] }).get? p.1 = some p.2 ∧ p.1 ≠ env.locals ∧ h₀.get? p.1 = none := fun hp => ⟨Heap.get?_push_of_some _ (N p hp).1, (N p hp).2⟩
      rcases List.mem_append.mp hp with hp | hp
      · exact up (List.mem_append_left _ hp)
      · rcases List.mem_cons.mp hp with rfl | hp
        · exact ⟨hpI, hIL, hI0⟩
        · exact up (List.mem_append_right _ hp), fun q hq p hp => by
      rcases List.mem_cons.mp hp with rfl | hp
      · exact (hIf q (List.mem_append_left _ hq)).symm
      · exact hff q hq p hp, hJ, Nat.zero_le _, rfl⟩
end Cn

def nextN (n v : Int) : Int := (n + worth v + worth (v / 855) * 4294967296) % 18446744073709551616
theorem nextN_bound (n v : Int) : 0 ≤ nextN n v ∧ nextN n v < 18446744073709551616 := by unfold nextN; omega
theorem nextN_halves (n v : Int) (h0 : 0 ≤ n) : (n / 4294967296 + worth (v / 855) + (n % 4294967296 + worth v) / 4294967296) % 4294967296 = nextN n v / 4294967296 ∧ (n % 4294967296 + worth v) % 4294967296 = nextN n v % 4294967296 := by
  unfold nextN
  generalize worth v = x
  generalize worth (v / 855) = y
  omega

theorem top_off_62 : True := by
  w_top off
  trivial
section
variable {w : World} {p : Program} {loose : List PySem.Str} {mean : ExcName → Option Value} {mg mb : PySem.Str → Option Value} {news : List (Addr × Obj)}
local macro_rules | `(tactic| walk_at "pyIter ref") => `(tactic| refine Stop.intro ?_)
local macro_rules | `(tactic| walk_at "off") => `(tactic| (repeat' (first | exact off_refl | exact ovr_offOf (by rfl) | (refine off_upd (by rfl) ?_) | (refine off_ovr (by rfl) ?_))))
set_option maxHeartbeats 1000000 in
theorem c_run (l : Addr) (dvs : List Value) (kl : Nat) (ds : List Int) (hml : (l, Ls.lsO dvs kl) ∈ news) (hds : IntsAre dvs ds) (sl : Addr) (vl : List Value) (ks : Nat) (hsl : (sl, ({ cls := .type "list", data := .seq vl.toArray ks } : Obj)) ∈ news) (hs : SignsAre vl) :
    Cn.DoesNT PySem.Challenge.rw_kq0071_02.row.prog w (hd.heap_39 w.params) p loose mean mg mb 135 [.ref l, .ref sl] [] news 16 (fun v own => own = [] ∧ v = .bool true) := by
  refine' Cn.does_defNT (binds := [(PySem.Str.ofString "deeds", .ref l), (PySem.Str.ofString "signs", .ref sl)]) ?ho ?hcd ?hbind ?hloc ?hco ?hgen ?hk ?hcell ?h
  walk_at "enter"
  intro dp un outer A₀ base g L s B F N X T XB TB D hd hu
  refine Cn.wpN.consA ?_
  k_fold
  k_steps
  refine Cn.wpN.consA ?_
  k_steps
  (with_reducible rename Fr _ _ _ _ => F1)
  (with_reducible rename News _ _ _ _ => N1)
  refine Cn.wpN.execs_cons (Cn.wpN.If_not_call (Cn.wpN.Call_def ?_))
  k_steps
  refine ⟨_, rfl, ?_⟩
  k_steps
  (with_reducible rename Fr _ _ _ _ => F2)
  (with_reducible rename News _ _ _ _ => N2)
  refine ⟨⟨_, _, (X.keeps F2.keep) _ _ (by k_dflt k_is), rfl⟩, ?_⟩
  have e0 : (538976287 * 2 ^ Int.toNat 32 + 4294967293 : Int) = 2314885530279477245 := by decide
  have e1 : canon (2314885530279477245 / 4294967296) = [10, 27, 53, 67, 42] := by decide
  have e2 : canon (2314885530279477245 % 4294967296) = [82, 23, 54, 11, 83] := by decide
  rename_i hx a0 hy l0 a1 hz l1 fa hw lf hv
  have hus := fun t0 t1 t2 t3 t4 => e1.symm ▸ (IntsAre.cons 10 t0 (.cons 27 t1 (.cons 53 t2 (.cons 67 t3 (.cons 42 t4 .nil)))))
  have hvs := fun t0 t1 t2 t3 t4 => e2.symm ▸ (IntsAre.cons 82 t0 (.cons 23 t1 (.cons 54 t2 (.cons 11 t3 (.cons 83 t4 .nil)))))
  rw [e0] at F2 ⊢
  refine c_right 2314885530279477245 _ (by decide) (by decide) sl vl ks (List.mem_cons_of_mem _ (List.mem_cons_of_mem _ (List.mem_cons_of_mem _ hsl))) hs fa a0 a1 0 0 0 _ _ List.mem_cons_self (List.mem_cons_of_mem _ (List.mem_cons_of_mem _ List.mem_cons_self)) (List.mem_cons_of_mem _ List.mem_cons_self) (hus _ _ _ _ _) (hvs _ _ _ _ _) _ _ _ _ _ _ _ _ _ _ _ _ _ _ B F2 X N2 T XB TB D rfl (by ktr_room) (by ktr_units) ?_
  rintro _ _ g1 h3 tk3 T1 F3 N3 - B1 X1 Tp1 D1 ⟨rfl, rfl⟩
  rw [List.nil_append] at N3
  (try clear F2 N2); (try clear F1 N1)
  k_steps
  refine ⟨rfl, ?_⟩
  refine Cn.wpN.execs_cons (Cn.wpN.For ?_)
  k_steps
  change wpAny _ _ (pyIter (.ref l)) _ _ _
  have h1a : AllLt a0 news := allLt_intro l0
  obtain ⟨us0, vs0, hus, hvs, N3⟩ : ∃ us vs, IntsAre us (canon (2314885530279477245 / 4294967296)) ∧ IntsAre vs (canon (2314885530279477245 % 4294967296)) ∧ News g1 L h3 ([(fa, Ls.lsO [.ref a0, .ref a1] 0), (a0, Ls.lsO us 0), (a1, Ls.lsO vs 0)] ++ news) :=
    ⟨_, _, hus _ _ _ _ _, hvs _ _ _ _ _, fun p hp => N3 p (by
      rcases List.mem_cons.mp hp with rfl | hp
      · exact List.mem_cons_self
      rcases List.mem_cons.mp hp with rfl | hp
      · exact List.mem_cons_of_mem _ (List.mem_cons_of_mem _ List.mem_cons_self)
      rcases List.mem_cons.mp hp with rfl | hp
      · exact List.mem_cons_of_mem _ List.mem_cons_self
      exact List.mem_cons_of_mem _ (List.mem_cons_of_mem _ (List.mem_cons_of_mem _ hp)))⟩
  refine' Cn.for_listN (L := L) (h₀ := g1) (nx₀ := [(fa, Ls.lsO [.ref a0, .ref a1] 0), (a0, Ls.lsO us0 0), (a1, Ls.lsO vs0 0)]) (fix := news) (outer.filterMap (·.frame)) (fun _ m nx => ∃ n tn fa a0 a1 kf k0 k1 us vs', nx = [(fa, Ls.lsO [.ref a0, .ref a1] kf), (a0, Ls.lsO us k0), (a1, Ls.lsO vs' k1)] ∧ 0 ≤ n ∧ n < 18446744073709551616 ∧ IntsAre us (canon (n / 4294967296)) ∧ IntsAre vs' (canon (n % 4294967296)) ∧
      m = ovr [(PySem.Str.ofString "face", .ref fa), (PySem.Str.ofString "n", .int n tn)] [PySem.Str.ofString "v"] m (fun y => [(PySem.Str.ofString "deeds", Value.ref l), (PySem.Str.ofString "signs", .ref sl)].reverse.lookup y)) ?hL ?hh ?hx ?hp ?hm ?F ?N ?hff ?hJ ?turn ?done
  case F => exact F3
  case N => exact N3
  case hL => rfl
  case hh => rfl
  case hx => rfl
  case hp => rfl
  case hm => exact hml
  case hff =>
    intro q hq
    rcases List.mem_cons.mp hq with rfl | hq
    · exact AllNe.ofLt lf.2.2
    rcases List.mem_cons.mp hq with rfl | hq
    · exact AllNe.ofLt h1a
    rcases List.mem_cons.mp hq with rfl | hq
    · exact AllNe.ofLt l1.2
    cases hq
  case hJ => exact ⟨2314885530279477245, _, fa, a0, a1, 0, 0, 0, _, _, rfl, by decide, by decide, hus, hvs, ovr_of (keys_cons rfl (keys_cons rfl keys_nil)) (by walk_at "off")⟩
  case turn =>
    clear hus hvs e0 e1 e2 F3 N3 lf l1 l0 h1a
    rintro i v m₁ nx h tk tl g2 hv ⟨n, tn, fa, a0, a1, kf, k0, k1, us, vs', rfl, hn0, hn1, hus, hvs, hm⟩ hsub off T2 F' N'
    obtain ⟨v, tv, rfl, hvn⟩ := IntsAre.at hds i v hv
    simp only [List.cons_append, List.nil_append] at N'
    have B2 := Ex.below_turn T2 B1
    have X2 := XB.keeps B2.stays
    have Tp2 := TB.keeps B2.stays
    have D2 := D1.turn T2
    obtain ⟨hh1, hh2⟩ := nextN_halves n v hn0
    have hb := nextN_bound n v
    have hex : ∃ n', nextN n v = n' := ⟨_, rfl⟩
    obtain ⟨n', hn'⟩ := hex
    rw [hn'] at hh1 hh2 hb
    rw [hm] at F'
    clear hm hv hvn
    (try k_fold)
    (try dsimp only)
    refine Cn.wpN.consA ?_
    k_steps
    refine does_use (c_worth v tv) B2 F' X2 N' Tp2 (by rfl) (by ktr_room) (by ktr_units) ?_
    rintro _ _ h4 tk4 F4 N4 - ⟨rfl, t4, rfl⟩
    rw [List.nil_append] at N4
    clear F' N'
    k_steps
    refine does_use (c_worth (v / 855) _) B2 F4 X2 N4 Tp2 (by rfl) (by ktr_room) (by ktr_units) ?_
    rintro _ _ h5 tk5 F5 N5 - ⟨rfl, t5, rfl⟩
    rw [List.nil_append] at N5
    clear F4 N4
    k_steps
    (with_reducible rename Fr _ _ _ _ => F6)
    rw [show (n + worth v + worth (v / 855) * 2 ^ Int.toNat 32) % 2 ^ Int.toNat 64 = n' from hn'] at F6
    clear hn'
    refine Cn.wpN.consA ?_
    k_steps
    (with_reducible rename Fr _ _ _ _ => F7)
    (with_reducible rename News _ _ _ _ => N7)
    refine does_use (c_counted fa a0 a1 kf k0 k1 us vs' List.mem_cons_self (List.mem_cons_of_mem _ List.mem_cons_self) (List.mem_cons_of_mem _ (List.mem_cons_of_mem _ List.mem_cons_self)) _ _ hus hvs (by omega) (by omega) (by omega) (by omega) v _) B2 F7 X2 N7 Tp2 (by rfl) (by ktr_room) (by ktr_units) ?_
    rintro _ _ h8 tk8 F8 N8 ha8 ⟨f', b0, b1, us', ws', kf', j0, j1, rfl, rfl, hus', hws'⟩
    rw [hh1] at hus'
    rw [hh2] at hws'
    simp only [List.cons_append, List.nil_append] at N8
    clear F7 N7
    k_steps
    refine Cn.wpN.execs_cons (Cn.wpN.If_not_call (Cn.wpN.Call_def ?_))
    k_steps
    refine ⟨_, rfl, ?_⟩
    k_steps
    (with_reducible rename Fr _ _ _ _ => F9)
    (with_reducible rename News _ _ _ _ => N9)
    refine ⟨⟨_, _, (X2.keeps F9.keep) _ _ (by k_dflt k_is), rfl⟩, ?_⟩
    refine c_right n' _ hb.1 hb.2 sl vl ks (List.mem_cons_of_mem _ (List.mem_cons_of_mem _ (List.mem_cons_of_mem _ (List.mem_cons_of_mem _ (List.mem_cons_of_mem _ (List.mem_cons_of_mem _ (hsub _ hsl))))))) hs f' b0 b1 kf' j0 j1 us' ws' List.mem_cons_self (List.mem_cons_of_mem _ List.mem_cons_self) (List.mem_cons_of_mem _ (List.mem_cons_of_mem _ List.mem_cons_self)) hus' hws' _ _ _ _ _ _ _ _ _ _ _ _ _ _ B2 F9 X2 N9 Tp2 XB TB D2 rfl (by ktr_room) (by ktr_units) ?_
    rintro _ _ g3 h10 tk10 T3 F10 N10 - B3 X3 Tp3 D3 ⟨rfl, rfl⟩
    rw [List.nil_append] at N10
    (try clear F9 N9); (try clear F8 N8)
    k_steps
    refine ⟨rfl, ?_⟩
    refine Cn.wpN.execs_nil ?_
    have a0 := AllNe.ofLt (ha8 _ List.mem_cons_self).2.2.2
    have a1 := AllNe.ofLt (ha8 _ (List.mem_cons_of_mem _ List.mem_cons_self)).2.2.2
    have a2 := AllNe.ofLt (ha8 _ (List.mem_cons_of_mem _ (List.mem_cons_of_mem _ List.mem_cons_self))).2.2.2
    exact ⟨g3, _, _, _, [(f', Ls.lsO [.ref b0, .ref b1] kf'), (b0, Ls.lsO us' j0), (b1, Ls.lsO ws' j1)], T2.trans T3, rfl, F10, fun p hp => N10 p (by
      rcases List.mem_cons.mp hp with rfl | hp
      · exact List.mem_cons_self
      rcases List.mem_cons.mp hp with rfl | hp
      · exact List.mem_cons_of_mem _ List.mem_cons_self
      rcases List.mem_cons.mp hp with rfl | hp
      · exact List.mem_cons_of_mem _ (List.mem_cons_of_mem _ List.mem_cons_self)
      exact List.mem_cons_of_mem _ (List.mem_cons_of_mem _ (List.mem_cons_of_mem _ (List.mem_cons_of_mem _ (List.mem_cons_of_mem _ (List.mem_cons_of_mem _ hp)))))), (by
      intro q hq
      rcases List.mem_cons.mp hq with rfl | hq
      · exact a0
      rcases List.mem_cons.mp hq with rfl | hq
      · exact a1
      rcases List.mem_cons.mp hq with rfl | hq
      · exact a2
      cases hq), n', _, f', b0, b1, kf', j0, j1, us', ws', rfl, hb.1, hb.2, hus', hws', ovr_of (keys_cons rfl (keys_cons rfl keys_nil)) (by walk_at "off")⟩
  case done =>
    rintro m₁ nx h tk g2 ⟨n, tn, fa, a0, a1, kf, k0, k1, us, vs', rfl, -, -, -, -, hm⟩ T2 F' N'
    have B2 := Ex.below_turn T2 B1
    have X2 := XB.keeps B2.stays
    have Tp2 := TB.keeps B2.stays
    rw [hm] at F'
    clear hm
    simp only [List.cons_append, List.nil_append] at N'
    (try clear F3 N3)
    refine Cn.wpN.any ?_
    (try k_fold)
    (try dsimp only)
    k_steps
    (with_reducible rename Fr _ _ _ _ => F5)
    (with_reducible rename News _ _ _ _ => N5)
    exact Ex.BodyEndS.ret (own := []) (T1.trans T2) F5 N5 (fun p hp => List.mem_cons_of_mem _ (List.mem_cons_of_mem _ (List.mem_cons_of_mem _ hp))) above_nil ⟨rfl, rfl⟩
end

namespace Cn
/-- a call of a def, read off its record, on clean stacks -/
theorem call_full {prog : Program} {w : World} {A : Around} {Q : Value → Shared → Prop} {s : Shared} {name : PySem.Str} {params : Arguments} {body : List Stmt} {scope : Scope}
    {dV kV pm cd doc : Value} {a : Addr} {o : Obj} {args : List Value} {binds : List (PySem.Str × Value)}
    (hroom : A.depth < recursionLimit) (ho : s.heap.get? a = some o) (hdata : o.data = .func { PySem.Calls.docDef name params body scope pm cd doc with defaults := dV, kwdefaults := kV }) (hlim : s.heap.NoLimit) (hcd : s.heap.CodeRec cd name)
    (hbind : BindsTo s { PySem.Calls.docDef name params body scope pm cd doc with defaults := dV, kwdefaults := kV } ⟨args, []⟩ binds)
    (hloc : ∀ x ∈ binds, scope.names.lookup x.1 = some .local)
    (h : ∀ h₁, Fr s.heap s.heap.objs.size h₁ (fun x => binds.reverse.lookup x) →
      wpN (model prog w) (A.deeper (envOf name scope s.heap.objs.size a cd)) (execs body (envOf name scope s.heap.objs.size a cd))
        (fun f s' => Q (match f with | .ret v => v | _ => .none) s') { s with heap := h₁, toks := s.toks + binds.length })
    (hco : scope.isCoroutine = false := by rfl) (hgen : scope.isGenerator = false := by rfl) (hk : scope.kind = .function := by rfl)
    (hcell : ∀ x ∈ scope.names, x.2 ≠ .cell := by decide) :
    wpN (model prog w) A (PySem.call (.ref a) args) Q s :=
  wpN.call (codeN.call_def hroom ho hdata hlim hcd rfl hbind hcell hloc (fun h₁ hns hkeep => (h h₁ ⟨hns, hkeep, Nat.le_refl _⟩).mono fun f s' h' => ⟨_, rfl, h'⟩) hco hgen hk)
end Cn

theorem top_off_63 : True := by
  w_top off
  trivial
theorem signsAre_of {ys : List Value} (hl : ys.length = 85) (h : ∀ (i : Nat) (y : Value), ys[i]? = some y → ∃ t, y = .bytes (Bb.ofInts [33 + (i : Int)]).toArray t) : SignsAre ys := by
  refine ⟨hl, fun i hi => ?_⟩
  obtain ⟨t, ht⟩ := h i _ (List.getElem?_eq_getElem (by omega))
  exact ⟨t, by rw [List.getElem?_eq_getElem (by omega), ht]⟩
section
local macro_rules | `(tactic| walk_at "CompSrc") => `(tactic| refine Stop.intro ?_)
set_option maxHeartbeats 4000000 in
theorem law_holds : PySem.Challenge.rw_kq0071_02.Holds := hd (by
  k_fill
  intro w s₀ s₁ mg mb G Y fa o pm cd doc dV kV ho hd hcd hD hmg hg args vals as hpre hlay hrd hwl hlo
  have KX := kIn_of Y
  have X := (Ground.X G).1
  have V := (Ground.X G).2
  refine Ground.open G ?_
  intro T B D TE TW
  try (refine guard_noD D (by decide +kernel) ?_; clear D)
  have TA := at_of_top T
  clear hmg
  wrow_args hpre hlay hrd hwl hlo
  w_top on
  have K0 := below_caller (Top.heap T)
  have he := Dflts.none hD rfl
  subst he
  refine Cn.call_full (by decide) ho hd (Top.nolimit T) hcd (BindsTo.of_eq rfl) (locs rfl) fun h₁ F => ?_
  w_binds F
  have N0 := (News.nil : News _ _ _ []).at F
  clear hd TA
  refine Cn.wpN.consA ?_
  k_fold
  k_steps
  refine Cn.wpN.consA ?_
  k_steps
  (with_reducible rename IsRange _ _ _ _ _ _ _ _ => hr)
  (with_reducible rename Fr _ _ _ _ => F1)
  (with_reducible rename News _ _ _ _ => N1)
  (with_reducible rename IntsAre _ _ => hnI)
  refine LCg.CompSrc.range (n := 85) rfl F1 N1 hr (by decide) rfl (by decide) ?_
  intro g1
  refine compRest_all (fun i y => ∃ t, y = .bytes (Bb.ofInts [33 + (i : Int)]).toArray t) trivial ?_ ?_
  · intro i v I oI C oC D' ys m₂ h tk hi hv hC hx F N
    clear F1 N1
    obtain ⟨t, rfl⟩ := hv
    (try k_fold)
    k_steps
    (with_reducible rename Fr _ _ _ _ => F2)
    (with_reducible rename News _ _ _ _ => N2)
    exact EltEnd.intro F2 N2 (by walk_at "sub") ⟨_, by rw [show (33 : Int) + (0 + (i : Int)) = 33 + (i : Int) by omega]⟩
  · intro ys hyl hyR
    have hsig := signsAre_of hyl hyR
    intro D h tk F N o1
    clear F1 N1
    (simp only [LCg.Off1, and_true] at o1)
    k_steps
    refine Cn.wpN.execs_cons (Cn.wpN.Return_some (Cn.wpN.Call_def ?_))
    k_steps
    refine ⟨_, rfl, ?_⟩
    k_steps
    (with_reducible rename Fr _ _ _ _ => F3)
    (with_reducible rename News _ _ _ _ => N3)
    refine ⟨⟨_, _, (KX.keeps F3.keep) _ _ (by k_dflt k_is), rfl⟩, ?_⟩
    refine c_run _ _ 0 _ (List.mem_cons_of_mem _ List.mem_cons_self) hnI D ys ys.length List.mem_cons_self hsig _ _ _ _ _ _ _ _ _ _ _ _ _ K0 F3 KX N3 T rfl (by ktr_room) (by ktr_units) ?_
    rintro _ _ h4 tk4 F4 N4 - ⟨rfl, rfl⟩
    rw [List.nil_append] at N4
    clear F3 N3
    dsimp only
    refine GoodW.toG ?_
    wrow_close)
end

end Mine
theorem PySem.Challenge.cw_kq0071_02_holds : PySem.Challenge.rw_kq0071_02.Holds :=
  Mine.law_holds
