import PyProof.Rows.All
import Wide.All
import OpenK.AllK
import Wide.FinOn
import Lean
import PySem.Challenge.RW_kq0071_01
open PySem PySem.W PyProof.Rows
set_option Elab.async false
set_option maxRecDepth 100000
set_option maxHeartbeats 400000
namespace Mine
open_top hd for PySem.Challenge.rw_kq0071_01
theorem top_off : True := by
  w_top off
  trivial

def AllNe (a : Addr) (l : List (Addr × Obj)) : Prop := ∀ p ∈ l, p.1 ≠ a
theorem AllNe.ofLt {a : Addr} {l : List (Addr × Obj)} (h : AllLt a l) : AllNe a l := by
  induction l with
  | nil => intro p hp; cases hp
  | cons q r ih =>
    intro p hp
    rcases List.mem_cons.mp hp with rfl | hp
    · exact Nat.ne_of_lt h.1
    · exact ih h.2 p hp
theorem allLt_mem {a : Addr} {l : List (Addr × Obj)} (h : AllLt a l) : ∀ p ∈ l, p.1 < a := by
  induction l with
  | nil => intro p hp; cases hp
  | cons q r ih =>
    intro p hp
    rcases List.mem_cons.mp hp with rfl | hp
    · exact h.1
    · exact ih h.2 p hp
theorem allLt_intro {a : Addr} {l : List (Addr × Obj)} (h : ∀ p ∈ l, p.1 < a) : AllLt a l := allLt_of h
theorem allLt_trans {a b : Addr} {l : List (Addr × Obj)} (h : AllLt a l) (hab : a ≤ b) : AllLt b l :=
  allLt_intro fun p hp => Nat.lt_of_lt_of_le (allLt_mem h p hp) hab
theorem allLt_app {a : Addr} {l r : List (Addr × Obj)} : AllLt a (l ++ r) ↔ AllLt a l ∧ AllLt a r := by
  induction l with
  | nil => simp [AllLt]
  | cons q l ih => simp [AllLt, ih, and_assoc]

/-- all own above all news -/
def Above (own news : List (Addr × Obj)) : Prop := ∀ q ∈ own, AllLt q.1 news
theorem above_nil {news : List (Addr × Obj)} : Above [] news := fun _ h => nomatch h
theorem above_cons {q : Addr × Obj} {own news : List (Addr × Obj)} (h : AllLt q.1 news) (h' : Above own news) : Above (q :: own) news := fun p hp => by
  rcases List.mem_cons.mp hp with rfl | hp
  · exact h
  · exact h' p hp

theorem sub_refl {l : List (Addr × Obj)} : ∀ p ∈ l, p ∈ l := fun _ h => h
theorem sub_nil {l : List (Addr × Obj)} : ∀ p ∈ ([] : List (Addr × Obj)), p ∈ l := fun _ h => nomatch h
theorem sub_take {x : Addr × Obj} {l r : List (Addr × Obj)} (h : ∀ p ∈ l, p ∈ r) : ∀ p ∈ x :: l, p ∈ x :: r := fun p hp => by
  rcases List.mem_cons.mp hp with rfl | hp
  · exact List.mem_cons_self
  · exact List.mem_cons_of_mem _ (h p hp)
theorem sub_skip {x : Addr × Obj} {l r : List (Addr × Obj)} (h : ∀ p ∈ l, p ∈ r) : ∀ p ∈ l, p ∈ x :: r := fun p hp => List.mem_cons_of_mem _ (h p hp)
theorem sub_mem {x : Addr × Obj} {l r : List (Addr × Obj)} (hx : x ∈ r) (h : ∀ p ∈ l, p ∈ r) : ∀ p ∈ x :: l, p ∈ r := fun p hp => by
  rcases List.mem_cons.mp hp with rfl | hp
  · exact hx
  · exact h p hp
theorem TurnOff1 {d : Addr} {o : Obj} {l : List (Addr × Obj)} (h : AllNe d l) : ∀ q ∈ [(d, o)], AllNe q.1 l := fun q hq => by rw [List.mem_singleton.mp hq]; exact h

def BodyEnd (g : Heap) (L : Addr) (news : List (Addr × Obj)) (R : Value → List (Addr × Obj) → Prop) (s₁ : Shared) (fl : Flow) (s' : Shared) : Prop :=
  ∃ v own h' tk' m', (fl = .ret v ∨ (fl = .next ∧ v = .none)) ∧ s' = { s₁ with heap := h', toks := tk' } ∧ Fr g L h' m' ∧ News g L h' (own ++ news) ∧ Above own news ∧ R v own

theorem BodyEnd.ret {g : Heap} {L : Addr} {news own : List (Addr × Obj)} {R : Value → List (Addr × Obj) → Prop} {s₁ : Shared} {v : Value} {h' : Heap} {tk' : Nat} {m' : PySem.Str → Option Value} {led : List (Addr × Obj)}
    (F : Fr g L h' m') (N : News g L h' led) (hs : ∀ p ∈ own ++ news, p ∈ led) (ha : Above own news) (hR : R v own) : BodyEnd g L news R s₁ (.ret v) { s₁ with heap := h', toks := tk' } :=
  ⟨v, own, h', tk', m', .inl rfl, rfl, F, fun p hp => N p (hs p hp), ha, hR⟩

def Does (prog : Program) (w : World) (K : Frag) (p : Program) (loose : List PySem.Str) (mean : ExcName → Option Value) (mg mb : PySem.Str → Option Value) (f : Addr) (args : List Value) (kw : List (PySem.Str × Value)) (news : List (Addr × Obj)) (lev : Nat) (R : Value → List (Addr × Obj) → Prop) : Prop :=
  ∀ (dp un : Nat) (cn : PySem.Str) (cs : Scope) (a : Addr) (ccd : Value) (cl : List (PySem.Str × Addr)) (outer : List Env) (A₀ : Around) (base h₀ : Heap) (L : Addr) (m : PySem.Str → Option Value) (s : Shared) (Q E : Value → Shared → Prop),
    Below A₀ base outer h₀ → Fr h₀ L s.heap m → K.In h₀ → News h₀ L s.heap news → Top p loose mean mg mb h₀ → cs.kind = .function → dp + lev + 1 < recursionLimit → un + 10 * lev + 30 < cLine →
    (∀ (v : Value) (own : List (Addr × Obj)) (h' : Heap) (tk' : Nat), Fr h₀ L h' m → News h₀ L h' (own ++ news) → Above own news → R v own → Q v { s with heap := h', toks := tk' }) →
    wpAny (model prog w) (ktrTop dp un (some []) cn cs L a ccd cl outer) (call (.ref f) args kw) Q E s

section
variable {prog : Program} {w : World} {K : Frag} {p : Program} {loose : List PySem.Str} {mean : ExcName → Option Value} {mg mb : PySem.Str → Option Value}
  {f : Addr} {args : List Value} {kw : List (PySem.Str × Value)} {news : List (Addr × Obj)} {R : Value → List (Addr × Obj) → Prop} {lev : Nat}
  {name : PySem.Str} {params : Arguments} {body : List Stmt} {scope : Scope} {dV kV doc pm cdv ct oc : Value} {an od : Option Addr} {osl : Array (Option Value)} {binds : List (PySem.Str × Value)}

theorem does_def (ho : K.lookup f = some ⟨oc, od, .func (fnOf name name params body scope dV kV doc pm an cdv ct), osl⟩) (hcd : codeIn K cdv name = true)
    (hbind : ∀ s : Shared, K.In s.heap → BindsTo s (fnOf name name params body scope dV kV doc pm an cdv ct) ⟨args, kw⟩ binds) (hloc : ∀ y ∈ binds, scope.names.lookup y.1 = some .local)
    (hco : scope.isCoroutine = false) (hgen : scope.isGenerator = false) (hk : scope.kind = .function) (hcell : ∀ x ∈ scope.names, x.2 ≠ .cell)
    (h : ∀ (dp un : Nat) (outer : List Env) (A₀ : Around) (base g : Heap) (L : Addr) (s : Shared),
      Below A₀ base outer g → Fr g L s.heap (fun y => binds.reverse.lookup y) → News g L s.heap news → K.In g → Top p loose mean mg mb g → dp + lev < recursionLimit → un + 10 * lev + 20 < cLine → AllLt L news →
      wpAny (model prog w) (ktrTop dp un (some []) name scope L f cdv [] outer) (execs body (envOf name scope L f cdv)) (BodyEnd g L news R s) (fun _ _ => False) s) :
    Does prog w K p loose mean mg mb f args kw news lev R := by
  intro dp un cn cs a ccd cl outer A₀ base h₀ L m s Q E B F X N T hck hd hu hret
  refine wpAny_call ?_
  have X' := X.keeps F.keep
  refine callX_plain (cl := []) (env := envX cn cs L a ccd cl) B F N T.nolimit rfl rfl hck (X' _ _ ho) rfl (codeRec_of X' hcd) (by show dp < recursionLimit; omega) (hbind s X') hloc (fun g L' h₁ FG F' N' B' st hlt => ?_) hcell hco hgen hk
  have hh := h (dp + 1) (un + 3) (envX cn cs L a ccd cl :: outer) _ base g L' { s with heap := h₁, toks := s.toks + binds.length } B' F' N' (X.keeps st) (T.keeps st) (by omega) (by omega) (allLt_intro hlt)
  refine wpAny_mono hh (fun fl s' hb => ?_) fun _ _ e => e.elim
  obtain ⟨v, own, h', tk', m', hfl, rfl, F'', N'', ha, hR⟩ := hb
  rcases hfl with rfl | ⟨rfl, rfl⟩
  · exact leaveK_ F'' N'' fun FK NK => hret v own h' tk' FK NK ha hR
  · exact leaveK_ F'' N'' fun FK NK => hret _ own h' tk' FK NK ha hR
end

theorem does_use {prog : Program} {w : World} {K : Frag} {p : Program} {loose : List PySem.Str} {mean : ExcName → Option Value} {mg mb : PySem.Str → Option Value} {f : Addr} {args : List Value} {kw : List (PySem.Str × Value)} {news : List (Addr × Obj)} {R : Value → List (Addr × Obj) → Prop} {lev : Nat}
    {dp un : Nat} {cn : PySem.Str} {cs : Scope} {a : Addr} {ccd : Value} {cl : List (PySem.Str × Addr)} {outer : List Env} {A₀ : Around} {base h₀ : Heap} {L : Addr} {m : PySem.Str → Option Value} {s : Shared} {Q E : Value → Shared → Prop}
    (C : Does prog w K p loose mean mg mb f args kw news lev R) (B : Below A₀ base outer h₀) (F : Fr h₀ L s.heap m) (X : K.In h₀) (N : News h₀ L s.heap news) (T : Top p loose mean mg mb h₀) (hck : cs.kind = .function) (hd : dp + lev + 1 < recursionLimit) (hu : un + 10 * lev + 30 < cLine)
    (hret : ∀ (v : Value) (own : List (Addr × Obj)) (h' : Heap) (tk' : Nat), Fr h₀ L h' m → News h₀ L h' (own ++ news) → Above own news → R v own → Q v { s with heap := h', toks := tk' }) :
    wpAny (model prog w) (ktrTop dp un (some []) cn cs L a ccd cl outer) (call (.ref f) args kw) Q E s := C dp un cn cs a ccd cl outer A₀ base h₀ L m s Q E B F X N T hck hd hu hret

def Stop (P : Prop) : Prop := P
theorem Stop.intro {P : Prop} (h : Stop P) : P := h

/-- the map with the names xs laid over it, the temporaries ts unknown -/
def ovr (xs : List (PySem.Str × Value)) (ts : List PySem.Str) (u m₀ : PySem.Str → Option Value) (z : PySem.Str) : Option Value :=
  match xs.lookup z with
  | some v => some v
  | none => if ts.contains z then u z else m₀ z

theorem lookup_none_of {xs : List (PySem.Str × Value)} {z : PySem.Str} (h : ∀ p ∈ xs, z ≠ p.1) : xs.lookup z = none := by
  induction xs with
  | nil => rfl
  | cons q r ih =>
    have h1 := h q List.mem_cons_self
    have h2 := ih fun p hp => h p (List.mem_cons_of_mem _ hp)
    rw [List.lookup_cons]
    have : (z == q.1) = false := beq_eq_false_iff_ne.mpr h1
    simp [this, h2]
theorem lookup_some_mem {xs : List (PySem.Str × Value)} {z : PySem.Str} {v : Value} (h : xs.lookup z = some v) : (z, v) ∈ xs := by
  induction xs with
  | nil => cases h
  | cons q r ih =>
    rw [List.lookup_cons] at h
    split at h
    · rename_i e
      have e' := eq_of_beq e
      cases h
      rw [e']; exact List.mem_cons_self
    · exact List.mem_cons_of_mem _ (ih h)
def Keys (m : PySem.Str → Option Value) (xs : List (PySem.Str × Value)) : Prop := ∀ p ∈ xs, m p.1 = some p.2
def OffOf (ts : List PySem.Str) (ks : List PySem.Str) (m m₀ : PySem.Str → Option Value) : Prop := ∀ z, (∀ t ∈ ts, z ≠ t) → (∀ k ∈ ks, z ≠ k) → m z = m₀ z
theorem keys_nil {m : PySem.Str → Option Value} : Keys m [] := fun _ h => nomatch h
theorem keys_cons {m : PySem.Str → Option Value} {a : PySem.Str} {v : Value} {l : List (PySem.Str × Value)} (h : m a = some v) (r : Keys m l) : Keys m ((a, v) :: l) := fun p hp => by
  rcases List.mem_cons.mp hp with rfl | hp
  · exact h
  · exact r p hp
theorem ovr_off {xs : List (PySem.Str × Value)} {ts : List PySem.Str} {u m₀ : PySem.Str → Option Value} {z : PySem.Str} (h1 : ∀ t ∈ ts, z ≠ t) (h2 : ∀ p ∈ xs, z ≠ p.1) : ovr xs ts u m₀ z = m₀ z := by
  unfold ovr
  rw [lookup_none_of h2]
  have : ts.contains z = false := by
    cases e : ts.contains z with
    | false => rfl
    | true => exact absurd rfl (h1 z (List.contains_iff_mem.mp e))
  rw [this]; rfl
theorem ovr_of {m m₀ : PySem.Str → Option Value} {xs : List (PySem.Str × Value)} {ts : List PySem.Str} (h1 : Keys m xs) (h2 : OffOf ts (xs.map (·.1)) m m₀) : m = ovr xs ts m m₀ := by
  funext z
  unfold ovr
  cases e : xs.lookup z with
  | some v => exact h1 (z, v) (lookup_some_mem e)
  | none =>
    dsimp only
    split
    · rfl
    · rename_i hc
      refine h2 z (fun t ht e' => hc (by rw [e']; exact List.contains_iff_mem.mpr ht)) fun k hk e' => ?_
      obtain ⟨p, hp, rfl⟩ := List.mem_map.mp hk
      have : ∀ (l : List (PySem.Str × Value)), p ∈ l → (l.lookup z).isSome = true := by
        intro l
        induction l with
        | nil => intro h; cases h
        | cons q r ih =>
          intro h
          rw [List.lookup_cons]
          by_cases hq : (z == q.1) = true
          · simp [hq]
          · rcases List.mem_cons.mp h with rfl | h
            · exact absurd (beq_iff_eq.mpr e') hq
            · simp only [hq]; exact ih h
      have := this xs hp
      rw [e] at this; cases this

theorem ovr_offOf {xs : List (PySem.Str × Value)} {ts ks : List PySem.Str} {u m₀ : PySem.Str → Option Value} (e : xs.map (·.1) = ks) : OffOf ts ks (ovr xs ts u m₀) m₀ := fun _ h1 h2 =>
  ovr_off h1 fun p hp => h2 p.1 (e ▸ List.mem_map_of_mem hp)
theorem off_refl {ts ks : List PySem.Str} {m : PySem.Str → Option Value} : OffOf ts ks m m := fun _ _ _ => rfl
theorem off_upd {ts ks : List PySem.Str} {m m₀ : PySem.Str → Option Value} {a : PySem.Str} {v : Option Value} (ha : (ts ++ ks).contains a = true) (h : OffOf ts ks m m₀) : OffOf ts ks (fun y => if y = a then v else m y) m₀ := fun z h1 h2 => by
  have hz : z ≠ a := fun e => by
    have hm := List.contains_iff_mem.mp ha
    rcases List.mem_append.mp hm with hm | hm
    · exact h1 a hm e
    · exact h2 a hm e
  show (if z = a then v else m z) = m₀ z
  rw [if_neg hz]; exact h z h1 h2
def TurnEnd (h₀ : Heap) (L : Addr) (tl : List (Addr × Obj)) (J : (PySem.Str → Option Value) → List (Addr × Obj) → Prop) (s₁ : Shared) (Q : Flow → Shared → Prop) (f : Flow) (s₂ : Shared) : Prop :=
  match f with
  | .ret v => Q (.ret v) s₂
  | .brk => Q .next s₂
  | _ => ∃ h' tk' m' nx, s₂ = { s₁ with heap := h', toks := tk' } ∧ Fr h₀ L h' m' ∧ News h₀ L h' (nx ++ tl) ∧ (∀ q ∈ nx, AllNe q.1 tl) ∧ J m' nx

theorem allNe_app {a : Addr} {l r : List (Addr × Obj)} (h1 : AllNe a l) (h2 : AllNe a r) : AllNe a (l ++ r) := fun p hp =>
  (List.mem_append.mp hp).elim (h1 p) (h2 p)

section
variable {prog : Program} {w : World} {A : Around} {E : Value → Shared → Prop} {s s₂ : Shared} {env : Env} {h₀ : Heap} {x : PySem.Str} {body : List Stmt} {Q : Flow → Shared → Prop}
  {m₀ : PySem.Str → Option Value} {nx₀ fix : List (Addr × Obj)}

theorem loop_core {L : Addr} {I : Addr} {fp : List Addr} {n : Nat} {P : Nat → Value → Prop} {St : Nat → Heap → Prop} (W : Walks prog w A I fp [I] n P St)
    (J : Nat → (PySem.Str → Option Value) → List (Addr × Obj) → Prop)
    (hLf : L ∉ fp) (hI : h₀.get? I = none) (hIo : ∀ i h, St i h → ∃ o, h.get? I = some o) (hnx : ∀ p ∈ nx₀, p.1 ≠ I) (hfix : ∀ p ∈ fix, p.1 ≠ I) (hff : ∀ q ∈ nx₀, AllNe q.1 fix)
    (hfp : ∀ b ∈ fp, b = I ∨ (h₀.get? b).isSome = true ∨ ∃ o, (b, o) ∈ fix)
    (hL : env.locals = L) (hst : St 0 s₂.heap) (F : Fr h₀ L s₂.heap m₀) (N : News h₀ L s₂.heap (nx₀ ++ fix)) (hJ : J 0 m₀ nx₀)
    (turn : ∀ i v m₁ nx h tk tl, i < n → P i v → J i m₁ nx → (∀ p ∈ fix, p ∈ tl) → (∀ q ∈ nx, AllNe q.1 tl) → Fr h₀ L h (fun y => if y = x then some v else m₁ y) → News h₀ L h (nx ++ tl) →
      wpAny (model prog w) A (execs body env) (TurnEnd h₀ L tl (J (i + 1)) { s₂ with heap := h, toks := tk } Q) E { s₂ with heap := h, toks := tk })
    (done : ∀ m₁ nx h tk, J n m₁ nx → Fr h₀ L h m₁ → News h₀ L h (nx ++ fix) → (∀ q ∈ nx, AllNe q.1 fix) → Q .next { s₂ with heap := h, toks := tk }) :
    LoopAtV prog w A h₀ env x body Q E (.ref I) s₂ := by
  subst hL
  refine ⟨I, fp, [I], n, P, St, m₀, nx₀ ++ fix, fun i m led => ∃ nx, led = nx ++ fix ∧ (∀ q ∈ nx, AllNe q.1 fix) ∧ J i m nx, rfl, W, hLf, ?_, ?_, hst, F, N, ⟨nx₀, rfl, hff, hJ⟩, ?_, ?_⟩
  · intro b hb; rw [List.mem_singleton.mp hb]; exact hI
  · intro p hp hm
    have hpI := List.mem_singleton.mp hm
    rcases List.mem_append.mp hp with hp | hp
    · exact hnx p hp hpI
    · exact hfix p hp hpI
  · rintro i v m₁ led s₁ own ⟨h, tk, rfl⟩ hi hP ⟨nx, rfl, hoff, hJi⟩ hled hown hown2 hown3 hst' F' N'
    obtain ⟨oI, heI⟩ := hIo _ _ hst'
    have hIown : (I, oI) ∈ own := hown3 I (W.sub I (List.mem_singleton.mpr rfl)) hI oI heI
    have N₂ : News h₀ env.locals h (nx ++ (fix ++ own)) := fun p hp => by
      refine N' p ?_
      simp only [List.mem_append] at hp ⊢
      rcases hp with hp | hp | hp
      · exact .inr (.inl hp)
      · exact .inr (.inr hp)
      · exact .inl hp
    have ne : ∀ q ∈ nx, AllNe q.1 (fix ++ own) := fun q hq => by
      refine allNe_app (hoff q hq) fun p hp e => ?_
      have h1 := hown p hp
      rcases hfp p.1 h1 with h2 | h2 | ⟨o, h2⟩
      · exact hled q (List.mem_append_left _ hq) (List.mem_singleton.mpr (by rw [← e, h2]))
      · have h3 := (N' p (List.mem_append_left _ hp)).2.2
        rw [h3] at h2; cases h2
      · exact hoff q hq _ h2 e
    refine wpAny_mono (turn i v m₁ nx h tk (fix ++ own) hi hP hJi (fun p hp => List.mem_append_left _ hp) ne F' N₂) (fun f s₃ h₃ => ?_) fun _ _ e => e
    have fin : (∃ h' tk' m' nx', s₃ = { s₂ with heap := h', toks := tk' } ∧ Fr h₀ env.locals h' m' ∧ News h₀ env.locals h' (nx' ++ (fix ++ own)) ∧ (∀ q ∈ nx', AllNe q.1 (fix ++ own)) ∧ J (i + 1) m' nx') →
        LoopStepU h₀ env.locals [I] own (fun m led => ∃ nx, led = nx ++ fix ∧ (∀ q ∈ nx, AllNe q.1 fix) ∧ J (i + 1) m nx) { s₂ with heap := h, toks := tk } .next s₃ := by
      rintro ⟨h', tk', m', nx', rfl, F₃, N₃, off₃, J₃⟩
      refine ⟨rfl, h', tk', m', nx' ++ fix, rfl, F₃, fun p hp => N₃ p ?_, fun p hp hm => ?_, nx', rfl, fun q hq p hp => off₃ q hq p (List.mem_append_left _ hp), J₃⟩
      · simp only [List.mem_append] at hp ⊢
        rcases hp with hp | hp | hp
        · exact .inr (.inr hp)
        · exact .inl hp
        · exact .inr (.inl hp)
      · have hpI := List.mem_singleton.mp hm
        rcases List.mem_append.mp hp with hp | hp
        · exact off₃ p hp (I, oI) (List.mem_append_right _ hIown) hpI.symm
        · exact hfix p hp hpI
    cases f with
    | ret v => exact .ret h₃
    | brk => exact .brk h₃
    | next => exact .next (fin h₃)
    | cont => exact .cont (fin h₃)
  · rintro h' tk m' led F' N' _ ⟨nx, rfl, hoff, hJn⟩
    exact done m' nx h' tk hJn F' N' hoff

theorem for_list {L : Addr} {l : Addr} {vs : List Value} {k : Nat} (J : Nat → (PySem.Str → Option Value) → List (Addr × Obj) → Prop) (hL : env.locals = L) (hh : A.handled = none) (hm : (l, ({ cls := .type "list", data := .seq vs.toArray k } : Obj)) ∈ fix)
    (F : Fr h₀ L s.heap m₀) (N : News h₀ L s.heap (nx₀ ++ fix)) (hff : ∀ q ∈ nx₀, AllNe q.1 fix) (hJ : J 0 m₀ nx₀)
    (turn : ∀ i v m₁ nx h tk tl, vs[i]? = some v → J i m₁ nx → (∀ p ∈ fix, p ∈ tl) → (∀ q ∈ nx, AllNe q.1 tl) → Fr h₀ L h (fun y => if y = x then some v else m₁ y) → News h₀ L h (nx ++ tl) →
      wpAny (model prog w) A (execs body env) (TurnEnd h₀ L tl (J (i + 1)) { s with heap := h, toks := tk } Q) E { s with heap := h, toks := tk })
    (done : ∀ m₁ nx h tk, J vs.length m₁ nx → Fr h₀ L h m₁ → News h₀ L h (nx ++ fix) → (∀ q ∈ nx, AllNe q.1 fix) → Q .next { s with heap := h, toks := tk }) :
    wpAny (model prog w) A (pyIter (.ref l)) (fun it s₂ => LoopAtV prog w A h₀ env x body Q E it s₂) E s := by
  have hls : s.heap.IsList l vs.toArray := ⟨_, (N _ (List.mem_append_right _ hm)).1, rfl, k, rfl⟩
  obtain ⟨ol, hol, _⟩ := id hls
  have hlt := Heap.lt_size hol
  have hz : vs.toArray.size = vs.length := by simp
  refine wpAny_pyIter_list hls ?_
  have W := Walks.list (prog := prog) (w := w) hh s.heap.objs.size l (Nat.ne_of_lt hlt) vs.toArray
  rw [hz] at W
  refine loop_core W J ?_ (next_is_new F) (fun i h st => by obtain ⟨o, e, _⟩ := st.1; exact ⟨o, e⟩) (fun p hp => Nat.ne_of_lt (Heap.lt_size (N p (List.mem_append_left _ hp)).1)) (fun p hp => Nat.ne_of_lt (Heap.lt_size (N p (List.mem_append_right _ hp)).1)) hff ?_ hL
    ⟨⟨_, Heap.get?_push_size _ rfl, rfl, rfl⟩, hls.at fun o e => Heap.get?_push_of_some _ e⟩ (F.push _) (fun p hp => ⟨Heap.get?_push_of_some _ (N p hp).1, (N p hp).2⟩) hJ ?_ done
  · intro hm'
    rcases List.mem_cons.mp hm' with e | hm'
    · exact absurd F.ns.lt (e ▸ Nat.lt_irrefl _)
    · have e := List.mem_singleton.mp hm'
      exact (N _ (List.mem_append_right _ hm)).2.1 e.symm
  · intro b hb
    rcases List.mem_cons.mp hb with rfl | hb
    · exact .inl rfl
    · rw [List.mem_singleton.mp hb]; exact .inr (.inr ⟨_, hm⟩)
  · intro i v m₁ nx h tk tl _ hP hJi hsub hne F' N'
    exact turn i v m₁ nx h tk tl (by simpa using hP) hJi hsub hne F' N'

theorem for_bytes {L : Addr} {b : Array UInt8} {tb : Tok} (J : Nat → (PySem.Str → Option Value) → List (Addr × Obj) → Prop) (hL : env.locals = L) (hh : A.handled = none)
    (F : Fr h₀ L s.heap m₀) (N : News h₀ L s.heap (nx₀ ++ fix)) (hff : ∀ q ∈ nx₀, AllNe q.1 fix) (hJ : J 0 m₀ nx₀)
    (turn : ∀ i c t m₁ nx h tk tl, b[i]? = some c → J i m₁ nx → (∀ p ∈ fix, p ∈ tl) → (∀ q ∈ nx, AllNe q.1 tl) → Fr h₀ L h (fun y => if y = x then some (.int (c.toNat : Int) t) else m₁ y) → News h₀ L h (nx ++ tl) →
      wpAny (model prog w) A (execs body env) (TurnEnd h₀ L tl (J (i + 1)) { s with heap := h, toks := tk } Q) E { s with heap := h, toks := tk })
    (done : ∀ m₁ nx h tk, J b.size m₁ nx → Fr h₀ L h m₁ → News h₀ L h (nx ++ fix) → (∀ q ∈ nx, AllNe q.1 fix) → Q .next { s with heap := h, toks := tk }) :
    wpAny (model prog w) A (pyIter (.bytes b tb)) (fun it s₂ => LoopAtV prog w A h₀ env x body Q E it s₂) E s := by
  refine KBw.pyIter_bytes ?_
  have W := KBw.walks (prog := prog) (w := w) hh s.heap.objs.size b tb
  refine loop_core W J ?_ (next_is_new F) (fun i h st => by obtain ⟨o, e, _⟩ := st; exact ⟨o, e⟩) (fun p hp => Nat.ne_of_lt (Heap.lt_size (N p (List.mem_append_left _ hp)).1)) (fun p hp => Nat.ne_of_lt (Heap.lt_size (N p (List.mem_append_right _ hp)).1)) hff ?_ hL
    ⟨_, Heap.get?_push_size _ rfl, rfl, rfl⟩ (F.push _) (fun p hp => ⟨Heap.get?_push_of_some _ (N p hp).1, (N p hp).2⟩) hJ ?_ done
  · intro hm'
    exact absurd F.ns.lt ((List.mem_singleton.mp hm') ▸ Nat.lt_irrefl _)
  · intro b' hb
    exact .inl (List.mem_singleton.mp hb)
  · rintro i v m₁ nx h tk tl _ ⟨c, u, hc, rfl⟩ hJi hsub hne F' N'
    exact turn i c u m₁ nx h tk tl hc hJi hsub hne F' N'

/-- a range's loop -/
theorem for_range {L : Addr} {r : Addr} {a₀ b₀ c₀ : Int} {t₀ u₀ v₀ : Tok} {n : Nat} (J : Nat → (PySem.Str → Option Value) → List (Addr × Obj) → Prop) (hL : env.locals = L) (hh : A.handled = none)
    (hr : IsRange s.heap r a₀ b₀ c₀ t₀ u₀ v₀) (hsmall : Builtin.Range.small a₀ b₀ c₀ = true) (hn : Builtin.Range.rangeSize a₀ b₀ c₀ = (n : Int))
    (F : Fr h₀ L s.heap m₀) (N : News h₀ L s.heap (nx₀ ++ fix)) (hff : ∀ q ∈ nx₀, AllNe q.1 fix) (hJ : J 0 m₀ nx₀)
    (turn : ∀ i t m₁ nx h tk tl, i < n → J i m₁ nx → (∀ p ∈ fix, p ∈ tl) → (∀ q ∈ nx, AllNe q.1 tl) → Fr h₀ L h (fun y => if y = x then some (.int (a₀ + (i : Int) * c₀) t) else m₁ y) → News h₀ L h (nx ++ tl) →
      wpAny (model prog w) A (execs body env) (TurnEnd h₀ L tl (J (i + 1)) { s with heap := h, toks := tk } Q) E { s with heap := h, toks := tk })
    (done : ∀ m₁ nx h tk, J n m₁ nx → Fr h₀ L h m₁ → News h₀ L h (nx ++ fix) → (∀ q ∈ nx, AllNe q.1 fix) → Q .next { s with heap := h, toks := tk }) :
    wpAny (model prog w) A (pyIter (.ref r)) (fun it s₂ => LoopAtV prog w A h₀ env x body Q E it s₂) E s := by
  refine wpAny_pyIter_range hr hsmall ?_
  have W := Walks.range (prog := prog) (w := w) hh s.heap.objs.size a₀ c₀ n
  refine loop_core W J ?_ (next_is_new F) (fun i h st => ⟨_, st⟩) (fun p hp => Nat.ne_of_lt (Heap.lt_size (N p (List.mem_append_left _ hp)).1)) (fun p hp => Nat.ne_of_lt (Heap.lt_size (N p (List.mem_append_right _ hp)).1)) hff ?_ hL
    (by show IsRangeIter _ _ _ _ _; rw [hn]; simpa using Heap.get?_push_size _ rfl) (F.push _) (fun p hp => ⟨Heap.get?_push_of_some _ (N p hp).1, (N p hp).2⟩) hJ ?_ done
  · intro hm'
    exact absurd F.ns.lt ((List.mem_singleton.mp hm') ▸ Nat.lt_irrefl _)
  · intro b' hb
    exact .inl (List.mem_singleton.mp hb)
  · rintro i v m₁ nx h tk tl hi ⟨u, rfl⟩ hJi hsub hne F' N'
    exact turn i u m₁ nx h tk tl hi hJi hsub hne F' N'
end

section
variable {prog : Program} {w : World} {A : Around} {E : Value → Shared → Prop} {s : Shared} {h₀ : Heap} {L : Addr} {m : PySem.Str → Option Value} {env : Env}

/-- an element's end: nothing of the ledger is turned, what is new is forgotten -/
def EltEnd (h₀ : Heap) (L : Addr) (m : PySem.Str → Option Value) (led : List (Addr × Obj)) (R : Value → Prop) (s₁ : Shared) (y : Value) (s₂ : Shared) : Prop :=
  ∃ h' tk', s₂ = { s₁ with heap := h', toks := tk' } ∧ Fr h₀ L h' m ∧ News h₀ L h' led ∧ R y
theorem EltEnd.intro {led all : List (Addr × Obj)} {R : Value → Prop} {s₁ : Shared} {y : Value} {h' : Heap} {tk' : Nat} (F : Fr h₀ L h' m) (N : News h₀ L h' all) (sub : ∀ p ∈ led, p ∈ all) (hR : R y) :
    EltEnd h₀ L m led R s₁ y { s₁ with heap := h', toks := tk' } := ⟨h', tk', rfl, F, fun p hp => N p (sub p hp), hR⟩

theorem compRest_all {elt : Expr} {x : PySem.Str} {scope : Scope} {cl : List (PySem.Str × Addr)} {S : List (Addr × Obj) → Prop} {P : Nat → Value → Prop} {Fin : List Value → List (Addr × Obj) → Prop} {n : Nat} {news : List (Addr × Obj)} (R : Nat → Value → Prop)
    (hS : S news)
    (step : ∀ i v I oI C oC D ys m₂ h tk, i < n → P i v → LCg.NsObj oC m₂ → m₂ x = some v → Fr h₀ L h m → News h₀ L h ((I, oI) :: (C, oC) :: (D, LCg.lst ys) :: news) →
      wpAny (model prog w) A (eval elt (compEnvC scope cl C env)) (EltEnd h₀ L m ((I, oI) :: (C, oC) :: (D, LCg.lst ys) :: news) (R i) { s with heap := h, toks := tk }) (fun _ _ => False) { s with heap := h, toks := tk })
    (fin : ∀ ys : List Value, ys.length = n → (∀ i y, ys[i]? = some y → R i y) → Fin ys news) :
    LCg.CompRest prog w A h₀ L m env elt x scope cl s S P Fin n 0 [] news := by
  have all : ∀ (k i : Nat) (ys : List Value), i + k = n → ys.length = i → (∀ j y, ys[j]? = some y → R j y) → LCg.CompRest prog w A h₀ L m env elt x scope cl s S P Fin k i ys news := by
    intro k
    induction k with
    | zero =>
      intro i ys hi hy hR
      exact fin ys (by omega) hR
    | succ k ih =>
      intro i ys hi hy hR
      refine LCg.CompRest.succ fun v I oI C oC D m₂ h tk E' hP hC hx F N off ne => ?_
      refine wpAny_mono (step i v I oI C oC D ys m₂ h tk (by omega) hP hC hx F N) (fun y s₂ hy2 => ?_) fun _ _ e => e.elim
      obtain ⟨h', tk', rfl, F', N', hRy⟩ := hy2
      refine LCg.CompEnd.intro F' N' news (fun p hp => hp) off hS (ih (i + 1) (ys ++ [y]) (by omega) (by simp [hy]) fun j z hj => ?_)
      by_cases hlt : j < ys.length
      · rw [List.getElem?_append_left hlt] at hj; exact hR j z hj
      · have hj' : j = i := by
          have h1 := (List.getElem?_eq_some_iff.mp hj).1
          simp only [List.length_append, List.length_singleton] at h1
          omega
        subst hj'
        rw [← hy, List.getElem?_append_right (Nat.le_refl _), Nat.sub_self] at hj
        simp only [List.getElem?_cons_zero, Option.some.injEq] at hj
        exact hj ▸ hRy
  exact all n 0 [] (by omega) rfl fun j y hj => by simp at hj
end
theorem off1_all {D : Addr} {l : List (Addr × Obj)} (h : LCg.Off1 D l) : ∀ p ∈ l, p.1 ≠ D := by
  induction l with
  | nil => intro p hp; cases hp
  | cons q r ih =>
    intro p hp
    rcases List.mem_cons.mp hp with rfl | hp
    · exact h.1
    · exact ih h.2 p hp

theorem does_defC {prog : Program} {w : World} {K : Frag} {p : Program} {loose : List PySem.Str} {mean : ExcName → Option Value} {mg mb : PySem.Str → Option Value}
  {f : Addr} {args : List Value} {kw : List (PySem.Str × Value)} {news : List (Addr × Obj)} {R : Value → List (Addr × Obj) → Prop} {lev : Nat}
  {name : PySem.Str} {params : Arguments} {body : List Stmt} {scope : Scope} {dV kV doc pm cdv ct oc : Value} {an od : Option Addr} {osl : Array (Option Value)} {binds : List (PySem.Str × Value)}
    (ho : K.lookup f = some ⟨oc, od, .func (fnOf name name params body scope dV kV doc pm an cdv ct), osl⟩) (hcd : codeIn K cdv name = true)
    (hbind : ∀ s : Shared, K.In s.heap → BindsTo s (fnOf name name params body scope dV kV doc pm an cdv ct) ⟨args, kw⟩ binds)
    (hkind : (binds.all fun y => scope.names.lookup y.1 == some .local || scope.names.lookup y.1 == some .cell) = true) (hnd : ((cellsFrom 0 scope.names []).map (·.1)).Nodup)
    (hco : scope.isCoroutine = false) (hgen : scope.isGenerator = false) (hk : scope.kind = .function)
    (h : ∀ (dp un : Nat) (outer : List Env) (A₀ : Around) (base g : Heap) (L : Addr) (s : Shared) (cells : List (Addr × Obj)),
      Below A₀ base outer g → Fr g L s.heap (bindL (envOfC name scope L f cdv).kindOf binds fun _ => none) → News g L s.heap (cells ++ news) →
      CellsAre (bindC (envOfC name scope L f cdv).kindOf binds fun _ => none) (cellsFrom (L + 1) scope.names []) cells →
      K.In g → Top p loose mean mg mb g → dp + lev < recursionLimit → un + 10 * lev + 20 < cLine → AllLt L news →
      wpAny (model prog w) (ktrTop dp un (some []) name scope L f cdv (cellsFrom (L + 1) scope.names []) outer) (execs body (envOfC name scope L f cdv)) (BodyEnd g L news R s) (fun _ _ => False) s) :
    Does prog w K p loose mean mg mb f args kw news lev R := by
  intro dp un cn cs a ccd cl outer A₀ base h₀ L m s Q E B F X N T hck hd hu hret
  refine wpAny_call ?_
  have X' := X.keeps F.keep
  refine callX_cells (env := envX cn cs L a ccd cl) B F N T.nolimit rfl rfl hck (X' _ _ ho) rfl (codeRec_of X' hcd) (by show dp < recursionLimit; omega) (hbind s X') (kindsX hkind) hnd (fun g L' h₁ tk cells FG F' N' Y B' st hlt => ?_) hco hgen hk
  have hh := h (dp + 1) (un + 3) (envX cn cs L a ccd cl :: outer) _ base g L' { s with heap := h₁, toks := tk } cells B' F' N' Y (X.keeps st) (T.keeps st) (by omega) (by omega) (allLt_intro hlt)
  refine wpAny_mono hh (fun fl s' hb => ?_) fun _ _ e => e.elim
  obtain ⟨v, own, h', tk', m', hfl, rfl, F'', N'', ha, hR⟩ := hb
  rcases hfl with rfl | ⟨rfl, rfl⟩
  · exact leaveK_ F'' N'' fun FK NK => hret v own h' tk' FK NK ha hR
  · exact leaveK_ F'' N'' fun FK NK => hret _ own h' tk' FK NK ha hR

theorem upd_same {m : PySem.Str → Option Value} {x : PySem.Str} {v : Value} (h : m x = some v) : (fun y => if y = x then some v else m y) = m := by
  funext y
  by_cases e : y = x
  · subst e; rw [if_pos rfl, h]
  · rw [if_neg e]
def JoinEnd (s : Shared) (g : Heap) (L : Addr) (m : PySem.Str → Option Value) (led : List (Addr × Obj)) (x : PySem.Str) (P : Value → Prop) (fl : Flow) (s' : Shared) : Prop :=
  fl = .next ∧ ∃ h' tk v, s' = { s with heap := h', toks := tk } ∧ P v ∧ Fr g L h' (fun y => if y = x then some v else m y) ∧ News g L h' led
/-- a statement behind which one name is told anew and the ledger stands: its ways are joined -/
theorem join_upd {M : Model} {A : Around} {E : Value → Shared → Prop} {s : Shared} {g : Heap} {L : Addr} {m : PySem.Str → Option Value} {led : List (Addr × Obj)} {stmt : Stmt} {env : Env} {Q : Flow → Shared → Prop} (x : PySem.Str) (P : Value → Prop)
    (F : Fr g L s.heap m) (N : News g L s.heap led)
    (h1 : wpAny M A (exec stmt env) (JoinEnd s g L m led x P) E s)
    (h2 : ∀ h' tk v, P v → Fr g L h' (fun y => if y = x then some v else m y) → News g L h' led → Q .next { s with heap := h', toks := tk }) : wpAny M A (exec stmt env) Q E s :=
  wpAny_mono h1 (fun fl s' hj => by
    obtain ⟨rfl, h', tk, v, rfl, hP, F', N'⟩ := hj
    exact h2 h' tk v hP F' N') fun _ _ e => e

section
variable {prog : Program} {w : World} {A : Around} {E : Value → Shared → Prop} {s : Shared} {h₀ : Heap} {L : Addr} {m : PySem.Str → Option Value} {env : Env}
abbrev tupO (vs : List Value) (k : Nat) : Obj := { cls := .type "tuple", data := .seq vs.toArray k }
def SrcTup (prog : Program) (w : World) (A : Around) (h₀ : Heap) (L : Addr) (m : PySem.Str → Option Value) (env : Env) (elt : Expr) (x : PySem.Str) (scope : Scope) (cl : List (PySem.Str × Addr)) (Fin : Shared → List Value → List (Addr × Obj) → Prop) (xv : Value) (s₁ : Shared) : Prop :=
  ∃ ax vs k news, xv = .ref ax ∧ Fr h₀ L s₁.heap m ∧ News h₀ L s₁.heap news ∧ (ax, tupO vs k) ∈ news ∧ vs.length ≤ 1000 ∧
    ∀ g, LCg.CompRest prog w A h₀ L m env elt x scope cl { s₁ with heap := g } (fun nw => (ax, tupO vs k) ∈ nw) (fun i v => vs[i]? = some v) (Fin { s₁ with heap := g }) vs.length 0 [] news

theorem assign_comp_tup {elt iter : Expr} {x y : PySem.Str} {px py : Pos} {scope : Scope} {cl : List (PySem.Str × Addr)} {pos spos : Pos} {Q : Flow → Shared → Prop} (F₀ : Fr h₀ L s.heap m) (hLe : env.locals = L) (hh : A.handled = none)
    (hsw : swapsWith (.ListComp elt [⟨.Name x px, iter, [], 0⟩] scope pos) (some (.Name y py)) spos.line env = pure true)
    (hclos : closureFor scope env = pure cl) (hcell : ∀ z ∈ scope.names, z.2 ≠ .cell) (hkind : scope.kind = .function)
    (hnames : ∀ z ∈ scope.names, z.2 = .local → scope.names.lookup z.1 = some .local) (hx : scope.names.lookup x = some .local)
    (hy : env.kindOf y = some .local) (hp : (env.scope.kind == .class || (env.scope.kind == .module && env.locals != env.globals)) = false)
    (h : wpAny (model prog w) A (eval iter env) (SrcTup prog w A h₀ L m env elt x scope cl (fun s₂ => LCg.FinA h₀ L m s₂ y Q)) E s)
    (hs : ∀ x, foldedSetIterable iter env x = pure x := by intro _; rfl) :
    wpAny (model prog w) A (exec (.Assign [.Name y py] (.ListComp elt [⟨.Name x px, iter, [], 0⟩] scope pos) spos) env) Q E s := by
  subst hLe
  rw [exec_Assign_Name_used _ _ _ _ hsw]
  refine wpAny_bind (wpAny_standAt (wpAny_bind ?_))
  show wpAny _ A (do let _ ← comprehension (.ListComp elt [⟨.Name x px, iter, [], 0⟩] scope pos) scope env _ (newList []) false (eval iter env) (some (assign (.Name y py) env))) _ _ s
  refine wpAny_bind (wpAny_mono (wpAny_comprehension_free (use := some (assign (.Name y py) env)) (Q := fun _ s' => Q .next s') rfl hs hclos hkind hnames
    (wpAny_mono h (fun xv s₁ h₁ => ?_) fun _ _ e => e)) (fun _ s' hq => wpAny_pure (wpAny_pure hq)) fun _ _ e => e)
  obtain ⟨ax, vs, k, news, rfl, F, N, hm, hsz, R⟩ := h₁
  have hl : s₁.heap.IsTuple ax vs.toArray := ⟨_, (N _ hm).1, rfl, k, rfl⟩
  have hlt : ax < s₁.heap.objs.size := Heap.lt_size (N _ hm).1
  have hz : vs.toArray.size = vs.length := by simp
  refine wpAny_pyIter_tuple hl ?_
  have up : ∀ b o, s₁.heap.get? b = some o → (s₁.heap.push { cls := .type "tuple_iterator", data := .fields #[.ref ax, .int 0 0] }).get? b = some o := fun b o e => Heap.get?_push_of_some _ e
  have W := Walks.tuple (prog := prog) (w := w) hh s₁.heap.objs.size ax (Nat.ne_of_lt hlt) vs.toArray
  rw [hz] at W
  have R' := R (s₁.heap.push { cls := .type "tuple_iterator", data := .fields #[.ref ax, .int 0 0] })
  have hP : (fun (i : Nat) (v : Value) => vs.toArray[i]? = some v) = fun (i : Nat) (v : Value) => vs[i]? = some v := by funext i v; simp
  rw [hP] at W
  refine LCg.block_U W (by rw [sizeLine_eq]; omega) (fun i h st => by obtain ⟨o, e, _⟩ := st.1; exact ⟨o, e⟩) (fun i h h' o nw st e e' k' N' S' => ⟨by obtain ⟨o', q, r⟩ := st.1; rw [e] at q; cases q; exact ⟨o, e', r⟩, ⟨_, (N' _ S').1, rfl, k, rfl⟩⟩) hcell hkind hx ⟨⟨_, Heap.get?_push_size _ rfl, rfl, rfl⟩, ⟨_, up _ _ (N _ hm).1, rfl, k, rfl⟩⟩ (fun b hb => ?_)
    (F.keeps up) (N.grown up) (Nat.ne_of_lt F.ns.lt) (next_is_new F) (fun p hp => Nat.ne_of_lt (Heap.lt_size (N p hp).1)) hm R' ?_
  · show b < (s₁.heap.push _).objs.size
    rw [Heap.size_push]
    rcases List.mem_cons.mp hb with rfl | hb
    · exact Nat.lt_succ_self _
    · rw [List.mem_singleton.mp hb]; exact Nat.lt_succ_of_lt hlt
  · intro D C h' tk m' ys news' F' N' o1 hn hC₀ hD₀ hCL hDL hCD offC fin
    show wpAny _ A (assign (.Name y py) env (.ref D)) _ _ _
    refine wpAny_assign_Name (wpAny_storeName_local hy F'.ns (fun h₂ hn₂ hs₂ => ?_) hp)
    have hL₀ : h₀.get? env.locals = none := Heap.get?_none_of_le F'.above
    have F₂ : Fr h₀ env.locals h₂ (fun z => if z = y then some (.ref D) else m z) := ⟨hn₂, fun b o e => hs₂.extBut b o (fun q => by rw [q, hL₀] at e; cases e) (F'.keep b o e), F'.above⟩
    refine ⟨m', hn.sameBut hs₂ hCL, fun h'' hs'' => fin D h'' _ (F₂.change hs'' hCL hC₀) (fun p hp => ?_) o1⟩
    have z : h₂.get? p.1 = some p.2 := hs₂.extBut _ _ (N' p hp).2.1 (N' p hp).1
    refine ⟨hs''.extBut _ _ ?_ z, (N' p hp).2⟩
    rcases List.mem_cons.mp hp with rfl | hp
    · exact Ne.symm hCD
    · exact offC p hp
end

namespace Bb
open PySem.Sem (wp)
/-- bytes of ints -/
def ofInts (ns : List Int) : List UInt8 := ns.map fun n => n.toNat.toUInt8
theorem ofInts_byteArr (ns : List Int) : byteArr ns = (ofInts ns).toArray := rfl
/-- the number that octets write, the greatest first -/
def be (l : List UInt8) : Nat := l.foldl (fun n o => n * 256 + o.toNat) 0
def cut (l : List UInt8) (lo hi : Option Int) : List UInt8 := (l.drop (lo.elim 0 (clipAt l.length))).take (hi.elim l.length (clipAt l.length) - lo.elim 0 (clipAt l.length))
theorem cut_picked (l : List UInt8) (lo hi : Option Int) : KBy.picked l.toArray lo hi = (cut l lo hi).toArray := by
  rw [KBc.picked_eq]; simp [cut]
theorem cut_le (l : List UInt8) (lo hi : Option Int) : (cut l lo hi).length ≤ l.length := by
  unfold cut
  rw [List.length_take, List.length_drop]; omega
theorem take_min {α : Type} (l : List α) (k j : Nat) (h : l.length ≤ j) : l.take (min k j) = l.take k := by
  by_cases hk : k ≤ j
  · rw [Nat.min_eq_left hk]
  · rw [Nat.min_eq_right (by omega), List.take_of_length_le h, List.take_of_length_le (by omega)]
theorem cut_mid (l : List UInt8) (n m : Nat) : cut l (some (n : Int)) (some (m : Int)) = (l.drop n).take (m - n) := by
  unfold cut
  simp only [Option.elim, clipAt_nat]
  by_cases hn : n ≤ l.length
  · rw [Nat.min_eq_left hn]
    have e : min m l.length - n = min (m - n) (l.length - n) := by omega
    rw [e, take_min _ _ _ (by rw [List.length_drop]; omega)]
  · rw [Nat.min_eq_right (show l.length ≤ n by omega), List.drop_of_length_le (Nat.le_refl _), List.drop_of_length_le (show l.length ≤ n by omega)]
    simp
theorem cut_to (l : List UInt8) (m : Nat) : cut l none (some (m : Int)) = l.take m := by
  unfold cut
  simp only [Option.elim, clipAt_nat, List.drop_zero, Nat.sub_zero]
  exact take_min _ _ _ (Nat.le_refl _)
theorem cut_from (l : List UInt8) (n : Nat) : cut l (some (n : Int)) none = l.drop n := by
  unfold cut
  simp only [Option.elim, clipAt_nat]
  by_cases hn : n ≤ l.length
  · rw [Nat.min_eq_left hn]; exact List.take_of_length_le (by rw [List.length_drop]; omega)
  · rw [Nat.min_eq_right (show l.length ≤ n by omega), List.drop_of_length_le (Nat.le_refl _), List.drop_of_length_le (show l.length ≤ n by omega)]; simp
theorem cut_but (l : List UInt8) (k : Nat) (hk : 1 ≤ k) : cut l none (some (-(k : Int))) = l.take (l.length - k) := by
  unfold cut
  simp only [Option.elim, clipAt_neg _ _ hk, List.drop_zero, Nat.sub_zero]
theorem cut_last (l : List UInt8) (k : Nat) (hk : 1 ≤ k) : cut l (some (-(k : Int))) none = l.drop (l.length - k) := by
  unfold cut
  simp only [Option.elim, clipAt_neg _ _ hk]
  exact List.take_of_length_le (by rw [List.length_drop]; omega)
section
variable {prog : Program} {w : World} {A : Around} {E : Value → Shared → Prop} {s : Shared} {h₀ : Heap} {L : Addr} {m : PySem.Str → Option Value} {news : List (Addr × Obj)}

theorem no_bytes_tup : typeLookup (.type "tuple") "__bytes__" = pure none := by rw [typeLookup_type, builtinLookup_eq_fast]; kernel_rfl
theorem no_index_tup : typeLookup (.type "tuple") "__index__" = pure none := by rw [typeLookup_type, builtinLookup_eq_fast]; kernel_rfl
theorem no_buffer_tup : typeLookup (.type "tuple") "__buffer__" = pure none := by rw [typeLookup_type, builtinLookup_eq_fast]; kernel_rfl
theorem split_tup : splitId "tuple.__len__" = some ("tuple", "__len__") := by decide +kernel
theorem sub_tup : isSubtype (.type "tuple") (.type "tuple") = pure true := by rw [isSubtype_type]; kernel_rfl
theorem no_bytes_int : typeLookup (.type "int") "__bytes__" = pure none := by rw [typeLookup_type, builtinLookup_eq_fast]; kernel_rfl

theorem loop_tup {R : Result → Shared → Prop} {l I S : Addr} {vs : List Value} {ns : List Int} (hh : A.handled = none) (hi : IntsAre vs ns) (hr : ∀ n ∈ ns, 0 ≤ n ∧ n < 256) (hz : ns.length ≤ sizeLine) (hIS : I ≠ S) (hlI : l ≠ I) (hlS : l ≠ S) :
    ∀ (k i : Nat) (s : Shared), ns.length - i = k → i ≤ ns.length → s.heap.IsTuple l vs.toArray → s.heap.IsTupleIter I l i → s.heap.get? S = some { cls := .type "bytearray", data := .bytearray (byteArr (ns.take i)) } →
      (∀ h' t k', (∀ b o, b ≠ I → b ≠ S → s.heap.get? b = some o → h'.get? b = some o) → R (.ok (.ret (.bytes (byteArr ns) t))) { s with heap := h', toks := k' }) →
      codeAny (model prog w) A (.builtin "bytes.__new__.loop" ⟨[.type "bytes", .ref I, .ref S], []⟩) R s := by
  have hlen : vs.length = ns.length := hi.length
  intro k
  induction k with
  | zero =>
    intro i s hk hle hl hit hS hR
    have hin : i = ns.length := by omega
    subst hin
    refine codeAny_builtin F.bm_entry_loop ?_
    rw [Around.under_plainId F.bm_plain_loop _]
    show wpAny _ A.in1 (pyNext (.ref I) >>= _) _ _ s
    refine wpAny_bind (wpAny_pyNext_tuple_end hh hit hl (by simp [hlen]) fun h' he => ?_)
    have hS' : h'.get? S = some { cls := .type "bytearray", data := .bytearray (byteArr (ns.take ns.length)) } := he S _ (Ne.symm hIS) hS
    refine wpAny_bind ?_
    unfold Builtin.Bytes.payload Builtin.Bytes.payload?
    refine wpAny_bind (wpAny_bind (wpAny_load hS' ?_))
    refine wpAny_pure (wpAny_pure ?_)
    rw [List.take_length]
    refine wpAny_bind (wpAny_mkBytes ?_ (by rw [byteArr_size]; exact hz))
    show wpAny _ _ (if (Value.type "bytes" == Value.type "bytes") = true then _ else _) _ _ _
    refine bm_if_true (by decide) ?_
    first
      | exact wpAny_pure (hR h' _ _ fun b o hb _ e => he b o hb e)
      | exact wpAny_bind (wpAny_pure (wpAny_pure (hR h' _ _ fun b o hb _ e => he b o hb e)))
  | succ k ih =>
    intro i s hk hle hl hit hS hR
    have hlt : i < ns.length := by omega
    obtain ⟨x, hx⟩ : ∃ x, vs[i]? = some x := ⟨vs[i]'(by omega), List.getElem?_eq_getElem (by omega)⟩
    obtain ⟨n, t, rfl, hn⟩ := IntsAre.at hi i x hx
    obtain ⟨h0, h1⟩ := hr n (List.mem_of_getElem? hn)
    refine codeAny_builtin F.bm_entry_loop ?_
    rw [Around.under_plainId F.bm_plain_loop _]
    show wpAny _ A.in1 (pyNext (.ref I) >>= _) _ _ s
    refine wpAny_bind (wpAny_pyNext_tuple_item (x := .int n t) hit hl (by simpa using hx) fun h' hit' hs => ?_)
    have hS' : h'.get? S = some { cls := .type "bytearray", data := .bytearray (byteArr (ns.take i)) } := (hs.2 S (Ne.symm hIS)).trans hS
    refine wpAny_bind (wpAny_holding (wpAny_of_eq (rfl : asIndex (.int n t) = pure n) ?_))
    refine wpAny_bind (wpAny_letGo ?_)
    refine bm_if_false (by simp only [Bool.or_eq_false_iff, decide_eq_false_iff_not]; omega) ?_
    refine wpAny_bind ?_
    show wpAny _ _ (updateBytearray S (·.push n.toNat.toUInt8)) _ _ _
    unfold updateBytearray
    refine wpAny_bind (wpAny_load hS' ?_)
    show wpAny _ _ (update S (Obj.mapBytearray (·.push n.toNat.toUInt8)) >>= fun _ => lookBehind S) _ _ _
    refine wpAny_bind (wpAny_update hS' ?_)
    have hS₂ : (h'.update S (Obj.mapBytearray (·.push n.toNat.toUInt8))).get? S = some { cls := .type "bytearray", data := .bytearray (byteArr (ns.take (i + 1))) } := by
      rw [byteArr_take hn]
      exact Heap.get?_update_self (Obj.mapBytearray (·.push n.toNat.toUInt8)) hS' rfl
    refine wpAny_lookBehind hS₂ ?_ ?_
    · show (if (byteArr (ns.take (i + 1))).size > sizeLine then some "bytearray:memory" else none) = none
      rw [if_neg]
      rw [byteArr_size, List.length_take]
      omega
    · refine wpAny_pure ⟨plainId_quiet F.bm_plain_loop _, ih (i + 1) { s with heap := h'.update S (Obj.mapBytearray (·.push n.toNat.toUInt8)) } (by omega) hlt ?_ ?_ hS₂ fun h3 t' k' hk3 => ?_⟩
      · exact (hl.at fun o e => hs.extBut _ _ hlI e).at fun o e => (Heap.SameBut.update ..).extBut _ _ hlS e
      · exact hit'.at fun o e => (Heap.SameBut.update ..).extBut _ _ hIS e
      · exact hR h3 t' k' fun b o hbI hbS e => hk3 b o hbI hbS ((Heap.get?_update_other _ _ (Ne.symm hbS)).trans (hs.extBut b o hbI e))

theorem new_tup {l : Addr} {vs : List Value} {ns : List Int} {Q : Value → Shared → Prop} (hh : A.handled = none) (hl : s.heap.IsTuple l vs.toArray) (hi : IntsAre vs ns) (hr : ∀ n ∈ ns, 0 ≤ n ∧ n < 256) (hz : ns.length ≤ sizeLine)
    (hQ : ∀ h' t k, (∀ b o, s.heap.get? b = some o → h'.get? b = some o) → Q (.bytes (byteArr ns) t) { s with heap := h', toks := k }) :
    codeAny (model prog w) A (.call (.builtin "bytes.__new__") ⟨[.type "bytes", .ref l], []⟩) (wants Q E) s := by
  refine codeAny_of_tree ?_
  show wpAny _ A.in1 (do checkBuiltinCall "bytes.__new__" ⟨[.type "bytes", .ref l], []⟩; again (.builtin "bytes.__new__" ⟨[.type "bytes", .ref l], []⟩)) _ _ s
  refine wpAny_bind (wpAny_of_eq (F.bm_newCall _) (wpAny_pure ⟨plainId_quiet F.bm_plain _, codeAny_builtin F.bm_entry ?_⟩))
  rw [Around.under_plainId F.bm_plain _]
  have hT : s.TypeIs (.ref l) "tuple" := hl.typeIs
  obtain ⟨ol, hol, hoc, nl, hod⟩ := id hl
  unfold Builtin.«bytes.__new__»
  refine wpAny_bind (wpAny_of_eq (a := true) rfl ?_)
  refine bm_if_false rfl ?_
  refine wpAny_bind (wpAny_of_eq F.bm_sub ?_)
  refine bm_if_false rfl ?_
  refine wpAny_bind (wpAny_of_eq (F.bm_bind _) ?_)
  refine wpAny_bind (wpAny_of_eq (a := ()) rfl ?_)
  refine wpAny_bind (wpAny_of_eq (a := ()) rfl ?_)
  refine bm_if_false rfl ?_
  refine wpAny_bind (wpAny_specialOf hT no_bytes_tup ?_)
  refine wpAny_bind (wpAny_bind ?_)
  show wpAny _ _ (load l >>= _) _ _ _
  refine wpAny_bind (wpAny_load hol ?_)
  rw [hod]
  refine wpAny_pure (wpAny_pure ?_)
  refine bm_if_false rfl ?_
  refine wpAny_bind (wpAny_specialOf hT no_index_tup ?_)
  refine bm_if_true rfl ?_
  first
    | show wpAny _ _ (Builtin.Bytes.buffer? "bytes.__new__" (.ref l) true >>= _) _ _ _
    | (refine wpAny_bind ?_; show wpAny _ _ (Builtin.Bytes.buffer? "bytes.__new__" (.ref l) true >>= _) _ _ _)
  refine wpAny_bind ?_
  unfold Builtin.Bytes.buffer?
  refine wpAny_bind (wpAny_specialOf hT no_buffer_tup ?_)
  refine wpAny_bind (wpAny_specialOf hT no_buffer_tup ?_)
  refine wpAny_pure ?_
  refine wpAny_bind (wpAny_tryCatch (wpAny_pyIter_tuple hl ?_))
  have hl₁ : (s.heap.push { cls := .type "tuple_iterator", data := .fields #[.ref l, .int 0 0] }).IsTuple l vs.toArray := hl.at fun o e => Heap.get?_push_of_some _ e
  have hT₁ : ({ s with heap := s.heap.push { cls := .type "tuple_iterator", data := .fields #[.ref l, .int 0 0] } } : Shared).TypeIs (.ref l) "tuple" := Heap.IsTuple.typeIs (s := { s with heap := s.heap.push { cls := .type "tuple_iterator", data := .fields #[.ref l, .int 0 0] } }) hl₁
  refine wpAny_bind (wpAny_holding ?_)
  unfold Builtin.Bytes.lengthHint
  refine wpAny_bind (wpAny_specialOf hT₁ slot_tuple_len.lookup ?_)
  dsimp only
  rw [split_tup]
  dsimp only
  refine wpAny_bind (wpAny_isInstance hT₁ sub_tup ?_)
  refine bm_if_false rfl ?_
  refine bm_if_true (by decide +kernel) ?_
  refine wpAny_pure ?_
  refine wpAny_bind ?_
  unfold Builtin.Bytes.newBytearray
  refine wpAny_newObj_type ?_ (Nat.zero_le _)
  have hI : ((s.heap.push { cls := .type "tuple_iterator", data := .fields #[.ref l, .int 0 0] }).push { cls := .type "bytearray", data := .bytearray #[] }).IsTupleIter s.heap.objs.size l 0 :=
    ⟨_, Heap.get?_push_of_some _ (Heap.get?_push_size _ rfl), rfl, rfl⟩
  have hlt : l < s.heap.objs.size := Heap.lt_size hol
  have hsz : (s.heap.push { cls := .type "tuple_iterator", data := .fields #[.ref l, .int 0 0] }).objs.size = s.heap.objs.size + 1 := Heap.size_push _ _
  have main := loop_tup (prog := prog) (w := w) (A := A) (R := wants Q E) (l := l) (I := s.heap.objs.size) (S := (s.heap.push { cls := .type "tuple_iterator", data := .fields #[.ref l, .int 0 0] }).objs.size) hh hi hr hz (by rw [hsz]; exact Nat.ne_of_lt (Nat.lt_succ_self _)) (Nat.ne_of_lt hlt) (by rw [hsz]; exact Nat.ne_of_lt (Nat.lt_succ_of_lt hlt))
    ns.length 0 { s with heap := (s.heap.push { cls := .type "tuple_iterator", data := .fields #[.ref l, .int 0 0] }).push { cls := .type "bytearray", data := .bytearray #[] } } rfl (Nat.zero_le _) (hl₁.at fun o e => Heap.get?_push_of_some _ e) hI (Heap.get?_push_size _ rfl)
    fun h' t k hk => hQ h' t k fun b o e => hk b o (Nat.ne_of_lt (Heap.lt_size e)) (by rw [hsz]; exact Nat.ne_of_lt (Nat.lt_succ_of_lt (Heap.lt_size e))) (Heap.get?_push_of_some _ (Heap.get?_push_of_some _ e))
  first
    | exact wpAny_pure ⟨plainId_quiet F.bm_plain_loop _, main⟩
    | exact wpAny_pure (wpAny_pure ⟨plainId_quiet F.bm_plain_loop _, main⟩)

theorem call_tup {l : Addr} {vs : List Value} {ns : List Int} {Q : Value → Shared → Prop} (hl : s.heap.IsTuple l vs.toArray) (hi : IntsAre vs ns) (hr : ∀ n ∈ ns, 0 ≤ n ∧ n < 256) (hz : vs.length ≤ sizeLine) (hh : A.handled = none)
    (hQ : ∀ h' t k, (∀ b o, s.heap.get? b = some o → h'.get? b = some o) → Q (.bytes (byteArr ns) t) { s with heap := h', toks := k }) : wpAny (model prog w) A (call (.type "bytes") [.ref l]) Q E s := by
  refine callType_codes (Q₁ := fun obj s₁ => s₁.TypeIs obj "bytes" ∧ Q obj s₁) F.bm_called (F.bm_typeCall _) F.entry_object_init
    (new_tup hh hl hi hr (by rw [← hi.length]; exact hz) fun h' t k hk => ⟨typeIs_bytes _ _ _, hQ h' t k hk⟩) fun obj s₁ h₁ => ?_
  exact ⟨h₁.1, F.args_object_init_2 obj _, object_init_meets F.bm_called.init.lookup F.bm_called.made (by decide) prog w A.in1 _ s₁ ⟨h₁.1, rfl, h₁.2⟩⟩

theorem bytes_tup {l : Addr} {vs : List Value} {ns : List Int} {k : Nat} {Q : Value → Shared → Prop} (F : Fr h₀ L s.heap m) (N : News h₀ L s.heap news) (hm : (l, ({ cls := .type "tuple", data := .seq vs.toArray k } : Obj)) ∈ news) (hi : IntsAre vs ns) (hr : ∀ n ∈ ns, 0 ≤ n ∧ n < 256) (hz : vs.length ≤ 1000) (hh : A.handled = none)
    (h : ∀ h' t k, Fr h₀ L h' m → News h₀ L h' news → Q (.bytes (ofInts ns).toArray t) { s with heap := h', toks := k }) : wpAny (model prog w) A (call (.type "bytes") [.ref l]) Q E s :=
  call_tup ⟨_, (N _ hm).1, rfl, k, rfl⟩ hi hr (by rw [sizeLine_eq]; omega) hh fun h' t k' hk => h h' t k' (F.keeps hk) fun q hq => ⟨hk _ _ (N q hq).1, (N q hq).2⟩
theorem bytes_list {l : Addr} {vs : List Value} {ns : List Int} {k : Nat} {Q : Value → Shared → Prop} (F : Fr h₀ L s.heap m) (N : News h₀ L s.heap news) (hm : (l, ({ cls := .type "list", data := .seq vs.toArray k } : Obj)) ∈ news) (hi : IntsAre vs ns) (hr : ∀ n ∈ ns, 0 ≤ n ∧ n < 256) (hz : vs.length ≤ 1000) (hh : A.handled = none)
    (h : ∀ h' t k, Fr h₀ L h' m → News h₀ L h' news → Q (.bytes (ofInts ns).toArray t) { s with heap := h', toks := k }) : wpAny (model prog w) A (call (.type "bytes") [.ref l]) Q E s :=
  call_bytes_ints ⟨_, (N _ hm).1, rfl, k, rfl⟩ hi hr (by rw [sizeLine_eq]; omega) hh fun h' t k' hk => h h' t k' (F.keeps hk) fun q hq => ⟨hk _ _ (N q hq).1, (N q hq).2⟩

theorem bytes_tup1 {l : Addr} {a : Int} {ta : Tok} {k : Nat} {Q : Value → Shared → Prop} (F : Fr h₀ L s.heap m) (N : News h₀ L s.heap news) (hm : (l, ({ cls := .type "tuple", data := .seq [Value.int a ta].toArray k } : Obj)) ∈ news) (h0 : 0 ≤ a) (h1 : a < 256) (hh : A.handled = none)
    (h : ∀ h' t k, Fr h₀ L h' m → News h₀ L h' news → Q (.bytes (ofInts [a]).toArray t) { s with heap := h', toks := k }) : wpAny (model prog w) A (call (.type "bytes") [.ref l]) Q E s :=
  bytes_tup F N hm (.cons _ _ .nil) (fun n hn => by rw [List.mem_singleton.mp hn]; exact ⟨h0, h1⟩) (by simp) hh h
theorem bytes_tup2 {l : Addr} {a b : Int} {ta tb : Tok} {k : Nat} {Q : Value → Shared → Prop} (F : Fr h₀ L s.heap m) (N : News h₀ L s.heap news) (hm : (l, ({ cls := .type "tuple", data := .seq [Value.int a ta, Value.int b tb].toArray k } : Obj)) ∈ news) (h0 : 0 ≤ a) (h1 : a < 256) (h2 : 0 ≤ b) (h3 : b < 256) (hh : A.handled = none)
    (h : ∀ h' t k, Fr h₀ L h' m → News h₀ L h' news → Q (.bytes (ofInts [a, b]).toArray t) { s with heap := h', toks := k }) : wpAny (model prog w) A (call (.type "bytes") [.ref l]) Q E s :=
  bytes_tup F N hm (.cons _ _ (.cons _ _ .nil)) (fun n hn => by
    rcases List.mem_cons.mp hn with rfl | hn
    · exact ⟨h0, h1⟩
    · rw [List.mem_singleton.mp hn]; exact ⟨h2, h3⟩) (by simp) hh h

theorem new_int {n : Int} {u : Tok} {Q : Value → Shared → Prop} (h0 : 0 ≤ n) (h1 : n ≤ 1000)
    (hQ : ∀ t k, Q (.bytes (Array.replicate n.toNat 0) t) { s with toks := k }) :
    codeAny (model prog w) A (.call (.builtin "bytes.__new__") ⟨[.type "bytes", .int n u], []⟩) (wants Q E) s := by
  refine codeAny_of_tree ?_
  show wpAny _ A.in1 (do checkBuiltinCall "bytes.__new__" ⟨[.type "bytes", .int n u], []⟩; again (.builtin "bytes.__new__" ⟨[.type "bytes", .int n u], []⟩)) _ _ s
  refine wpAny_bind (wpAny_of_eq (F.bm_newCall _) (wpAny_pure ⟨plainId_quiet F.bm_plain _, codeAny_builtin F.bm_entry ?_⟩))
  rw [Around.under_plainId F.bm_plain _]
  have hT : s.TypeIs (.int n u) "int" := typeIs_int s n u
  unfold Builtin.«bytes.__new__»
  refine wpAny_bind (wpAny_of_eq (a := true) rfl ?_)
  refine bm_if_false rfl ?_
  refine wpAny_bind (wpAny_of_eq F.bm_sub ?_)
  refine bm_if_false rfl ?_
  refine wpAny_bind (wpAny_of_eq (F.bm_bind _) ?_)
  refine wpAny_bind (wpAny_of_eq (a := ()) rfl ?_)
  refine wpAny_bind (wpAny_of_eq (a := ()) rfl ?_)
  refine bm_if_false rfl ?_
  refine wpAny_bind (wpAny_specialOf hT no_bytes_int ?_)
  refine wpAny_bind (wpAny_of_eq (a := false) rfl ?_)
  refine bm_if_false rfl ?_
  refine wpAny_bind (wpAny_specialOf hT F.slot_int_index.lookup ?_)
  refine bm_if_false rfl ?_
  refine wpAny_bind (wpAny_attempt (wpAny_of_eq (rfl : asIndex (.int n u) = pure n) ?_))
  dsimp only
  refine bm_if_false (by simp [Builtin.Bytes.fitsIndex]; omega) ?_
  refine wpAny_ite ?_
  rw [if_neg (by omega)]
  refine wpAny_ite ?_
  rw [if_neg (by omega)]
  refine bm_if_false (by simp [Builtin.Bytes.tooLong, sizeLine]; omega) ?_
  refine wpAny_bind (wpAny_rule ?_)
  refine wpAny_bind (wpAny_mkBytes ?_ (by rw [sizeLine_eq]; simp; omega))
  show wpAny _ _ (if (Value.type "bytes" == Value.type "bytes") = true then _ else _) _ _ _
  refine bm_if_true (by decide) ?_
  first
    | exact wpAny_pure (hQ _ _)
    | exact wpAny_bind (wpAny_pure (wpAny_pure (hQ _ _)))
theorem bytes_int {n : Int} {u : Tok} {Q : Value → Shared → Prop} (h0 : 0 ≤ n) (h1 : n ≤ 1000) (h : ∀ t k, Q (.bytes (List.replicate n.toNat (0 : UInt8)).toArray t) { s with toks := k }) : wpAny (model prog w) A (call (.type "bytes") [.int n u]) Q E s := by
  refine callType_codes (Q₁ := fun obj s₁ => s₁.TypeIs obj "bytes" ∧ Q obj s₁) F.bm_called (F.bm_typeCall _) F.entry_object_init
    (new_int h0 h1 fun t k => ⟨typeIs_bytes _ _ _, by rw [show Array.replicate n.toNat (0 : UInt8) = (List.replicate n.toNat (0 : UInt8)).toArray by simp]; exact h t k⟩) fun obj s₁ h₁ => ?_
  exact ⟨h₁.1, F.args_object_init_2 obj _, object_init_meets F.bm_called.init.lookup F.bm_called.made (by decide) prog w A.in1 _ s₁ ⟨h₁.1, rfl, h₁.2⟩⟩

theorem add {b c : List UInt8} {t u : Tok} {Q : Value → Shared → Prop} (hsz : b.length + c.length ≤ 16777216) (h : ∀ t' k, Q (.bytes (b ++ c).toArray t') { s with toks := k }) :
    wpAny (model prog w) A (binaryOp .Add (.bytes b.toArray t) (.bytes c.toArray u)) Q E s := bytes_add_K (by simpa using hsz) rfl h
theorem len {b : List UInt8} {t : Tok} {Q : Value → Shared → Prop} (hsz : b.length ≤ 16777216) (h : Q (.int b.length (s.toks + 1)) { s with toks := s.toks + 1 + 1 }) : wpAny (model prog w) A (call (.builtin "len") [.bytes b.toArray t]) Q E s :=
  len_bytes (by simp; omega) (by simpa using h)
theorem slice {value slice : Expr} {b : List UInt8} {t : Tok} {l u : Value} {lo hi : Option Int} {Q : Value → Shared → Prop} (hF : Fr h₀ L s.heap m) (hN : News h₀ L s.heap news) (hl : IsPart l lo) (hu : IsPart u hi) (hz : b.length ≤ 16777216)
    (h : ∀ h' t' k, Fr h₀ L h' m → News h₀ L h' news → Q (.bytes (cut b lo hi).toArray t') { s with heap := h', toks := k })
    (hs : subscripted slice false (.bytes b.toArray t) (.ref s.heap.objs.size) = operate [.ref s.heap.objs.size, .bytes b.toArray t] (getItem (.bytes b.toArray t) (.ref s.heap.objs.size)) := by with_unfolding_all rfl)
    (ht : ∀ r, letTemporaryGo value (.bytes b.toArray t) r = pure () := by intro _; with_unfolding_all rfl) :
    wpAny (model prog w) A (subscriptTail value slice (.bytes b.toArray t) (.ref s.heap.objs.size)) Q E { s with heap := s.heap.push { cls := .type "slice", data := .fields #[l, u, .none] } } :=
  KBc.slice_K hF hN rfl hl hu (by rw [KBw.ints_length]; simpa using hz) (fun h' t' k F' N' _ => by rw [cut_picked]; exact h h' t' k F' N') hs ht
end
end Bb

namespace Ii
section
variable {prog : Program} {w : World} {A : Around} {E : Value → Shared → Prop} {s : Shared} {a b : Int} {t u : Tok} {Q : Value → Shared → Prop}
theorem mod (hb : 0 < b) (h : Q (.int (a % b) s.toks) { s with toks := s.toks + 1 }) : wpAny (model prog w) A (binaryOp .Mod (.int a t) (.int b u)) Q E s :=
  PyProof.Rows.mod_int (by omega) (by rw [Int.fmod_eq_emod_of_nonneg _ (Int.le_of_lt hb)]; exact h)
theorem div (hb : 0 < b) (hs : b < 1073741824) (h : Q (.int (a / b) s.toks) { s with toks := s.toks + 1 }) : wpAny (model prog w) A (binaryOp .FloorDiv (.int a t) (.int b u)) Q E s :=
  floordiv_int (by omega) (by rw [Int.fdiv_eq_ediv_of_nonneg _ (Int.le_of_lt hb)]; exact h) (Or.inl (PyProof.noPylong_small (by omega)))
end
theorem range_small4 {n : Nat} (hn : n ≤ 1000) : Builtin.Range.small 0 (n : Int) 4 = true := by
  unfold Builtin.Range.small Builtin.Range.rangeSize Builtin.Range.rangeFitsLong
  simp only [show (4 : Int) > 0 from by decide, if_true]
  split <;> simp <;> omega
theorem range_small5 {n : Nat} (hn : n ≤ 1000) : Builtin.Range.small 0 (n : Int) 5 = true := by
  unfold Builtin.Range.small Builtin.Range.rangeSize Builtin.Range.rangeFitsLong
  simp only [show (5 : Int) > 0 from by decide, if_true]
  split <;> simp <;> omega
theorem range_small1 {n : Nat} (hn : n ≤ 1000) : Builtin.Range.small 0 (n : Int) 1 = true := by
  unfold Builtin.Range.small Builtin.Range.rangeSize Builtin.Range.rangeFitsLong
  simp only [show (1 : Int) > 0 from by decide, if_true]
  split <;> simp <;> omega
theorem range_size4 {n : Nat} : Builtin.Range.rangeSize 0 (n : Int) 4 = (((n + 3) / 4 : Nat) : Int) := by
  unfold Builtin.Range.rangeSize
  simp only [show (4 : Int) > 0 from by decide, if_true]
  split <;> omega
theorem range_size5 {n : Nat} : Builtin.Range.rangeSize 0 (n : Int) 5 = (((n + 4) / 5 : Nat) : Int) := by
  unfold Builtin.Range.rangeSize
  simp only [show (5 : Int) > 0 from by decide, if_true]
  split <;> omega
theorem range_size1 {n : Nat} : Builtin.Range.rangeSize 0 (n : Int) 1 = (n : Int) := by
  unfold Builtin.Range.rangeSize
  simp only [show (1 : Int) > 0 from by decide, if_true]
  split <;> omega
end Ii

namespace Dd
theorem valueAt_cons {k k' : Int} {v : Value} {r : List (Int × Value)} : valueAt ((k', v) :: r) k = if k' = k then some v else valueAt r k := by
  unfold valueAt
  rw [List.find?_cons]
  by_cases h : k' = k
  · simp [h]
  · simp [h]
theorem valueAt_map {k k' : Int} {v : Value} : ∀ kvs : List (Int × Value), kvs.any (fun kv => kv.1 = k) = true →
    valueAt (kvs.map (fun kv => if kv.1 = k then (kv.1, v) else kv)) k' = if k = k' then some v else valueAt kvs k'
  | [], h => by simp at h
  | (a, x) :: r, h => by
    by_cases ha : a = k
    · subst ha
      rw [List.map_cons, if_pos rfl]
      rw [valueAt_cons, valueAt_cons]
      by_cases hk : a = k'
      · simp [hk]
      · rw [if_neg hk, if_neg hk, if_neg hk]
        by_cases hr : r.any (fun kv => kv.1 = a) = true
        · rw [valueAt_map r hr, if_neg hk]
        · have e : r.map (fun kv => if kv.1 = a then (kv.1, v) else kv) = r := by
            conv => rhs; rw [← List.map_id r]
            refine List.map_congr_left fun kv hkv => ?_
            have : ¬ kv.1 = a := fun e => hr (List.any_eq_true.mpr ⟨kv, hkv, by simpa using e⟩)
            rw [if_neg this]; rfl
          rw [e]
    · have hr : r.any (fun kv => kv.1 = k) = true := by simpa [ha] using h
      rw [List.map_cons, if_neg ha, valueAt_cons, valueAt_cons, valueAt_map r hr]
      by_cases hk : a = k'
      · subst hk; rw [if_pos rfl, if_pos rfl, if_neg (Ne.symm ha)]
      · rw [if_neg hk, if_neg hk]
theorem valueAt_stored {kvs : List (Int × Value)} {k k' : Int} {v : Value} : valueAt (stored kvs k v) k' = if k = k' then some v else valueAt kvs k' := by
  unfold stored
  by_cases h : kvs.any (fun kv => kv.1 = k) = true
  · rw [if_pos h, valueAt_map kvs h]
  · rw [if_neg h]
    have hn : ∀ r : List (Int × Value), r.any (fun kv => kv.1 = k) = false → valueAt (r ++ [(k, v)]) k' = if k = k' then some v else valueAt r k' := by
      intro r
      induction r with
      | nil => intro _; rw [List.nil_append, valueAt_cons]
      | cons q r ih =>
        obtain ⟨a, x⟩ := q
        intro hr
        have ha : ¬ a = k := by intro e; simp [e] at hr
        have hr' : r.any (fun kv => kv.1 = k) = false := by simpa [ha] using hr
        rw [List.cons_append, valueAt_cons, valueAt_cons, ih hr']
        by_cases hk : a = k'
        · subst hk; rw [if_pos rfl, if_pos rfl, if_neg (Ne.symm ha)]
        · rw [if_neg hk, if_neg hk]
    exact hn kvs (Bool.eq_false_iff.mpr h)
theorem stored_le {kvs : List (Int × Value)} {k : Int} {v : Value} : (stored kvs k v).length ≤ kvs.length + 1 := by
  unfold stored
  split
  · simp
  · simp
end Dd

namespace Hh
section
variable {prog : Program} {w : World} {A : Around} {E : Value → Shared → Prop} {s : Shared} {h₀ : Heap} {L : Addr} {m : PySem.Str → Option Value} {news : List (Addr × Obj)}
theorem newTuple {vs : List Value} {Q : Value → Shared → Prop} (F : Fr h₀ L s.heap m) (N : News h₀ L s.heap news) (hsz : vs.length ≤ sizeLine)
    (h : ∀ D h', Fr h₀ L h' m → News h₀ L h' ((D, { cls := .type "tuple", data := .seq vs.toArray }) :: news) → AllLt D news → Q (.ref D) { s with heap := h' }) : wpAny (model prog w) A (PySem.newTuple vs) Q E s :=
  newTuple_N F N (fun h' F' N' => h _ h' F' N' (allLt_intro fun p hp => Heap.lt_size (N p hp).1)) hsz
theorem newList {vs : List Value} {Q : Value → Shared → Prop} (F : Fr h₀ L s.heap m) (N : News h₀ L s.heap news) (hsz : vs.length ≤ sizeLine)
    (h : ∀ D h', Fr h₀ L h' m → News h₀ L h' ((D, { cls := .type "list", data := .seq vs.toArray }) :: news) → AllLt D news → Q (.ref D) { s with heap := h' }) : wpAny (model prog w) A (PySem.newList vs) Q E s :=
  newList_N F N (fun h' F' N' => h _ h' F' N' (allLt_intro fun p hp => Heap.lt_size (N p hp).1)) hsz
end
end Hh

namespace St
open PySem.Sem (wp)
open PySem.Builtin
theorem mro : mroOf (.type "_struct.Struct") = pure [.type "_struct.Struct", .type "object"] := by rw [mroOf_type]; kernel_rfl
theorem lookup_new : typeLookup (.type "_struct.Struct") "__new__" = pure (some (.builtin "_struct.Struct.__new__")) := by rw [typeLookup_type, builtinLookup_eq_fast]; kernel_rfl
theorem slot_init : Slot "_struct.Struct" "__init__" "_struct.Struct.__init__" :=
  .of (owner := "_struct.Struct") (n := "__init__") (by rw [typeLookup_type, builtinLookup_eq_fast]; kernel_rfl) (by decide +kernel) (by decide +kernel) (by decide +kernel)
    (by first | exact .inl (by decide +kernel) | exact .inr (by decide +kernel)) (by rw [isSubtype_type]; kernel_rfl)
theorem called : TypeCalled "_struct.Struct" "_struct.Struct.__new__" "_struct.Struct.__init__" :=
  ⟨by decide +kernel, by decide +kernel, ⟨_, _, mro⟩, madeBy_type mro lookup_new (by decide +kernel), by decide +kernel, by rw [isSubtype_type]; kernel_rfl, slot_init⟩
theorem typeCall (a : Value) : checkTypeCall "_struct.Struct" ⟨[a], []⟩ = pure () := by kernel_rfl
theorem newCall (a : Value) : checkBuiltinCall "_struct.Struct.__new__" ⟨[.type "_struct.Struct", a], []⟩ = pure () := by kernel_rfl
theorem plain_new : plainId "_struct.Struct.__new__" = true := by decide +kernel
theorem entry_new : entryFor table "_struct.Struct.__new__" = some «_struct.Struct.__new__» := by first | exact entryFor_of_tree (by kernel_rfl) | exact entryFor_of_fast (by kernel_rfl)
theorem entry_init : entryFor table "_struct.Struct.__init__" = some «_struct.Struct.__init__» := by first | exact entryFor_of_tree (by kernel_rfl) | exact entryFor_of_fast (by kernel_rfl)
theorem args_init (a b : Value) : argsOk "_struct.Struct.__init__" ⟨[a, b], []⟩ := by unfold argsOk; kernel_rfl
theorem sub : isSubtype (.type "_struct.Struct") (.type "_struct.Struct") = pure true := by rw [isSubtype_type]; kernel_rfl
theorem bind_init (v : Value) : Bytes.bindOptional "_struct.Struct.__init__" "Struct" ["format"] [v] [] = pure [some v] := by kernel_rfl
section
variable {prog : Program} {w : World} {A : Around} {E : Value → Shared → Prop} {s : Shared} {h₀ : Heap} {L : Addr} {m : PySem.Str → Option Value} {news : List (Addr × Obj)}
abbrev objS (fb : Array UInt8) (tk : Tok) : Obj := { cls := .type "_struct.Struct", data := .fields #[.bytes fb tk] }

theorem new_code {v : Value} {Q : Value → Shared → Prop} (hQ : Q (.ref s.heap.objs.size) { s with heap := s.heap.push { cls := .type "_struct.Struct", data := .fields #[.none] } }) :
    codeAny (model prog w) A (.call (.builtin "_struct.Struct.__new__") ⟨[.type "_struct.Struct", v], []⟩) (wants Q E) s := by
  refine codeAny_of_tree ?_
  show wpAny _ A.in1 (do checkBuiltinCall "_struct.Struct.__new__" ⟨[.type "_struct.Struct", v], []⟩; again (.builtin "_struct.Struct.__new__" ⟨[.type "_struct.Struct", v], []⟩)) _ _ s
  refine wpAny_bind (wpAny_of_eq (newCall _) (wpAny_pure ⟨plainId_quiet plain_new _, codeAny_builtin entry_new ?_⟩))
  rw [Around.under_plainId plain_new _]
  unfold «_struct.Struct.__new__»
  refine wpAny_bind (wpAny_of_eq (a := true) rfl ?_)
  refine bm_if_false rfl ?_
  refine wpAny_bind (wpAny_of_eq sub ?_)
  refine bm_if_false rfl ?_
  refine wpAny_bind ?_
  refine wpAny_newObj_type ?_ (Nat.le_of_ble_eq_true rfl)
  exact wpAny_pure hQ

theorem init_tree {x : PySem.Str} {t : Tok} {fb : Array UInt8} {F : Struct.Format} {D : Addr} {P : Fin → Shared → Prop} (hfb : Struct.formatBytes (.str x t) = pure fb) (hp : Struct.parse fb = pure F) (hsz : fb.size ≤ 100) (hg : A.guards = some [])
    (ho : s.heap.get? D = some { cls := .type "_struct.Struct", data := .fields #[.none] })
    (h : P (.done (.ret .none)) { s with heap := s.heap.update D (Obj.mapFields (·.setIfInBounds 0 (.bytes fb s.toks))), toks := s.toks + 1 }) :
    wpAny (model prog w) A («_struct.Struct.__init__» ⟨[.ref D, .str x t], []⟩) P E s := by
  unfold «_struct.Struct.__init__»
  refine wpAny_bind (wpAny_of_eq (bind_init _) ?_)
  refine wpAny_bind (m := Struct.packUnderWay (.ref D)) ?_
  unfold Struct.packUnderWay
  refine wpAny_stackAny_false hg ?_ (fun c hc => nomatch hc) ?_
  · intro c p' hc
    split
    · rename_i heq; cases heq
      exact absurd ((show guardIds.contains "_struct.Struct.pack" = true by decide +kernel).symm.trans hc) (by decide)
    · rename_i heq; cases heq
      exact absurd ((show guardIds.contains "_struct.pack_into.held" = true by decide +kernel).symm.trans hc) (by decide)
    · rfl
  refine bm_if_false rfl ?_
  refine wpAny_bind (wpAny_of_eq hfb ?_)
  refine wpAny_bind (wpAny_of_eq hp ?_)
  refine wpAny_bind (wpAny_mkBytes ?_ (by rw [sizeLine_eq]; omega))
  refine wpAny_bind ?_
  show wpAny _ _ (updateField D 0 _) _ _ _
  unfold updateField
  refine wpAny_bind (wpAny_load ho ?_)
  refine wpAny_ite ?_
  rw [if_pos (by decide)]
  exact wpAny_update ho (wpAny_pure h)

theorem new {x : PySem.Str} {t : Tok} {fb : Array UInt8} {Fm : Struct.Format} {Q : Value → Shared → Prop} (F : Fr h₀ L s.heap m) (N : News h₀ L s.heap news) (hfb : Struct.formatBytes (.str x t) = pure fb) (hp : Struct.parse fb = pure Fm) (hsz : fb.size ≤ 100) (hg : A.guards = some [])
    (h : ∀ D h' tk k, Fr h₀ L h' m → News h₀ L h' ((D, objS fb tk) :: news) → AllLt D news → Q (.ref D) { s with heap := h', toks := k }) : wpAny (model prog w) A (call (.type "_struct.Struct") [.str x t]) Q E s := by
  refine callType_codes (Q₁ := fun obj s₁ => obj = .ref s.heap.objs.size ∧ s₁ = { s with heap := s.heap.push { cls := .type "_struct.Struct", data := .fields #[.none] } }) called (typeCall _) entry_init (new_code ⟨rfl, rfl⟩) fun obj s₁ h₁ => ?_
  obtain ⟨rfl, rfl⟩ := h₁
  have hg0 : (s.heap.push { cls := .type "_struct.Struct", data := .fields #[.none] }).get? s.heap.objs.size = some { cls := .type "_struct.Struct", data := .fields #[.none] } := Heap.get?_push_size _ rfl
  refine ⟨⟨_, hg0, rfl⟩, args_init _ _, init_tree hfb hp hsz hg hg0 ?_⟩
  have F1 := F.push { cls := .type "_struct.Struct", data := .fields #[.none] }
  have N1 := News.push F N { cls := .type "_struct.Struct", data := .fields #[.none] }
  have U := news_upd (pre := []) (post := news) (o := { cls := .type "_struct.Struct", data := .fields #[.none] }) (o' := objS fb s.toks) (f := Obj.mapFields (·.setIfInBounds 0 (.bytes fb s.toks))) F1 N1 (fun _ h => nomatch h) (fun p hp => Nat.ne_of_lt (Heap.lt_size (N p hp).1)) rfl rfl
  exact ⟨rfl, h _ _ _ _ U.1 U.2 (allLt_intro fun p hp => Heap.lt_size (N p hp).1)⟩

theorem unpacked_I {M : Model} {A : Around} {E : Value → Shared → Prop} {s : Shared} {id : String} {n sz : Nat} {b : Array UInt8} {Q : Value → Shared → Prop} (hn : n ≤ 1000)
    (h : ∀ (vs : List Value) (k' : Nat), vs.length = n → (∀ k, k < n → ∃ t, vs[k]? = some (.int (Struct.natOf true (b.extract (k * 4) ((k + 1) * 4)) : Nat) t)) → wpAny M A (newTuple vs) Q E { s with toks := k' }) :
    wpAny M A (Struct.unpacked id ⟨true, false, [⟨'I', n, 0, 4⟩], sz, n⟩ b 0) Q E s := by
  unfold Struct.unpacked
  simp only [List.forIn_cons, List.forIn_nil, Std.Legacy.Range.forIn_eq_forIn_range']
  refine wpAny_bind (wpAny_bind ?_)
  show wpAny M A (if Bytes.tooLong n = true then _ else _) _ _ _
  refine bm_if_false (by simp [Bytes.tooLong, sizeLine]; omega) ?_
  refine wpAny_bind ?_
  refine wpAny_forIn_list (M := M) (A := A) (E := E) _
    (fun (rest : List Nat) (out : Array Value) (s' : Shared) => ∃ i k', rest = List.range' i (n - i) ∧ i ≤ n ∧ s' = { s with toks := k' } ∧ out.size = i ∧ ∀ k, k < i → ∃ t, out.toList[k]? = some (.int (Struct.natOf true (b.extract (k * 4) ((k + 1) * 4)) : Nat) t)) _ ?_ ?_ _ _ ?_
  · rintro x rest out s' ⟨i, k', hr, hi, rfl, ho, hv⟩
    have hlt : i < n := by
      rcases Nat.lt_or_ge i n with h1 | h1
      · exact h1
      · rw [show n - i = 0 by omega] at hr; cases hr
    rw [show n - i = (n - i - 1) + 1 by omega, List.range'_succ] at hr
    obtain ⟨rfl, rfl⟩ := List.cons.inj hr
    refine wpAny_bind ?_
    show wpAny M A (mkInt _) _ _ _
    refine wpAny_mkInt' ?_
    refine wpAny_pure ⟨x + 1, _, by rw [show n - x - 1 = n - (x + 1) by omega], hlt, rfl, by simp [ho], fun k hk => ?_⟩
    rw [Array.toList_push]
    by_cases hkx : k < x
    · rw [List.getElem?_append_left (by simpa [ho] using hkx)]; exact hv k hkx
    · have hke : k = x := by omega
      subst hke
      refine ⟨k', ?_⟩
      rw [List.getElem?_append_right (by simp [ho])]
      simp only [Array.length_toList, ho, Nat.sub_self, List.getElem?_cons_zero]
      simp only [Nat.zero_add]
      rfl
  · rintro out s' ⟨i, k', hr, hi, rfl, ho, hv⟩
    have hin : i = n := by
      rcases Nat.lt_or_ge i n with h1 | h1
      · rw [show n - i = (n - i - 1) + 1 by omega, List.range'_succ] at hr; cases hr
      · omega
    subst hin
    refine wpAny_pure (wpAny_pure ?_)
    exact h _ _ (by simpa using ho) hv
  · exact ⟨0, s.toks, by show List.range' 0 [:n].size 1 = _; simp [Std.Legacy.Range.size], Nat.zero_le _, rfl, rfl, fun k hk => absurd hk (Nat.not_lt_zero _)⟩

theorem slot_unpack : Slot "_struct.Struct" "unpack" "_struct.Struct.unpack" :=
  .of (owner := "_struct.Struct") (n := "unpack") (by rw [typeLookup_type, builtinLookup_eq_fast]; kernel_rfl) (by decide +kernel) (by decide +kernel) (by decide +kernel)
    (by first | exact .inl (by decide +kernel) | exact .inr (by decide +kernel)) (by rw [isSubtype_type]; kernel_rfl)
theorem type_unpack : typeOf (.builtin "_struct.Struct.unpack") = pure (.type "method_descriptor") := by show builtinType _ = _; rw [builtinType_eq_fast]; kernel_rfl
theorem entry_unpack : entryFor table "_struct.Struct.unpack" = some «_struct.Struct.unpack» := by first | exact entryFor_of_tree (by kernel_rfl) | exact entryFor_of_fast (by kernel_rfl)
theorem args_unpack (a b : Value) : argsOk "_struct.Struct.unpack" ⟨[a, b], []⟩ := by unfold argsOk; kernel_rfl
theorem ga : typeLookup (.type "_struct.Struct") "__getattribute__" = pure (some (.builtin "_struct.Struct.__getattribute__")) := by rw [typeLookup_type, builtinLookup_eq_fast]; kernel_rfl
theorem canon_ga : (Manifest.canonical "_struct.Struct.__getattribute__" != "object.__getattribute__") = false := by decide +kernel
theorem no_getattr : typeLookup (.type "_struct.Struct") "__getattr__" = pure none := by rw [typeLookup_type, builtinLookup_eq_fast]; kernel_rfl
theorem method_unpack {M : Model} {A : Around} {E : Value → Shared → Prop} {s : Shared} {D : Addr} {fb : Array UInt8} {tk : Tok} {pl : Sem Bool} {Q : Value × List Value → Shared → Prop} (ho : s.heap.get? D = some (objS fb tk))
    (h : Q (.builtin "_struct.Struct.unpack", [.ref D]) s) : wpAny M A (getMethod (.ref D) (PySem.Str.ofString "unpack") pl) Q E s := by
  have hT : s.TypeIs (.ref D) "_struct.Struct" := ⟨_, ho, rfl⟩
  unfold getMethod
  refine wpAny_bind (wpAny_specialOf hT ga ?_)
  show wpAny M A (if (Manifest.canonical "_struct.Struct.__getattribute__" != "object.__getattribute__") = true then _ else _) Q E s
  rw [canon_ga, if_neg Bool.false_ne_true]
  refine wpAny_bind (wpAny_specialOf hT no_getattr ?_)
  refine wpAny_bind (wpAny_specialOf hT slot_unpack.lookup ?_)
  refine wpAny_bind (wpAny_of_eq type_unpack ?_)
  refine wpAny_bind (wpAny_load ho ?_)
  exact wpAny_bind (wpAny_rule (wpAny_pure h))

theorem natOf_be (l : List UInt8) : Struct.natOf true l.toArray = Bb.be l := by
  unfold Struct.natOf Memoryview.littleEndian Bb.be
  simp only [if_true]
  rw [Array.foldr_reverse]
  simp
theorem format_eq {M : Model} {A : Around} {E : Value → Shared → Prop} {s : Shared} {D : Addr} {fb : Array UInt8} {tk : Tok} {Fm : Struct.Format} {Q : Array UInt8 × Struct.Format → Shared → Prop} (ho : s.heap.get? D = some (objS fb tk)) (hp : Struct.parse fb = pure Fm) (h : Q (fb, Fm) s) :
    wpAny M A (Struct.structFormat (.ref D)) Q E s := by
  unfold Struct.structFormat
  refine wpAny_bind (wpAny_field (x := .bytes fb tk) ho rfl rfl ?_)
  refine wpAny_bind (wpAny_of_eq (a := fb) rfl ?_)
  exact wpAny_bind (wpAny_of_eq hp (wpAny_pure h))

theorem call_unpack {prog : Program} {w : World} {A : Around} {E : Value → Shared → Prop} {s : Shared} {h₀ : Heap} {L : Addr} {m : PySem.Str → Option Value} {news : List (Addr × Obj)} {D : Addr} {fb : Array UInt8} {tk t : Tok} {n : Nat} {b : List UInt8} {Q : Value → Shared → Prop} (F : Fr h₀ L s.heap m) (N : News h₀ L s.heap news) (hm : (D, objS fb tk) ∈ news)
    (hp : Struct.parse fb = pure ⟨true, false, [⟨'I', n, 0, 4⟩], 4 * n, n⟩) (hb : b.length = 4 * n) (hn : n ≤ 1000)
    (h : ∀ x vs h' k, Fr h₀ L h' m → News h₀ L h' ((x, ({ cls := .type "tuple", data := .seq (List.toArray vs) } : Obj)) :: news) → AllLt x news → vs.length = n → (∀ j, j < n → ∃ t, vs[j]? = some (.int (Bb.be ((b.drop (4 * j)).take 4) : Nat) t)) → Q (.ref x) { s with heap := h', toks := k }) :
    wpAny (model prog w) A (call (.builtin "_struct.Struct.unpack") [.ref D, .bytes b.toArray t]) Q E s := by
  have ho := (N _ hm).1
  have hT : s.TypeIs (.ref D) "_struct.Struct" := ⟨_, ho, rfl⟩
  refine wpAny_call_entry slot_unpack hT entry_unpack ?_ (args_unpack _ _)
  unfold «_struct.Struct.unpack»
  refine wpAny_bind (wpAny_of_eq (a := (.ref D, .bytes b.toArray t)) rfl ?_)
  show wpAny _ _ (Struct.unpackExact _ _ _) _ _ _
  unfold Struct.unpackExact
  refine wpAny_bind ?_
  unfold Bytes.bytesLike
  refine wpAny_bind (wpAny_of_eq KBy.buffer_eq (wpAny_pure ?_))
  refine wpAny_bind (wpAny_bind (format_eq ho hp (wpAny_pure ?_)))
  refine bm_if_false (by simp [hb]) ?_
  refine wpAny_bind (unpacked_I hn fun vs k' hl hv => ?_)
  refine Hh.newTuple F N (by rw [sizeLine_eq]; omega) fun x h' F' N' l1 => ?_
  refine wpAny_pure ⟨_, rfl, h x vs h' k' F' N' l1 hl fun j hj => ?_⟩
  obtain ⟨t', ht⟩ := hv j hj
  refine ⟨t', ?_⟩
  rw [ht, List.extract_toArray, natOf_be]
  rw [show List.extract b (j * 4) ((j + 1) * 4) = (b.drop (4 * j)).take 4 by rw [List.extract_eq_take_drop, Nat.mul_comm j 4, show (j + 1) * 4 - 4 * j = 4 by omega]]
theorem fmt_ok {z : Int} {n : Nat} {t : Tok} (hz : z = n) (hn : n = 1 ∨ n = 2) : ∃ fb, Struct.formatBytes (.str (PySem.Str.ofString "!" ++ PySem.Str.ofString (toString z) ++ PySem.Str.ofString "I") t) = pure fb ∧
    Struct.parse fb = pure ⟨true, false, [⟨'I', n, 0, 4⟩], 4 * n, n⟩ ∧ fb.size ≤ 100 := by
  rcases hn with rfl | rfl
  · subst hz; exact ⟨#[33, 49, 73], by kernel_rfl, by kernel_rfl, by decide⟩
  · subst hz; exact ⟨#[33, 50, 73], by kernel_rfl, by kernel_rfl, by decide⟩
end
end St

namespace Ls
open PySem.Sem (wp)
open Builtin
def BytesAre (vs : List Value) (bs : List (List UInt8)) : Prop := vs.length = bs.length ∧ ∀ (i : Nat) (b : List UInt8), bs[i]? = some b → ∃ t, vs[i]? = some (Value.bytes b.toArray t)
section
variable {prog : Program} {w : World} {A : Around} {E : Value → Shared → Prop} {s : Shared} {h₀ : Heap} {L : Addr} {m : PySem.Str → Option Value} {news : List (Addr × Obj)}
theorem isList {l : Addr} {vs : List Value} {k : Nat} (N : News h₀ L s.heap news) (hm : (l, ({ cls := .type "list", data := .seq vs.toArray k } : Obj)) ∈ news) : s.heap.IsList l vs.toArray := ⟨_, (N _ hm).1, rfl, k, rfl⟩
theorem item {value slice : Expr} {l : Addr} {vs : List Value} {n : Nat} {k : Int} {u : Tok} {x : Value} {Q : Value → Shared → Prop} (N : News h₀ L s.heap news) (hm : (l, ({ cls := .type "list", data := .seq vs.toArray n } : Obj)) ∈ news)
    (h0 : 0 ≤ k) (hfit : k < 2 ^ 63) (hx : vs[k.toNat]? = some x) (h : Q x s)
    (hs : subscripted slice false (.ref l) (.int k u) = operate [.ref l, .int k u] (getItem (.ref l) (.int k u)) := by with_unfolding_all rfl) :
    wpAny (model prog w) A (subscriptTail value slice (.ref l) (.int k u)) Q E s := item_listR (isList N hm) h0 hfit (by simpa using hx) h hs
theorem itemNeg {value slice : Expr} {l : Addr} {vs : List Value} {n : Nat} {k : Int} {u : Tok} {x : Value} {Q : Value → Shared → Prop} (N : News h₀ L s.heap news) (hm : (l, ({ cls := .type "list", data := .seq vs.toArray n } : Obj)) ∈ news)
    (h0 : k < 0) (h1 : -(vs.length : Int) ≤ k) (hfit : -(2 ^ 63) ≤ k) (hx : vs[(k + vs.length).toNat]? = some x) (h : Q x s)
    (hs : subscripted slice false (.ref l) (.int k u) = operate [.ref l, .int k u] (getItem (.ref l) (.int k u)) := by with_unfolding_all rfl) :
    wpAny (model prog w) A (subscriptTail value slice (.ref l) (.int k u)) Q E s :=
  subscriptTail_builtinR (isList N hm).typeIs slot_list_getitem.lookup (wpAny_getItem_list_neg (Q := fun r s' => r = x ∧ Q r s') (isList N hm) h0 (by simpa using h1) hfit (by simpa using hx) ⟨rfl, h⟩) hs
theorem setNeg {l : Addr} {vs : List Value} {n : Nat} {k : Int} {u : Tok} {x : Value} {pre post : List (Addr × Obj)} {Q : Unit → Shared → Prop} (F : Fr h₀ L s.heap m) (N : News h₀ L s.heap (pre ++ (l, ({ cls := .type "list", data := .seq vs.toArray n } : Obj)) :: post))
    (o1 : ∀ p ∈ pre, p.1 ≠ l) (o2 : ∀ p ∈ post, p.1 ≠ l) (h0 : k < 0) (h1 : -(vs.length : Int) ≤ k) (hfit : -(2 ^ 63) ≤ k)
    (h : ∀ h' n', Fr h₀ L h' m → News h₀ L h' (pre ++ (l, ({ cls := .type "list", data := .seq (vs.set (k + vs.length).toNat x).toArray n' } : Obj)) :: post) → Q () { s with heap := h' }) :
    wpAny (model prog w) A (setItem (.ref l) (.int k u) x) Q E s := by
  have hl := isList (vs := vs) (k := n) N (List.mem_append_right _ List.mem_cons_self)
  obtain ⟨o, ho, hc, ne, hd⟩ := id hl
  have hlt : (k + vs.length).toNat < vs.length := by omega
  unfold setItem
  try with_reducible refine wpAny_holding ?_
  first | refine wpAny_bind (wpAny_pure ?_) | skip
  refine wpAny_bind (wpAny_sequenceKey hl.typeIs (by decide) ?_)
  refine wpAny_bind (wpAny_callSpecial?_slot (name := PySem.Str.ofString "__setitem__") hl.typeIs slot_list_setitem
    (wpAny_call_entry slot_list_setitem hl.typeIs entry_list_setitem ?_ (args_list_setitem _ _ _)))
  show wpAny _ _ (Builtin.List.listSubscript? (.int k u) >>= _) _ _ s
  refine wpAny_bind (wpAny_listSubscript_int (fitsIndex_neg h0 hfit) ?_)
  clear hfit
  have hidx := seqIndex_neg (n := vs.toArray.size) h0 (by simpa using h1)
  obtain ⟨j, rfl⟩ : ∃ j : Nat, k = Int.negSucc j := by
    cases k with
    | ofNat n => exact absurd h0 (Int.not_lt.mpr (Int.natCast_nonneg n))
    | negSucc n => exact ⟨n, rfl⟩
  show wpAny _ _ ((Builtin.List.listItems (.ref l) >>= fun xs => pure ((seqIndex? (Int.negSucc j) xs.size).bind fun i => xs[i]?.map (i, ·))) >>= _) _ _ s
  refine wpAny_bind (wpAny_bind ?_)
  show wpAny _ _ (seqItems? (.ref l) >>= _) _ _ s
  refine wpAny_bind (wpAny_seqItems ho hd (wpAny_pure (wpAny_pure ?_)))
  rw [hidx]
  have hx : vs.toArray[(Int.negSucc j + vs.toArray.size).toNat]? = some (vs[(Int.negSucc j + vs.length).toNat]) := by simp [hlt]
  simp only [Option.bind_some, hx, Option.map_some]
  show wpAny _ _ (setSeqItemAt l _ x >>= _) _ _ s
  obtain ⟨n', hd'⟩ := Obj.data_mapSeq hd (·.setIfInBounds (Int.negSucc j + vs.toArray.size).toNat x)
  have U := news_upd (f := Obj.mapSeq (·.setIfInBounds (Int.negSucc j + vs.toArray.size).toNat x)) (o' := Obj.mapSeq (·.setIfInBounds (Int.negSucc j + vs.toArray.size).toNat x) { cls := .type "list", data := .seq vs.toArray n }) F N o1 o2 rfl rfl
  have e : Obj.mapSeq (·.setIfInBounds (Int.negSucc j + vs.toArray.size).toNat x) { cls := .type "list", data := .seq vs.toArray n } = ({ cls := .type "list", data := .seq (vs.set (Int.negSucc j + vs.length).toNat x).toArray n } : Obj) := by
    simp [Obj.mapSeq]
  refine wpAny_bind (wpAny_setSeqItemAt ho hd ?_)
  rw [e] at U
  first
    | exact wpAny_bind (wpAny_pure (wpAny_pure ⟨.none, rfl, wpAny_pure (h _ _ U.1 U.2)⟩))
    | exact wpAny_pure ⟨.none, rfl, wpAny_pure (h _ _ U.1 U.2)⟩

theorem take_eq {id : String} {b : Array UInt8} {t : Tok} : Bytes.takeBufferQuiet? id (.bytes b t) 0 = pure (some (b, none)) := by
  unfold Bytes.takeBufferQuiet? Bytes.takeBuffer?
  rw [KBy.special_eq KBy.look_buffer, KBy.own_buffer, show ((0 : Int) == Bytes.fullReadOnly) = false by decide +kernel, KBy.buffer_eq]
  kernel_rfl

theorem slot_join : Slot "bytes" "join" "bytes.join" :=
  .of (owner := "bytes") (n := "join") (by rw [typeLookup_type, builtinLookup_eq_fast]; kernel_rfl) (by decide +kernel) (by decide +kernel) (by decide +kernel)
    (by first | exact .inl (by decide +kernel) | exact .inr (by decide +kernel)) (by rw [isSubtype_type]; kernel_rfl)
theorem entry_join : entryFor table "bytes.join" = some «bytes.join» := by first | exact entryFor_of_tree (by kernel_rfl) | exact entryFor_of_fast (by kernel_rfl)
theorem args_join (a b : Value) : argsOk "bytes.join" ⟨[a, b], []⟩ := by unfold argsOk; kernel_rfl
theorem type_join : typeOf (.builtin "bytes.join") = pure (.type "method_descriptor") := by show builtinType _ = _; rw [builtinType_eq_fast]; kernel_rfl
theorem method_join {M : Model} {b : Array UInt8} {t : Tok} {pl : Sem Bool} {Q : Value × List Value → Shared → Prop} (h : Q (.builtin "bytes.join", [.bytes b t]) s) : wpAny M A (getMethod (.bytes b t) "join" pl) Q E s :=
  KBd.method_of (.bytes b t) (typeIs_bytes _ _ _) slot_join type_join KBd.noRef h
theorem zip_fold (ps : List (List UInt8)) : ∀ (k : Nat) (out : Array UInt8), (((ps.map List.toArray).zipIdx k).foldl (fun out (p, i) => (if i > 0 then out ++ (#[] : Array UInt8) else out) ++ p) out) = out ++ ps.flatten.toArray := by
  induction ps with
  | nil => intro k out; simp
  | cons p r ih =>
    intro k out
    simp only [List.map_cons, List.zipIdx_cons, List.foldl_cons]
    rw [ih]
    simp
theorem joined_eq (ps : List (List UInt8)) : Bytes.joined #[] (ps.map List.toArray) = ps.flatten.toArray := by
  unfold Bytes.joined
  rw [zip_fold]; simp

theorem join {l : Addr} {vs : List Value} {bs : List (List UInt8)} {n : Nat} {t : Tok} {Q : Value → Shared → Prop} (N : News h₀ L s.heap news) (hm : (l, ({ cls := .type "list", data := .seq vs.toArray n } : Obj)) ∈ news)
    (hb : BytesAre vs bs) (h1 : 1 ≤ bs.length) (hz : bs.flatten.length ≤ 1000) (h : ∀ t' k, Q (.bytes bs.flatten.toArray t') { s with toks := k }) :
    wpAny (model prog w) A (call (.builtin "bytes.join") [.bytes #[] t, .ref l]) Q E s := by
  refine wpAny_call_entry slot_join (typeIs_bytes s _ _) entry_join ?_ (args_join _ _)
  have ho := (N _ hm).1
  unfold «bytes.join» Bytes.joinM
  refine wpAny_bind (wpAny_of_eq (a := (.bytes #[] t, .ref l)) rfl ?_)
  dsimp only
  refine bm_if_true rfl ?_
  have hT : s.TypeIs (.ref l) "list" := (isList N hm).typeIs
  refine wpAny_bind ?_
  unfold Bytes.joinItems
  refine wpAny_bind (wpAny_typeOf hT ?_)
  refine bm_if_true rfl ?_
  refine wpAny_pure ?_
  refine wpAny_bind (wpAny_seqItems ho rfl ?_)
  dsimp only
  refine bm_if_true rfl ?_
  obtain ⟨hlen, hbs⟩ := hb
  rcases vs with _ | ⟨x, _ | ⟨y, r⟩⟩
  · rw [← hlen] at h1; exact absurd h1 (by simp)
  · rcases bs with _ | ⟨b, _ | ⟨_, _⟩⟩
    · cases hlen
    · obtain ⟨tx, hx⟩ := hbs 0 b rfl
      cases hx
      refine wpAny_bind (wpAny_typeOf (typeIs_bytes s _ _) ?_)
      refine bm_if_true rfl ?_
      have := h tx s.toks
      simp only [List.flatten_cons, List.flatten_nil, List.append_nil] at this
      refine wpAny_bind (wpAny_rule ?_)
      exact wpAny_pure ⟨_, rfl, this⟩
    · simp at hlen
  · show wpAny _ _ (forIn _ _ _ >>= _) _ _ _
    refine wpAny_bind ?_
    generalize hvs : x :: y :: r = vs at hm ho hlen hbs hT
    have hsz : vs.toArray.size = bs.length := by simp [hlen]
    rw [Std.Legacy.Range.forIn_eq_forIn_range']
    refine wpAny_forIn_list (M := model prog w) (A := A.in1) (E := E) _
      (fun (rest : List Nat) (st : Array (Array UInt8) × List (Value × Option Value)) (s' : Shared) => ∃ i, rest = List.range' i (bs.length - i) ∧ i ≤ bs.length ∧ s' = s ∧ st.1.toList = (bs.take i).map List.toArray ∧ ∀ q ∈ st.2, q.2 = none ∧ q.1.onHeap = false) _ ?_ ?_ _ _ ?_
    · rintro j rest ⟨ps, tk⟩ s' ⟨i, hr, hi, rfl, hps, htk⟩
      have hlt : i < bs.length := by
        rcases Nat.lt_or_ge i bs.length with h1 | h1
        · exact h1
        · rw [show bs.length - i = 0 by omega] at hr; cases hr
      rw [show bs.length - i = (bs.length - i - 1) + 1 by omega, List.range'_succ] at hr
      obtain ⟨rfl, rfl⟩ := List.cons.inj hr
      obtain ⟨tx, hx⟩ := hbs j bs[j] (List.getElem?_eq_getElem hlt)
      have hget : vs.toArray.getD j Value.none = .bytes (bs[j]).toArray tx := by
        simp [Array.getD, hlen, hlt, List.getElem?_eq_some_iff.mp hx |>.2]
      have hany : (tk.any fun x => x.fst.onHeap) = false := by
        rw [List.any_eq_false]
        intro q hq; rw [(htk q hq).2]; simp
      refine wpAny_bind (wpAny_seqItems ho rfl ?_)
      dsimp only
      refine bm_if_false (by rw [hany]; rfl) ?_
      rw [hget]
      refine wpAny_bind (wpAny_holding (wpAny_of_eq take_eq ?_))
      dsimp only
      refine wpAny_bind (wpAny_seqItems ho rfl ?_)
      dsimp only
      refine bm_if_false (by simp) ?_
      refine wpAny_pure ⟨j + 1, by rw [show bs.length - j - 1 = bs.length - (j + 1) by omega], hlt, rfl, ?_, ?_⟩
      · dsimp only
        rw [Array.toList_push, hps, List.take_add_one, List.map_append, List.getElem?_eq_getElem hlt]
        rfl
      · intro q hq
        rcases List.mem_append.mp hq with hq | hq
        · exact htk q hq
        · rw [List.mem_singleton.mp hq]; exact ⟨rfl, rfl⟩
    · rintro ⟨ps, tk⟩ s' ⟨i, hr, hi, rfl, hps, htk⟩
      have hin : i = bs.length := by
        rcases Nat.lt_or_ge i bs.length with h1 | h1
        · rw [show bs.length - i = (bs.length - i - 1) + 1 by omega, List.range'_succ] at hr; cases hr
        · omega
      subst hin
      rw [List.take_length] at hps
      have hsum : ∀ (qs : List (List UInt8)) (a : Nat), (qs.map List.toArray).foldl (fun x1 x2 => x1 + x2.size) a = a + qs.flatten.length := by
        intro qs
        induction qs with
        | nil => intro a; simp
        | cons q r ih => intro a; simp only [List.map_cons, List.foldl_cons]; rw [ih]; simp; omega
      refine wpAny_bind ?_
      show wpAny _ _ (pure _) _ _ _
      refine wpAny_pure ?_
      dsimp only
      refine bm_if_false ?_ ?_
      · unfold Bytes.tooLong
        rw [← Array.foldl_toList, hps, hsum, sizeLine_eq]
        simp
        simp at hz
        omega
      refine wpAny_bind ?_
      show wpAny _ _ (mkBytes _) _ _ _
      rw [hps]
      refine wpAny_mkBytes ?_ (by rw [joined_eq, sizeLine_eq]; simp at hz ⊢; omega)
      rw [joined_eq]
      refine wpAny_bind (wpAny_holding (wpAny_point ?_))
      refine wpAny_bind ?_
      have key : ∀ (tk : List (Value × Option Value)) (keep : List Value) (Q : Unit → Shared → Prop) (s₁ : Shared), (∀ q ∈ tk, q.2 = none ∧ q.1.onHeap = false) → Q () s₁ → wpAny (model prog w) A.in1 (Bytes.joinLetGo tk keep) Q E s₁ := by
        intro tk
        induction tk with
        | nil => intro keep Q s₁ _ hq; exact wpAny_pure hq
        | cons q r ih =>
          intro keep Q s₁ hq hQ
          obtain ⟨v, o⟩ := q
          obtain ⟨h1, _⟩ := hq _ List.mem_cons_self
          dsimp only at h1
          subst h1
          unfold Bytes.joinLetGo
          dsimp only
          exact wpAny_bind (wpAny_letGo (ih keep Q s₁ (fun q hq' => hq q (List.mem_cons_of_mem _ hq')) hQ))
      refine key _ _ _ _ htk ?_
      exact wpAny_pure ⟨_, rfl, h _ _⟩
    · exact ⟨0, by show List.range' 0 [:vs.toArray.size].size 1 = _; simp [Std.Legacy.Range.size, hlen], Nat.zero_le _, rfl, rfl, fun q hq => nomatch hq⟩
end
end Ls

namespace Ls
open Builtin
section
variable {prog : Program} {w : World} {A : Around} {E : Value → Shared → Prop} {s : Shared} {h₀ : Heap} {L : Addr} {m : PySem.Str → Option Value} {news : List (Addr × Obj)}
abbrev lsO (vs : List Value) (k : Nat) : Obj := { cls := .type "list", data := .seq vs.toArray k }
theorem add {a b : Addr} {vs us : List Value} {k k' : Nat} {Q : Value → Shared → Prop} (F : Fr h₀ L s.heap m) (N : News h₀ L s.heap news) (ha : (a, lsO vs k) ∈ news) (hb : (b, lsO us k') ∈ news) (hz : vs.length + us.length ≤ 100000)
    (h : ∀ D h', Fr h₀ L h' m → News h₀ L h' ((D, lsO (vs ++ us) 0) :: news) → AllLt D news → Q (.ref D) { s with heap := h' }) : wpAny (model prog w) A (binaryOp .Add (.ref a) (.ref b)) Q E s :=
  add_lists F N (isList N ha) (isList N hb) (fun h' F' N' => h _ h' F' N' (allLt_intro fun p hp => Heap.lt_size (N p hp).1)) (by rw [sizeLine_eq]; omega)
end
end Ls
namespace Bb
open Builtin
theorem slot_gt : Slot "bytes" (cmpInfo .Gt).2.1 "bytes.__gt__" :=
  .of (owner := "bytes") (n := "__gt__") (by rw [typeLookup_type, builtinLookup_eq_fast]; kernel_rfl) (by decide +kernel) (by decide +kernel) (by decide +kernel)
    (by first | exact .inl (by decide +kernel) | exact .inr (by decide +kernel)) (by rw [isSubtype_type]; kernel_rfl)
theorem slot_ge : Slot "bytes" (cmpInfo .GtE).2.1 "bytes.__ge__" :=
  .of (owner := "bytes") (n := "__ge__") (by rw [typeLookup_type, builtinLookup_eq_fast]; kernel_rfl) (by decide +kernel) (by decide +kernel) (by decide +kernel)
    (by first | exact .inl (by decide +kernel) | exact .inr (by decide +kernel)) (by rw [isSubtype_type]; kernel_rfl)
theorem entry_gt : entryFor table "bytes.__gt__" = some «bytes.__gt__» := by first | exact entryFor_of_tree (by kernel_rfl) | exact entryFor_of_fast (by kernel_rfl)
theorem entry_ge : entryFor table "bytes.__ge__" = some «bytes.__ge__» := by first | exact entryFor_of_tree (by kernel_rfl) | exact entryFor_of_fast (by kernel_rfl)
theorem args_gt (a b : Value) : argsOk "bytes.__gt__" ⟨[a, b], []⟩ := by unfold argsOk; kernel_rfl
theorem args_ge (a b : Value) : argsOk "bytes.__ge__" ⟨[a, b], []⟩ := by unfold argsOk; kernel_rfl
theorem gives_gt (b c : Array UInt8) (t u : Tok) : Gives («bytes.__gt__» ⟨[.bytes b t, .bytes c u], []⟩) (.val (.bool (Bytes.order b.toList c.toList == .gt))) := by
  refine .of_wp fun M A E s Q hq => ?_
  show wpAny M A (isInstance (.bytes c u) (.type "bytes") >>= fun r => _) _ E s
  refine wpAny_bind (wpAny_isInstance (typeIs_bytes s c u) F.sub_bytes_bytes ?_)
  exact wpAny_pure ⟨_, rfl, hq⟩
theorem gives_ge (b c : Array UInt8) (t u : Tok) : Gives («bytes.__ge__» ⟨[.bytes b t, .bytes c u], []⟩) (.val (.bool (Bytes.order b.toList c.toList != .lt))) := by
  refine .of_wp fun M A E s Q hq => ?_
  show wpAny M A (isInstance (.bytes c u) (.type "bytes") >>= fun r => _) _ E s
  refine wpAny_bind (wpAny_isInstance (typeIs_bytes s c u) F.sub_bytes_bytes ?_)
  exact wpAny_pure ⟨_, rfl, hq⟩
section
variable {prog : Program} {w : World} {A : Around} {E : Value → Shared → Prop} {s : Shared} {b c : List UInt8} {t u : Tok}
theorem gt {Q : Value → Shared → Prop} (h : Q (.bool (Bytes.order b c == .gt)) s) : wpAny (model prog w) A (compareOp .Gt (.bytes b.toArray t) (.bytes c.toArray u)) Q E s :=
  compareOp_gives (op := .Gt) (typeIs_bytes s _ t) (typeIs_bytes s _ u) slot_gt entry_gt (args_gt _ _) (gives_gt b.toArray c.toArray t u) (fun e => nomatch e) h
theorem ge {Q : Value → Shared → Prop} (h : Q (.bool (Bytes.order b c != .lt)) s) : wpAny (model prog w) A (compareOp .GtE (.bytes b.toArray t) (.bytes c.toArray u)) Q E s :=
  compareOp_gives (op := .GtE) (typeIs_bytes s _ t) (typeIs_bytes s _ u) slot_ge entry_ge (args_ge _ _) (gives_ge b.toArray c.toArray t u) (fun e => nomatch e) h
end
end Bb

theorem allObj_intro {ws : List (Addr × String)} : ∀ {k : List (Addr × Obj) → Prop}, (∀ its : List (Addr × Obj), its.map (·.1) = ws.map (·.1) → k its) → AllObj ws k := by
  induction ws with
  | nil => intro k h; exact h [] rfl
  | cons q r ih => intro k h; exact fun o _ => ih fun its e => h ((q.1, o) :: its) (by simp [e])
theorem subL_of {l all : List (Addr × Obj)} : (∀ p ∈ l, p ∈ all) → SubL l all := by
  induction l with
  | nil => intro _; trivial
  | cons q r ih => intro h; exact ⟨h q List.mem_cons_self, ih fun p hp => h p (List.mem_cons_of_mem _ hp)⟩
section
variable {prog : Program} {w : World} {A : Around} {E : Value → Shared → Prop} {s : Shared} {env : Env} {h₀ : Heap} {body : List Stmt} {Q : Flow → Shared → Prop}
  {m₀ : PySem.Str → Option Value} {nx₀ fix : List (Addr × Obj)}
theorem zip_items {L : Addr} {target : Expr} {ws : List (Addr × String)} {keep : List (Addr × Obj)} {xs ys : List Value} (J : Nat → (PySem.Str → Option Value) → List (Addr × Obj) → Prop) (hL : env.locals = L) (hlen : xs.length = ys.length)
    (hkeep : ∀ p ∈ keep, p ∈ fix) (hfw : ∀ q ∈ fix, ∀ a ∈ ws.map (·.1), q.1 ≠ a)
    (turn : ∀ i T x y m₁ nx h tk tl, xs[i]? = some x → ys[i]? = some y → J i m₁ nx → (∀ p ∈ fix, p ∈ tl) → (∀ q ∈ nx, AllNe q.1 tl) → IsTup h T #[x, y] → Fr h₀ L h m₁ → News h₀ L h (nx ++ tl) →
      wpAny (model prog w) A (assign target env (.ref T)) (fun _ s₂ => wpAny (model prog w) A (execs body env) (TurnEnd h₀ L tl (J (i + 1)) { s with heap := h, toks := tk } Q) E s₂) E { s with heap := h, toks := tk })
    (done : ∀ m₁ nx h tk, J xs.length m₁ nx → Fr h₀ L h m₁ → News h₀ L h (nx ++ fix) → (∀ q ∈ nx, AllNe q.1 fix) → Q .next { s with heap := h, toks := tk }) :
    ∀ (k i : Nat) (m : PySem.Str → Option Value) (nx : List (Addr × Obj)), i + k = xs.length → J i m nx → (∀ q ∈ nx, AllNe q.1 fix) → (∀ q ∈ nx, ∀ a ∈ ws.map (·.1), q.1 ≠ a) →
      ItemsRest prog w A E h₀ env target body Q s ws keep (zipItems (xs.drop i) (ys.drop i)) m (nx ++ fix) := by
  subst hL
  intro k
  induction k with
  | zero =>
    intro i m nx hi hJ hnf _
    rw [List.drop_of_length_le (show xs.length ≤ i by omega)]
    refine ItemsRest.zero fun h tk F N => ?_
    have : i = xs.length := by omega
    subst this
    exact done m nx h tk hJ F N hnf
  | succ k ih =>
    intro i m nx hi hJ hnf hnw
    have hx : i < xs.length := by omega
    have hy : i < ys.length := by omega
    rw [List.drop_eq_getElem_cons hx, List.drop_eq_getElem_cons hy]
    show ItemsRest prog w A E h₀ env target body Q s ws keep (.pair (fun _ => xs[i]) ys[i] :: zipItems (xs.drop (i + 1)) (ys.drop (i + 1))) m (nx ++ fix)
    refine ItemsRest.pair fun T t h tk hT F => allObj_intro fun its hits N => ?_
    have hin : ∀ q ∈ its, q.1 ∈ ws.map (·.1) := fun q hq => by rw [← hits]; exact List.mem_map_of_mem hq
    have N' : News h₀ env.locals h (nx ++ (fix ++ its)) := fun p hp => by
      refine N p ?_
      simp only [List.mem_append] at hp ⊢
      rcases hp with hp | hp | hp
      · exact .inr (.inl hp)
      · exact .inr (.inr hp)
      · exact .inl hp
    have hne : ∀ q ∈ nx, AllNe q.1 (fix ++ its) := fun q hq => allNe_app (hnf q hq) fun p hp e => hnw q hq p.1 (hin p hp) e.symm
    refine wpAny_mono (turn i T _ _ m nx h tk (fix ++ its) (List.getElem?_eq_getElem hx) (List.getElem?_eq_getElem hy) hJ (fun p hp => List.mem_append_left _ hp) hne hT F N') (fun _ s₂ h₂ => wpAny_mono h₂ (fun f s₃ h₃ => ?_) fun _ _ e => e) fun _ _ e => e
    have fin : (∃ h' tk' m' nx', s₃ = { s with heap := h', toks := tk' } ∧ Fr h₀ env.locals h' m' ∧ News h₀ env.locals h' (nx' ++ (fix ++ its)) ∧ (∀ q ∈ nx', AllNe q.1 (fix ++ its)) ∧ J (i + 1) m' nx') →
        UnrEndW h₀ env.locals { s with heap := h, toks := tk } its (fun m' n' => SubL keep n' ∧ ItemsRest prog w A E h₀ env target body Q s ws keep (zipItems (xs.drop (i + 1)) (ys.drop (i + 1))) m' n') s₃ := by
      rintro ⟨h', tk', m', nx', rfl, F₃, N₃, off₃, J₃⟩
      refine ⟨h', tk', m', nx' ++ fix, rfl, F₃, fun p hp => N₃ p ?_, fun p hp q hq => ?_, subL_of fun p hp => List.mem_append_right _ (hkeep p hp), ih (i + 1) m' nx' (by omega) J₃ (fun q hq p hp => off₃ q hq p (List.mem_append_left _ hp)) ?_⟩
      · simp only [List.mem_append] at hp ⊢
        rcases hp with hp | hp | hp
        · exact .inr (.inr hp)
        · exact .inl hp
        · exact .inr (.inl hp)
      · rcases List.mem_append.mp hp with hp | hp
        · exact (off₃ p hp q (List.mem_append_right _ hq)).symm
        · exact hfw p hp q.1 (hin q hq)
      · intro q hq a ha
        rw [← hits] at ha
        obtain ⟨p, hp, rfl⟩ := List.mem_map.mp ha
        exact (off₃ q hq p (List.mem_append_right _ hp)).symm
    cases f with
    | ret v => exact h₃
    | brk => exact h₃
    | next => exact fin h₃
    | cont => exact fin h₃

theorem for_zip {L : Addr} {elts : List Expr} {kk : Nat} {pos : Pos} {l1 l2 : Addr} {xs ys : List Value} {n1 n2 : Nat} (J : Nat → (PySem.Str → Option Value) → List (Addr × Obj) → Prop) (hL : env.locals = L) (hh : A.handled = none) (hlen : xs.length = ys.length)
    (hm1 : (l1, ({ cls := .type "list", data := .seq xs.toArray n1 } : Obj)) ∈ fix) (hm2 : (l2, ({ cls := .type "list", data := .seq ys.toArray n2 } : Obj)) ∈ fix)
    (F : Fr h₀ L s.heap m₀) (N : News h₀ L s.heap (nx₀ ++ fix)) (hff : ∀ q ∈ nx₀, AllNe q.1 fix) (hJ : J 0 m₀ nx₀)
    (turn : ∀ i T x y m₁ nx h tk tl, xs[i]? = some x → ys[i]? = some y → J i m₁ nx → (∀ p ∈ fix, p ∈ tl) → (∀ q ∈ nx, AllNe q.1 tl) → IsTup h T #[x, y] → Fr h₀ L h m₁ → News h₀ L h (nx ++ tl) →
      wpAny (model prog w) A (assign (.Tuple elts kk pos) env (.ref T)) (fun _ s₂ => wpAny (model prog w) A (execs body env) (TurnEnd h₀ L tl (J (i + 1)) { s with heap := h, toks := tk } Q) E s₂) E { s with heap := h, toks := tk })
    (done : ∀ m₁ nx h tk, J xs.length m₁ nx → Fr h₀ L h m₁ → News h₀ L h (nx ++ fix) → (∀ q ∈ nx, AllNe q.1 fix) → Q .next { s with heap := h, toks := tk }) :
    wpAny (model prog w) A (call (.type "zip") [.ref l1, .ref l2]) (fun xv s₁ => wpAny (model prog w) A (pyIter xv) (fun it s₂ => TurnsAt prog w A h₀ env (.Tuple elts kk pos) body Q E it s₂) E s₁) E s := by
  subst hL
  refine ktu_zip (n1 := n1) (n2 := n2) (xs := xs) (ys := ys) hh F N (List.mem_append_right _ hm1) rfl rfl (List.mem_append_right _ hm2) rfl rfl fun I hI => ?_
  have hws : ∀ q ∈ nx₀ ++ fix, ∀ a ∈ ([(I + 4, "zip"), (I + 2, "tuple"), (I + 3, "tuple"), (I, "list_iterator"), (I + 1, "list_iterator")] : List (Addr × String)).map (·.1), q.1 ≠ a := by
    intro q hq a ha e
    have h1 := hI q hq
    have h2 : I ≤ a := by
      simp only [List.map_cons, List.map_nil, List.mem_cons, List.not_mem_nil, or_false] at ha
      rcases ha with rfl | rfl | rfl | rfl | rfl
      · exact Nat.le_add_right _ _
      · exact Nat.le_add_right _ _
      · exact Nat.le_add_right _ _
      · exact Nat.le_refl _
      · exact Nat.le_add_right _ _
    rw [e] at h1
    exact absurd h1 (Nat.not_lt.mpr h2)
  have := zip_items (prog := prog) (w := w) (A := A) (E := E) (s := s) (env := env) (h₀ := h₀) (body := body) (Q := Q) (fix := fix) (target := .Tuple elts kk pos) (ws := [(I + 4, "zip"), (I + 2, "tuple"), (I + 3, "tuple"), (I, "list_iterator"), (I + 1, "list_iterator")])
    (keep := [(l1, { cls := .type "list", data := .seq xs.toArray n1 }), (l2, { cls := .type "list", data := .seq ys.toArray n2 })]) (xs := xs) (ys := ys) J rfl hlen
    (fun p hp => by
      rcases List.mem_cons.mp hp with rfl | hp
      · exact hm1
      · rw [List.mem_singleton.mp hp]; exact hm2)
    (fun q hq => hws q (List.mem_append_right _ hq)) turn done xs.length 0 m₀ nx₀ (by omega) hJ hff (fun q hq => hws q (List.mem_append_left _ hq))
  exact this
end

namespace Bo
open Builtin
open PySem.Sem (wp)
abbrev boundO (id : String) (x : Addr) : Obj := { cls := .type "builtin_function_or_method", data := .fields #[.builtin id, .ref x] }
theorem look_get : typeLookup (.type "method_descriptor") "__get__" = pure (some (.builtin "method_descriptor.__get__")) := by rw [typeLookup_type, builtinLookup_eq_fast]; kernel_rfl
theorem look_set : typeLookup (.type "method_descriptor") "__set__" = pure none := by rw [typeLookup_type, builtinLookup_eq_fast]; kernel_rfl
theorem look_delete : typeLookup (.type "method_descriptor") "__delete__" = pure none := by rw [typeLookup_type, builtinLookup_eq_fast]; kernel_rfl
theorem look_append : typeLookup (.type "list") "append" = pure (some (.builtin "list.append")) := by rw [typeLookup_type, builtinLookup_eq_fast]; kernel_rfl
theorem type_append : typeOf (.builtin "list.append") = pure (.type "method_descriptor") := by show builtinType _ = _; rw [builtinType_eq_fast]; kernel_rfl
theorem look_pack : typeLookup (.type "_struct.Struct") "pack" = pure (some (.builtin "_struct.Struct.pack")) := by rw [typeLookup_type, builtinLookup_eq_fast]; kernel_rfl
theorem type_pack : typeOf (.builtin "_struct.Struct.pack") = pure (.type "method_descriptor") := by show builtinType _ = _; rw [builtinType_eq_fast]; kernel_rfl
theorem look_clear : typeLookup (.type "list") "clear" = pure (some (.builtin "list.clear")) := by rw [typeLookup_type, builtinLookup_eq_fast]; kernel_rfl
theorem type_clear : typeOf (.builtin "list.clear") = pure (.type "method_descriptor") := by show builtinType _ = _; rw [builtinType_eq_fast]; kernel_rfl
theorem slot_get : Slot "method_descriptor" "__get__" "method_descriptor.__get__" :=
  .of (owner := "method_descriptor") (n := "__get__") (by rw [typeLookup_type, builtinLookup_eq_fast]; kernel_rfl) (by decide +kernel) (by decide +kernel) (by decide +kernel)
    (by first | exact .inl (by decide +kernel) | exact .inr (by decide +kernel)) (by rw [isSubtype_type]; kernel_rfl)
theorem entry_get : entryFor table "method_descriptor.__get__" = some «method_descriptor.__get__» := by first | exact entryFor_of_tree (by kernel_rfl) | exact entryFor_of_fast (by kernel_rfl)
theorem args_get (a b c : Value) : argsOk "method_descriptor.__get__" ⟨[a, b, c], []⟩ := by unfold argsOk; kernel_rfl
section
variable {prog : Program} {w : World} {A : Around} {E : Value → Shared → Prop} {s : Shared}
theorem get_meets {a : Addr} {T id : String} (hsub : isSubtype (.type T) (.type T) = pure true) (hcut : (".".intercalate (id.cutAt '.').dropLast) = T) (htold : Manifest.toldItsClass.contains id = false) :
    Meets («method_descriptor.__get__» ⟨[.builtin id, .ref a, .type T], []⟩) (fun _ R s => s.TypeIs (.ref a) T ∧ R (.ok (.ret (.ref s.heap.objs.size))) { s with heap := s.heap.push (boundO id a) }) := by
  refine .of_wp fun prog w A R s hS => ?_
  obtain ⟨hT, h⟩ := hS
  unfold «method_descriptor.__get__»
  repeat (any_goals (first | assumption | wp_step))
  refine bm_if_false (by rw [htold]) ?_
  refine wpAny_bind ?_
  refine wpAny_bind ?_
  show wpAny _ _ (pure (PySem.Str.ofString ((id.cutAt '.').getLastD ""), Value.type (".".intercalate (id.cutAt '.').dropLast))) _ _ _
  rw [hcut]
  refine wpAny_pure ?_
  refine wpAny_bind (wpAny_isInstance hT hsub ?_)
  refine bm_if_false rfl ?_
  refine wpAny_pure ?_
  refine wpAny_bind ?_
  unfold newFields
  exact wpAny_newObj_type (wpAny_pure ⟨_, rfl, h⟩) (by size_fits)

theorem ga_list (a : Addr) (vs : Array Value) (k : Nat) (name : PySem.Str) (id : String) (u : Tok) (hl : typeLookup (.type "list") name = pure (some (.builtin id))) (hty : typeOf (.builtin id) = pure (.type "method_descriptor"))
    (hname : (["__module__", "__name__", "__qualname__", "__doc__", "__annotations__"] : List PySem.Str).contains name = false) (hcut : (".".intercalate (id.cutAt '.').dropLast) = "list") (htold : Manifest.toldItsClass.contains id = false) :
    Meets (Builtin.«object.__getattribute__» ⟨[.ref a, .str name u], []⟩) (fun _ R s => s.heap.get? a = some { cls := .type "list", data := .seq vs k } ∧ R (.ok (.ret (.ref s.heap.objs.size))) { s with heap := s.heap.push (boundO id a) }) := by
  refine .of_wp fun prog w A R s hS => ?_
  obtain ⟨hp, g, d, tk, os⟩ := s
  obtain ⟨hx, h⟩ := hS
  have hT : (⟨hp, g, d, tk, os⟩ : Shared).TypeIs (.ref a) "list" := ⟨_, hx, rfl⟩
  have hB : (⟨hp, g, d, tk, os⟩ : Shared).TypeIs (.builtin id) "method_descriptor" := hty
  have f1 := look_get
  have f2 := look_set
  have f3 := look_delete
  unfold Builtin.«object.__getattribute__»
  repeat (any_goals (first | assumption | wp_step))
  simp only [hname, Bool.false_eq_true, if_false]
  repeat (any_goals (first | assumption | ((with_reducible show wpAny _ _ (call (Value.builtin "method_descriptor.__get__") _ _) _ _ _); refine call_meets slot_get hB entry_get (args_get _ _ _) (get_meets (T := "list") F.sub_list_list hcut htold) ⟨hT, ?_⟩) | wp_step))
  all_goals exact wpAny_pure ⟨_, rfl, h⟩

theorem attr_list {a : Addr} {vs : Array Value} {k : Nat} {name : PySem.Str} {id : String} {Q : Value → Shared → Prop} (hx : s.heap.get? a = some { cls := .type "list", data := .seq vs k }) (hl : typeLookup (.type "list") name = pure (some (.builtin id))) (hty : typeOf (.builtin id) = pure (.type "method_descriptor"))
    (hname : (["__module__", "__name__", "__qualname__", "__doc__", "__annotations__"] : List PySem.Str).contains name = false) (hcut : (".".intercalate (id.cutAt '.').dropLast) = "list") (htold : Manifest.toldItsClass.contains id = false) (hsz : name.length ≤ 1000)
    (h : ∀ tk, Q (.ref s.heap.objs.size) { s with heap := s.heap.push (boundO id a), toks := tk }) : wpAny (model prog w) A (getAttr (.ref a) name true) Q E s := by
  obtain ⟨hp, g, d, tk, os⟩ := s
  have hT : ∀ tk', (⟨hp, g, d, tk', os⟩ : Shared).TypeIs (.ref a) "list" := fun _ => ⟨_, hx, rfl⟩
  have f3 := F.slot_list_getattribute.lookup
  have f4 := F.slot_list_getattribute.bind (.ref a)
  have hsz' : name.length ≤ sizeLine := by rw [sizeLine_eq]; omega
  unfold getAttr getAttrBy
  repeat (any_goals (first | assumption | exact hT _ | ((with_reducible show wpAny _ _ (call (Value.builtin "list.__getattribute__") _ _) _ _ _); refine call_meets F.slot_list_getattribute (hT _) am_entry_list_getattribute (F.args_list_getattribute_2 _ _) (ga_list a vs k name id _ hl hty hname hcut htold) ⟨hx, ?_⟩) | wp_step))
  show wpAny _ _ (handedOut (Value.ref _)) Q E _
  unfold handedOut
  repeat (any_goals (first | exact h _ | assumption | wp_step))
end
end Bo
namespace Bo
open Builtin
theorem entry_append : entryFor table "list.append" = some «list.append» := by first | exact entryFor_of_tree (by kernel_rfl) | exact entryFor_of_fast (by kernel_rfl)
theorem sig_append : Manifest.signature? "list.append" = some ⟨.oneArg, "list.append", "append", .self, [⟨"object", .posOnly, true⟩]⟩ := by kernel_rfl
theorem kind_append : builtinKind "list.append" = some .method := by decide +kernel
theorem plain_append : plainId "list.append" = true := by decide +kernel
section
variable {prog : Program} {w : World} {A : Around} {E : Value → Shared → Prop} {s : Shared}
theorem sub_list_module : isSubtype (.type "list") (.type "module") = pure false := by rw [isSubtype_type]; kernel_rfl
theorem call_listM {id : String} {b : Builtin} {sig : Manifest.Signature} {args : List Value} {x a : Addr} {Q : Value → Shared → Prop} (hsig : Manifest.signature? id = some sig) (hkind : builtinKind id = some .method) (hva : (Manifest.varargsMethods.contains id || false) = false) (hargs : Bind.checkArgs id { sig with full := s!"{Bind.lastOf "list"}.{Bind.lastOf id}" } ⟨.ref a :: args, []⟩ = pure ()) (hplain : plainId id = true) (hb : entryFor table id = some b)
    (hx : s.heap.get? x = some (boundO id a)) (hL : ∃ o, s.heap.get? a = some o ∧ o.cls = .type "list" ∧ (∃ xs k, o.data = .seq xs k))
    (hc : wpAny (model prog w) A.in1 (b ⟨.ref a :: args, []⟩) (fun fin s' => ∃ v, fin = .done (.ret v) ∧ Q v s') E s) :
    wpAny (model prog w) A (call (.ref x) args) Q E s := by
  have hT : s.TypeIs (.ref a) "list" := by obtain ⟨o, ho, hc, _⟩ := hL; exact ⟨o, ho, hc⟩
  refine wpAny_call (codeAny_of_tree ?_)
  show wpAny _ A.in1 (callAny (.ref x) ⟨args, []⟩) _ _ s
  unfold callAny
  refine wpAny_bind (wpAny_load hx ?_)
  dsimp only
  refine bm_if_true rfl ?_
  refine bm_if_true rfl ?_
  refine wpAny_bind ?_
  unfold checkBoundCall
  rw [hsig]
  dsimp only
  rw [hkind]
  show wpAny _ _ (if (Manifest.AttrKind.method != .method && Manifest.AttrKind.method != .classMethod) = true then _ else _) _ _ _
  refine bm_if_false (by decide) ?_
  refine wpAny_bind (wpAny_isInstance hT sub_list_module ?_)
  refine bm_if_false hva ?_
  obtain ⟨o, ho, hoc, hod⟩ : ∃ o, s.heap.get? a = some o ∧ o.cls = .type "list" ∧ (∃ xs k, o.data = .seq xs k) := hL
  obtain ⟨xs, k, hod⟩ := hod
  refine wpAny_bind ?_
  simp only [isType, loadHead]
  refine wpAny_bind (wpAny_loadPart ho ?_)
  rw [hod]
  refine wpAny_pure ?_
  refine bm_if_false rfl ?_
  refine wpAny_bind (wpAny_typeOf hT ?_)
  dsimp only
  refine wpAny_of_eq (a := ()) hargs ?_
  show wpAny _ _ (again _) _ _ _
  refine wpAny_pure ⟨plainId_quiet hplain _, codeAny_builtin hb ?_⟩
  rw [Around.under_plainId hplain _]
  refine wpAny_mono hc (fun fin s' hf => ?_) fun _ _ e => e
  obtain ⟨v, rfl, hv⟩ := hf
  exact hv

theorem sig_clear : Manifest.signature? "list.clear" = some ⟨.noArgs, "list.clear", "clear", .self, []⟩ := by kernel_rfl
theorem kind_clear : builtinKind "list.clear" = some .method := by decide +kernel
theorem plain_clear : plainId "list.clear" = true := by decide +kernel
theorem entry_clear : entryFor table "list.clear" = some «list.clear» := by first | exact entryFor_of_tree (by kernel_rfl) | exact entryFor_of_fast (by kernel_rfl)
variable {h₀ : Heap} {L : Addr} {m : PySem.Str → Option Value}
theorem append {x a : Addr} {v : Value} {vs : List Value} {k : Nat} {pre post : List (Addr × Obj)} {Q : Value → Shared → Prop} (F : Fr h₀ L s.heap m) (N : News h₀ L s.heap (pre ++ (a, Ls.lsO vs k) :: post)) (hx : (x, boundO "list.append" a) ∈ pre ++ (a, Ls.lsO vs k) :: post)
    (o1 : ∀ p ∈ pre, p.1 ≠ a) (o2 : ∀ p ∈ post, p.1 ≠ a) (hz : vs.length ≤ 1000) (h : ∀ h' k', Fr h₀ L h' m → News h₀ L h' (pre ++ (a, Ls.lsO (vs ++ [v]) k') :: post) → Q .none { s with heap := h' }) :
    wpAny (model prog w) A (call (.ref x) [v]) Q E s := by
  have ha := (N _ (List.mem_append_right _ List.mem_cons_self)).1
  refine call_listM (args := [v]) sig_append kind_append (by decide +kernel) (by kernel_rfl) plain_append entry_append (N _ hx).1 ⟨_, ha, rfl, _, _, rfl⟩ ?_
  show wpAny _ _ (updateSeq a (·.push v) >>= fun _ => ret .none) _ _ s
  refine wpAny_bind ?_
  have e : Obj.mapSeq (·.push v) (Ls.lsO vs k) = Ls.lsO (vs ++ [v]) (k + 1) := by simp [Obj.mapSeq, Ls.lsO]
  have U := news_upd (f := Obj.mapSeq (·.push v)) F N o1 o2 e rfl
  exact wpAny_updateSeq (f := (·.push v)) ha rfl (wpAny_pure ⟨.none, rfl, h _ _ U.1 U.2⟩) (by rw [sizeLine_eq, List.size_toArray]; omega) (by rw [sizeLine_eq, Array.size_push, List.size_toArray]; omega)
theorem clear {x a : Addr} {vs : List Value} {k : Nat} {pre post : List (Addr × Obj)} {Q : Value → Shared → Prop} (F : Fr h₀ L s.heap m) (N : News h₀ L s.heap (pre ++ (a, Ls.lsO vs k) :: post)) (hx : (x, boundO "list.clear" a) ∈ pre ++ (a, Ls.lsO vs k) :: post)
    (o1 : ∀ p ∈ pre, p.1 ≠ a) (o2 : ∀ p ∈ post, p.1 ≠ a) (hz : vs.length ≤ 1000) (h : ∀ h' k', Fr h₀ L h' m → News h₀ L h' (pre ++ (a, Ls.lsO [] k') :: post) → Q .none { s with heap := h' }) :
    wpAny (model prog w) A (call (.ref x) []) Q E s := by
  have ha := (N _ (List.mem_append_right _ List.mem_cons_self)).1
  refine call_listM (args := []) sig_clear kind_clear (by decide +kernel) (by kernel_rfl) plain_clear entry_clear (N _ hx).1 ⟨_, ha, rfl, _, _, rfl⟩ ?_
  unfold «list.clear»
  refine wpAny_bind (wpAny_of_eq (a := .ref a) rfl ?_)
  refine wpAny_bind ?_
  show wpAny _ _ (seqItems? (.ref a) >>= _) _ _ s
  refine wpAny_bind (wpAny_seqItems ha rfl (wpAny_pure ?_))
  refine wpAny_bind ?_
  show wpAny _ _ (updateSeq a (fun _ => #[])) _ _ _
  have e : Obj.mapSeq (fun _ => #[]) (Ls.lsO vs k) = Ls.lsO [] (if (0 == vs.length) = true then k else k + 1) := by simp [Obj.mapSeq, Ls.lsO]
  have U := news_upd (f := Obj.mapSeq (fun _ => #[])) F N o1 o2 e rfl
  refine wpAny_updateSeq (f := fun _ => #[]) ha rfl ?_ (by rw [sizeLine_eq, List.size_toArray]; omega) (by simp)
  exact wpAny_bind (wpAny_letGo (wpAny_pure ⟨.none, rfl, h _ _ U.1 U.2⟩))
end
end Bo

namespace Bo
open Builtin
open PySem.Sem (wp)
theorem slot_ga_S : Slot "_struct.Struct" "__getattribute__" "_struct.Struct.__getattribute__" :=
  .of (owner := "_struct.Struct") (n := "__getattribute__") (by rw [typeLookup_type, builtinLookup_eq_fast]; kernel_rfl) (by decide +kernel) (by decide +kernel) (by decide +kernel)
    (by first | exact .inl (by decide +kernel) | exact .inr (by decide +kernel)) (by rw [isSubtype_type]; kernel_rfl)
theorem entry_ga_S : entryFor table "_struct.Struct.__getattribute__" = some Builtin.«object.__getattribute__» :=
  entryFor_alias (id' := "object.__getattribute__") (by kernel_rfl) (by decide +kernel) (by decide +kernel) (by kernel_rfl)
theorem args_ga_S (a b : Value) : argsOk "_struct.Struct.__getattribute__" ⟨[a, b], []⟩ := by unfold argsOk; kernel_rfl
theorem sub_S : isSubtype (.type "_struct.Struct") (.type "_struct.Struct") = pure true := by rw [isSubtype_type]; kernel_rfl
section
variable {prog : Program} {w : World} {A : Around} {E : Value → Shared → Prop} {s : Shared}
theorem ga_struct (a : Addr) (fb : Array UInt8) (tb : Tok) (name : PySem.Str) (id : String) (u : Tok) (hl : typeLookup (.type "_struct.Struct") name = pure (some (.builtin id))) (hty : typeOf (.builtin id) = pure (.type "method_descriptor"))
    (hname : (["__module__", "__name__", "__qualname__", "__doc__", "__annotations__"] : List PySem.Str).contains name = false) (hcut : (".".intercalate (id.cutAt '.').dropLast) = "_struct.Struct") (htold : Manifest.toldItsClass.contains id = false) :
    Meets (Builtin.«object.__getattribute__» ⟨[.ref a, .str name u], []⟩) (fun _ R s => s.heap.get? a = some (St.objS fb tb) ∧ R (.ok (.ret (.ref s.heap.objs.size))) { s with heap := s.heap.push (boundO id a) }) := by
  refine .of_wp fun prog w A R s hS => ?_
  obtain ⟨hp, g, d, tk, os⟩ := s
  obtain ⟨hx, h⟩ := hS
  have hT : (⟨hp, g, d, tk, os⟩ : Shared).TypeIs (.ref a) "_struct.Struct" := ⟨_, hx, rfl⟩
  have hB : (⟨hp, g, d, tk, os⟩ : Shared).TypeIs (.builtin id) "method_descriptor" := hty
  have f1 := look_get
  have f2 := look_set
  have f3 := look_delete
  unfold Builtin.«object.__getattribute__»
  repeat (any_goals (first | assumption | wp_step))
  simp only [hname, Bool.false_eq_true, if_false]
  repeat (any_goals (first | assumption | ((with_reducible show wpAny _ _ (call (Value.builtin "method_descriptor.__get__") _ _) _ _ _); refine call_meets slot_get hB entry_get (args_get _ _ _) (get_meets (T := "_struct.Struct") sub_S hcut htold) ⟨hT, ?_⟩) | wp_step))
  all_goals exact wpAny_pure ⟨_, rfl, h⟩

theorem attr_struct {a : Addr} {fb : Array UInt8} {tb : Tok} {name : PySem.Str} {id : String} {Q : Value → Shared → Prop} (hx : s.heap.get? a = some (St.objS fb tb)) (hl : typeLookup (.type "_struct.Struct") name = pure (some (.builtin id))) (hty : typeOf (.builtin id) = pure (.type "method_descriptor"))
    (hname : (["__module__", "__name__", "__qualname__", "__doc__", "__annotations__"] : List PySem.Str).contains name = false) (hcut : (".".intercalate (id.cutAt '.').dropLast) = "_struct.Struct") (htold : Manifest.toldItsClass.contains id = false) (hsz : name.length ≤ 1000)
    (h : ∀ tk, Q (.ref s.heap.objs.size) { s with heap := s.heap.push (boundO id a), toks := tk }) : wpAny (model prog w) A (getAttr (.ref a) name true) Q E s := by
  obtain ⟨hp, g, d, tk, os⟩ := s
  have hT : ∀ tk', (⟨hp, g, d, tk', os⟩ : Shared).TypeIs (.ref a) "_struct.Struct" := fun _ => ⟨_, hx, rfl⟩
  have f3 := slot_ga_S.lookup
  have f4 := slot_ga_S.bind (.ref a)
  have hsz' : name.length ≤ sizeLine := by rw [sizeLine_eq]; omega
  unfold getAttr getAttrBy
  repeat (any_goals (first | assumption | exact hT _ | ((with_reducible show wpAny _ _ (call (Value.builtin "_struct.Struct.__getattribute__") _ _) _ _ _); refine call_meets slot_ga_S (hT _) entry_ga_S (args_ga_S _ _) (ga_struct a fb tb name id _ hl hty hname hcut htold) ⟨hx, ?_⟩) | wp_step))
  show wpAny _ _ (handedOut (Value.ref _)) Q E _
  unfold handedOut
  repeat (any_goals (first | exact h _ | assumption | wp_step))

theorem intBytes4 (n : Int) : Struct.intBytes true 4 n = #[((n % 2 ^ (8 * 4)).toNat / 256 ^ 3 % 256).toUInt8, ((n % 2 ^ (8 * 4)).toNat / 256 ^ 2 % 256).toUInt8, ((n % 2 ^ (8 * 4)).toNat / 256 ^ 1 % 256).toUInt8, ((n % 2 ^ (8 * 4)).toNat / 256 ^ 0 % 256).toUInt8] := by
  unfold Struct.intBytes Memoryview.toLittleEndian
  dsimp only
  rw [if_pos rfl, List.reverse_toArray]
  rfl
theorem pack_ok {id : String} {n : Int} {t : Tok} {Q : Fin → Shared → Prop} (h0 : 0 ≤ n) (h1 : n < 4294967296)
    (h : ∀ b : Array UInt8, b = Struct.intBytes true 4 n → ∀ t' k, Q (.done (.ret (.bytes b t'))) { s with toks := k }) :
    wpAny (model prog w) A (Struct.packed id "pack" ⟨true, false, [⟨'I', 1, 0, 4⟩], 4, 1⟩ [.int n t]) Q E s := by
  unfold Struct.packed
  refine bm_if_false rfl ?_
  refine bm_if_false (by decide) ?_
  refine wpAny_bind ?_
  unfold Struct.packEach
  simp only [List.forIn_cons, List.forIn_nil, Std.Legacy.Range.forIn_eq_forIn_range']
  refine wpAny_bind (wpAny_bind ?_)
  refine bm_if_false (by decide) ?_
  refine bm_if_false (by decide) ?_
  rw [show List.range' 0 ([:1] : Std.Legacy.Range).size = [0] from rfl]
  simp only [List.forIn_cons, List.forIn_nil]
  refine wpAny_bind (wpAny_bind ?_)
  refine wpAny_bind ?_
  refine wpAny_bind (wpAny_attempt ?_)
  refine wpAny_of_eq (a := n) rfl ?_
  dsimp only
  refine wpAny_bind (wpAny_pure ?_)
  refine bm_if_false ?_ ?_
  · simp; omega
  obtain ⟨b0, b1, b2, b3, hb⟩ : ∃ b0 b1 b2 b3, Struct.intBytes true 4 n = #[b0, b1, b2, b3] := ⟨_, _, _, _, intBytes4 n⟩
  rw [hb] at h ⊢
  refine wpAny_pure (wpAny_bind (wpAny_pure (wpAny_pure (wpAny_pure (wpAny_pure (wpAny_pure (wpAny_pure (wpAny_bind ?_))))))))
  refine wpAny_mkBytes (wpAny_pure (h _ rfl _ _)) (by rw [sizeLine_eq]; exact Nat.le_of_ble_eq_true rfl)
theorem plainExc_struct : PlainExc "struct.error" := ⟨fun _ => rfl, by decide +kernel⟩
theorem pack_over {id : String} {n : Int} {t : Tok} {Q : Fin → Shared → Prop} (h1 : 4294967296 ≤ n) (hh : A.handled = none)
    (h : ∀ h' tk e, Heap.NewExc s.heap h' e "struct.error" → E (.ref e) { s with heap := h', toks := tk }) :
    wpAny (model prog w) A (Struct.packed id "pack" ⟨true, false, [⟨'I', 1, 0, 4⟩], 4, 1⟩ [.int n t]) Q E s := by
  unfold Struct.packed
  refine bm_if_false rfl ?_
  refine bm_if_false (by decide) ?_
  refine wpAny_bind ?_
  unfold Struct.packEach
  simp only [List.forIn_cons, List.forIn_nil, Std.Legacy.Range.forIn_eq_forIn_range']
  refine wpAny_bind (wpAny_bind ?_)
  refine bm_if_false (by decide) ?_
  refine bm_if_false (by decide) ?_
  rw [show List.range' 0 ([:1] : Std.Legacy.Range).size = [0] from rfl]
  simp only [List.forIn_cons, List.forIn_nil]
  refine wpAny_bind (wpAny_bind ?_)
  refine wpAny_bind ?_
  refine wpAny_bind (wpAny_attempt ?_)
  refine wpAny_of_eq (a := n) rfl ?_
  dsimp only
  refine wpAny_bind (wpAny_pure ?_)
  refine bm_if_true ?_ ?_
  · simp; omega
  refine wpAny_bind (wpAny_rule ?_)
  unfold Struct.structError
  exact wpAny_bind (wpAny_raiseErrorMade plainExc_struct hh h (by decide +kernel))
theorem sig_pack : Manifest.signature? "_struct.Struct.pack" = some ⟨.positional, "Struct.pack", "pack", .self, [⟨"values", .varPos, false⟩]⟩ := by kernel_rfl
theorem kind_pack : builtinKind "_struct.Struct.pack" = some .method := by decide +kernel
theorem entry_pack : entryFor table "_struct.Struct.pack" = some «_struct.Struct.pack» := by first | exact entryFor_of_tree (by kernel_rfl) | exact entryFor_of_fast (by kernel_rfl)
theorem sub_S_module : isSubtype (.type "_struct.Struct") (.type "module") = pure false := by rw [isSubtype_type]; kernel_rfl
theorem call_packM {v : Value} {x D : Addr} {fb : Array UInt8} {tb : Tok} {Q : Value → Shared → Prop} (hx : s.heap.get? x = some (boundO "_struct.Struct.pack" D)) (hD : s.heap.get? D = some (St.objS fb tb))
    (hc : wpAny (model prog w) (A.under (.builtin "_struct.Struct.pack" ⟨[.ref D, v], []⟩)) («_struct.Struct.pack» ⟨[.ref D, v], []⟩) (fun fin s' => ∃ v, fin = .done (.ret v) ∧ Q v s') E s) :
    wpAny (model prog w) A (call (.ref x) [v]) Q E s := by
  have hT : s.TypeIs (.ref D) "_struct.Struct" := ⟨_, hD, rfl⟩
  refine wpAny_call (codeAny_of_tree ?_)
  show wpAny _ A.in1 (callAny (.ref x) ⟨[v], []⟩) _ _ s
  unfold callAny
  refine wpAny_bind (wpAny_load hx ?_)
  dsimp only
  refine bm_if_true rfl ?_
  refine bm_if_true rfl ?_
  refine wpAny_bind ?_
  unfold checkBoundCall
  rw [sig_pack]
  dsimp only
  rw [kind_pack]
  show wpAny _ _ (if (Manifest.AttrKind.method != .method && Manifest.AttrKind.method != .classMethod) = true then _ else _) _ _ _
  refine bm_if_false (by decide) ?_
  refine wpAny_bind (wpAny_isInstance hT sub_S_module ?_)
  refine bm_if_false (by decide +kernel) ?_
  refine wpAny_bind ?_
  simp only [isType, loadHead]
  refine wpAny_bind (wpAny_loadPart hD ?_)
  refine wpAny_pure ?_
  refine bm_if_false rfl ?_
  refine wpAny_bind (wpAny_typeOf hT ?_)
  dsimp only
  refine wpAny_of_eq (a := ()) (by kernel_rfl) ?_
  show wpAny _ _ (again _) _ _ _
  refine wpAny_pure ⟨Code.quiet_builtin _ (by decide +kernel), codeAny_builtin entry_pack ?_⟩
  refine wpAny_mono hc (fun fin s' hf => ?_) fun _ _ e => e
  obtain ⟨v, rfl, hv⟩ := hf
  exact hv
theorem call_pack_ok {x D : Addr} {fb : Array UInt8} {tb t : Tok} {n : Int} {Q : Value → Shared → Prop} (hx : s.heap.get? x = some (boundO "_struct.Struct.pack" D)) (hD : s.heap.get? D = some (St.objS fb tb)) (hp : Struct.parse fb = pure ⟨true, false, [⟨'I', 1, 0, 4⟩], 4, 1⟩) (h0 : 0 ≤ n) (h1 : n < 4294967296)
    (h : ∀ t' k, Q (.bytes (Struct.intBytes true 4 n) t') { s with toks := k }) : wpAny (model prog w) A (call (.ref x) [.int n t]) Q E s := by
  refine call_packM hx hD ?_
  unfold «_struct.Struct.pack»
  refine wpAny_bind (wpAny_of_eq (a := ()) rfl ?_)
  dsimp only
  refine wpAny_bind (St.format_eq hD hp ?_)
  exact pack_ok h0 h1 fun b hb t' k => ⟨_, rfl, by rw [hb]; exact h t' k⟩
theorem call_pack_over {x D : Addr} {fb : Array UInt8} {tb t : Tok} {n : Int} {Q : Value → Shared → Prop} (hx : s.heap.get? x = some (boundO "_struct.Struct.pack" D)) (hD : s.heap.get? D = some (St.objS fb tb)) (hp : Struct.parse fb = pure ⟨true, false, [⟨'I', 1, 0, 4⟩], 4, 1⟩) (h1 : 4294967296 ≤ n) (hh : A.handled = none)
    (h : ∀ h' tk e, Heap.NewExc s.heap h' e "struct.error" → E (.ref e) { s with heap := h', toks := tk }) : wpAny (model prog w) A (call (.ref x) [.int n t]) Q E s := by
  refine call_packM hx hD ?_
  unfold «_struct.Struct.pack»
  refine wpAny_bind (wpAny_of_eq (a := ()) rfl ?_)
  dsimp only
  refine wpAny_bind (St.format_eq hD hp ?_)
  exact pack_over h1 hh h
end
end Bo

namespace Bo
section
variable {prog : Program} {w : World} {A : Around} {E : Value → Shared → Prop} {s : Shared} {h₀ : Heap} {L : Addr} {m : PySem.Str → Option Value} {news : List (Addr × Obj)}
theorem attrK_struct {a : Addr} {fb : Array UInt8} {tb : Tok} {name : PySem.Str} {id : String} {Q : Value → Shared → Prop} (F : Fr h₀ L s.heap m) (N : News h₀ L s.heap news) (hm : (a, St.objS fb tb) ∈ news) (hl : typeLookup (.type "_struct.Struct") name = pure (some (.builtin id))) (hty : typeOf (.builtin id) = pure (.type "method_descriptor"))
    (hname : (["__module__", "__name__", "__qualname__", "__doc__", "__annotations__"] : List PySem.Str).contains name = false) (hcut : (".".intercalate (id.cutAt '.').dropLast) = "_struct.Struct") (htold : Manifest.toldItsClass.contains id = false) (hsz : name.length ≤ 1000)
    (h : ∀ P h' tk, Fr h₀ L h' m → News h₀ L h' ((P, boundO id a) :: news) → AllLt P news → Q (.ref P) { s with heap := h', toks := tk }) : wpAny (model prog w) A (getAttr (.ref a) name true) Q E s :=
  attr_struct (N _ hm).1 hl hty hname hcut htold hsz fun tk => h _ _ tk (F.push _) (News.push F N _) (allLt_intro fun p hp => Heap.lt_size (N p hp).1)
theorem attrK_list {a : Addr} {vs : List Value} {k : Nat} {name : PySem.Str} {id : String} {Q : Value → Shared → Prop} (F : Fr h₀ L s.heap m) (N : News h₀ L s.heap news) (hm : (a, Ls.lsO vs k) ∈ news) (hl : typeLookup (.type "list") name = pure (some (.builtin id))) (hty : typeOf (.builtin id) = pure (.type "method_descriptor"))
    (hname : (["__module__", "__name__", "__qualname__", "__doc__", "__annotations__"] : List PySem.Str).contains name = false) (hcut : (".".intercalate (id.cutAt '.').dropLast) = "list") (htold : Manifest.toldItsClass.contains id = false) (hsz : name.length ≤ 1000)
    (h : ∀ P h' tk, Fr h₀ L h' m → News h₀ L h' ((P, boundO id a) :: news) → AllLt P news → Q (.ref P) { s with heap := h', toks := tk }) : wpAny (model prog w) A (getAttr (.ref a) name true) Q E s :=
  attr_list (N _ hm).1 hl hty hname hcut htold hsz fun tk => h _ _ tk (F.push _) (News.push F N _) (allLt_intro fun p hp => Heap.lt_size (N p hp).1)
end
end Bo

local macro_rules | `(tactic| walk_at "enter") => `(tactic| (
  (case ho => k_dflt k_is)
  (case hcd => k_dflt k_is)
  (case hbind => (intro s' X'; exact BindsTo.of_eq rfl))
  (case hloc => exact locs rfl)
  (case hco => rfl)
  (case hgen => rfl)
  (case hk => rfl)
  (case hcell => decide)))
local macro_rules | `(tactic| walk_at "exec For Name Name cons nil") => `(tactic| refine Stop.intro ?_)
local macro_rules | `(tactic| walk_at "exec For Name Call cons nil") => `(tactic| refine Stop.intro ?_)
local macro_rules | `(tactic| walk_at "for") => `(tactic| ((show wpAny _ _ (exec _ _) _ _ _); with_unfolding_all refine' For_invVF (by k_asm) (by rfl) (by rfl) ?_))
local macro_rules | `(tactic| walk_at "end") => `(tactic| ((try dsimp only); (try k_unfold); (try dsimp only)))
local macro_rules | `(tactic| walk_at "off") => `(tactic| (repeat' (first | exact off_refl | exact ovr_offOf (by rfl) | (refine off_upd (by rfl) ?_))))

local macro_rules | `(tactic| walk_at "sz") => `(tactic| first | omega | ((try simp only [List.length_append, List.length_replicate, List.length_cons, List.length_nil, Bb.ofInts, List.length_map]); omega) | (simp; omega))
local macro_rules | `(tactic| walk_at "binaryOp Add bytes bytes") => `(tactic| ((with_reducible show wpAny _ _ (binaryOp Operator.Add (Value.bytes (List.toArray _) _) (Value.bytes (List.toArray _) _)) _ _ _); (refine Bb.add (by walk_at "sz") ?_); intro _ _))
local macro_rules | `(tactic| walk_at "call builtin:len") => `(tactic| ((with_reducible show wpAny _ _ (call (Value.builtin "len") [Value.bytes (List.toArray _) _]) _ _ _); (refine Bb.len (by walk_at "sz") ?_)))
local macro_rules | `(tactic| walk_at "call type:bytes") => `(tactic| ((with_reducible show wpAny _ _ (call (Value.type "bytes") [Value.int _ _]) _ _ _); (refine Bb.bytes_int (by walk_at "idx") (by walk_at "idx") ?_); intro _ _))
local macro_rules | `(tactic| walk_at "idx") => `(tactic| first | omega | (simp only [Int.fmod_eq_emod_of_nonneg, Int.fdiv_eq_ediv_of_nonneg]; omega))
local macro_rules | `(tactic| walk_at "call type:bytes") => `(tactic| ((with_reducible show wpAny _ _ (call (Value.type "bytes") [Value.ref _]) _ _ _); k_dflt (first
  | (refine' Bb.bytes_tup1 ?F ?N ?hm ?h0 ?h1 ?hh ?_; (case F => k_asm); (case N => k_asm); (case hm => k_mem); (case h0 => walk_at "idx"); (case h1 => walk_at "idx"); (case hh => rfl))
  | (refine' Bb.bytes_tup2 ?F ?N ?hm ?h0 ?h1 ?h2 ?h3 ?hh ?_; (case F => k_asm); (case N => k_asm); (case hm => k_mem); (case h0 => walk_at "idx"); (case h1 => walk_at "idx"); (case h2 => walk_at "idx"); (case h3 => walk_at "idx"); (case hh => rfl))); intro _ _ _ F' N'))
local macro_rules | `(tactic| walk_at "subscriptTail") => `(tactic| ((with_reducible show wpAny _ _ (subscriptTail _ (Expr.Slice _ _ none _) (Value.bytes (List.toArray _) _) (Value.ref _)) _ _ _); (with_reducible rename Fr _ _ _ _ => F'); (with_reducible rename News _ _ _ _ => N'); (refine Bb.slice (s := ⟨_, _, _, _, _⟩) F' N' (by constructor) (by constructor) (by walk_at "sz") ?_); intro _ _ _ F' N'))
local macro_rules | `(tactic| k_mem) => `(tactic| assumption)
local macro_rules | `(tactic| walk_at "binaryOp Mod int int") => `(tactic| ((with_reducible show wpAny _ _ (binaryOp Operator.Mod (Value.int _ _) (Value.int _ _)) _ _ _); (refine Ii.mod (by first | decide | omega) ?_)))
local macro_rules | `(tactic| walk_at "binaryOp FloorDiv int int") => `(tactic| ((with_reducible show wpAny _ _ (binaryOp Operator.FloorDiv (Value.int _ _) (Value.int _ _)) _ _ _); (refine Ii.div (by first | decide | omega) (by first | decide | omega) ?_)))
local macro_rules | `(tactic| walk_at "use") => `(tactic| (
  (case B => k_asm)
  (case F => k_asm)
  (case X => k_asm)
  (case N => k_asm)
  (case T => k_asm)
  (case hck => rfl)
  (case hd => ktr_room)
  (case hu => ktr_units)))
local macro_rules | `(tactic| walk_at "led") => `(tactic| ((rename News _ _ _ _ => lN'); (simp only [List.nil_append, List.cons_append, List.singleton_append] at lN')))
local macro_rules | `(tactic| walk_at "newTuple") => `(tactic| (k_dflt (refine' Hh.newTuple ?F ?N ?hsz ?_; (case F => k_asm); (case N => k_asm); (case hsz => size_fits); k_whole); intro D' h' F' N' l1; (simp only [AllLt] at l1); (try k_sweep)))
local macro_rules | `(tactic| walk_at "newList") => `(tactic| (k_dflt (refine' Hh.newList ?F ?N ?hsz ?_; (case F => k_asm); (case N => k_asm); (case hsz => size_fits); k_whole); intro D' h' F' N' l1; (simp only [AllLt] at l1); (try k_sweep)))
local macro_rules | `(tactic| k_all) => `(tactic| (show AllNe _ _; assumption))
local macro_rules | `(tactic| walk_at "setItem ref int") => `(tactic| (k_dflt (refine' kda_set ?F ?N ?U ?hd (intKind_is _ _ _ _) ?hsz ?_; (case F => k_asm); (case N => k_asm); (case U => k_updF); (case hd => assumption); (case hsz => (rw [sizeLine_eq]; first | omega | (refine Nat.le_trans Dd.stored_le ?_; omega))); k_whole); intro h' o' F' N' hdk'))
local macro_rules | `(tactic| walk_at "sub") => `(tactic| ((try simp only [List.nil_append, List.cons_append]); first | exact sub_refl | exact sub_nil | (with_reducible refine sub_take ?_; walk_at "sub") | (refine sub_skip ?_; walk_at "sub") | (refine sub_mem (by k_mem) ?_; walk_at "sub")))
local macro_rules | `(tactic| walk_at "toIf") => `(tactic| repeat' (first | (k_unfold; (try dsimp only)) | ((fail_if_success (with_reducible show wpAny _ _ (exec (Stmt.If _ _ _ _) _) _ _ _)); first | walk1 | (dsimp only; walk1))))
local macro_rules | `(tactic| walk_at "getMethod ref") => `(tactic| ((with_reducible show wpAny _ _ (getMethod (Value.ref _) (PySem.Str.ofString "unpack") _) _ _ _); k_dflt (refine' St.method_unpack (News.get (by k_asm) (by k_mem)) ?_)))
local macro_rules | `(tactic| walk_at "call type:_struct.Struct") => `(tactic| refine Stop.intro ?_)
local macro_rules | `(tactic| walk_at "call builtin:_struct.Struct.unpack") => `(tactic| refine Stop.intro ?_)
local macro_rules | `(tactic| walk_at "comp") => `(tactic| (
  (case hLe => rfl)
  (case hh => rfl)
  (case hsw => with_unfolding_all rfl)
  (case hclos => with_unfolding_all rfl)
  (case hcell => decide)
  (case hkind => with_unfolding_all rfl)
  (case hnames => decide)
  (case hx => with_unfolding_all rfl)
  (case hy => with_unfolding_all rfl)
  (case hp => with_unfolding_all rfl)))
local macro_rules | `(tactic| walk_at "SrcTup") => `(tactic| refine Stop.intro ?_)

theorem top_off_20 : True := by
  w_top off
  trivial
def numberF (first bs : Int) (b : List UInt8) : Int := b.foldl (fun n o => n * bs + (o.toNat : Int) - first) 0
theorem numberF_succ {first bs : Int} {b : List UInt8} {i : Nat} {c : UInt8} (h : b[i]? = some c) : numberF first bs (b.take (i + 1)) = numberF first bs (b.take i) * bs + (c.toNat : Int) - first := by
  unfold numberF
  rw [List.take_add_one, h]; simp

theorem numberF_bound {b : List UInt8} {n : Nat} (h : b.length ≤ n) : 0 ≤ numberF 0 256 b ∧ numberF 0 256 b < 256 ^ n := by
  have key : ∀ (l : List UInt8) (a : Int), 0 ≤ a → 0 ≤ l.foldl (fun n o => n * 256 + (o.toNat : Int) - 0) a ∧ l.foldl (fun n o => n * 256 + (o.toNat : Int) - 0) a < (a + 1) * 256 ^ l.length := by
    intro l
    induction l with
    | nil => intro a ha; simp only [List.foldl_nil, List.length_nil, Int.pow_zero]; omega
    | cons c r ih =>
      intro a ha
      have hc := c.toNat_lt
      have := ih (a * 256 + (c.toNat : Int) - 0) (by omega)
      refine ⟨this.1, Int.lt_of_lt_of_le this.2 ?_⟩
      rw [List.length_cons, Int.pow_succ, Int.mul_comm (256 ^ r.length) 256, ← Int.mul_assoc]
      exact Int.mul_le_mul_of_nonneg_right (by omega) (Int.le_of_lt (Int.pow_pos (by decide)))
  have h1 := key b 0 (by decide)
  refine ⟨h1.1, Int.lt_of_lt_of_le h1.2 ?_⟩
  rw [Int.zero_add, Int.one_mul]
  have := Nat.pow_le_pow_right (show 0 < 256 by decide) h
  exact_mod_cast this
section
variable {w : World} {p : Program} {loose : List PySem.Str} {mean : ExcName → Option Value} {mg mb : PySem.Str → Option Value} {news : List (Addr × Obj)}

theorem c_number (b : List UInt8) (tb : Tok) (first bs : Int) (t1 t2 : Tok)
   (hb0 : 0 ≤ bs) (hb1 : bs ≤ 256) : Does PySem.Challenge.rw_kq0071_01.row.prog w (hd.heap_39 w.params) p loose mean mg mb 71 [.bytes b.toArray tb, .int first t1, .int bs t2] [] news 2 (fun v own => own = [] ∧ ∃ t, v = .int (numberF first bs b) t) := by
  refine' does_def (binds := [(PySem.Str.ofString "octets", .bytes b.toArray tb), (PySem.Str.ofString "first", .int first t1), (PySem.Str.ofString "base", .int bs t2)]) ?ho ?hcd ?hbind ?hloc ?hco ?hgen ?hk ?hcell ?h
  walk_at "enter"
  intro dp un outer A₀ base g L s B F X N T hd hu hlt
  k_fold
  k_steps
  walk_at "for"
  k_steps
  refine' for_bytes (L := L) (nx₀ := []) (fun i m nx => nx = [] ∧ ∃ t, m = ovr [(PySem.Str.ofString "n", .int (numberF first bs (b.take i)) t)] [PySem.Str.ofString "o"] m
    (fun y => [(PySem.Str.ofString "octets", Value.bytes b.toArray tb), (PySem.Str.ofString "first", .int first t1), (PySem.Str.ofString "base", .int bs t2)].reverse.lookup y)) ?hL ?hh ?F ?N ?hff ?hJ ?turn ?done
  case hL => rfl
  case hh => rfl
  case F => k_asm
  case N => k_asm
  case hff => intro q hq; cases hq
  case hJ => exact ⟨rfl, _, ovr_of (keys_cons rfl keys_nil) (by walk_at "off")⟩
  case turn =>
    rintro i c t m₁ nx h tk tl hc ⟨rfl, t', hm⟩ hsub hne F' N'
    rw [hm] at F'
    k_fold
    k_steps
    exact ⟨_, _, _, [], rfl, by k_asm, by k_asm, hne, rfl, _, ovr_of (keys_cons (by rw [numberF_succ (by simpa using hc)]; rfl) keys_nil) (by walk_at "off")⟩
  case done =>
    rintro m₁ nx h tk ⟨rfl, t, hm⟩ F' N' _
    rw [hm] at F'
    (try k_fold)
    k_steps
    walk_at "end"
    exact BodyEnd.ret (own := []) (by k_asm) (by k_asm) (fun _ h => h) above_nil ⟨rfl, _, by rw [List.take_of_length_le (by simp)]⟩
end

theorem top_off_21 : True := by
  w_top off
  trivial
def padz (b : List UInt8) : List UInt8 := b ++ List.replicate (-(b.length : Int) % 4).toNat 0
def wordAt (l : List UInt8) (i : Nat) : Int := numberF 0 256 ((l.drop (4 * i)).take 4)
def pairB (k : Int) : List UInt8 := Bb.ofInts [33 + k / 85, 33 + k % 85]
def Has (kvs : List (Int × Value)) (k : Int) : Prop := ∃ t, valueAt kvs k = some (.bytes (pairB k).toArray t)
theorem has_stored {kvs : List (Int × Value)} {k k' : Int} {t : Tok} (h : Has kvs k) : Has (stored kvs k' (.bytes (pairB k').toArray t)) k := by
  unfold Has
  rw [Dd.valueAt_stored]
  by_cases e : k' = k
  · subst e; exact ⟨t, if_pos rfl⟩
  · rw [if_neg e]; exact h
theorem has_new {kvs : List (Int × Value)} {k : Int} {t : Tok} : Has (stored kvs k (.bytes (pairB k).toArray t)) k := by
  unfold Has
  rw [Dd.valueAt_stored]; exact ⟨t, if_pos rfl⟩
theorem padz_len (b : List UInt8) : (padz b).length = (b.length + 3) / 4 * 4 := by
  unfold padz
  rw [List.length_append, List.length_replicate]; omega
theorem wordAt_bound (l : List UInt8) (i : Nat) : 0 ≤ wordAt l i ∧ wordAt l i < 4294967296 := by
  have h := numberF_bound (b := (l.drop (4 * i)).take 4) (n := 4) (by rw [List.length_take]; omega)
  exact h
section
variable {w : World} {p : Program} {loose : List PySem.Str} {mean : ExcName → Option Value} {mg mb : PySem.Str → Option Value} {news : List (Addr × Obj)}
theorem c_pairs (b : List UInt8) (tb : Tok) (hb : b.length ≤ 8) : Does PySem.Challenge.rw_kq0071_01.row.prog w (hd.heap_39 w.params) p loose mean mg mb 78 [.bytes b.toArray tb] [] news 4 (fun v own => ∃ d o kvs, v = .ref d ∧ own = [(d, o)] ∧ (d == sysModules) = false ∧ o.IsDictOf (intKind PySem.Challenge.rw_kq0071_01.row.prog w) kvs ∧
    ∀ i, i < (padz b).length / 4 → Has kvs (wordAt (padz b) i / 85 % 7225) ∧ Has kvs (wordAt (padz b) i / 85 / 7225)) := by
  have hpl : (padz b).length ≤ 8 := by unfold padz; simp; omega
  refine' does_def (binds := [(PySem.Str.ofString "octets", .bytes b.toArray tb)]) ?ho ?hcd ?hbind ?hloc ?hco ?hgen ?hk ?hcell ?h
  walk_at "enter"
  intro dp un outer A₀ base g L s B F X N T hd hu hlt
  k_fold
  k_steps
  walk_at "for"
  k_steps
  rename_i d _ o l1 lo _ _ hdo _ _ _ _ _ _ _ _ _ _ _ _ _ _ hr F' N' _
  rw [show b ++ List.replicate (-(b.length : Int) % 4).toNat 0 = padz b from rfl] at F' hr
  refine' for_range (L := L) (nx₀ := [(d, o)]) (fix := news) (n := (padz b).length / 4) (fun i m nx => ∃ o' kvs, nx = [(d, o')] ∧ o'.IsDictOf (intKind PySem.Challenge.rw_kq0071_01.row.prog w) kvs ∧ kvs.length ≤ 2 * i ∧
      (∀ j, j < i → Has kvs (wordAt (padz b) j / 85 % 7225) ∧ Has kvs (wordAt (padz b) j / 85 / 7225)) ∧ ∃ t, m = ovr [(PySem.Str.ofString "whole", Value.bytes (padz b).toArray t), (PySem.Str.ofString "table", .ref d)] [PySem.Str.ofString "i", PySem.Str.ofString "n", PySem.Str.ofString "low", PySem.Str.ofString "high"] m
    (fun y => [(PySem.Str.ofString "octets", Value.bytes b.toArray tb)].reverse.lookup y)) ?hL ?hh hr ?hsm ?hn F' N' ?hff ?hJ ?turn ?done
  case hL => rfl
  case hh => rfl
  case hsm => exact Ii.range_small4 (by omega)
  case hn => rw [Ii.range_size4]; have := padz_len b; omega
  case hff => intro q hq; rw [List.mem_singleton.mp hq]; exact AllNe.ofLt (allLt_intro l1)
  case hJ => exact ⟨o, [], rfl, hdo, Nat.zero_le _, (fun j hj => absurd hj (Nat.not_lt_zero _)), _, ovr_of (keys_cons rfl (keys_cons rfl keys_nil)) (by walk_at "off")⟩
  case turn =>
    rintro i t m₁ nx h tk tl hi ⟨o', kvs, rfl, hdk, hkl, hHas, t', hm⟩ hsub hne F' N'
    rw [hm] at F'
    rw [show [(d, o')] ++ tl = (d, o') :: tl from rfl] at N'
    k_fold
    k_steps
    refine' does_use (c_number _ _ _ _ _ _ (by decide) (by decide)) ?B ?F ?X ?N ?T ?hck ?hd ?hu ?ret
    walk_at "use"
    rintro _ _ h' tk' F' N' - ⟨rfl, t, rfl⟩
    walk_at "led"
    have hcut : Bb.cut (padz b) (some (0 + (i : Int) * 4)) (some (0 + (i : Int) * 4 + 4)) = ((padz b).drop (4 * i)).take 4 := by
      rw [show (0 : Int) + (i : Int) * 4 + 4 = ((4 * i + 4 : Nat) : Int) by omega, show (0 : Int) + (i : Int) * 4 = ((4 * i : Nat) : Int) by omega, Bb.cut_mid]
      rw [show 4 * i + 4 - 4 * i = 4 by omega]
    have hn0 : 0 ≤ wordAt (padz b) i ∧ wordAt (padz b) i < 4294967296 := wordAt_bound _ _
    rw [hcut]
    rw [show numberF 0 256 (((padz b).drop (4 * i)).take 4) = wordAt (padz b) i from rfl]
    generalize hwd : wordAt (padz b) i = n at hn0
    have hne' : AllNe d tl := hne (d, o') List.mem_cons_self
    k_steps
    rename_i o2 F2 N2 hdk2
    refine ⟨_, _, _, [(d, _)], rfl, F2, fun p hp => N2 p ((by walk_at "sub" : ∀ p ∈ [(d, o2)] ++ tl, p ∈ _) p hp), TurnOff1 hne', _, _, rfl, hdk2, ?_, ?_, _, ovr_of (keys_cons rfl (keys_cons rfl keys_nil)) (by walk_at "off")⟩
    · exact Nat.le_trans Dd.stored_le (Nat.le_trans (Nat.add_le_add_right Dd.stored_le 1) (by omega))
    · intro j hj
      by_cases hji : j = i
      · subst hji
        rw [hwd]
        exact ⟨has_stored has_new, has_new⟩
      · have := hHas j (by omega)
        exact ⟨has_stored (has_stored this.1), has_stored (has_stored this.2)⟩
  case done =>
    rintro m₁ nx h tk ⟨o', kvs, rfl, hdk, hkl, hHas, t', hm⟩ F' N' hff
    rw [hm] at F'
    rw [show [(d, o')] ++ news = (d, o') :: news from rfl] at N'
    (try k_fold)
    k_steps
    walk_at "end"
    exact BodyEnd.ret (own := [(d, o')]) (by k_asm) (by k_asm) (by walk_at "sub") (above_cons (allLt_intro l1) above_nil) ⟨d, o', kvs, rfl, rfl, lo, hdk, hHas⟩
end

theorem top_off_22 : True := by
  w_top off
  trivial
def SignsAre (vs : List Value) : Prop := vs.length = 85 ∧ ∀ i : Nat, i < 85 → ∃ t, vs[i]? = some (.bytes (Bb.ofInts [33 + (i : Int)]).toArray t)
def fiveB (n : Int) : List UInt8 := pairB (n / 85 / 7225) ++ pairB (n / 85 % 7225) ++ Bb.ofInts [33 + n % 85]
theorem be_word (l : List UInt8) (i : Nat) : ((Bb.be ((l.drop (4 * i)).take 4) : Nat) : Int) = wordAt l i := by
  have key : ∀ (r : List UInt8) (n : Nat), ((r.foldl (fun n o => n * 256 + o.toNat) n : Nat) : Int) = r.foldl (fun (n : Int) o => n * 256 + (o.toNat : Int) - 0) (n : Int) := by
    intro r
    induction r with
    | nil => intro n; rfl
    | cons c r ih => intro n; rw [List.foldl_cons, List.foldl_cons, ih]; congr 1
  exact key _ 0
theorem signs_at {vl : List Value} (hs : SignsAre vl) (n : Int) : ∃ t, vl[(n % 85).toNat]? = some (.bytes (Bb.ofInts [33 + n % 85]).toArray t) := by
  obtain ⟨t, h⟩ := hs.2 (n % 85).toNat (by omega)
  rw [show ((n % 85).toNat : Int) = n % 85 by omega] at h
  exact ⟨t, h⟩
theorem mod_fits (n : Int) : 0 ≤ n % 85 ∧ n % 85 < 2 ^ 63 := by omega
def chunksOf (b : List UInt8) : List (List UInt8) := (List.range ((padz b).length / 4)).map fun i => fiveB (wordAt (padz b) i)
def encB (b : List UInt8) : List UInt8 := (chunksOf b).flatten.take (5 * ((padz b).length / 4) - (-(b.length : Int) % 4).toNat)
theorem fiveB_len (n : Int) : (fiveB n).length = 5 := by simp [fiveB, pairB, Bb.ofInts]
theorem fiveB_ne (n : Int) : ((fiveB n).toArray.toList == (#[122] : Array UInt8).toList) = false := by simp [fiveB, pairB, Bb.ofInts]
theorem chunks_are {ys : List Value} {b : List UInt8} (hl : ys.length = (padz b).length / 4) (h : ∀ (i : Nat) (y : Value), ys[i]? = some y → ∃ t, y = .bytes (fiveB (wordAt (padz b) i)).toArray t) : Ls.BytesAre ys (chunksOf b) := by
  refine ⟨by simp [chunksOf, hl], fun i c hc => ?_⟩
  have hi : i < ys.length := by
    have := (List.getElem?_eq_some_iff.mp hc).1
    simpa [chunksOf, hl] using this
  obtain ⟨t, ht⟩ := h i _ (List.getElem?_eq_getElem hi)
  refine ⟨t, ?_⟩
  rw [List.getElem?_eq_getElem hi, ht]
  simp only [chunksOf, List.getElem?_map] at hc
  rw [List.getElem?_range (by omega)] at hc
  simp only [Option.map_some, Option.some.injEq] at hc
  rw [hc]
theorem chunks_set {ys : List Value} {cs : List (List UInt8)} {c : List UInt8} {t : Tok} {k : Nat} (h : Ls.BytesAre ys cs) : Ls.BytesAre (ys.set k (.bytes c.toArray t)) (cs.set k c) := by
  refine ⟨by simp [h.1], fun i d hd => ?_⟩
  rw [List.getElem?_set] at hd ⊢
  by_cases e : k = i
  · rw [if_pos e] at hd ⊢
    have hl := h.1
    by_cases hlt : k < cs.length
    · rw [if_pos hlt] at hd; rw [if_pos (by omega)]; cases hd; exact ⟨t, rfl⟩
    · rw [if_neg hlt] at hd; cases hd
  · rw [if_neg e] at hd ⊢
    exact h.2 i d hd
theorem enc_len (b : List UInt8) : (chunksOf b).flatten.length = 5 * ((padz b).length / 4) := by
  unfold chunksOf
  generalize (padz b).length / 4 = n
  induction n with
  | zero => rfl
  | succ n ih => rw [List.range_succ, List.map_append, List.flatten_append, List.length_append, ih]; simp [fiveB_len]; omega
theorem enc_whole {b : List UInt8} (h : -(b.length : Int) % 4 = 0) : (chunksOf b).flatten = encB b := by
  unfold encB
  rw [h, List.take_of_length_le (by rw [enc_len]; simp)]
theorem enc_cut {b : List UInt8} (h0 : 1 ≤ b.length) : ((chunksOf b).set ((padz b).length / 4 - 1) ((fiveB (wordAt (padz b) ((padz b).length / 4 - 1))).take (5 - (-(b.length : Int) % 4).toNat))).flatten = encB b := by
  have hpl := padz_len b
  unfold encB
  obtain ⟨n, hn⟩ : ∃ n, (padz b).length / 4 = n + 1 := ⟨(padz b).length / 4 - 1, by omega⟩
  have hcs : chunksOf b = (List.range n).map (fun i => fiveB (wordAt (padz b) i)) ++ [fiveB (wordAt (padz b) n)] := by
    unfold chunksOf; rw [hn, List.range_succ, List.map_append]; rfl
  have hfl : ((List.range n).map (fun i => fiveB (wordAt (padz b) i))).flatten.length = 5 * n := by
    clear hcs hn
    induction n with
    | zero => rfl
    | succ n ih => rw [List.range_succ, List.map_append, List.flatten_append, List.length_append, ih]; simp [fiveB_len]; omega
  rw [hcs, hn]
  rw [List.set_append_right _ _ (by simp)]
  simp only [List.length_map, List.length_range, Nat.add_sub_cancel, Nat.sub_self, List.set_cons_zero, List.flatten_append, List.flatten_cons, List.flatten_nil, List.append_nil]
  rw [List.take_append, hfl, List.take_of_length_le (l := ((List.range n).map (fun i => fiveB (wordAt (padz b) i))).flatten) (by rw [hfl]; omega)]
  congr 2
  omega
theorem cut_five (b : List UInt8) (h : ¬ -(b.length : Int) % 4 = 0) (c : List UInt8) (hc : c.length = 5) : Bb.cut c none (some (-(-(b.length : Int) % 4))) = c.take (5 - (-(b.length : Int) % 4).toNat) := by
  rw [show -(-(b.length : Int) % 4) = -(((-(b.length : Int) % 4).toNat : Nat) : Int) by omega, Bb.cut_but _ _ (by omega), hc]
theorem last_at {ys : List Value} {b : List UInt8} (h1 : 1 ≤ ys.length) (hl : ys.length = (padz b).length / 4) (h : ∀ (i : Nat) (y : Value), ys[i]? = some y → ∃ t, y = .bytes (fiveB (wordAt (padz b) i)).toArray t) :
    ∃ t, ys[((-1 : Int) + ys.length).toNat]? = some (.bytes (fiveB (wordAt (padz b) ((padz b).length / 4 - 1))).toArray t) := by
  have hlt : ys.length - 1 < ys.length := by omega
  obtain ⟨t, ht⟩ := h (ys.length - 1) _ (List.getElem?_eq_getElem hlt)
  refine ⟨t, ?_⟩
  rw [show ((-1 : Int) + ys.length).toNat = ys.length - 1 by omega, List.getElem?_eq_getElem hlt, ht, hl]
section
local macro_rules | `(tactic| walk_at "exec Assign cons ListComp") => `(tactic| refine Stop.intro ?_)
local macro_rules | `(tactic| walk_at "subscriptTail") => `(tactic| (refine Stop.intro ?_))
local macro_rules | `(tactic| walk_at "setItem ref int") => `(tactic| (refine Stop.intro ?_))
local macro_rules | `(tactic| walk_at "compareOp Eq bytes bytes") => `(tactic| (refine Stop.intro ?_))
local macro_rules | `(tactic| walk_at "getMethod bytes") => `(tactic| (with_reducible refine Ls.method_join ?_))
local macro_rules | `(tactic| walk_at "call builtin:bytes.join") => `(tactic| (refine Stop.intro ?_))
variable {w : World} {p : Program} {loose : List PySem.Str} {mean : ExcName → Option Value} {mg mb : PySem.Str → Option Value} {news : List (Addr × Obj)}
theorem c_encode (b : List UInt8) (tb : Tok) (hb0 : 1 ≤ b.length) (hb : b.length ≤ 8) (l d : Addr) (vl : List Value) (kl : Nat) (od : Obj) (kvs : List (Int × Value)) (hl : (l, ({ cls := .type "list", data := .seq vl.toArray kl } : Obj)) ∈ news) (hs : SignsAre vl)
    (hdm : (d, od) ∈ news) (hdk : od.IsDictOf (intKind PySem.Challenge.rw_kq0071_01.row.prog w) kvs) (hHas : ∀ i, i < (padz b).length / 4 → Has kvs (wordAt (padz b) i / 85 % 7225) ∧ Has kvs (wordAt (padz b) i / 85 / 7225)) :
    Does PySem.Challenge.rw_kq0071_01.row.prog w (hd.heap_39 w.params) p loose mean mg mb 56 [.bytes b.toArray tb, .ref l, .ref d] [] news 4 (fun v own => own = [] ∧ ∃ t, v = .bytes (encB b).toArray t) := by
  have hpl := padz_len b
  refine' does_defC (binds := [(PySem.Str.ofString "b", .bytes b.toArray tb), (PySem.Str.ofString "chars", .ref l), (PySem.Str.ofString "chars2", .ref d), (PySem.Str.ofString "pad", .bool false), (PySem.Str.ofString "foldnuls", .bool false), (PySem.Str.ofString "foldspaces", .bool false)]) ?ho ?hcd ?hbind ?hkind ?hnd ?hco ?hgen ?hk ?h
  (case ho => k_dflt k_is)
  (case hcd => k_dflt k_is)
  (case hbind => intro s' X'; exact binds_K X' rfl (by k_dflt k_is) rfl rfl rfl)
  (case hkind => rfl)
  (case hnd => decide +kernel)
  (case hco => rfl)
  (case hgen => rfl)
  (case hk => rfl)
  intro dp un outer A₀ base g L s cells B F N Y X T hd hu hlt
  k_cells Y
  (try simp only [List.cons_append, List.nil_append] at N)
  (try k_unmd)
  k_fold
  walk_at "toIf"
  walk1
  walk_at "toIf"
  rename Fr _ _ _ _ => F1
  rename News _ _ _ _ => N1
  refine' join_upd (PySem.Str.ofString "b") (fun v => ∃ t, v = .bytes (padz b).toArray t) F1 N1 ?way ?rest
  case way =>
    k_fold
    k_steps
    · rename_i F2 N2
      exact ⟨rfl, _, _, _, rfl, ⟨_, by unfold padz; rw [List.flatten_replicate_singleton]⟩, F2, N2⟩
    · have e : padz b = b := by unfold padz; rw [show (-(b.length : Int) % 4).toNat = 0 by omega]; simp
      refine ⟨rfl, _, _, .bytes b.toArray tb, rfl, ⟨_, by rw [e]⟩, ?_, N1⟩
      rw [upd_same (by rfl)]; exact F1
  case rest =>
    rintro h' tk _ ⟨t, rfl⟩ F' N'
    clear F1 N1
    dsimp only
    k_steps
    obtain ⟨fb, hfb, hfp, hfs⟩ := St.fmt_ok (z := ((padz b).length : Int) / 4) (n := (padz b).length / 4) (t := 0) (by omega) (by omega)
    show wpAny _ _ (call (Value.type "_struct.Struct") [.str _ _]) _ _ _
    refine St.new F' N' hfb hfp hfs rfl ?_
    intro D h1 tk1 k1 F1 N1 l1
    k_steps
    show wpAny _ _ (call (Value.builtin "_struct.Struct.unpack") [.ref _, .bytes _ _]) _ _ _
    refine St.call_unpack F1 N1 List.mem_cons_self hfp (by omega) (by omega) ?_
    intro x vs h2 k2 F2 N2 l2 hvl hvs
    k_steps
    show wpAny _ _ (exec _ _) _ _ _
    refine' assign_comp_tup ?F₀ ?hLe ?hh ?hsw ?hclos ?hcell ?hkind ?hnames ?hx ?hy ?hp ?h
    case F₀ => k_asm
    walk_at "comp"
    case h =>
      k_steps
      rename Fr _ _ _ _ => F3
      rename News _ _ _ _ => N3
      refine ⟨x, vs, _, _, rfl, F3, N3, List.mem_cons_self, by omega, fun g' => ?_⟩
      refine compRest_all (fun i y => ∃ t, y = .bytes (fiveB (wordAt (padz b) i)).toArray t) List.mem_cons_self ?_ ?_
      · intro i v I oI C oC D' ys m₂ h tk hi hv hC hx F4 N4
        clear F3 N3
        obtain ⟨tw, hw⟩ := hvs i (by omega)
        rw [hv] at hw
        cases hw
        rw [be_word] at hx
        k_fold
        have hw0 := wordAt_bound (padz b) i
        obtain ⟨⟨ta, hHa⟩, ⟨tb, hHb⟩⟩ := hHas i (by omega)
        generalize hwd : wordAt (padz b) i = n at hx hw0 hHa hHb
        obtain ⟨tc, hcv⟩ := signs_at hs n
        obtain ⟨hk0, hk1⟩ := mod_fits n
        k_steps
        rw [show n / 614125 = n / 85 / 7225 by omega]
        refine kda_item (knd := PySem.intKind _ _) (by k_asm) (by k_mem) hdk (intKind_is _ _ _ _) hHb ?_ ?_ ?_
        · k_steps
          refine kda_item (knd := PySem.intKind _ _) (by k_asm) (by k_mem) hdk (intKind_is _ _ _ _) hHa ?_ ?_ ?_
          · k_steps
            rename News _ _ _ _ => N5
            refine Ls.item (vs := vl) (n := kl) N5 (List.mem_cons_of_mem _ (List.mem_cons_of_mem _ (List.mem_cons_of_mem _ (List.mem_cons_of_mem _ (List.mem_cons_of_mem _ (List.mem_cons_of_mem _ (List.mem_cons_of_mem _ (List.mem_cons_of_mem _ (List.mem_cons_of_mem _ hl))))))))) hk0 hk1 hcv ?_ ?_
            · k_steps
              exact EltEnd.intro (by k_asm) N5 sub_refl ⟨_, by rw [hwd]; rfl⟩
            · with_unfolding_all rfl
          · with_unfolding_all rfl
          · intro _; with_unfolding_all rfl
        · with_unfolding_all rfl
        · intro _; with_unfolding_all rfl
      · intro ys hyl hyR
        intro D'' h5 tk5 F5 N5 o5
        have hn1 : 1 ≤ ys.length := by omega
        have hneg : -(ys.length : Int) ≤ -1 := by omega
        have hmp : 0 ≤ -(b.length : Int) % 4 ∧ -(b.length : Int) % 4 < 4 := by omega
        have hyl' : ys.length = (padz b).length / 4 := by omega
        obtain ⟨tl, hlast⟩ := last_at (ys := ys) (b := b) hn1 hyl' hyR
        have hBA := chunks_are hyl' hyR
        have hne := fiveB_ne (wordAt (padz b) ((padz b).length / 4 - 1))
        have hf5 : (fiveB (wordAt (padz b) ((padz b).length / 4 - 1))).length ≤ 16777216 := by rw [fiveB_len]; decide
        have hcut := fun h => cut_five b h _ (fiveB_len (wordAt (padz b) ((padz b).length / 4 - 1)))
        have hfl : (chunksOf b).flatten.length ≤ 1000 := by rw [enc_len]; omega
        have hec := enc_cut hb0
        have hBA2 := fun t6 => chunks_set (t := t6) (c := (fiveB (wordAt (padz b) ((padz b).length / 4 - 1))).take (5 - (-(b.length : Int) % 4).toNat)) (k := ((-1 : Int) + ys.length).toNat) hBA
        have hk : ((-1 : Int) + ys.length).toNat = (padz b).length / 4 - 1 := by omega
        have hec : ((chunksOf b).set ((-1 : Int) + ys.length).toNat ((fiveB (wordAt (padz b) ((padz b).length / 4 - 1))).take (5 - (-(b.length : Int) % 4).toNat))).flatten = encB b := by rw [hk]; exact hec
        have hfl2 : ((chunksOf b).set ((-1 : Int) + ys.length).toNat ((fiveB (wordAt (padz b) ((padz b).length / 4 - 1))).take (5 - (-(b.length : Int) % 4).toNat))).flatten.length ≤ 1000 := by
          rw [hec]; unfold encB; rw [List.length_take]; omega
        have hc1 : 1 ≤ (chunksOf b).length := by rw [← hBA.1]; exact hn1
        have hc2 : 1 ≤ ((chunksOf b).set ((-1 : Int) + ys.length).toNat ((fiveB (wordAt (padz b) ((padz b).length / 4 - 1))).take (5 - (-(b.length : Int) % 4).toNat))).length := by rw [List.length_set]; exact hc1
        dsimp only
        k_steps
        · refine Ls.itemNeg (vs := ys) (n := ys.length) N5 List.mem_cons_self (by decide) hneg (by decide) hlast ?_ ?_
          · k_steps
            refine eq_bytes ?_
            rw [hne]
            k_steps
            refine Ls.itemNeg (vs := ys) (n := ys.length) N5 List.mem_cons_self (by decide) hneg (by decide) hlast ?_ ?_
            · k_steps
              refine Bb.slice (s := ⟨_, _, _, _, _⟩) F5 N5 (by constructor) (by constructor) hf5 ?_
              intro h6 t6 k6 F6 N6
              rw [hcut (by assumption)]
              k_steps
              refine Ls.setNeg (vs := ys) (n := ys.length) (pre := []) F6 N6 (fun _ h => nomatch h) (off1_all o5) (by decide) hneg (by decide) ?_
              intro h7 n7 F7 N7
              rw [List.nil_append] at N7
              k_steps
              refine Ls.join N7 List.mem_cons_self (hBA2 _) hc2 hfl2 ?_
              intro t' k'
              k_steps
              rw [hec]
              exact BodyEnd.ret (own := []) F7 N7 (by walk_at "sub") above_nil ⟨rfl, _, rfl⟩
            · with_unfolding_all rfl
          · with_unfolding_all rfl
        · refine Ls.join N5 List.mem_cons_self hBA hc1 hfl ?_
          intro t' k'
          k_steps
          rw [enc_whole (by assumption)]
          exact BodyEnd.ret (own := []) F5 N5 (by walk_at "sub") above_nil ⟨rfl, _, rfl⟩
end

theorem top_off_23 : True := by
  w_top off
  trivial
section
variable {w : World} {p : Program} {loose : List PySem.Str} {mean : ExcName → Option Value} {mg mb : PySem.Str → Option Value} {news : List (Addr × Obj)}
theorem c_written (b : List UInt8) (tb : Tok) (hb0 : 1 ≤ b.length) (hb : b.length ≤ 8) (l : Addr) (vl : List Value) (kl : Nat) (hl : (l, ({ cls := .type "list", data := .seq vl.toArray kl } : Obj)) ∈ news) (hs : SignsAre vl) :
    Does PySem.Challenge.rw_kq0071_01.row.prog w (hd.heap_39 w.params) p loose mean mg mb 85 [.bytes b.toArray tb, .ref l] [] news 6 (fun v own => own = [] ∧ ∃ t, v = .bytes (encB b).toArray t) := by
  refine' does_def (binds := [(PySem.Str.ofString "octets", .bytes b.toArray tb), (PySem.Str.ofString "signs", .ref l)]) ?ho ?hcd ?hbind ?hloc ?hco ?hgen ?hk ?hcell ?h
  walk_at "enter"
  intro dp un outer A₀ base g L s B F X N T hd hu hlt
  k_fold
  k_steps
  refine does_use (c_pairs _ _ hb) (by k_asm) (by k_asm) (by k_asm) (by k_asm) (by k_asm) (by rfl) (by ktr_room) (by ktr_units) ?_
  rintro _ _ h' tk' F' N' ha ⟨d, o, kvs, rfl, rfl, lo, hdk, hHas⟩
  walk_at "led"
  k_steps
  refine does_use (c_encode b tb hb0 hb l d vl kl o kvs (List.mem_cons_of_mem _ hl) hs List.mem_cons_self hdk hHas) (by k_asm) (by k_asm) (by k_asm) (by k_asm) (by k_asm) (by rfl) (by ktr_room) (by ktr_units) ?_
  rintro _ _ h' tk' F' N' - ⟨rfl, t, rfl⟩
  walk_at "led"
  k_steps
  exact BodyEnd.ret (own := []) (by k_asm) (by k_asm) (by walk_at "sub") above_nil ⟨rfl, _, rfl⟩
end

theorem top_off_24 : True := by
  w_top off
  trivial
def lastK (b : List UInt8) : Nat := if b.length % 5 = 0 then 5 else b.length % 5
theorem lastK_bound (b : List UInt8) : 1 ≤ lastK b ∧ lastK b ≤ 5 := by unfold lastK; split <;> omega
def digsLow : Nat → Int → List Int
  | 0, _ => []
  | i + 1, n => (33 + n / 85 ^ i % 85) :: digsLow i n
theorem digsLow_len (n : Int) : ∀ i, (digsLow i n).length = i
  | 0 => rfl
  | i + 1 => by rw [digsLow, List.length_cons, digsLow_len n i]
theorem digsLow_range (n : Int) : ∀ i, ∀ x ∈ digsLow i n, 0 ≤ x ∧ x < 256
  | 0, x, h => nomatch h
  | i + 1, x, h => by
    rcases List.mem_cons.mp h with rfl | h
    · have := Int.emod_nonneg (n / 85 ^ i) (by decide : (85 : Int) ≠ 0)
      have := Int.emod_lt_of_pos (n / 85 ^ i) (by decide : (0 : Int) < 85)
      omega
    · exact digsLow_range n i x h
theorem digsLow_step {n : Int} {i : Nat} : n / 85 ^ i / 85 = n / 85 ^ (i + 1) := by rw [Int.pow_succ, Int.ediv_ediv_of_nonneg (Int.pow_nonneg (by decide))]
def besideB (b : List UInt8) (z : Int) : List (List UInt8) :=
  let n := numberF 33 85 (b.drop (b.length - lastK b)) + z
  if n < 0 ∨ 85 ^ lastK b ≤ n then [] else [b.take (b.length - lastK b) ++ Bb.ofInts (digsLow (lastK b) n)]
section
local macro_rules | `(tactic| walk_at "pyIter ref") => `(tactic| refine Stop.intro ?_)
local macro_rules | `(tactic| walk_at "binaryOp Add ref ref") => `(tactic| refine Stop.intro ?_)
local macro_rules | `(tactic| walk_at "call type:bytes") => `(tactic| refine Stop.intro ?_)
variable {w : World} {p : Program} {loose : List PySem.Str} {mean : ExcName → Option Value} {mg mb : PySem.Str → Option Value} {news : List (Addr × Obj)}
theorem c_beside (b : List UInt8) (tb ts : Tok) (z : Int) (hb0 : 1 ≤ b.length) (hb : b.length ≤ 100) (hz : z = 1 ∨ z = -1) :
    Does PySem.Challenge.rw_kq0071_01.row.prog w (hd.heap_39 w.params) p loose mean mg mb 92 [.bytes b.toArray tb, .int z ts] [] news 4 (fun v own => ∃ a vs k, v = .ref a ∧ own = [(a, Ls.lsO vs k)] ∧ Ls.BytesAre vs (besideB b z)) := by
  have hlk := lastK_bound b
  refine' does_def (binds := [(PySem.Str.ofString "text", .bytes b.toArray tb), (PySem.Str.ofString "step", .int z ts)]) ?ho ?hcd ?hbind ?hloc ?hco ?hgen ?hk ?hcell ?h
  walk_at "enter"
  intro dp un outer A₀ base g L s B F N X T hd hu hlt
  k_fold
  walk1
  refine' join_upd (PySem.Str.ofString "k") (fun v => ∃ t, v = .int (lastK b : Int) t) F N ?way ?rest
  case way =>
    k_fold
    k_steps
    · rename_i hm h1 F1 N1
      rw [show (b.length : Int) % 5 = (lastK b : Int) by unfold lastK; rw [if_neg (by omega)]; omega] at F1
      exact ⟨rfl, _, _, _, rfl, ⟨_, rfl⟩, F1, N1⟩
    · rename_i hm h1 F1 N1
      rw [show (5 : Int) = (lastK b : Int) by unfold lastK; rw [if_pos (by omega)]; rfl] at F1
      exact ⟨rfl, _, _, _, rfl, ⟨_, rfl⟩, F1, N1⟩
  case rest =>
    rintro h' tk _ ⟨tK, rfl⟩ F' N'
    clear F N
    dsimp only
    k_steps
    rw [Bb.cut_last b (lastK b) hlk.1]
    refine does_use (c_number _ _ _ _ _ _ (by decide) (by decide)) (by k_asm) (by k_asm) (by k_asm) (by k_asm) (by k_asm) (by rfl) (by ktr_room) (by ktr_units) ?_
    rintro _ _ h' tk' F' N' - ⟨rfl, t, rfl⟩
    walk_at "led"
    have hbe : besideB b z = (if numberF 33 85 (b.drop (b.length - lastK b)) + z < 0 ∨ 85 ^ lastK b ≤ numberF 33 85 (b.drop (b.length - lastK b)) + z then [] else [b.take (b.length - lastK b) ++ Bb.ofInts (digsLow (lastK b) (numberF 33 85 (b.drop (b.length - lastK b)) + z))]) := rfl
    generalize numberF 33 85 (b.drop (b.length - lastK b)) = n0 at *
    k_steps
    · rename_i hneg l' h1 F1 N1 l1
      exact BodyEnd.ret (own := [(l', _)]) F1 N1 (by walk_at "sub") (above_cons (allLt_intro l1) above_nil) ⟨l', [], 0, rfl, rfl, by rw [hbe, if_pos (.inl hneg)]; exact ⟨rfl, fun i c h => nomatch h⟩⟩
    · rename_i hnn hbig l' h1 F1 N1 l1
      exact BodyEnd.ret (own := [(l', _)]) F1 N1 (by walk_at "sub") (above_cons (allLt_intro l1) above_nil) ⟨l', [], 0, rfl, rfl, by rw [hbe, if_pos (.inr hbig)]; exact ⟨rfl, fun i c h => nomatch h⟩⟩
    · rename_i hnn hbig _ l' _ l1 _ _ _
      have l1' := allLt_intro l1
      walk_at "for"
      k_steps
      rename_i hr F1 N1 _
      show wpAny _ _ (pyIter (.ref _)) _ _ _
      generalize hn1 : n0 + z = n1 at *
      refine' for_range (L := L) (nx₀ := [(l', Ls.lsO [] 0)]) (fix := news) (n := lastK b) (fun i m nx => ∃ a vs kk, nx = [(a, Ls.lsO vs kk)] ∧ IntsAre vs (digsLow i n1) ∧ ∃ t, m = ovr [(PySem.Str.ofString "n", .int (n1 / 85 ^ i) t), (PySem.Str.ofString "tail", .ref a)] [PySem.Str.ofString "i"] m
        (fun y => if y = PySem.Str.ofString "k" then some (.int (lastK b : Int) tK) else [(PySem.Str.ofString "text", Value.bytes b.toArray tb), (PySem.Str.ofString "step", .int z ts)].reverse.lookup y)) ?hL ?hh hr ?hsm ?hn F1 N1 ?hff ?hJ ?turn ?done
      case hL => rfl
      case hh => rfl
      case hsm => exact Ii.range_small1 (by omega)
      case hn => rw [Ii.range_size1]
      case hff => intro q hq; rw [List.mem_singleton.mp hq]; exact AllNe.ofLt l1'
      case hJ => exact ⟨l', [], 0, rfl, .nil, _, ovr_of (keys_cons (by rw [Int.pow_zero, Int.ediv_one]; rfl) (keys_cons rfl keys_nil)) (by walk_at "off")⟩
      case turn =>
        rintro i t m₁ nx h tk tl hi ⟨a, vs, kk, rfl, hvs, t', hm⟩ hsub hne F' N'
        have hne' : AllNe a tl := hne (a, _) List.mem_cons_self
        have hvl := hvs.length
        rw [digsLow_len] at hvl
        rw [hm] at F'
        rw [show [(a, Ls.lsO vs kk)] ++ tl = (a, Ls.lsO vs kk) :: tl from rfl] at N'
        (try k_fold)
        (try dsimp only)
        k_steps
        rename_i l2 h2 F2 N2 l3
        refine Ls.add (vs := [_]) (us := vs) F2 N2 List.mem_cons_self (List.mem_cons_of_mem _ List.mem_cons_self) (by rw [hvl]; simp; omega) ?_
        intro D h3 F3 N3 l4
        simp only [AllLt] at l4
        k_steps
        rename_i F5 N5
        exact ⟨_, _, _, [(D, _)], rfl, F5, fun p hp => N5 p ((by walk_at "sub" : ∀ p ∈ [(D, Ls.lsO (_ :: vs) 0)] ++ tl, p ∈ _) p hp), TurnOff1 (AllNe.ofLt l4.2.2), D, _, 0, rfl, .cons _ _ hvs, _, ovr_of (keys_cons (by rw [← digsLow_step]; rfl) (keys_cons rfl keys_nil)) (by walk_at "off")⟩
      case done =>
        rintro m₁ nx h tk ⟨a, vs, kk, rfl, hvs, t', hm⟩ F' N' hff
        rw [hm] at F'
        rw [show [(a, Ls.lsO vs kk)] ++ news = (a, Ls.lsO vs kk) :: news from rfl] at N'
        have hdl := digsLow_len n1 (lastK b)
        have hbl : (b.take (b.length - lastK b)).length + (Bb.ofInts (digsLow (lastK b) n1)).length ≤ 16777216 := by
          unfold Bb.ofInts; rw [List.length_map, hdl, List.length_take]; omega
        have hlt : lastK b ≤ b.length := by unfold lastK; split <;> omega
        have hvl := hvs.length
        (try k_fold)
        k_steps
        rename_i h1 t1 k1 F1 N1
        show wpAny _ _ (call (Value.type "bytes") [Value.ref _]) _ _ _
        refine Bb.bytes_list F1 N1 List.mem_cons_self hvs (digsLow_range _ _) (by omega) rfl ?_
        intro h2 t2 k2 F2 N2
        rw [Bb.cut_but b (lastK b) hlk.1]
        k_steps
        rename_i D h3 F3 N3 l4
        refine BodyEnd.ret (own := [(D, _)]) F3 N3 (by walk_at "sub") (above_cons l4.2 above_nil) ⟨D, [_], _, rfl, rfl, ?_⟩
        rw [hbe, if_neg (by rintro (h1 | h1); exact hnn h1; exact hbig h1)]
        refine ⟨rfl, fun i c hc => ?_⟩
        rcases i with _ | i
        · cases hc; exact ⟨_, rfl⟩
        · simp at hc
end

theorem top_off_25 : True := by
  w_top off
  trivial
def changedB (b : List UInt8) (v : Int) : List UInt8 := b.take (v % b.length).toNat ++ Bb.ofInts [33 + v / b.length % 85] ++ b.drop ((v % b.length).toNat + 1)
section
variable {w : World} {p : Program} {loose : List PySem.Str} {mean : ExcName → Option Value} {mg mb : PySem.Str → Option Value} {news : List (Addr × Obj)}
local macro_rules | `(tactic| walk_at "call type:bytes") => `(tactic| refine Stop.intro ?_)
theorem c_changed (b : List UInt8) (tb tv : Tok) (v : Int) (hb0 : 1 ≤ b.length) (hb : b.length ≤ 100) :
    Does PySem.Challenge.rw_kq0071_01.row.prog w (hd.heap_39 w.params) p loose mean mg mb 99 [.bytes b.toArray tb, .int v tv] [] news 4 (fun r own => own = [] ∧ ∃ t, r = .bytes (changedB b v).toArray t) := by
  have hp0 : 0 ≤ v % b.length := Int.emod_nonneg _ (by omega)
  have hp1 : v % b.length < b.length := Int.emod_lt_of_pos _ (by omega)
  have hq0 : 0 ≤ v / b.length % 85 ∧ v / b.length % 85 < 85 := by omega
  have hc1 : Bb.cut b none (some (v % b.length)) = b.take (v % b.length).toNat := by
    have := Bb.cut_to b (v % b.length).toNat
    rwa [Int.toNat_of_nonneg hp0] at this
  have hc2 : Bb.cut b (some (v % b.length + 1)) none = b.drop ((v % b.length).toNat + 1) := by
    have := Bb.cut_from b ((v % b.length).toNat + 1)
    rwa [Int.natCast_add, Int.toNat_of_nonneg hp0] at this
  have hch : changedB b v = b.take (v % b.length).toNat ++ Bb.ofInts [33 + v / b.length % 85] ++ b.drop ((v % b.length).toNat + 1) := rfl
  have hs1 : (b.take (v % b.length).toNat).length ≤ 100 := by rw [List.length_take]; omega
  have hs2 : (Bb.ofInts [33 + v / b.length % 85]).length = 1 := rfl
  have hs3 : (Bb.cut b (some (v % b.length + 1)) none).length ≤ 100 := Nat.le_trans (Bb.cut_le _ _ _) hb
  have hs4 : (b.take (v % b.length).toNat ++ Bb.ofInts [33 + v / b.length % 85]).length ≤ 101 := by rw [List.length_append]; omega
  refine' does_def (binds := [(PySem.Str.ofString "text", .bytes b.toArray tb), (PySem.Str.ofString "v", .int v tv)]) ?ho ?hcd ?hbind ?hloc ?hco ?hgen ?hk ?hcell ?h
  walk_at "enter"
  intro dp un outer A₀ base g L s B F N X T hd hu hlt
  k_fold
  k_steps
  rename_i D h1 F1 N1 l1
  show wpAny _ _ (call (Value.type "bytes") [Value.ref _]) _ _ _
  refine Bb.bytes_tup1 F1 N1 List.mem_cons_self (by omega) (by omega) rfl ?_
  intro h2 t2 k2 F2 N2
  rw [hc1]
  k_steps
  rw [hc2]
  exact BodyEnd.ret (own := []) (by k_asm) (by k_asm) (by walk_at "sub") above_nil ⟨rfl, _, rfl⟩
end

theorem top_off_26 : True := by
  w_top off
  trivial
theorem bytes_app {vs us : List Value} {bs cs : List (List UInt8)} (h1 : Ls.BytesAre vs bs) (h2 : Ls.BytesAre us cs) : Ls.BytesAre (vs ++ us) (bs ++ cs) := by
  refine ⟨by simp [h1.1, h2.1], fun i b hb => ?_⟩
  have hl := h1.1
  by_cases h : i < bs.length
  · rw [List.getElem?_append_left h] at hb
    rw [List.getElem?_append_left (by omega)]
    exact h1.2 i b hb
  · rw [List.getElem?_append_right (by omega)] at hb
    rw [List.getElem?_append_right (by omega), hl]
    exact h2.2 _ b hb
theorem bytes_one {b : List UInt8} {t : Tok} : Ls.BytesAre [.bytes b.toArray t] [b] := ⟨rfl, fun i c hc => by
  rcases i with _ | i
  · cases hc; exact ⟨_, rfl⟩
  · simp at hc⟩
def textsOf (q : Int × List UInt8) : List (List UInt8) := [q.2] ++ besideB q.2 (-1) ++ besideB q.2 1 ++ [changedB q.2 q.1]
def textsB (ps : List (Int × List UInt8)) : List (List UInt8) := ps.flatMap textsOf
theorem beside_len (b : List UInt8) (z : Int) : (besideB b z).length ≤ 1 := by unfold besideB; dsimp only; split <;> simp
theorem texts_len : ∀ (ps : List (Int × List UInt8)), (textsB ps).length ≤ 4 * ps.length := by
  intro ps
  induction ps with
  | nil => simp [textsB]
  | cons q r ih =>
    have h1 := beside_len q.2 (-1)
    have h2 := beside_len q.2 1
    unfold textsB at ih ⊢
    rw [List.flatMap_cons, List.length_append]
    simp only [textsOf, List.length_append, List.length_cons, List.length_nil]
    omega
section
variable {w : World} {p : Program} {loose : List PySem.Str} {mean : ExcName → Option Value} {mg mb : PySem.Str → Option Value} {news : List (Addr × Obj)}
local macro_rules | `(tactic| walk_at "exec For Tuple Call cons nil") => `(tactic| refine Stop.intro ?_)
local macro_rules | `(tactic| walk_at "call type:zip") => `(tactic| refine Stop.intro ?_)
local macro_rules | `(tactic| walk_at "binaryOp Add ref ref") => `(tactic| refine Stop.intro ?_)
theorem c_texts (ln lw : Addr) (nvs wvs : List Value) (kn kw : Nat) (numbers : List Int) (written : List (List UInt8)) (hmn : (ln, Ls.lsO nvs kn) ∈ news) (hmw : (lw, Ls.lsO wvs kw) ∈ news) (hn : IntsAre nvs numbers) (hw : Ls.BytesAre wvs written)
    (hlen : numbers.length = written.length) (hl6 : numbers.length ≤ 6) (hwl : ∀ b ∈ written, 1 ≤ b.length ∧ b.length ≤ 100) :
    Does PySem.Challenge.rw_kq0071_01.row.prog w (hd.heap_39 w.params) p loose mean mg mb 106 [.ref ln, .ref lw] [] news 6 (fun v own => ∃ a vs k, v = .ref a ∧ own = [(a, Ls.lsO vs k)] ∧ Ls.BytesAre vs (textsB (numbers.zip written))) := by
  have hnl := hn.length
  have hwl' := hw.1
  refine' does_def (binds := [(PySem.Str.ofString "numbers", .ref ln), (PySem.Str.ofString "written", .ref lw)]) ?ho ?hcd ?hbind ?hloc ?hco ?hgen ?hk ?hcell ?h
  walk_at "enter"
  intro dp un outer A₀ base g L s B F N X T hd hu hlt
  k_fold
  k_steps
  rename_i l' _ l1 h1 F1 N1
  have l1' := allLt_intro l1
  show wpAny _ _ (exec _ _) _ _ _
  with_unfolding_all refine' For_turns F1 ?_
  k_steps
  show wpAny _ _ (call _ _) _ _ _
  refine' for_zip (L := L) (nx₀ := [(l', Ls.lsO [] 0)]) (fix := news) (xs := nvs) (ys := wvs) (fun i m nx => ∃ a vs kk, nx = [(a, Ls.lsO vs kk)] ∧ AllLt a news ∧ Ls.BytesAre vs (textsB ((numbers.zip written).take i)) ∧ m = ovr [(PySem.Str.ofString "texts", .ref a)] [PySem.Str.ofString "v", PySem.Str.ofString "w"] m
    (fun y => [(PySem.Str.ofString "numbers", Value.ref ln), (PySem.Str.ofString "written", .ref lw)].reverse.lookup y)) ?hL ?hh ?hlen hmn hmw F1 N1 ?hff ?hJ ?turn ?done
  case hL => rfl
  case hh => rfl
  case hlen => omega
  case hff => intro q hq; rw [List.mem_singleton.mp hq]; exact AllNe.ofLt l1'
  case hJ => exact ⟨l', [], 0, rfl, l1', ⟨rfl, fun i c h => nomatch h⟩, ovr_of (keys_cons rfl keys_nil) (by walk_at "off")⟩
  case turn =>
    rintro i T x y m₁ nx h tk tl hx hy ⟨a, vs, kk, rfl, hal, hvs, hm⟩ hsub hne hT F' N'
    have hne' : AllNe a tl := hne (a, _) List.mem_cons_self
    have hi : i < numbers.length := by rw [← hnl]; exact (List.getElem?_eq_some_iff.mp hx).1
    obtain ⟨tx, rfl, hnx⟩ : ∃ t, x = .int numbers[i] t ∧ True := by
      obtain ⟨n, t, e, h1⟩ := hn.at i x hx
      rw [List.getElem?_eq_getElem hi] at h1
      cases h1
      exact ⟨t, e, trivial⟩
    obtain ⟨ty, hyb⟩ := hw.2 i written[i] (List.getElem?_eq_getElem (by omega))
    rw [hy] at hyb
    cases hyb
    have hbl := hwl written[i] (List.getElem_mem _)
    have hvl : vs.length ≤ 24 := by
      rw [hvs.1]
      refine Nat.le_trans (texts_len _) ?_
      rw [List.length_take, List.length_zip]; omega
    have hstep : textsB ((numbers.zip written).take (i + 1)) = textsB ((numbers.zip written).take i) ++ textsOf (numbers[i], written[i]) := by
      unfold textsB
      rw [List.take_add_one, List.getElem?_eq_getElem (by rw [List.length_zip]; omega), List.getElem_zip, List.flatMap_append]
      simp
    have hto : textsOf (numbers[i], written[i]) = [written[i]] ++ besideB written[i] (-1) ++ besideB written[i] 1 ++ [changedB written[i] numbers[i]] := rfl
    generalize numbers[i] = v at *
    generalize written[i] = b at *
    rw [hm] at F'
    rw [show [(a, Ls.lsO vs kk)] ++ tl = (a, Ls.lsO vs kk) :: tl from rfl] at N'
    (try k_fold)
    (try dsimp only)
    k_steps
    rename_i D1 h1 F1 N1 _
    refine Ls.add (vs := vs) (us := [_]) F1 N1 (List.mem_cons_of_mem _ List.mem_cons_self) List.mem_cons_self (by simp; omega) ?_
    intro D2 h2 F2 N2 _
    k_steps
    refine does_use (c_beside b _ _ (-1) hbl.1 hbl.2 (.inr rfl)) (by k_asm) F2 (by k_asm) N2 (by k_asm) (by rfl) (by ktr_room) (by ktr_units) ?_
    rintro _ _ h3 tk3 F3 N3 - ⟨a3, v3, k3, rfl, rfl, hb3⟩
    have hz3 : v3.length ≤ 1 := by rw [hb3.1]; exact beside_len _ _
    simp only [List.nil_append, List.cons_append, List.singleton_append] at N3
    k_steps
    refine Ls.add (vs := vs ++ [_]) (us := v3) F3 N3 (List.mem_cons_of_mem _ List.mem_cons_self) List.mem_cons_self (by simp; omega) ?_
    intro D4 h4 F4 N4 _
    k_steps
    refine does_use (c_beside b _ _ 1 hbl.1 hbl.2 (.inl rfl)) (by k_asm) F4 (by k_asm) N4 (by k_asm) (by rfl) (by ktr_room) (by ktr_units) ?_
    rintro _ _ h5 tk5 F5 N5 - ⟨a5, v5, k5, rfl, rfl, hb5⟩
    have hz5 : v5.length ≤ 1 := by rw [hb5.1]; exact beside_len _ _
    simp only [List.nil_append, List.cons_append, List.singleton_append] at N5
    k_steps
    refine Ls.add (vs := (vs ++ [_]) ++ v3) (us := v5) F5 N5 (List.mem_cons_of_mem _ List.mem_cons_self) List.mem_cons_self (by simp; omega) ?_
    intro D6 h6 F6 N6 _
    k_steps
    refine does_use (c_changed b _ _ v hbl.1 hbl.2) (by k_asm) (by k_asm) (by k_asm) (by k_asm) (by k_asm) (by rfl) (by ktr_room) (by ktr_units) ?_
    rintro _ _ h7 tk7 F7 N7 - ⟨rfl, t7, rfl⟩
    simp only [List.nil_append, List.cons_append, List.singleton_append] at N7
    k_steps
    rename_i D8 h8 F8 N8 l8
    refine Ls.add (vs := ((vs ++ [_]) ++ v3) ++ v5) (us := [_]) F8 N8 (List.mem_cons_of_mem _ List.mem_cons_self) List.mem_cons_self (by simp; omega) ?_
    intro D9 h9 F9 N9 l9
    have l9t : AllLt D9 tl := allLt_intro fun p hp => allLt_mem l9 p (by simp [hp])
    k_steps
    rename_i F10 N10
    refine ⟨_, _, _, [(D9, _)], rfl, F10, fun p hp => N10 p ((by walk_at "sub" : ∀ p ∈ [(D9, Ls.lsO (_ ++ [_]) 0)] ++ tl, p ∈ _) p hp), TurnOff1 (AllNe.ofLt l9t), D9, _, 0, rfl, allLt_intro fun p hp => allLt_mem l9t p (hsub p hp), ?_, ovr_of (keys_cons rfl keys_nil) (by walk_at "off")⟩
    rw [hstep, hto]
    have hall := bytes_app hvs (bytes_app (bytes_app (bytes_app (bytes_one (b := b) (t := ty)) hb3) hb5) (bytes_one (b := changedB b v) (t := t7)))
    simpa only [List.append_assoc] using hall
  case done =>
    rintro m₁ nx h tk ⟨a, vs, kk, rfl, hal, hvs, hm⟩ F' N' hff
    rw [List.take_of_length_le (by rw [List.length_zip]; omega)] at hvs
    rw [hm] at F'
    rw [show [(a, Ls.lsO vs kk)] ++ news = (a, Ls.lsO vs kk) :: news from rfl] at N'
    (try k_fold)
    k_steps
    exact BodyEnd.ret (own := [(a, _)]) F' N' (by walk_at "sub") (above_cons hal above_nil) ⟨a, vs, kk, rfl, rfl, hvs⟩
end

theorem top_off_27 : True := by
  w_top off
  trivial
theorem binds_kw3 {K : Frag} {s : Shared} {fd : FuncData} {args : Args} {binds : List (PySem.Str × Value)} {d : Addr} {o : Obj} {es : Array DictEntry} {ep : Nat} {n1 n2 n3 : PySem.Str} {v1 v2 v3 : Value} {k1 k2 k3 : Option Value → Sem (List (PySem.Str × Value))}
    (X : K.In s.heap) (ho : K.lookup d = some o) (hs : o.data = .dict es ep) (hk : StrKeys es) (h1 : bindArgs fd args = nsGet d n1 >>= k1) (e1 : nsFind es n1 = some v1) (h2 : k1 (some v1) = nsGet d n2 >>= k2) (e2 : nsFind es n2 = some v2)
    (h3 : k2 (some v2) = nsGet d n3 >>= k3) (e3 : nsFind es n3 = some v3) (h4 : k3 (some v3) = pure binds) : BindsTo s fd args binds := by
  intro M A E Q hq
  have hn : s.heap.Ns d (nsFind es) := ⟨o, es, ep, X _ _ ho, hs, hk, fun _ => rfl⟩
  rw [h1]
  refine wpAny_bind (wpAny_nsGet hn ?_)
  rw [e1, h2]
  refine wpAny_bind (wpAny_nsGet hn ?_)
  rw [e2, h3]
  refine wpAny_bind (wpAny_nsGet hn ?_)
  rw [e3, h4]
  exact wpAny_pure hq
section
variable {w : World} {p : Program} {loose : List PySem.Str} {mean : ExcName → Option Value} {mg mb : PySem.Str → Option Value} {news : List (Addr × Obj)}
theorem c_from (b : List UInt8) (tb : Tok) :
    Does PySem.Challenge.rw_kq0071_01.row.prog w (hd.heap_39 w.params) p loose mean mg mb 50 [.bytes b.toArray tb] [] news 2 (fun r own => own = [] ∧ r = .bytes b.toArray tb) := by
  refine' does_def (binds := [(PySem.Str.ofString "s", .bytes b.toArray tb)]) ?ho ?hcd ?hbind ?hloc ?hco ?hgen ?hk ?hcell ?h
  walk_at "enter"
  intro dp un outer A₀ base g L s B F N X T hd hu hlt
  k_fold
  k_steps
  exact BodyEnd.ret (own := []) (by k_asm) (by k_asm) (by walk_at "sub") above_nil ⟨rfl, rfl⟩
end

namespace Ex
open PySem.Sem (wp)
section
variable {M : Model} {A : Around} {E : Value → Shared → Prop} {s : Shared}
/-- the exception's traceback is T, and T is not in flight -/
def Trace (h : Heap) (T : Addr) : Prop := ∃ oT ts, h.get? T = some oT ∧ oT.data = .fields ts ∧ ts[3]? = some Value.none
/-- a new exception's first station: what the note leaves -/
theorem noteFirst {base : Heap} {env : Env} {outer : List Env} {L e : Addr} {oe : Obj} {vs : Array Value} {Q : Unit → Shared → Prop} (hfr : A.frames = some (env :: outer)) (hl : s.heap.FunFrames base (env :: outer)) (hf : env.frame = some L)
    (he : s.heap.get? e = some oe) (hd : oe.data = .fields vs) (h1 : vs[1]? = some .none) (hkb : base.StaysIn s.heap) (hen : base.get? e = none)
    (h : ∀ h' T, h'.get? e = some (Obj.mapFields (·.setIfInBounds 1 (.ref T)) oe) → T ≠ e → base.get? T = none → Trace h' T → base.StaysIn h' → h'.FunFrames base (env :: outer) → s.heap.UpToSlots h' → Q () { s with heap := h' }) :
    wpAny M A (noteFrame (.ref e) env) (fun _ s₂ => wpAny M A (setFlight (.ref e) none) Q E s₂) E s := by
  have hsz : 1 < vs.size := (Array.getElem?_eq_some_iff.mp h1).1
  have nf : e ∉ (env :: outer).filterMap (·.frame) := fun hm => by
    obtain ⟨_, o, ho, hn⟩ := hl.mem hm
    rw [he] at ho; cases ho; exact hn _ hd
  unfold noteFrame
  simp only [hf]
  refine wpAny_bind (wpAny_field he hd h1 ?_)
  rw [if_neg (by decide)]
  refine wpAny_bind (wpAny_frameOf_fun hfr hl hf fun h₁ hs => ?_)
  refine wpAny_bind (wpAny_entryPlaceOf fun pl hpl => ?_)
  unfold EntryCells.newEntry newFields
  refine wpAny_bind (wpAny_newObj_type ?_ (hpl.sizeOk5 _ _ _ _ _))
  have e1 : h₁.get? e = some oe := (hs.2.1 e nf).trans he
  have hlt := Heap.lt_size e1
  have hTe : h₁.objs.size ≠ e := Nat.ne_of_gt hlt
  generalize hob : ({ cls := .type "traceback", dict := none, data := .fields ([Value.none, .ref L, .none, rawInt L, .none] ++ (if pl.isEmpty then List.replicate 6 Value.none else pl)).toArray } : Obj) = ob
  have hobd : ob.data = .fields ([Value.none, .ref L, .none, rawInt L, .none] ++ (if pl.isEmpty then List.replicate 6 Value.none else pl)).toArray := by rw [← hob]
  have hobf : ob.isFreed = false := by rw [← hob]; rfl
  have e2 := Heap.get?_push_of_some (h := h₁) ob e1
  have t2 : (h₁.push ob).get? h₁.objs.size = some ob := Heap.get?_push_size h₁ hobf
  dsimp only
  refine wpAny_setField e2 hd hsz ?_
  have e3 := Heap.get?_update_self (Obj.mapFields (·.setIfInBounds 1 (Value.ref h₁.objs.size))) e2 (Obj.isFreed_of_fields (Obj.data_mapFields hd _))
  have t3 : ((h₁.push ob).update e (Obj.mapFields (·.setIfInBounds 1 (Value.ref h₁.objs.size)))).get? h₁.objs.size = some ob := (Heap.get?_update_other _ _ (Ne.symm hTe)).trans t2
  unfold setFlight
  refine wpAny_bind (wpAny_field e3 (Obj.data_mapFields hd _) (x := .ref h₁.objs.size) (by simp [hsz]) ?_)
  rw [if_pos (show (Value.ref h₁.objs.size != Value.none) = true by simp)]
  refine wpAny_setField t3 hobd (by simp only [List.size_toArray, List.length_append, List.length_cons, List.length_nil] <;> omega) ?_
  have t4 := Heap.get?_update_self (Obj.mapFields (·.setIfInBounds 3 ((none : Option Addr).elim Value.none fun f => rawInt f))) t3 (Obj.isFreed_of_fields (Obj.data_mapFields hobd _))
  have rest : ∀ b o, b ≠ e → h₁.get? b = some o → (((h₁.push ob).update e (Obj.mapFields (·.setIfInBounds 1 (Value.ref h₁.objs.size)))).update h₁.objs.size (Obj.mapFields (·.setIfInBounds 3 ((none : Option Addr).elim Value.none fun f => rawInt f)))).get? b = some o := fun b o hne hb => by
    rw [Heap.get?_update_other _ _ (Nat.ne_of_gt (Heap.lt_size hb)), Heap.get?_update_other _ _ (Ne.symm hne)]
    exact Heap.get?_push_of_some _ hb
  have bs : base.StaysIn h₁ := fun b o hb => (hs.2.1 b fun hm => by rw [(hl.mem hm).1] at hb; cases hb).trans (hkb b o hb)
  have nr : ∀ b o, s.heap.get? b = some o → (∀ vs, o.data ≠ .fields vs) → b ≠ e := fun b o hb hn q => by
    rw [q, he] at hb; cases hb; exact hn _ hd
  refine h _ h₁.objs.size ?_ hTe ?_ ⟨_, _, t4, Obj.data_mapFields hobd _, ?_⟩ (fun b o hb => rest b o (fun q => by rw [q, hen] at hb; cases hb) (bs b o hb)) (hl.of_keeps fun b o hb hn => ?_) (fun b o hb hn => ?_)
  · rw [Heap.get?_update_other _ _ hTe]; exact e3
  · cases q : base.get? h₁.objs.size with
    | none => rfl
    | some o => exact absurd (Heap.lt_size (bs _ _ q)) (Nat.lt_irrefl _)
  · first | (simp; done) | (rcases hpl with rfl | ⟨_, _, _, _, _, _, _, rfl⟩ <;> simp)
  · obtain ⟨sl, hb'⟩ := hs.2.2 b o hb
    exact ⟨_, rest b _ (nr b o hb hn) hb', rfl⟩
  · obtain ⟨sl, hb'⟩ := hs.2.2 b o hb
    exact ⟨sl, rest b _ (nr b o hb hn) hb'⟩
/-- the flight is set off once more -/
theorem flightOff {e T : Addr} {oe : Obj} {vs : Array Value} {Q : Unit → Shared → Prop} (he : s.heap.get? e = some oe) (hd : oe.data = .fields vs) (h1 : vs[1]? = some (.ref T)) (hTe : T ≠ e) (hT : Trace s.heap T)
    (h : ∀ h', h'.get? e = some oe → Trace h' T → (∀ b o, b ≠ T → s.heap.get? b = some o → h'.get? b = some o) → Q () { s with heap := h' }) : wpAny M A (setFlight (.ref e) none) Q E s := by
  obtain ⟨oT, ts, hT, hdT, h3⟩ := hT
  unfold setFlight
  refine wpAny_bind (wpAny_field he hd h1 ?_)
  rw [if_pos (show (Value.ref T != Value.none) = true by simp)]
  have h3s : 3 < ts.size := (Array.getElem?_eq_some_iff.mp h3).1
  refine wpAny_setField hT hdT h3s (h _ ?_ ⟨_, _, Heap.get?_update_self _ hT (Obj.isFreed_of_fields (Obj.data_mapFields hdT _)), Obj.data_mapFields hdT _, by simp [h3s]⟩ fun b o hb hbo => ?_)
  · rw [Heap.get?_update_other _ _ hTe]; exact he
  · rw [Heap.get?_update_other _ _ (Ne.symm hb)]; exact hbo
end
end Ex

namespace Ex
open PySem.Sem (wp)
section
variable {prog : Program} {w : World} {A₀ : Around} {E : Value → Shared → Prop} {s' : Shared} {base g h : Heap} {outer : List Env} {L a e : Addr} {m : PySem.Str → Option Value} {name : PySem.Str} {scope : Scope} {cd : Value}
  {b₀ : Stmt} {suite : List Stmt} {pos : Pos} {rest : List ExceptHandler} {Q : Flow → Shared → Prop} {news : List (Addr × Obj)} {KF : Frag} {tt : Expr}
  {p : Program} {loose : List PySem.Str} {mean : ExcName → Option Value} {mg mb : PySem.Str → Option Value} {X : String}
/-- an exception that a builtin raised here is caught here; the exception itself stays known -/
theorem caught_new (K : Below A₀ base outer g) (F : Fr g L h m) (N : News g L h news) (hx : Heap.NewExc h s'.heap e X) (XB : KF.In base) (TB : Top p loose mean mg mb base) (T : KtsTest prog w KF p loose mg mb name scope L a cd (.type X) tt true)
    (k : ∀ h' g' oe t0 tb, KtsTurn (outer.filterMap (·.frame)) g g' → Fr g' L h' m → News g' L h' news → Below A₀ base outer g' → KF.In g' → Top p loose mean mg mb g' → h'.get? e = some oe → oe.data = .fields #[t0, .ref tb, .none, .none, .bool false, .none] → g'.get? e = none →
      wpAny (model prog w) ((A₀.deeper (envOf name scope L a cd)).mark (some (.ref e))) (execs (b₀ :: suite) (envOf name scope L a cd)) Q E { s' with heap := h' })
    (hk : scope.kind = .function := by rfl)
    (hE : PassesOwnAt (model prog w) ((A₀.deeper (envOf name scope L a cd)).mark (some (.ref e))) (A₀.deeper (envOf name scope L a cd)) (envOf name scope L a cd) E := by passes_own) :
    wpAny (model prog w) (A₀.deeper (envOf name scope L a cd)) (noteFrame (.ref e) (envOf name scope L a cd))
      (fun _ s₂ => wpAny (model prog w) (A₀.deeper (envOf name scope L a cd)) (setFlight (.ref e) none) (fun _ s₃ =>
        wpAny (model prog w) (A₀.deeper (envOf name scope L a cd)) (handleBy (.ref e) (envOf name scope L a cd) (.ExceptHandler (some tt) none (b₀ :: suite) pos :: rest)) Q E s₃) E s₂) E s' := by
  have K' := K.push (name := name) (a := a) (cd := cd) F hk
  obtain ⟨ob, t0, hob, hcls, hdata⟩ := hx.there
  -- the ground: all that stood before, without the frames
  have hin : ∀ env ∈ (envOf name scope L a cd :: outer), ∀ b, env.frame = some b → b ∈ (envOf name scope L a cd :: outer).filterMap (·.frame) := fun env he b hb => List.mem_filterMap.mpr ⟨env, he, hb⟩
  have hBin : ∀ b o, (hideAll h ((envOf name scope L a cd :: outer).filterMap (·.frame))).get? b = some o → h.get? b = some o := fun b o q => of_hideAll _ q
  have hBG : ∀ b o, (hideAll h (news.map (·.1))).get? b = some o → b ∉ (envOf name scope L a cd :: outer).filterMap (·.frame) → (hideAll h ((envOf name scope L a cd :: outer).filterMap (·.frame))).get? b = some o := fun b o q nm => hideAll_get _ (of_hideAll _ q) nm
  have hen : (hideAll h ((envOf name scope L a cd :: outer).filterMap (·.frame))).get? e = none := by
    cases q : (hideAll h ((envOf name scope L a cd :: outer).filterMap (·.frame))).get? e with
    | none => rfl
    | some o => have := hBin _ _ q; rw [hx.new] at this; cases this
  obtain ⟨oL, es, ep, hLG, hLd, hLn, -, hst, -⟩ := kts_enter (A := A₀.deeper (envOf name scope L a cd)) (cn := name) (cs := scope) (a := a) (ccd := cd) (s := { s' with heap := h }) K F N (Around.frames_deeper K.stack) hk
  have FG : Fr g L (hideAll h (news.map (·.1))) m := ⟨hLn _ hLG, hst, F.above⟩
  have hup0 : (hideAll h (news.map (·.1))).UpToSlots s'.heap := Heap.UpToSlots.of_keeps fun b o q => hx.keeps _ _ (of_hideAll _ q)
  refine noteFirst (Around.frames_deeper K.stack) ((funFrames_hide K'.frames hin).of_keeps fun b o hb _ => ⟨o, hx.keeps b o hb, rfl⟩) rfl hob hdata rfl (fun b o q => hx.keeps b o (hBin b o q)) hen ?_
  intro h1 tb he1 hTe hbT tr1 st1 fr1 up1
  have hd1 := Obj.data_mapFields hdata (·.setIfInBounds 1 (.ref tb))
  have upA := hup0.trans up1
  obtain ⟨g5, T5, F5, K5⟩ := kts_ground K FG hBG st1 upA
  have ty : Looks (model prog w) h1 (typeOf (.ref e)) (.type X) := by
    rw [← hcls, ← Obj.cls_mapFields ob (·.setIfInBounds 1 (.ref tb))]
    exact (Looks.ld he1).andThen .now
  refine wpAny_handleBy_cons (codeAny_handlers_test (T _ _ _ { s' with heap := h1 } g5 e m F5 (XB.keeps K5.stays) (topRead_of (TB.keeps K5.stays)) ty fun h2 kp => ?_)) (by intro q; cases q)
  refine codeAny_handlers_suite ?_
  have tr2 : Trace h2 tb := let ⟨oT, ts, x1, x2, x3⟩ := tr1; ⟨oT, ts, kp _ _ x1, x2, x3⟩
  refine flightOff (s := { s' with heap := h2 }) (kp _ _ he1) hd1 rfl hTe tr2 ?_
  intro h3 he3 tr3 ke3
  have st3 : (hideAll h ((envOf name scope L a cd :: outer).filterMap (·.frame))).StaysIn h3 := fun b o q => ke3 b o (fun z => by rw [z, hbT] at q; cases q) (kp _ _ (st1 b o q))
  have up3 : (hideAll h (news.map (·.1))).UpToSlots h3 := fun b o q hn => by
    obtain ⟨sl, h'⟩ := upA b o q hn
    refine ⟨sl, ke3 b _ (fun z => ?_) (kp _ _ h')⟩
    obtain ⟨oT, ts, x1, x2, _⟩ := tr1
    rw [z, x1] at h'
    cases h'
    exact hn _ x2
  obtain ⟨g6, T6, F6, K6⟩ := kts_ground K FG hBG st3 up3
  refine wpAny_passesOwnAt hE (k h3 g6 _ t0 tb T6 F6 (fun q hq => ⟨?_, (N q hq).2.1, T6.none_ _ (N q hq).2.2⟩) K6 (XB.keeps K6.stays) (TB.keeps K6.stays) he3 hd1 ?_)
  · refine st3 _ _ (hideAll_get _ (N q hq).1 fun hm => ?_)
    rcases kts_mem hm with z | z
    · exact (N q hq).2.1 z
    · obtain ⟨_, o, ho, _⟩ := K.frames.mem z
      rw [(N q hq).2.2] at ho; cases ho
  · refine T6.none_ _ ?_
    cases q : g.get? e with
    | none => rfl
    | some o => have := F.keep _ _ q; rw [hx.new] at this; cases this
end
end Ex

namespace Ex
open PySem.Sem (wp)
section
variable {prog : Program} {w : World} {A : Around} {E : Value → Shared → Prop} {s : Shared} {env : Env}
theorem entry_unchain : entryFor table "proto.unchain" = some Builtin.«proto.unchain» := by first | exact entryFor_of_tree (by kernel_rfl) | exact entryFor_of_fast (by kernel_rfl)
theorem unchain_short {v o : Value} {e0 : Addr} {ob : Obj} {vs : Array Value} {Q : Value → Shared → Prop} (h0 : s.heap.get? e0 = some ob) (hd : ob.data = .fields vs) (h2 : vs[2]? = some .none) (h : Q .none s) :
    wpAny (model prog w) A (runValue (.builtin "proto.unchain" ⟨[v, .ref e0, o, .bool false], []⟩)) Q E s := by
  refine wpAny_runValue (codeAny_builtin entry_unchain ?_)
  unfold Builtin.«proto.unchain»
  refine wpAny_bind (wpAny_field h0 hd h2 ?_)
  refine bm_if_true rfl ?_
  first
    | exact wpAny_bind (wpAny_pure (wpAny_pure h))
    | (unfold ret; exact wpAny_pure h)
    | (show wpAny _ _ (pure _) _ _ _; exact wpAny_pure h)
theorem raiseStmt_from {cls : String} (G : ExcRaiseFacts cls) {x c : Sem Value} {e0 : Addr} {Q : Flow → Shared → Prop} (hh : A.handled = some (.ref e0)) (hc : ∀ (s : Shared) (Q : Value → Shared → Prop), Q .none s → wpAny (model prog w) A c Q E s)
    (h : wpAny (model prog w) A x (fun v s₁ => ∃ e t ob vs, v = .ref e ∧ e ≠ e0 ∧ s₁.heap.get? e = some { cls := .type cls, data := .fields #[.ref t, .none, .none, .none, .bool false, .none] } ∧ s₁.heap.get? e0 = some ob ∧ ob.data = .fields vs ∧ vs[2]? = some .none ∧
      ∀ h', h'.get? e = some { cls := .type cls, data := .fields #[.ref t, .none, .ref e0, .none, .bool true, .none] } → (∀ b o, b ≠ e → s₁.heap.get? b = some o → h'.get? b = some o) → E (.ref e) { s₁ with heap := h' }) E s) :
    wpAny (model prog w) A (raiseStmt env (some x) (some c)) Q E s := by
  unfold raiseStmt
  refine wpAny_bind (wpAny_mono h (fun v s₁ h₁ => ?_) fun _ _ x => x)
  obtain ⟨e, t, ob, vs, rfl, hne, he, h0, hd0, h02, hE⟩ := h₁
  obtain ⟨hp, g, d, tk, os⟩ := s₁
  have hsub := G.isExc
  have hmeta := G.plainMeta
  dsimp only at he h0 hE
  dsimp only
  refine wpAny_bind (wpAny_holding (hc _ _ ?_))
  refine wpAny_bind (wpAny_pure ?_)
  dsimp only
  repeat (first | refine wpAny_loadPart he ?_ | wp_step)
  unfold raiseNew
  refine wpAny_bind (wpAny_handled ?_)
  rw [hh]
  have u1 := Heap.get?_update_self (Obj.mapFields fun x => x.setIfInBounds 3 Value.none) he (Obj.isFreed_of_fields (Obj.data_mapFields rfl _))
  have u2 := Heap.get?_update_self (Obj.mapFields fun x => x.setIfInBounds 4 (Value.bool true)) u1 (Obj.isFreed_of_fields (Obj.data_mapFields rfl _))
  have v2 : ((hp.update e (Obj.mapFields fun x => x.setIfInBounds 3 Value.none)).update e (Obj.mapFields fun x => x.setIfInBounds 4 (Value.bool true))).get? e0 = some ob := by
    rw [Heap.get?_update_other _ _ hne, Heap.get?_update_other _ _ hne]; exact h0
  refine bm_if_true (by simpa using Ne.symm hne) ?_
  refine wpAny_bind (wpAny_holding (unchain_short v2 hd0 h02 ?_))
  refine wpAny_bind ?_
  show wpAny _ _ (setField (.ref e) 2 (.ref e0)) _ _ _
  refine wpAny_setField u2 rfl (by simp) ?_
  refine wpAny_throw (hE _ ?_ fun b o hb hbo => ?_)
  · exact Heap.get?_update_self _ u2 (Obj.isFreed_of_fields (Obj.data_mapFields rfl _))
  · rw [Heap.get?_update_other _ _ (Ne.symm hb), Heap.get?_update_other _ _ (Ne.symm hb), Heap.get?_update_other _ _ (Ne.symm hb)]; exact hbo
end
end Ex

namespace Ex
open PySem.Sem (wp)
section
variable {prog : Program} {w : World} {A : Around} {E : Value → Shared → Prop} {s : Shared} {env : Env}
/-- raise C(args) from None, in a clause that handles e0 -/
theorem Raise_from {cls newId initId : String} (FC : ExcCallFacts cls newId initId) (FR : ExcRaiseFacts cls) {x : PySem.Str} {np cpos pos cp : Pos} {ck : Tok} {e₀ : Expr} {rest : List Expr} {e0 : Addr} {Q : Flow → Shared → Prop} (hh : A.handled = some (.ref e0))
    (h : wpAny (model prog w) A (eval (.Name x np) env) (fun f s₁ => f = .type cls ∧ wpAny (model prog w) A (spliced (backTo cpos (starEach (e₀ :: rest) env)))
      (fun vs s₂ => vs.length ≤ sizeLine ∧ (∃ ob vs0, s₂.heap.get? e0 = some ob ∧ ob.data = .fields vs0 ∧ vs0[2]? = some .none) ∧
        ∀ h' e t, s₂.heap.get? e = none → s₂.heap.get? t = none → (∀ b o, s₂.heap.get? b = some o → h'.get? b = some o) → h'.get? e = some { cls := .type cls, data := .fields #[.ref t, .none, .ref e0, .none, .bool true, .none] } →
          h'.get? t = some { cls := .type "tuple", data := .seq vs.toArray } → E (.ref e) { s₂ with heap := h' }) E s₁) E s)
    (he : starEach (e₀ :: rest) env = (false, eval e₀ env) :: starEach rest env := by rfl) (hplain : (backTo cpos (starEach rest env)).any (·.1) = false := by rfl) :
    wpAny (model prog w) A (exec (.Raise (some (.Call (.Name x np) (e₀ :: rest) [] cpos)) (some (.Constant .none ck cp)) pos) env) Q E s := by
  rw [arm_exec_Raise]
  refine wpAny_bind (wpAny_standAt ?_)
  refine raiseStmt_from FR hh ?_ ?_
  · intro s Q hQ
    show wpAny _ _ (do let v ← eval (Expr.Constant Const.none ck cp) env; standAt pos; pure v) _ _ _
    refine wpAny_bind (wpAny_Constant_none ?_)
    exact wpAny_bind (wpAny_standAt (wpAny_pure hQ))
  · show wpAny _ _ (do let v ← eval ((Expr.Name x np).Call (e₀ :: rest) [] cpos) env; standAt pos; pure v) _ _ _
    refine wpAny_bind (wpAny_Call_ofName (wpAny_mono h (fun f s₁ h₁ => ?_) fun _ _ y => y))
    obtain ⟨rfl, h₁⟩ := h₁
    refine callWith_excType (by rw [he]; show (false || (backTo cpos (starEach rest env)).any (·.1)) = false; rw [hplain]; rfl) ?_
    rw [he] at h₁ ⊢
    refine Calls.evalArgs_plain (wpAny_mono h₁ (fun vs s₂ h₂ => ?_) fun _ _ y => y)
    obtain ⟨hz, ⟨ob, vs0, h0, hd0, h02⟩, hE⟩ := h₂
    obtain ⟨hp, g, d, tk, os⟩ := s₂
    refine wpAny_call_exc FC (hrest := hz) fun h' e hm => ?_
    refine wpAny_bind (wpAny_standAt (wpAny_pure ?_))
    obtain ⟨t, ht, htn, htt⟩ := hm.there
    have hne : e ≠ e0 := fun q => by have := hm.new; rw [q] at this; rw [this] at h0; cases h0
    refine ⟨e, t, ob, vs0, rfl, hne, ht, hm.keeps _ _ h0, hd0, h02, fun h'' he'' hk => ?_⟩
    have hnb : ∀ b o, hp.get? b = some o → b ≠ e := fun b o hb q => by rw [q, hm.new] at hb; cases hb
    refine hE h'' e t hm.new htn (fun b o hb => hk b o (hnb b o hb) (hm.keeps _ _ hb)) he'' (hk _ _ (fun q => ?_) htt)
    rw [q, ht] at htt
    cases htt
end
end Ex

namespace Ex
open PySem.Sem (wp)
section
variable {M : Model} {A : Around} {E : Value → Shared → Prop} {s' : Shared} {base g g' h : Heap} {outer : List Env} {L a e t : Addr} {m : PySem.Str → Option Value} {name : PySem.Str} {scope : Scope} {cd : Value} {Q : Unit → Shared → Prop} {news : List (Addr × Obj)}
theorem turn_none {fs : List Addr} (T : KtsTurn fs g g') {b : Addr} (h : g'.get? b = none) : g.get? b = none := by
  cases q : g.get? b with
  | none => rfl
  | some o => obtain ⟨sl, e⟩ := T.up q; rw [h] at e; cases e
/-- an exception that was made here, after a clause turned the ground, leaves the frame -/
theorem leave_from {cls : Value} {vs : List Value} {oe : Obj} {ws : Array Value} {k : Nat} (K : Below A base outer g') (F : Fr g' L h m) (N : News g' L h news) (T : KtsTurn (outer.filterMap (·.frame)) g g') (hen : h.get? e = none) (htn : h.get? t = none)
    (hkp : ∀ b o, h.get? b = some o → s'.heap.get? b = some o) (he : s'.heap.get? e = some oe) (hc : oe.cls = cls) (hd : oe.data = .fields ws) (h1 : ws[1]? = some .none) (h0 : ws[0]? = some (.ref t)) (ht : s'.heap.get? t = some { cls := .type "tuple", data := .seq vs.toArray k })
    (hQ : ∀ h', RaisedS base g outer e cls t vs news h' → g.UpToSlots h' → Q () { s' with heap := h' }) (hk : scope.kind = .function := by rfl) :
    wpAny M (A.deeper (envOf name scope L a cd)) (leaving (envOf name scope L a cd) (.ref e)) Q E s' := by
  have K' := K.push (name := name) (a := a) (cd := cd) F hk
  have hin : ∀ env ∈ (envOf name scope L a cd :: outer), ∀ b, env.frame = some b → b ∈ (envOf name scope L a cd :: outer).filterMap (·.frame) := fun env he b hb => List.mem_filterMap.mpr ⟨env, he, hb⟩
  have fresh : ∀ b, h.get? b = none → (hideAll h ((envOf name scope L a cd :: outer).filterMap (·.frame))).get? b = none := fun b hb => by
    cases q : (hideAll h ((envOf name scope L a cd :: outer).filterMap (·.frame))).get? b with
    | none => rfl
    | some o => have := of_hideAll _ q; rw [hb] at this; cases this
  have st : base.StaysIn (hideAll h ((envOf name scope L a cd :: outer).filterMap (·.frame))) := fun b o q => hideAll_get _ (K'.stays b o q) fun hm => by
    rw [(K'.frames.mem hm).1] at q; cases q
  have sg : ∀ b o, g.get? b = some o → b ∉ outer.filterMap (·.frame) → (hideAll h ((envOf name scope L a cd :: outer).filterMap (·.frame))).get? b = some o := fun b o q nm => hideAll_get _ (F.keep b o (T.other b o q nm)) fun hm => by
    rcases kts_mem hm with z | z
    · have := T.other b o q nm
      rw [z, kts_self F] at this
      cases this
    · exact nm z
  have hl : ∀ q ∈ news, (hideAll h ((envOf name scope L a cd :: outer).filterMap (·.frame))).get? q.1 = some q.2 ∧ g.get? q.1 = none ∧ base.get? q.1 = none := fun q hq => by
    refine ⟨hideAll_get _ (N q hq).1 fun hm => ?_, turn_none T (N q hq).2.2, fresh_of_stays K.stays (N q hq).2.2⟩
    rcases kts_mem hm with z | z
    · exact (N q hq).2.1 z
    · obtain ⟨_, o, ho, _⟩ := K.frames.mem z
      rw [(N q hq).2.2] at ho; cases ho
  subst hc
  refine wpAny_leaving_firstW (a0 := .ref t) K'.stack ((funFrames_hide K'.frames hin).of_keeps fun b o hb _ => ⟨o, hkp b o hb, rfl⟩) rfl he (fun b o q => hkp b o (of_hideAll _ q)) (fresh e hen) hd h1 h0 fun h' hL => ?_
  obtain ⟨k1, ⟨_, _, k2⟩, k3, k4⟩ := hL
  refine hQ h' ⟨⟨_, st, sg, hl, ⟨k1, fresh e hen, k2, k3⟩, fresh t htn⟩, Heap.TupAt.of_slots ⟨_, _, ht, rfl, rfl⟩ k4⟩ fun b o q hn => ?_
  obtain ⟨sl, q1⟩ := T.up q
  obtain ⟨sl2, q2⟩ := k4 _ _ (hkp _ _ (F.keep _ _ q1)) hn
  exact ⟨sl2, q2⟩
theorem dicts_push {cn : PySem.Str} {cs : Scope} {ccd : Value} (F : Fr g L g' m) (D : KtsDicts (outer.filterMap (·.frame)) g) : KtsDicts ((envOf cn cs L a ccd :: outer).filterMap (·.frame)) g' := fun b hb => by
  rcases kts_mem hb with rfl | hb
  · obtain ⟨o, es, ep, ho, hd, _⟩ := F.ns
    exact ⟨o, es, ep, ho, hd⟩
  · obtain ⟨o, es, n, ho, hd⟩ := D b hb
    exact ⟨o, es, n, F.keep _ _ ho, hd⟩
end
/-- a contract with two ends: R for a value; an exception of the class cls, its arguments as RV says -/
def DoesX (prog : Program) (w : World) (K : Frag) (p : Program) (loose : List PySem.Str) (mean : ExcName → Option Value) (mg mb : PySem.Str → Option Value) (f : Addr) (args : List Value) (kw : List (PySem.Str × Value)) (news : List (Addr × Obj)) (lev : Nat) (R : Value → List (Addr × Obj) → Prop) (cls : Value) (RV : List Value → Prop) : Prop :=
  ∀ (dp un : Nat) (cn : PySem.Str) (cs : Scope) (a : Addr) (ccd : Value) (outer : List Env) (A₀ : Around) (base h₀ : Heap) (L : Addr) (m : PySem.Str → Option Value) (s : Shared) (Q E : Value → Shared → Prop),
    Below A₀ base outer h₀ → Fr h₀ L s.heap m → K.In h₀ → News h₀ L s.heap news → Top p loose mean mg mb h₀ → K.In base → Top p loose mean mg mb base → KtsDicts (outer.filterMap (·.frame)) h₀ → cs.kind = .function → dp + lev + 1 < recursionLimit → un + 10 * lev + 30 < cLine →
    (∀ (v : Value) (own : List (Addr × Obj)) (h' : Heap) (tk' : Nat), Fr h₀ L h' m → News h₀ L h' (own ++ news) → Above own news → R v own → Q v { s with heap := h', toks := tk' }) →
    (∀ (e t : Addr) (vs : List Value) (G h' : Heap) (tk' : Nat), RV vs → Fr h₀ L G m → RaisedS base G (envOf cn cs L a ccd :: outer) e cls t vs news h' → G.UpToSlots h' → E (.ref e) { s with heap := h', toks := tk' }) →
    wpAny (model prog w) (ktrTop dp un (some []) cn cs L a ccd [] outer) (call (.ref f) args kw) Q E s
section
variable {prog : Program} {w : World} {K : Frag} {p : Program} {loose : List PySem.Str} {mean : ExcName → Option Value} {mg mb : PySem.Str → Option Value}
  {f : Addr} {args : List Value} {kw : List (PySem.Str × Value)} {news : List (Addr × Obj)} {R : Value → List (Addr × Obj) → Prop} {lev : Nat} {cls : Value} {RV : List Value → Prop}
  {name : PySem.Str} {params : Arguments} {body : List Stmt} {scope : Scope} {dV kV doc pm cdv ct oc : Value} {an od : Option Addr} {osl : Array (Option Value)} {binds : List (PySem.Str × Value)}
theorem does_defX (ho : K.lookup f = some ⟨oc, od, .func (fnOf name name params body scope dV kV doc pm an cdv ct), osl⟩) (hcd : codeIn K cdv name = true)
    (hbind : ∀ s : Shared, K.In s.heap → BindsTo s (fnOf name name params body scope dV kV doc pm an cdv ct) ⟨args, kw⟩ binds) (hloc : ∀ y ∈ binds, scope.names.lookup y.1 = some .local)
    (hco : scope.isCoroutine = false) (hgen : scope.isGenerator = false) (hk : scope.kind = .function) (hcell : ∀ x ∈ scope.names, x.2 ≠ .cell)
    (h : ∀ (dp un : Nat) (outer : List Env) (A₀ : Around) (base g : Heap) (L : Addr) (s : Shared) (X : Value → Shared → Prop),
      Below A₀ base outer g → Fr g L s.heap (fun y => binds.reverse.lookup y) → News g L s.heap news → K.In g → Top p loose mean mg mb g → K.In base → Top p loose mean mg mb base → KtsDicts (outer.filterMap (·.frame)) g → dp + 1 + lev < recursionLimit → un + 3 + 10 * lev + 20 < cLine → AllLt L news →
      (∀ (e t : Addr) (vs : List Value) (h' : Heap) (tk' : Nat), RV vs → RaisedS base g outer e cls t vs news h' → g.UpToSlots h' → X (.ref e) { s with heap := h', toks := tk' }) →
      wpAny (model prog w) (ktrTop (dp + 1) (un + 3) (some []) name scope L f cdv [] outer) (execs body (envOf name scope L f cdv)) (BodyEnd g L news R s)
        (fun e s' => wpAny (model prog w) (ktrTop (dp + 1) (un + 3) (some []) name scope L f cdv [] outer) (leaving (envOf name scope L f cdv) e) (fun _ s'' => X e s'') (fun e' s'' => X e' s'') s') s) :
    DoesX prog w K p loose mean mg mb f args kw news lev R cls RV := by
  intro dp un cn cs a ccd outer A₀ base h₀ L m s Q E B F X N T XB TB D hck hd hu hret hexc
  refine wpAny_call ?_
  have X' := X.keeps F.keep
  refine callX_plain (cl := []) (env := envX cn cs L a ccd []) B F N T.nolimit rfl rfl hck (X' _ _ ho) rfl (codeRec_of X' hcd) (by show dp < recursionLimit; omega) (hbind s X') hloc (fun g L' h₁ FG F' N' B' st hlt => ?_) hcell hco hgen hk
  have hh := h dp un (envX cn cs L a ccd [] :: outer) _ base g L' { s with heap := h₁, toks := s.toks + binds.length } (fun e s' => E e s') B' F' N' (X.keeps st) (T.keeps st) XB TB (dicts_push FG D) (by omega) (by omega) (allLt_intro hlt)
    (fun e t vs h' tk' hv hR hs => hexc e t vs g h' tk' hv FG hR hs)
  refine wpAny_mono hh (fun fl s' hb => ?_) fun _ _ e => e
  obtain ⟨v, own, h', tk', m', hfl, rfl, F'', N'', ha, hR⟩ := hb
  rcases hfl with rfl | ⟨rfl, rfl⟩
  · exact leaveK_ F'' N'' fun FK NK => hret v own h' tk' FK NK ha hR
  · exact leaveK_ F'' N'' fun FK NK => hret _ own h' tk' FK NK ha hR
end
end Ex

namespace Ex
open PySem.Sem (wp)
def BodyEndS (fs : List Addr) (g : Heap) (L : Addr) (news : List (Addr × Obj)) (R : Value → List (Addr × Obj) → Prop) (s₁ : Shared) (fl : Flow) (s' : Shared) : Prop :=
  ∃ g' v own h' tk' m', KtsTurn fs g g' ∧ (fl = .ret v ∨ (fl = .next ∧ v = .none)) ∧ s' = { s₁ with heap := h', toks := tk' } ∧ Fr g' L h' m' ∧ News g' L h' (own ++ news) ∧ Above own news ∧ R v own
theorem BodyEndS.ret {fs : List Addr} {g g' : Heap} {L : Addr} {news own : List (Addr × Obj)} {R : Value → List (Addr × Obj) → Prop} {s₁ : Shared} {v : Value} {h' : Heap} {tk' : Nat} {m' : PySem.Str → Option Value} {led : List (Addr × Obj)}
    (T : KtsTurn fs g g') (F : Fr g' L h' m') (N : News g' L h' led) (hs : ∀ p ∈ own ++ news, p ∈ led) (ha : Above own news) (hR : R v own) : BodyEndS fs g L news R s₁ (.ret v) { s₁ with heap := h', toks := tk' } :=
  ⟨g', v, own, h', tk', m', T, .inl rfl, rfl, F, fun p hp => N p (hs p hp), ha, hR⟩
/-- a contract in which the frames below may be turned (an exception was caught on the way) -/
def DoesS (prog : Program) (w : World) (K : Frag) (p : Program) (loose : List PySem.Str) (mean : ExcName → Option Value) (mg mb : PySem.Str → Option Value) (f : Addr) (args : List Value) (kw : List (PySem.Str × Value)) (news : List (Addr × Obj)) (lev : Nat) (R : Value → List (Addr × Obj) → Prop) : Prop :=
  ∀ (dp un : Nat) (cn : PySem.Str) (cs : Scope) (a : Addr) (ccd : Value) (outer : List Env) (A₀ : Around) (base h₀ : Heap) (L : Addr) (m : PySem.Str → Option Value) (s : Shared) (Q E : Value → Shared → Prop),
    Below A₀ base outer h₀ → Fr h₀ L s.heap m → K.In h₀ → News h₀ L s.heap news → Top p loose mean mg mb h₀ → K.In base → Top p loose mean mg mb base → KtsDicts (outer.filterMap (·.frame)) h₀ → cs.kind = .function → dp + lev + 1 < recursionLimit → un + 10 * lev + 30 < cLine →
    (∀ (v : Value) (own : List (Addr × Obj)) (h₀' h' : Heap) (tk' : Nat), KtsTurn (outer.filterMap (·.frame)) h₀ h₀' → Fr h₀' L h' m → News h₀' L h' (own ++ news) → Above own news → Below A₀ base outer h₀' → K.In h₀' → Top p loose mean mg mb h₀' → KtsDicts (outer.filterMap (·.frame)) h₀' → R v own →
      Q v { s with heap := h', toks := tk' }) →
    wpAny (model prog w) (ktrTop dp un (some []) cn cs L a ccd [] outer) (call (.ref f) args kw) Q E s
section
variable {prog : Program} {w : World} {K : Frag} {p : Program} {loose : List PySem.Str} {mean : ExcName → Option Value} {mg mb : PySem.Str → Option Value}
  {f : Addr} {args : List Value} {kw : List (PySem.Str × Value)} {news : List (Addr × Obj)} {R : Value → List (Addr × Obj) → Prop} {lev : Nat}
  {name : PySem.Str} {params : Arguments} {body : List Stmt} {scope : Scope} {dV kV doc pm cdv ct oc : Value} {an od : Option Addr} {osl : Array (Option Value)} {binds : List (PySem.Str × Value)}
theorem does_defS (ho : K.lookup f = some ⟨oc, od, .func (fnOf name name params body scope dV kV doc pm an cdv ct), osl⟩) (hcd : codeIn K cdv name = true)
    (hbind : ∀ s : Shared, K.In s.heap → BindsTo s (fnOf name name params body scope dV kV doc pm an cdv ct) ⟨args, kw⟩ binds) (hloc : ∀ y ∈ binds, scope.names.lookup y.1 = some .local)
    (hco : scope.isCoroutine = false) (hgen : scope.isGenerator = false) (hk : scope.kind = .function) (hcell : ∀ x ∈ scope.names, x.2 ≠ .cell)
    (h : ∀ (dp un : Nat) (outer : List Env) (A₀ : Around) (base g : Heap) (L : Addr) (s : Shared),
      Below A₀ base outer g → Fr g L s.heap (fun y => binds.reverse.lookup y) → News g L s.heap news → K.In g → Top p loose mean mg mb g → K.In base → Top p loose mean mg mb base → KtsDicts (outer.filterMap (·.frame)) g → dp + 1 + lev < recursionLimit → un + 3 + 10 * lev + 20 < cLine →
      wpAny (model prog w) (ktrTop (dp + 1) (un + 3) (some []) name scope L f cdv [] outer) (execs body (envOf name scope L f cdv)) (BodyEndS (outer.filterMap (·.frame)) g L news R s)
        (fun _ _ => False) s) :
    DoesS prog w K p loose mean mg mb f args kw news lev R := by
  intro dp un cn cs a ccd outer A₀ base h₀ L m s Q E B F X N T XB TB D hck hd hu hret
  refine wpAny_call ?_
  have X' := X.keeps F.keep
  refine code_defS (A := ktrTop dp un (some []) cn cs L a ccd [] outer) (cn := cn) (cs := cs) (a := a) (ccd := ccd) B F X N T XB TB D KtsTurn.refl rfl ho hcd (by show dp < recursionLimit; omega) (hbind s X') hloc (fun g L' h₁ FG F' N' B' Xg Tg Dg => ?_) hck hco hgen hk hcell
  have hh := h dp un (envOf cn cs L a ccd :: outer) _ base g L' { s with heap := h₁, toks := s.toks + binds.length } B' F' N' Xg Tg XB TB Dg (by omega) (by omega)
  refine wpAny_mono hh (fun fl s' hb => ?_) fun _ _ e => e.elim
  obtain ⟨g', v, own, h', tk', m', Tn, hfl, rfl, F'', N'', ha, hR⟩ := hb
  rcases hfl with rfl | ⟨rfl, rfl⟩
  · exact leaveS_r F'' N'' Tn fun h₀' T' F₃ N₃ B₃ X₃ T₃ D₃ => hret v own h₀' h' tk' T' F₃ N₃ ha B₃ X₃ T₃ D₃ hR
  · exact leaveS_r F'' N'' Tn fun h₀' T' F₃ N₃ B₃ X₃ T₃ D₃ => hret .none own h₀' h' tk' T' F₃ N₃ ha B₃ X₃ T₃ D₃ hR
end
/-- a turn that touches no frame turns nothing -/
theorem turn_nil {h h' g : Heap} {L : Addr} {m : PySem.Str → Option Value} {news : List (Addr × Obj)} (T : KtsTurn [] h h') (F : Fr h' L g m) (N : News h' L g news) : Fr h L g m ∧ News h L g news :=
  ⟨⟨F.ns, fun b o q => F.keep b o (T.other b o q (by simp)), by rw [← T.size]; exact F.above⟩, fun q hq => ⟨(N q hq).1, (N q hq).2.1, turn_none T (N q hq).2.2⟩⟩
end Ex

def padU (b : List UInt8) : List UInt8 := b ++ [117, 117, 117, 117]
theorem padU_len (b : List UInt8) : (padU b).length = b.length + 4 := by simp [padU]
/-- the number of the j-th group of five signs -/
def groupAt (l : List UInt8) (j : Nat) : Int := numberF 33 85 ((l.drop (j * 5)).take 5)
/-- the signs read since the last whole group -/
def curAt (l : List UInt8) (i : Nat) : List UInt8 := (l.drop (i / 5 * 5)).take (i % 5)
def packed (n : Int) : List UInt8 := (Builtin.Struct.intBytes true 4 n).toList
def intsOf (l : List UInt8) : List Int := l.map fun c => (c.toNat : Int)
/-- what stands in curr and decoded when i bytes are read -/
def DecInv (l : List UInt8) (i : Nat) (cv dv : List Value) : Prop :=
  IntsAre cv (intsOf (curAt l i)) ∧ Ls.BytesAre dv ((List.range (i / 5)).map fun j => packed (groupAt l j)) ∧ ∀ j, j < i / 5 → groupAt l j < 4294967296
theorem decInv_zero (l : List UInt8) : DecInv l 0 [] [] := by
  refine ⟨?_, ⟨rfl, fun i b h => nomatch h⟩, fun j h => ?_⟩
  · show IntsAre [] []
    exact .nil
  · rw [Nat.zero_div] at h; exact absurd h (Nat.not_lt_zero j)
theorem intsAre_snoc {vs : List Value} {ns : List Int} {n : Int} {t : Tok} (h : IntsAre vs ns) : IntsAre (vs ++ [.int n t]) (ns ++ [n]) := by
  induction h with
  | nil => exact .cons _ _ .nil
  | cons n' t' _ ih => exact .cons _ _ ih
theorem curAt_len {l : List UInt8} {i : Nat} (h : i ≤ l.length) : (curAt l i).length = i % 5 := by
  unfold curAt
  rw [List.length_take, List.length_drop]
  omega
theorem cur_snoc {l : List UInt8} {i : Nat} {c : UInt8} (hc : l[i]? = some c) : (l.drop (i / 5 * 5)).take (i % 5 + 1) = curAt l i ++ [c] := by
  unfold curAt
  rw [List.take_add_one, List.getElem?_drop, show i / 5 * 5 + i % 5 = i by omega, hc]
  rfl
theorem intsOf_snoc (l : List UInt8) (c : UInt8) : intsOf (l ++ [c]) = intsOf l ++ [(c.toNat : Int)] := by simp [intsOf]
theorem decInv_more {l : List UInt8} {i : Nat} {cv dv : List Value} {c : UInt8} {t : Tok} (h : DecInv l i cv dv) (hc : l[i]? = some c) (hi : i % 5 ≠ 4) : DecInv l (i + 1) (cv ++ [.int (c.toNat : Int) t]) dv := by
  obtain ⟨h1, h2, h3⟩ := h
  have e1 : (i + 1) / 5 = i / 5 := by omega
  have e2 : (i + 1) % 5 = i % 5 + 1 := by omega
  refine ⟨?_, by rw [e1]; exact h2, by rw [e1]; exact h3⟩
  unfold curAt
  rw [e1, e2, cur_snoc hc, intsOf_snoc]
  exact intsAre_snoc h1
theorem group_ints {l : List UInt8} {i : Nat} {cv dv : List Value} {c : UInt8} {t : Tok} (h : DecInv l i cv dv) (hc : l[i]? = some c) (hi : i % 5 = 4) : IntsAre (cv ++ [.int (c.toNat : Int) t]) (intsOf ((l.drop (i / 5 * 5)).take 5)) := by
  have := cur_snoc hc
  rw [hi] at this
  rw [this, intsOf_snoc]
  exact intsAre_snoc h.1
theorem decInv_group {l : List UInt8} {i : Nat} {cv dv : List Value} {t : Tok} (h : DecInv l i cv dv) (hi : i % 5 = 4) (hg : groupAt l (i / 5) < 4294967296) : DecInv l (i + 1) [] (dv ++ [.bytes (packed (groupAt l (i / 5))).toArray t]) := by
  obtain ⟨h1, h2, h3⟩ := h
  have e1 : (i + 1) / 5 = i / 5 + 1 := by omega
  have e2 : (i + 1) % 5 = 0 := by omega
  refine ⟨?_, ?_, ?_⟩
  · unfold curAt
    rw [e2, List.take_zero]
    exact .nil
  · rw [e1, List.range_succ, List.map_append]
    exact bytes_app h2 bytes_one
  · intro j hj
    rw [e1] at hj
    rcases Nat.lt_succ_iff_lt_or_eq.mp hj with h | rfl
    · exact h3 j h
    · exact hg
theorem number85_pos {l : List UInt8} (h : ∀ c ∈ l, 33 ≤ c.toNat) : 0 ≤ numberF 33 85 l := by
  have key : ∀ (l : List UInt8) (a : Int), 0 ≤ a → (∀ c ∈ l, 33 ≤ c.toNat) → 0 ≤ l.foldl (fun n o => n * 85 + (o.toNat : Int) - 33) a := by
    intro l
    induction l with
    | nil => intro a ha _; exact ha
    | cons c r ih =>
      intro a ha hc
      have := hc c List.mem_cons_self
      exact ih _ (by show 0 ≤ a * 85 + (c.toNat : Int) - 33; omega) fun d hd => hc d (List.mem_cons_of_mem _ hd)
  exact key l 0 (by decide) h
theorem group_pos {l : List UInt8} (h : ∀ c ∈ l, 33 ≤ c.toNat) (j : Nat) : 0 ≤ groupAt l j := number85_pos fun c hc => h c (List.mem_of_mem_drop (List.mem_of_mem_take hc))
theorem padU_signs {b : List UInt8} (h : ∀ c ∈ b, 33 ≤ c.toNat ∧ c.toNat ≤ 117) : ∀ c ∈ padU b, 33 ≤ c.toNat ∧ c.toNat ≤ 117 := by
  intro c hc
  rcases List.mem_append.mp hc with hc | hc
  · exact h c hc
  · have : c = 117 := by simpa using hc
    subst this; decide
theorem packed_len (n : Int) : (packed n).length = 4 := by unfold packed; rw [Bo.intBytes4]; rfl
theorem packed_arr (n : Int) : (packed n).toArray = Builtin.Struct.intBytes true 4 n := by simp [packed]
/-- what a85decode gives back -/
def decB (b : List UInt8) : List UInt8 := (((List.range ((b.length + 4) / 5)).map fun j => packed (groupAt (padU b) j)).flatten).take (4 * ((b.length + 4) / 5) - (4 - (b.length + 4) % 5))
theorem groups_len (f : Nat → Int) (n : Nat) : ((List.range n).map fun j => packed (f j)).flatten.length = 4 * n := by
  induction n with
  | zero => rfl
  | succ n ih => rw [List.range_succ, List.map_append, List.flatten_append, List.length_append, ih]; simp [packed_len]; omega
/-- a group of the text, filled up by u, is above the greatest word -/
def Heavy (b : List UInt8) : Prop := ∃ j, j < (b.length + 4) / 5 ∧ 4294967296 ≤ groupAt (padU b) j
theorem allNe_cons {a : Addr} {q : Addr × Obj} {l : List (Addr × Obj)} (h : q.1 ≠ a) (r : AllNe a l) : AllNe a (q :: l) := fun p hp => by
  rcases List.mem_cons.mp hp with rfl | hp
  · exact h
  · exact r p hp
section
variable {prog : Program} {w : World} {A : Around} {E : Value → Shared → Prop} {s : Shared} {h₀ : Heap} {L : Addr} {m : PySem.Str → Option Value}
theorem append0 {x a : Addr} {v : Value} {vs : List Value} {k : Nat} {post : List (Addr × Obj)} {Q : Value → Shared → Prop} (F : Fr h₀ L s.heap m) (N : News h₀ L s.heap ((a, Ls.lsO vs k) :: post)) (hx : (x, Bo.boundO "list.append" a) ∈ post)
    (o2 : AllNe a post) (hz : vs.length ≤ 1000) (h : ∀ h' k', Fr h₀ L h' m → News h₀ L h' ((a, Ls.lsO (vs ++ [v]) k') :: post) → Q .none { s with heap := h' }) : wpAny (model prog w) A (call (.ref x) [v]) Q E s :=
  Bo.append (pre := []) F N (List.mem_cons_of_mem _ hx) (fun _ h => nomatch h) o2 hz h
theorem append1 {x a : Addr} {v : Value} {vs : List Value} {k : Nat} {q : Addr × Obj} {post : List (Addr × Obj)} {Q : Value → Shared → Prop} (F : Fr h₀ L s.heap m) (N : News h₀ L s.heap (q :: (a, Ls.lsO vs k) :: post)) (hx : (x, Bo.boundO "list.append" a) ∈ post)
    (o1 : q.1 ≠ a) (o2 : AllNe a post) (hz : vs.length ≤ 1000) (h : ∀ h' k', Fr h₀ L h' m → News h₀ L h' (q :: (a, Ls.lsO (vs ++ [v]) k') :: post) → Q .none { s with heap := h' }) : wpAny (model prog w) A (call (.ref x) [v]) Q E s :=
  Bo.append (pre := [q]) F N (List.mem_cons_of_mem _ (List.mem_cons_of_mem _ hx)) (fun p hp => by rw [List.mem_singleton.mp hp]; exact o1) o2 hz h
theorem clear0 {x a : Addr} {vs : List Value} {k : Nat} {post : List (Addr × Obj)} {Q : Value → Shared → Prop} (F : Fr h₀ L s.heap m) (N : News h₀ L s.heap ((a, Ls.lsO vs k) :: post)) (hx : (x, Bo.boundO "list.clear" a) ∈ post)
    (o2 : AllNe a post) (hz : vs.length ≤ 1000) (h : ∀ h' k', Fr h₀ L h' m → News h₀ L h' ((a, Ls.lsO [] k') :: post) → Q .none { s with heap := h' }) : wpAny (model prog w) A (call (.ref x) []) Q E s :=
  Bo.clear (pre := []) F N (List.mem_cons_of_mem _ hx) (fun _ h => nomatch h) o2 hz h
end
section
variable {prog : Program} {w : World} {A : Around} {E : Value → Shared → Prop} {s : Shared} {h₀ : Heap} {L : Addr} {m : PySem.Str → Option Value} {news : List (Addr × Obj)}
theorem callW_go {pos : Pos} {u x : Addr} {id : String} {first : List Value} {args : List (Bool × Sem Value)} {Q : Value → Shared → Prop} (hplain : args.any (·.1) = false)
    (h : wpAny (model prog w) A (evalArgs (.ref u) true args []) (fun a s₁ => s₁.heap.get? u = some (Bo.boundO id x) ∧ wpAny (model prog w) A (call (.ref u) (first ++ a.pos) a.kw) Q E s₁) E s) : wpAny (model prog w) A (callWith pos (.ref u) first args []) Q E s := by
  unfold callWith
  refine wpAny_bind (wpAny_holding (wpAny_mono h (fun a s₁ h₁ => wpAny_bind (wpAny_standAt ?_)) fun _ _ x => x))
  obtain ⟨ho, hcall⟩ := h₁
  simp only [hplain, List.any_nil, Bool.or_false]
  have hk : wpAny (model prog w) A (keeperOf (.ref u)) (fun k s' => k = .machine ∧ s' = s₁) E s₁ := by
    unfold keeperOf
    refine wpAny_bind (wpAny_load ho ?_)
    simp only [show (Value.type "builtin_function_or_method" != Value.type "method") = true by decide, show (Value.type "builtin_function_or_method" == Value.type "builtin_function_or_method") = true by decide, Bool.true_or, if_true]
    exact wpAny_pure ⟨rfl, rfl⟩
  refine wpAny_bind (wpAny_mono hk (fun k s' q => ?_) fun _ _ x => x)
  obtain ⟨rfl, rfl⟩ := q
  dsimp only
  exact wpAny_bind (wpAny_mono hcall (fun r s₂ hr => wpAny_bind (wpAny_holding (wpAny_point (wpAny_pure hr)))) fun _ _ x => x)
theorem callW {pos : Pos} {u x : Addr} {id : String} {first : List Value} {env : Env} {e : Expr} {rest : List Expr} {Q : Value → Shared → Prop} (_N : News h₀ L s.heap news) (_hm : (u, Bo.boundO id x) ∈ news)
    (h : wpAny (model prog w) A (spliced (backTo pos (starEach (e :: rest) env))) (fun vs s₁ => s₁.heap.get? u = some (Bo.boundO id x) ∧ wpAny (model prog w) A (call (.ref u) (first ++ vs)) Q E s₁) E s)
    (he : starEach (e :: rest) env = (false, eval e env) :: starEach rest env := by rfl) (hplain : (backTo pos (starEach rest env)).any (·.1) = false := by rfl) :
    wpAny (model prog w) A (callWith pos (.ref u) first (backTo pos (starEach (e :: rest) env)) []) Q E s := by
  rw [he] at h ⊢
  refine callW_go (x := x) (id := id) (by show (false || (backTo pos (starEach rest env)).any (·.1)) = false; rw [hplain]; rfl) ?_
  exact Calls.evalArgs_plain h
theorem callW0 {pos : Pos} {u x : Addr} {id : String} {first : List Value} {env : Env} {Q : Value → Shared → Prop} (N : News h₀ L s.heap news) (hm : (u, Bo.boundO id x) ∈ news)
    (h : wpAny (model prog w) A (call (.ref u) first) Q E s) : wpAny (model prog w) A (callWith pos (.ref u) first (backTo pos (starEach [] env)) []) Q E s := by
  show wpAny _ _ (callWith pos (.ref u) first [] []) _ _ _
  exact callW_go (x := x) (id := id) rfl (evalArgs_nil3 ⟨(N _ hm).1, by simpa using h⟩)
end
theorem len_led {prog : Program} {w : World} {A : Around} {E : Value → Shared → Prop} {s : Shared} {h₀ : Heap} {L a : Addr} {news : List (Addr × Obj)} {vs : List Value} {k : Nat} {n : Int} {Q : Value → Shared → Prop} (N : News h₀ L s.heap news) (hm : (a, Ls.lsO vs k) ∈ news) (hn : (vs.length : Int) = n) (hz : vs.length ≤ 10000)
    (h : ∀ t' k', Q (.int n t') { s with toks := k' }) : wpAny (model prog w) A (call (.builtin "len") [.ref a]) Q E s :=
  kun_lenL (Ls.isList N hm) (by simpa using hn) (by omega) (h _ _)
theorem off_ovr {xs : List (PySem.Str × Value)} {ts' ts ks : List PySem.Str} {u m m₀ : PySem.Str → Option Value} (h1 : (xs.map (·.1) ++ ts').all (fun a => (ts ++ ks).contains a) = true) (h : OffOf ts ks m m₀) : OffOf ts ks (ovr xs ts' u m) m₀ := fun z z1 z2 => by
  have key : ∀ a ∈ xs.map (·.1) ++ ts', z ≠ a := fun a ha => by
    have := List.contains_iff_mem.mp (List.all_eq_true.mp h1 a ha)
    rcases List.mem_append.mp this with h | h
    · exact z1 a h
    · exact z2 a h
  rw [ovr_off (fun t ht => key t (List.mem_append_right _ ht)) fun p hp => key p.1 (List.mem_append_left _ (List.mem_map_of_mem hp))]
  exact h z z1 z2

theorem top_off_28 : True := by
  w_top off
  trivial
theorem fmt_one (t : Tok) : ∃ fb, Builtin.Struct.formatBytes (.str (PySem.Str.ofString "!I") t) = pure fb ∧ Builtin.Struct.parse fb = pure ⟨true, false, [⟨'I', 1, 0, 4⟩], 4, 1⟩ ∧ fb.size ≤ 100 :=
  ⟨#[33, 73], by kernel_rfl, by kernel_rfl, by decide⟩
theorem item0 {prog : Program} {w : World} {A : Around} {E : Value → Shared → Prop} {s : Shared} {value slice : PySem.Expr} {c : UInt8} {n : Int} {t u : Tok} {Q : Value → Shared → Prop} (hn : (c.toNat : Int) = n) (h : ∀ t' k, Q (.int n t') { s with toks := k })
    (hs : subscripted slice false (.bytes #[c] t) (.int 0 u) = operate [.bytes #[c] t, .int 0 u] (getItem (.bytes #[c] t) (.int 0 u)) := by with_unfolding_all rfl)
    (ht : ∀ r, letTemporaryGo value (.bytes #[c] t) r = pure () := by intro _; with_unfolding_all rfl) :
    wpAny (model prog w) A (subscriptTail value slice (.bytes #[c] t) (.int 0 u)) Q E s :=
  KBw.item_K (ks := [n]) (by rw [← hn]; rfl) (by simp) (by decide) (by simp) (fun t' k _ _ => h t' k) hs ht
section
local macro_rules | `(tactic| walk_at "off") => `(tactic| (repeat' (first | exact off_refl | exact ovr_offOf (by rfl) | (refine off_upd (by rfl) ?_) | (refine off_ovr (by rfl) ?_))))
local macro_rules | `(tactic| walk_at "memq") => `(tactic| repeat (first | exact List.mem_cons_self | assumption | refine List.mem_cons_of_mem _ ?_))
local macro_rules | `(tactic| walk_at "callWith ref") => `(tactic| ((with_reducible show wpAny _ _ (callWith _ (Value.ref _) _ (backTo _ (starEach (_ :: _) _)) []) _ _ _); k_dflt (refine' callW ?k1 ?k2 ?_; (case k1 => k_asm); (case k2 => walk_at "memq"); k_whole)))
local macro_rules | `(tactic| walk_at "callWith ref") => `(tactic| ((with_reducible show wpAny _ _ (callWith _ (Value.ref _) _ (backTo _ (starEach [] _)) []) _ _ _); k_dflt (refine' callW0 ?k1 ?k2 ?_; (case k1 => k_asm); (case k2 => walk_at "memq"); k_whole)))
local macro_rules | `(tactic| walk_at "And") => `(tactic| (k_dflt (refine ⟨News.get (o := Bo.boundO _ _) (by k_asm) (by walk_at "memq"), ?_⟩); (try dsimp only [List.nil_append, List.cons_append])))
local macro_rules | `(tactic| walk_at "subscriptTail") => `(tactic| ((with_reducible show wpAny _ _ (subscriptTail _ _ (Value.bytes _ _) (Value.int _ _)) _ _ _); (first | refine item0 (c := 33) (n := 33) rfl ?_ | refine item0 (c := 117) (n := 117) rfl ?_ | refine item0 (c := 122) (n := 122) rfl ?_); intro _ _))
local macro_rules | `(tactic| walk_at "exec For Name BinOp cons nil") => `(tactic| refine Stop.intro ?_)
local macro_rules | `(tactic| walk_at "pyIter bytes") => `(tactic| refine Stop.intro ?_)
local macro_rules | `(tactic| walk_at "pyIter ref") => `(tactic| refine Stop.intro ?_)
local macro_rules | `(tactic| walk_at "getMethod bytes") => `(tactic| (with_reducible refine Ls.method_join ?_))
local macro_rules | `(tactic| walk_at "call builtin:bytes.join") => `(tactic| (refine Stop.intro ?_))
local macro_rules | `(tactic| walk_at "exec Try") => `(tactic| refine Stop.intro ?_)
variable {w : World} {p : Program} {loose : List PySem.Str} {mean : ExcName → Option Value} {mg mb : PySem.Str → Option Value} {news : List (Addr × Obj)}
set_option maxHeartbeats 2000000 in
theorem c_decode (b : List UInt8) (tb : Tok) (hb0 : 1 ≤ b.length) (hb : b.length ≤ 100) (hbb : ∀ c ∈ b, 33 ≤ c.toNat ∧ c.toNat ≤ 117) :
    Ex.DoesX PySem.Challenge.rw_kq0071_01.row.prog w (hd.heap_39 w.params) p loose mean mg mb 64 [.bytes b.toArray tb] [] news 4 (fun v own => own = [] ∧ ¬ Heavy b ∧ ∃ t, v = .bytes (decB b).toArray t)
      (.type "ValueError") (fun vs => Heavy b ∧ ∃ t, vs = [.str (PySem.Str.ofString "Ascii85 overflow") t]) := by
  refine' Ex.does_defX (binds := [(PySem.Str.ofString "b", .bytes b.toArray tb), (PySem.Str.ofString "foldspaces", .bool false), (PySem.Str.ofString "adobe", .bool false), (PySem.Str.ofString "ignorechars", .bytes #[32, 9, 10, 13, 11] 343)]) ?ho ?hcd ?hbind ?hloc ?hco ?hgen ?hk ?hcell ?h
  (case ho => k_dflt k_is)
  (case hcd => k_dflt k_is)
  case hbind =>
    intro s' X' M A E Q hq
    have hn : s'.heap.Ns 57 _ := ⟨_, _, _, X' _ _ (by k_dflt k_is), rfl, (by intro e he; simp only [Array.mem_toArray, List.mem_cons, List.not_mem_nil, or_false] at he; rcases he with rfl | rfl | rfl <;> exact ⟨_, _, rfl⟩), fun _ => rfl⟩
    unfold bindArgs
    repeat (any_goals (first | assumption | (refine wpAny_nsGet hn ?_) | wp_step))
  (case hloc => exact locs rfl)
  (case hco => rfl)
  (case hgen => rfl)
  (case hk => rfl)
  (case hcell => decide)
  intro dp un outer A₀ base g L s Xp B F N X T XB TB D hd hu hlt hX
  k_fold
  k_steps
  refine does_use (c_from b tb) (by k_asm) F (by k_asm) N (by k_asm) (by rfl) (by ktr_room) (by ktr_units) ?_
  rintro _ _ h3 tk3 F3 N3 - ⟨rfl, rfl⟩
  simp only [List.nil_append] at N3
  clear F N
  k_steps
  rename_i h4 F4 N4
  obtain ⟨fb, hfb, hfp, hfs⟩ := fmt_one 0
  show wpAny _ _ (call (Value.type "_struct.Struct") [.str _ _]) _ _ _
  refine St.new F4 N4 hfb hfp hfs rfl ?_
  intro D h5 tk5 k5 F5 N5 l5
  k_steps
  refine Bo.attrK_struct F5 N5 List.mem_cons_self Bo.look_pack Bo.type_pack (by decide +kernel) (by decide +kernel) (by decide +kernel) (by decide +kernel) ?_
  intro P1 h6 tk6 F6 N6 l6
  k_steps
  rename_i D1 _ l7 h7 F7 N7
  refine Bo.attrK_list (vs := []) F7 N7 List.mem_cons_self Bo.look_append Bo.type_append (by decide +kernel) (by decide +kernel) (by decide +kernel) (by decide +kernel) ?_
  intro P2 h8 tk8 F8 N8 l8
  k_steps
  rename_i D2 _ l9 h9 F9 N9
  refine Bo.attrK_list (vs := []) F9 N9 List.mem_cons_self Bo.look_append Bo.type_append (by decide +kernel) (by decide +kernel) (by decide +kernel) (by decide +kernel) ?_
  intro P3 h10 tk10 F10 N10 l10
  k_steps
  rename_i h11 F11 N11
  refine Bo.attrK_list (vs := []) F11 N11 (List.mem_cons_of_mem _ List.mem_cons_self) Bo.look_clear Bo.type_clear (by decide +kernel) (by decide +kernel) (by decide +kernel) (by decide +kernel) ?_
  intro P4 h12 tk12 F12 N12 l12
  k_steps
  rename_i h13 F13 N13
  (try clear F3 N3); (try clear F4 N4); (try clear F5 N5); (try clear F6 N6); (try clear F7 N7); (try clear F8 N8); (try clear F9 N9); (try clear F10 N10); (try clear F11 N11); (try clear F12 N12)
  have hpl := padU_len b
  have oD2 : AllNe D2 ((P4, Bo.boundO "list.clear" D2) :: (P3, Bo.boundO "list.append" D2) :: (P2, Bo.boundO "list.append" D1) :: (P1, Bo.boundO "_struct.Struct.pack" D) :: (D, St.objS fb tk5) :: news) :=
    allNe_cons (Nat.ne_of_gt l12.2.1) (allNe_cons (Nat.ne_of_gt l10.1) (allNe_cons (Nat.ne_of_lt l9.1) (allNe_cons (Nat.ne_of_lt l9.2.2.1) (allNe_cons (Nat.ne_of_lt l9.2.2.2.1) (AllNe.ofLt l9.2.2.2.2)))))
  have oD1 : AllNe D1 ((P4, Bo.boundO "list.clear" D2) :: (P3, Bo.boundO "list.append" D2) :: (P2, Bo.boundO "list.append" D1) :: (P1, Bo.boundO "_struct.Struct.pack" D) :: (D, St.objS fb tk5) :: news) :=
    allNe_cons (Nat.ne_of_gt l12.2.2.2.1) (allNe_cons (Nat.ne_of_gt l10.2.2.1) (allNe_cons (Nat.ne_of_gt l8.1) (allNe_cons (Nat.ne_of_lt l7.1) (allNe_cons (Nat.ne_of_lt l7.2.1) (AllNe.ofLt l7.2.2)))))
  have oD12 : D1 ≠ D2 := Nat.ne_of_lt l9.2.1
  walk_at "for"
  k_steps
  refine' for_bytes (L := L) (nx₀ := [(D2, Ls.lsO [] 0), (D1, Ls.lsO [] 0)]) (fix := (P4, Bo.boundO "list.clear" D2) :: (P3, Bo.boundO "list.append" D2) :: (P2, Bo.boundO "list.append" D1) :: (P1, Bo.boundO "_struct.Struct.pack" D) :: (D, St.objS fb tk5) :: news)
    (fun i m nx => ∃ cv ck dv dk, nx = [(D2, Ls.lsO cv ck), (D1, Ls.lsO dv dk)] ∧ DecInv (padU b) i cv dv ∧ m = ovr [(PySem.Str.ofString "curr_clear", .ref P4), (PySem.Str.ofString "curr_append", .ref P3), (PySem.Str.ofString "curr", .ref D2), (PySem.Str.ofString "decoded_append", .ref P2), (PySem.Str.ofString "decoded", .ref D1), (PySem.Str.ofString "packI", .ref P1), (PySem.Str.ofString "b", .bytes b.toArray tb)] [PySem.Str.ofString "x", PySem.Str.ofString "acc"] m
      (fun y => [(PySem.Str.ofString "b", Value.bytes b.toArray tb), (PySem.Str.ofString "foldspaces", .bool false), (PySem.Str.ofString "adobe", .bool false), (PySem.Str.ofString "ignorechars", .bytes #[32, 9, 10, 13, 11] 343)].reverse.lookup y)) ?hL ?hh F13 ?N ?hff ?hJ ?turn ?done
  case hL => rfl
  case hh => rfl
  case N => exact fun p hp => N13 p ((by walk_at "sub" : ∀ p ∈ [(D2, Ls.lsO [] 0), (D1, Ls.lsO [] 0)] ++ _, p ∈ _) p hp)
  case hff =>
    intro q hq
    simp only [List.mem_cons, List.not_mem_nil, or_false] at hq
    rcases hq with rfl | rfl
    · exact oD2
    · exact oD1
  case hJ => exact ⟨[], 0, [], 0, rfl, decInv_zero _, ovr_of (keys_cons rfl (keys_cons rfl (keys_cons rfl (keys_cons rfl (keys_cons rfl (keys_cons rfl (keys_cons rfl keys_nil))))))) (by walk_at "off")⟩
  case turn =>
    rintro i c t m₁ nx h tk tl hc ⟨cv, ck, dv, dk, rfl, hinv, hm⟩ hsub hne F' N'
    have hc' : (padU b)[i]? = some c := by simpa [padU] using hc
    have hcs := padU_signs hbb c (List.mem_of_getElem? hc')
    have hi : i < (padU b).length := (List.getElem?_eq_some_iff.mp hc').1
    have hcl : cv.length = i % 5 := by rw [hinv.1.length]; unfold intsOf; rw [List.length_map, curAt_len (Nat.le_of_lt hi)]
    have hdl : dv.length ≤ 100 := by rw [hinv.2.1.1]; simp; omega
    rw [hm] at F'
    rw [show [(D2, Ls.lsO cv ck), (D1, Ls.lsO dv dk)] ++ tl = (D2, Ls.lsO cv ck) :: (D1, Ls.lsO dv dk) :: tl from rfl] at N'
    have hn2 : AllNe D2 tl := hne (D2, _) List.mem_cons_self
    have hn1 : AllNe D1 tl := hne (D1, _) (List.mem_cons_of_mem _ List.mem_cons_self)
    have mP4 := hsub _ List.mem_cons_self
    have mP3 := hsub _ (List.mem_cons_of_mem _ List.mem_cons_self)
    have mP2 := hsub _ (List.mem_cons_of_mem _ (List.mem_cons_of_mem _ List.mem_cons_self))
    have mP1 := hsub _ (List.mem_cons_of_mem _ (List.mem_cons_of_mem _ (List.mem_cons_of_mem _ List.mem_cons_self)))
    have mD := hsub _ (List.mem_cons_of_mem _ (List.mem_cons_of_mem _ (List.mem_cons_of_mem _ (List.mem_cons_of_mem _ List.mem_cons_self))))
    have hl5 : (cv ++ [Value.int (c.toNat : Int) t]).length = i % 5 + 1 := by rw [List.length_append, hcl]; rfl
    have hl100 : cv.length ≤ 1000 := by omega
    (try k_fold)
    k_steps
    by_cases h4 : i % 5 = 4
    · refine append0 (post := (D1, Ls.lsO dv dk) :: tl) F' N' (List.mem_cons_of_mem _ mP3) (allNe_cons oD12 hn2) hl100 ?_
      intro h1 k1 F1 N1
      clear F' N'
      k_steps
      refine len_led (n := 5) N1 List.mem_cons_self (by rw [hl5, h4]; rfl) (by rw [hl5]; omega) ?_
      intro t5 k5
      k_steps
      have hgi := group_ints (t := t) hinv hc' h4
      have hgl : ((padU b).drop (i / 5 * 5)).length ≥ 5 := by rw [List.length_drop]; omega
      have hgr5 : (((padU b).drop (i / 5 * 5)).take 5).length = 5 := by rw [List.length_take]; omega
      rename Fr _ _ _ _ => F2
      rename News _ _ _ _ => N2
      walk_at "for"
      k_steps
      refine' for_list (L := L) (l := D2) (vs := cv ++ [Value.int (c.toNat : Int) t]) (k := k1) (nx₀ := []) (fix := (D2, Ls.lsO (cv ++ [Value.int (c.toNat : Int) t]) k1) :: (D1, Ls.lsO dv dk) :: tl)
        (fun j m nx => nx = [] ∧ ∃ ta, m = ovr [(PySem.Str.ofString "acc", .int (numberF 33 85 ((((padU b).drop (i / 5 * 5)).take 5).take j)) ta)] [PySem.Str.ofString "x"] m (ovr [(PySem.Str.ofString "curr_clear", .ref P4), (PySem.Str.ofString "curr_append", .ref P3), (PySem.Str.ofString "curr", .ref D2), (PySem.Str.ofString "decoded_append", .ref P2), (PySem.Str.ofString "decoded", .ref D1), (PySem.Str.ofString "packI", .ref P1), (PySem.Str.ofString "b", .bytes b.toArray tb)] [PySem.Str.ofString "x", PySem.Str.ofString "acc"] m₁ (fun y => [(PySem.Str.ofString "b", Value.bytes b.toArray tb), (PySem.Str.ofString "foldspaces", .bool false), (PySem.Str.ofString "adobe", .bool false), (PySem.Str.ofString "ignorechars", .bytes #[32, 9, 10, 13, 11] 343)].reverse.lookup y))) ?hL2 ?hh2 List.mem_cons_self F2 N2 ?hff2 ?hJ2 ?turn2 ?done2
      case hL2 => rfl
      case hh2 => rfl
      case hff2 => intro q hq; cases hq
      case hJ2 => exact ⟨rfl, _, ovr_of (keys_cons rfl keys_nil) (by walk_at "off")⟩
      case turn2 =>
        rintro j v m₂ nx hh2 tk2 tl2 hv ⟨rfl, ta, hm2⟩ hsub2 hne2 F3 N3
        obtain ⟨n, tn, rfl, hn⟩ := IntsAre.at hgi j v hv
        obtain ⟨c2, hc2, rfl⟩ : ∃ c2 : UInt8, (((padU b).drop (i / 5 * 5)).take 5)[j]? = some c2 ∧ (c2.toNat : Int) = n := by
          unfold intsOf at hn
          rw [List.getElem?_map] at hn
          obtain ⟨c2, e1, e2⟩ := Option.map_eq_some_iff.mp hn
          exact ⟨c2, e1, e2⟩
        have hstep := numberF_succ (first := 33) (bs := 85) hc2
        have hacc : 85 * numberF 33 85 ((((padU b).drop (i / 5 * 5)).take 5).take j) + ((c2.toNat : Int) - 33) = numberF 33 85 ((((padU b).drop (i / 5 * 5)).take 5).take (j + 1)) := by rw [hstep]; omega
        rw [hm2] at F3
        (try k_fold)
        k_steps
        refine ⟨_, _, _, [], rfl, by k_asm, by k_asm, (fun _ h => nomatch h), rfl, _, ovr_of (keys_cons (by rw [← hacc]; rfl) keys_nil) (by walk_at "off")⟩
      case done2 =>
        rintro m₂ nx h3 tk3 ⟨rfl, ta, hm2⟩ F3 N3 -
        rw [List.nil_append] at N3
        rw [List.take_of_length_le (by omega)] at hm2
        rw [show numberF 33 85 (((padU b).drop (i / 5 * 5)).take 5) = groupAt (padU b) (i / 5) from rfl] at hm2
        rw [hm2] at F3
        clear hm2
        (try k_fold)
        k_steps
        refine wpAny_Try_except ?_
        k_steps
        have hgp := group_pos (fun c hc => (padU_signs hbb c hc).1) (i / 5)
        by_cases hg : groupAt (padU b) (i / 5) < 4294967296
        · refine Bo.call_pack_ok (N3.get (List.mem_cons_of_mem _ (List.mem_cons_of_mem _ mP1))) (N3.get (List.mem_cons_of_mem _ (List.mem_cons_of_mem _ mD))) hfp hgp hg ?_
          intro t9 k9
          rw [← packed_arr]
          k_steps
          refine append1 F3 N3 mP2 (Ne.symm oD12) hn1 (by omega) ?_
          intro h4' k4 F4 N4
          k_steps
          refine clear0 F4 N4 (List.mem_cons_of_mem _ mP4) (allNe_cons oD12 hn2) (by rw [hl5]; omega) ?_
          intro h5' k5' F5 N5
          k_steps
          refine ⟨_, _, _, [(D2, Ls.lsO [] k5'), (D1, Ls.lsO (dv ++ [_]) k4)], rfl, F5, N5, ?_, _, _, _, _, rfl, decInv_group hinv h4 hg, ovr_of (keys_cons rfl (keys_cons rfl (keys_cons rfl (keys_cons rfl (keys_cons rfl (keys_cons rfl (keys_cons rfl keys_nil))))))) (by walk_at "off")⟩
          intro q hq
          simp only [List.mem_cons, List.not_mem_nil, or_false] at hq
          rcases hq with rfl | rfl
          · exact hn2
          · exact hn1
        · have hg' : 4294967296 ≤ groupAt (padU b) (i / 5) := Int.not_lt.mp hg
          refine Bo.call_pack_over (N3.get (List.mem_cons_of_mem _ (List.mem_cons_of_mem _ mP1))) (N3.get (List.mem_cons_of_mem _ (List.mem_cons_of_mem _ mD))) hfp hg' rfl ?_
          intro h9 tk9 e9 hx9
          have heavy : Heavy b := ⟨i / 5, by omega, hg'⟩
          refine Ex.caught_new (A₀ := ⟨none, dp, some outer, some [], un⟩) ⟨rfl, B.stays, B.frames⟩ F3 N3 hx9 XB TB (test_name (c := .type "struct.error") (.inl (by k_dflt k_is)) (by rfl) rfl rfl rfl) ?_
          intro h10 g10 oe t0 tb10 Tn F10 N10 B10 X10 T10 he10 hd10 hen10
          refine wpAny_execs_cons ?_
          refine Ex.Raise_from PySem.F.excCall_ValueError PySem.F.excRaise_ValueError rfl ?_
          refine kts_name (.inr ⟨by k_dflt k_is, PyProof.Rows.Boot.«ValueError», by decide⟩) F10 X10 (topRead_of T10) ⟨rfl, ?_⟩ rfl rfl rfl
          k_steps
          rename_i h11 e11 t11 hen11 htn11 hkp11 he11 ht11
          refine Ex.leave_from (A := ⟨none, dp, some outer, some [], un⟩) (news := news) B10 F10 (fun p hp => N10 p (List.mem_cons_of_mem _ (List.mem_cons_of_mem _ (hsub p (List.mem_cons_of_mem _ (List.mem_cons_of_mem _ (List.mem_cons_of_mem _ (List.mem_cons_of_mem _ (List.mem_cons_of_mem _ hp))))))))) Tn hen11 htn11 hkp11 he11 rfl rfl rfl rfl ht11 ?_
          intro h12 R12 U12
          exact hX _ _ _ _ _ ⟨heavy, _, rfl⟩ R12 U12
    · refine append0 (post := (D1, Ls.lsO dv dk) :: tl) F' N' (List.mem_cons_of_mem _ mP3) (allNe_cons oD12 hn2) hl100 ?_
      intro h1 k1 F1 N1
      clear F' N'
      k_steps
      obtain ⟨kl, hkl, hkl5⟩ : ∃ kl : Int, ((cv ++ [Value.int (c.toNat : Int) t]).length : Int) = kl ∧ kl < 5 := ⟨_, rfl, by rw [hl5]; omega⟩
      refine len_led (n := kl) N1 List.mem_cons_self hkl (by rw [hl5]; omega) ?_
      intro t5 k5
      k_steps
      · exfalso; omega
      · refine ⟨_, _, _, [(D2, Ls.lsO (cv ++ [_]) k1), (D1, Ls.lsO dv dk)], rfl, F1, N1, ?_, _, _, _, _, rfl, decInv_more hinv hc' h4, ovr_of (keys_cons rfl (keys_cons rfl (keys_cons rfl (keys_cons rfl (keys_cons rfl (keys_cons rfl (keys_cons rfl keys_nil))))))) (by walk_at "off")⟩
        intro q hq
        simp only [List.mem_cons, List.not_mem_nil, or_false] at hq
        rcases hq with rfl | rfl
        · exact hn2
        · exact hn1
  case done =>
    rintro m₁ nx h tk ⟨cv, ck, dv, dk, rfl, hinv, hm⟩ F' N' -
    have hsz : (b ++ [117, 117, 117, 117]).toArray.size = b.length + 4 := by simp
    rw [hsz] at hinv
    have hcl : cv.length = (b.length + 4) % 5 := by rw [hinv.1.length]; unfold intsOf; rw [List.length_map, curAt_len (by rw [hpl]; exact Nat.le_refl _)]
    have hnh : ¬ Heavy b := fun ⟨j, hj, hj'⟩ => absurd (hinv.2.2 j hj) (Int.not_lt.mpr hj')
    have hgl := groups_len (groupAt (padU b)) ((b.length + 4) / 5)
    have hdv := hinv.2.1
    rw [hm] at F'
    rw [show [(D2, Ls.lsO cv ck), (D1, Ls.lsO dv dk)] ++ ((P4, Bo.boundO "list.clear" D2) :: (P3, Bo.boundO "list.append" D2) :: (P2, Bo.boundO "list.append" D1) :: (P1, Bo.boundO "_struct.Struct.pack" D) :: (D, St.objS fb tk5) :: news) = (D2, Ls.lsO cv ck) :: (D1, Ls.lsO dv dk) :: ((P4, Bo.boundO "list.clear" D2) :: (P3, Bo.boundO "list.append" D2) :: (P2, Bo.boundO "list.append" D1) :: (P1, Bo.boundO "_struct.Struct.pack" D) :: (D, St.objS fb tk5) :: news) from rfl] at N'
    clear hm
    have hdec : decB b = (((List.range ((b.length + 4) / 5)).map fun j => packed (groupAt (padU b) j)).flatten).take (4 * ((b.length + 4) / 5) - (4 - (b.length + 4) % 5)) := rfl
    have hres : ∃ res, (((List.range ((b.length + 4) / 5)).map fun j => packed (groupAt (padU b) j)).flatten) = res := ⟨_, rfl⟩
    obtain ⟨res, hres⟩ := hres
    have hbs1 : 1 ≤ ((List.range ((b.length + 4) / 5)).map fun j => packed (groupAt (padU b) j)).length := by rw [List.length_map, List.length_range]; omega
    have hz1000 : (((List.range ((b.length + 4) / 5)).map fun j => packed (groupAt (padU b) j)).flatten).length ≤ 1000 := by rw [hgl]; omega
    rw [hres] at hdec
    have hrl : res.length = 4 * ((b.length + 4) / 5) := by rw [← hres]; exact hgl
    have hrm : (b.length + 4) % 5 < 5 := Nat.mod_lt _ (by decide)
    have hc0 : 4 - (((b.length + 4) % 5 : Nat) : Int) = 0 → res = decB b := fun h => by rw [hdec, List.take_of_length_le (by omega)]
    have hc1 : ¬ 4 - (((b.length + 4) % 5 : Nat) : Int) = 0 → Bb.cut res none (some (-(4 - (((b.length + 4) % 5 : Nat) : Int)))) = decB b := fun h => by
      rw [show -(4 - (((b.length + 4) % 5 : Nat) : Int)) = -(((4 - (b.length + 4) % 5 : Nat)) : Int) by omega, Bb.cut_but _ _ (by omega), hdec, hrl]
    (try k_fold)
    k_steps
    refine Ls.join N' (List.mem_cons_of_mem _ List.mem_cons_self) hdv hbs1 hz1000 ?_
    intro t6 k6
    rw [hres]
    k_steps
    rename News _ _ _ _ => N7
    refine len_led (n := ((b.length + 4) % 5 : Nat)) N7 List.mem_cons_self (by rw [hcl]) (by rw [hcl]; omega) ?_
    intro t7 k7
    k_steps
    · exact BodyEnd.ret (own := []) (by k_asm) (by k_asm) (by walk_at "sub") above_nil ⟨rfl, hnh, _, by rw [hc1 (by omega)]⟩
    · exact BodyEnd.ret (own := []) (by k_asm) (by k_asm) (by walk_at "sub") above_nil ⟨rfl, hnh, _, by rw [hc0 (by omega)]⟩
end

theorem top_off_29 : True := by
  w_top off
  trivial
def fillG (b : List UInt8) (j : Nat) : List UInt8 := (b.drop (j * 5)).take 5 ++ List.replicate (5 - ((b.drop (j * 5)).take 5).length) 117
def heavyAt (b : List UInt8) (j : Nat) : Bool := Builtin.Bytes.order (fillG b j) [115, 56, 87, 45, 33] == .gt
def heavyB (b : List UInt8) : Bool := (List.range ((b.length + 4) / 5)).any (heavyAt b)
theorem rep_flat (n : Nat) (c : UInt8) : (List.replicate n [c]).flatten = List.replicate n c := by
  induction n with
  | zero => rfl
  | succ n ih => rw [List.replicate_succ, List.flatten_cons, ih]; rfl
section
variable {w : World} {p : Program} {loose : List PySem.Str} {mean : ExcName → Option Value} {mg mb : PySem.Str → Option Value} {news : List (Addr × Obj)}
local macro_rules | `(tactic| walk_at "pyIter ref") => `(tactic| refine Stop.intro ?_)
local macro_rules | `(tactic| walk_at "subscriptTail") => `(tactic| (refine Stop.intro ?_))
local macro_rules | `(tactic| walk_at "compareOp Gt bytes bytes") => `(tactic| (refine Bb.gt ?_))
theorem c_heavy (b : List UInt8) (tb : Tok) (hb : b.length ≤ 100) :
    Does PySem.Challenge.rw_kq0071_01.row.prog w (hd.heap_39 w.params) p loose mean mg mb 120 [.bytes b.toArray tb] [] news 4 (fun v own => own = [] ∧ v = .bool (heavyB b)) := by
  refine' does_def (binds := [(PySem.Str.ofString "text", .bytes b.toArray tb)]) ?ho ?hcd ?hbind ?hloc ?hco ?hgen ?hk ?hcell ?h
  walk_at "enter"
  intro dp un outer A₀ base g L s B F N X T hd hu hlt
  k_fold
  k_steps
  walk_at "for"
  k_steps
  with_reducible rename IsRange _ _ _ _ _ _ _ _ => hr
  with_reducible rename Fr _ _ _ _ => F1
  with_reducible rename News _ _ _ _ => N1
  refine' for_range (L := L) (nx₀ := []) (fix := news) (n := (b.length + 4) / 5) (fun i m nx => nx = [] ∧ (∀ j, j < i → heavyAt b j = false) ∧ m = ovr [] [PySem.Str.ofString "i", PySem.Str.ofString "group"] m
    (fun y => [(PySem.Str.ofString "text", Value.bytes b.toArray tb)].reverse.lookup y)) ?hL ?hh hr ?hsm ?hn F1 N1 ?hff ?hJ ?turn ?done
  case hL => rfl
  case hh => rfl
  case hsm => exact Ii.range_small5 (by omega)
  case hn => exact Ii.range_size5
  case hff => intro q hq; cases hq
  case hJ => exact ⟨rfl, (fun j hj => absurd hj (Nat.not_lt_zero _)), ovr_of keys_nil (by walk_at "off")⟩
  case turn =>
    rintro i t m₁ nx h tk tl hi ⟨rfl, hnh, hm⟩ hsub hne F' N'
    rw [hm] at F'
    rw [List.nil_append] at N'
    have hcut : Bb.cut b (some (0 + (i : Int) * 5)) (some (0 + (i : Int) * 5 + 5)) = (b.drop (i * 5)).take 5 := by
      rw [show (0 : Int) + (i : Int) * 5 + 5 = ((i * 5 + 5 : Nat) : Int) by omega, show (0 : Int) + (i : Int) * 5 = ((i * 5 : Nat) : Int) by omega, Bb.cut_mid]
      rw [show i * 5 + 5 - i * 5 = 5 by omega]
    have hfill : fillG b i = (b.drop (i * 5)).take 5 ++ List.replicate (5 - ((b.drop (i * 5)).take 5).length) 117 := rfl
    have hat : heavyAt b i = (Builtin.Bytes.order (fillG b i) [115, 56, 87, 45, 33] == .gt) := rfl
    have hany : heavyAt b i = true → heavyB b = true := fun h => List.any_eq_true.mpr ⟨i, List.mem_range.mpr hi, h⟩
    have hG : ((b.drop (i * 5)).take 5).length ≤ 5 := List.length_take_le _ _
    generalize (b.drop (i * 5)).take 5 = G at hcut hfill hG
    have hrep : (List.replicate (5 - (G.length : Int)).toNat ([117] : List UInt8)).flatten = List.replicate (5 - G.length) 117 := by rw [rep_flat]; congr 1; omega
    have hrl : (List.replicate (5 - G.length) (117 : UInt8)).length ≤ 5 := by rw [List.length_replicate]; omega
    (try k_fold)
    k_steps
    (with_reducible rename Fr _ _ _ _ => F2); (with_reducible rename News _ _ _ _ => N2)
    refine Bb.slice (s := ⟨_, _, _, _, _⟩) F2 N2 (by constructor) (by constructor) (by omega) ?_
    intro h3 t3 k3 F3 N3
    rw [hcut]
    have hat2 : heavyAt b i = (Builtin.Bytes.order (G ++ (List.replicate (5 - (G.length : Int)).toNat ([117] : List UInt8)).flatten) [115, 56, 87, 45, 33] == .gt) := by rw [hat, hfill, hrep]
    clear hfill hat hrep
    k_steps
    · rename_i hv
      exact BodyEnd.ret (own := []) (by k_asm) (by k_asm) (fun p hp => hsub p hp) above_nil ⟨rfl, by rw [hany (by rw [hat2]; exact hv)]⟩
    · rename_i hv
      refine ⟨_, _, _, [], rfl, by k_asm, by k_asm, (fun _ h => nomatch h), rfl, fun j hj => ?_, ovr_of keys_nil (by walk_at "off")⟩
      by_cases hji : j = i
      · rw [hji, hat2]; simpa using hv
      · exact hnh j (by omega)
  case done =>
    rintro m₁ nx h tk ⟨rfl, hnh, hm⟩ F' N' hff
    rw [hm] at F'
    rw [List.nil_append] at N'
    (try k_fold)
    k_steps
    have hb0 : heavyB b = false := by
      unfold heavyB
      rw [List.any_eq_false]
      intro j hj
      rw [hnh j (List.mem_range.mp hj)]; exact Bool.false_ne_true
    exact BodyEnd.ret (own := []) (by k_asm) (by k_asm) (by walk_at "sub") above_nil ⟨rfl, by rw [hb0]⟩
end

namespace Ex
open PySem.Sem (wp)
/-- DoesS for a caller that stands at the bottom (it may have cells) -/
def DoesT (prog : Program) (w : World) (K : Frag) (p : Program) (loose : List PySem.Str) (mean : ExcName → Option Value) (mg mb : PySem.Str → Option Value) (f : Addr) (args : List Value) (kw : List (PySem.Str × Value)) (news : List (Addr × Obj)) (lev : Nat) (R : Value → List (Addr × Obj) → Prop) : Prop :=
  ∀ (dp un : Nat) (cn : PySem.Str) (cs : Scope) (a : Addr) (ccd : Value) (cl : List (PySem.Str × Addr)) (A₀ : Around) (h₀ : Heap) (L : Addr) (m : PySem.Str → Option Value) (s : Shared) (Q E : Value → Shared → Prop),
    Below A₀ h₀ [] h₀ → Fr h₀ L s.heap m → K.In h₀ → News h₀ L s.heap news → Top p loose mean mg mb h₀ → cs.kind = .function → dp + lev + 1 < recursionLimit → un + 10 * lev + 30 < cLine →
    (∀ (v : Value) (own : List (Addr × Obj)) (h' : Heap) (tk' : Nat), Fr h₀ L h' m → News h₀ L h' (own ++ news) → Above own news → R v own → Q v { s with heap := h', toks := tk' }) →
    wpAny (model prog w) (ktrTop dp un (some []) cn cs L a ccd cl []) (call (.ref f) args kw) Q E s
section
variable {prog : Program} {w : World} {K : Frag} {p : Program} {loose : List PySem.Str} {mean : ExcName → Option Value} {mg mb : PySem.Str → Option Value}
  {f : Addr} {args : List Value} {kw : List (PySem.Str × Value)} {news : List (Addr × Obj)} {R : Value → List (Addr × Obj) → Prop} {lev : Nat}
  {name : PySem.Str} {params : Arguments} {body : List Stmt} {scope : Scope} {dV kV doc pm cdv ct oc : Value} {an od : Option Addr} {osl : Array (Option Value)} {binds : List (PySem.Str × Value)}
theorem does_defST (ho : K.lookup f = some ⟨oc, od, .func (fnOf name name params body scope dV kV doc pm an cdv ct), osl⟩) (hcd : codeIn K cdv name = true)
    (hbind : ∀ s : Shared, K.In s.heap → BindsTo s (fnOf name name params body scope dV kV doc pm an cdv ct) ⟨args, kw⟩ binds) (hloc : ∀ y ∈ binds, scope.names.lookup y.1 = some .local)
    (hco : scope.isCoroutine = false) (hgen : scope.isGenerator = false) (hk : scope.kind = .function) (hcell : ∀ x ∈ scope.names, x.2 ≠ .cell)
    (h : ∀ (dp un : Nat) (outer : List Env) (A₀ : Around) (base g : Heap) (L : Addr) (s : Shared),
      Below A₀ base outer g → Fr g L s.heap (fun y => binds.reverse.lookup y) → News g L s.heap news → K.In g → Top p loose mean mg mb g → K.In base → Top p loose mean mg mb base → KtsDicts (outer.filterMap (·.frame)) g → dp + 1 + lev < recursionLimit → un + 3 + 10 * lev + 20 < cLine →
      wpAny (model prog w) (ktrTop (dp + 1) (un + 3) (some []) name scope L f cdv [] outer) (execs body (envOf name scope L f cdv)) (BodyEndS (outer.filterMap (·.frame)) g L news R s)
        (fun _ _ => False) s) :
    DoesS prog w K p loose mean mg mb f args kw news lev R ∧ DoesT prog w K p loose mean mg mb f args kw news lev R := by
  refine ⟨does_defS ho hcd hbind hloc hco hgen hk hcell h, ?_⟩
  intro dp un cn cs a ccd cl A₀ h₀ L m s Q E B F X N T hck hd hu hret
  refine wpAny_call ?_
  have X' := X.keeps F.keep
  obtain ⟨FG, BG, st, -⟩ := groundX (R := fun _ _ => True) (A := ktrTop dp un (some []) cn cs L a ccd cl []) (env := envX cn cs L a ccd cl) B F N rfl rfl hck
  refine codeAny_call_def (fd := fnOf name name params body scope dV kV doc pm an cdv ct) (body := body) (binds := binds) (by show dp < recursionLimit; omega) (X' _ _ ho) rfl (T.nolimit.keeps F.keep) (codeRec_of X' hcd) rfl (hbind s X') hcell hloc (fun h₁ hns hk₁ => ?_) hco hgen hk
  obtain ⟨oL, es, ep, hL, hLd, hLk, hLf⟩ := FG.ns
  have nL₀ : h₀.get? L = none := kts_self F
  have hh := h dp un [envX cn cs L a ccd cl] _ h₀ _ s.heap.objs.size { s with heap := h₁, toks := s.toks + binds.length } BG
    ⟨hns, fun b o e => hk₁ b o (of_hideAll _ e), Nat.le_of_eq (hideAll_size _ _)⟩
    (fun p hp => ⟨hk₁ _ _ (N p hp).1, Nat.ne_of_lt (Heap.lt_size (N p hp).1), hideAll_none _ (List.mem_map_of_mem hp)⟩) (X.keeps st) (T.keeps st) X T (fun b hb => by
      have hb' : b = L := List.mem_singleton.mp hb
      subst hb'
      exact ⟨oL, es, ep, hL, hLd⟩) (by omega) (by omega)
  refine wpAny_mono hh (fun fl s' hb => ?_) fun _ _ e => e.elim
  obtain ⟨g', v, own, h', tk', m', T', hfl, rfl, F', N', ha, hR⟩ := hb
  obtain ⟨sl, hs⟩ := T'.up hL
  have FK : Fr h₀ L h' m := ⟨⟨_, es, ep, F'.keep _ _ hs, hLd, hLk, hLf⟩, fun b o e => F'.keep b o (T'.other b o (st b o e) (fun q => by
    have q' : b = L := List.mem_singleton.mp q
    rw [q', nL₀] at e; cases e)), F.above⟩
  have NK : News h₀ L h' (own ++ news) := fun q hq => ⟨(N' q hq).1, (fun e => by have := (N' q hq).2.2; rw [e, hs] at this; cases this), by
    cases e : h₀.get? q.1 with
    | none => rfl
    | some o =>
      obtain ⟨sl', hs'⟩ := T'.up (st _ _ e)
      have := (N' q hq).2.2
      rw [hs'] at this; cases this⟩
  rcases hfl with rfl | ⟨rfl, rfl⟩
  · exact hret v own h' tk' FK NK ha hR
  · exact hret .none own h' tk' FK NK ha hR
end
end Ex

theorem top_off_30 : True := by
  w_top off
  trivial
def ReadR (b : List UInt8) (v : Value) (own : List (Addr × Obj)) : Prop := (¬ Heavy b ∧ own = [] ∧ ∃ t, v = .bytes (decB b).toArray t) ∨
      (Heavy b ∧ ∃ a k t, v = .ref a ∧ own = [(a, Ls.lsO [.bool true, .str (PySem.Str.ofString "Ascii85 overflow") t] k)])
section
variable {w : World} {p : Program} {loose : List PySem.Str} {mean : ExcName → Option Value} {mg mb : PySem.Str → Option Value} {news : List (Addr × Obj)}
local macro_rules | `(tactic| walk_at "exec Try") => `(tactic| refine Stop.intro ?_)
local macro_rules | `(tactic| walk_at "count one more") => `(tactic| refine Stop.intro ?_)
local macro_rules | `(tactic| walk_at "count two more") => `(tactic| refine Stop.intro ?_)
local macro_rules | `(tactic| walk_at "call type:type") => `(tactic| (refine type_got (by k_asm) (by got_up) rfl ?_))
local macro_rules | `(tactic| walk_at "call type:str") => `(tactic| ((rename Got _ _ _ _ _ => gX); (refine str_got_one PySem.F.excStr_ValueError (by k_asm) (by got_up) (by show _ + 3 + 2 < cLine; omega) ?_)))
theorem got_left {n n' : List (Addr × Obj)} {e t : Addr} {cls : Value} {vs : List Value} (x : Got n e t cls vs) : Got (n ++ n') e t cls vs :=
  let ⟨oe, ot, ws, nt, h1, h2, r⟩ := x; ⟨oe, ot, ws, nt, List.mem_append_left _ h1, List.mem_append_left _ h2, r⟩
set_option maxHeartbeats 1000000 in
theorem c_read_st (b : List UInt8) (tb : Tok) (hb0 : 1 ≤ b.length) (hb : b.length ≤ 100) (hbb : ∀ c ∈ b, 33 ≤ c.toNat ∧ c.toNat ≤ 117) :
    Ex.DoesS PySem.Challenge.rw_kq0071_01.row.prog w (hd.heap_39 w.params) p loose mean mg mb 113 [.bytes b.toArray tb] [] news 8 (ReadR b) ∧ Ex.DoesT PySem.Challenge.rw_kq0071_01.row.prog w (hd.heap_39 w.params) p loose mean mg mb 113 [.bytes b.toArray tb] [] news 8 (ReadR b) := by
  refine' Ex.does_defST (binds := [(PySem.Str.ofString "text", .bytes b.toArray tb)]) ?ho ?hcd ?hbind ?hloc ?hco ?hgen ?hk ?hcell ?h
  walk_at "enter"
  intro dp un outer A₀ base g L s B F N X T XB TB D hd hu
  k_fold
  k_steps
  refine wpAny_Try_except ?_
  k_steps
  refine c_decode b tb hb0 hb hbb _ _ _ _ _ _ _ _ _ _ _ _ _ _ _ B F X N T XB TB D rfl (by ktr_room) (by ktr_units) ?ret ?exc
  case ret =>
    rintro _ _ h' tk' F' N' ha ⟨rfl, hh, t, rfl⟩
    k_steps
    exact Ex.BodyEndS.ret (own := []) KtsTurn.refl F' N' (by walk_at "sub") above_nil (Or.inl ⟨hh, rfl, _, rfl⟩)
  case exc =>
    rintro e t _ G h' tk' ⟨hh, tt, rfl⟩ FG R U
    refine caught_SB (A₀ := ⟨none, dp, some outer, some [], un⟩) R FG ⟨rfl, B.stays, B.frames⟩ U XB TB D KtsTurn.refl (by k_dflt k_is) PyProof.Rows.Boot.«ValueError» (by decide) PySem.F.isExc_ValueError PySem.F.notTuple_ValueError (by rw [isSubtype_type]; kernel_rfl) ?_
    intro h2 g2 n2 tk2 Tn F2 N2 G2 N2' B2 X2 T2 D2
    have N3 : News g2 L h2 (n2 ++ news) := fun q hq => (List.mem_append.mp hq).elim (N2 q) (N2' q)
    have G3 := got_left (n' := news) G2
    clear N2 N2' G2
    k_steps
    rename_i l7 h6 F6 N6 l1 h7 v7 F7 N7
    refine Ex.BodyEndS.ret (own := [(l7, Ls.lsO [.bool true, .str (PySem.Str.ofString "Ascii85 overflow") tt] 0)]) Tn F7 N7 (fun p hp => ?_) (above_cons (allLt_intro fun p hp => l1 p (List.mem_append_right _ hp)) above_nil) (Or.inr ⟨hh, _, _, _, rfl, rfl⟩)
    rcases List.mem_cons.mp hp with rfl | hp
    · exact List.mem_cons_self
    · exact List.mem_cons_of_mem _ (List.mem_append_right _ hp)
end

namespace Ex
/-- the objects of the frames below, as they stand in g -/
def frsOf (fs : List Addr) (g : Heap) : List (Addr × Obj) := fs.filterMap fun b => (g.get? b).map fun o => (b, o)
theorem frs_mem {fs : List Addr} {g : Heap} {b : Addr} {o : Obj} (hb : b ∈ fs) (h : g.get? b = some o) : (b, o) ∈ frsOf fs g :=
  List.mem_filterMap.mpr ⟨b, hb, by rw [h]; rfl⟩
theorem frs_of {fs : List Addr} {g : Heap} {q : Addr × Obj} (h : q ∈ frsOf fs g) : q.1 ∈ fs ∧ g.get? q.1 = some q.2 := by
  obtain ⟨b, hb, e⟩ := List.mem_filterMap.mp h
  cases q' : g.get? b with
  | none => rw [q'] at e; cases e
  | some o => rw [q'] at e; cases e; exact ⟨hb, q'⟩
section
variable {fs : List Addr} {h₀ g h : Heap} {L : Addr} {m : PySem.Str → Option Value} {tl : List (Addr × Obj)}
theorem turn_back (T : KtsTurn fs h₀ g) {b : Addr} {o : Obj} (hb : b ∉ fs) (h : g.get? b = some o) : h₀.get? b = some o := by
  cases q : h₀.get? b with
  | none => rw [T.none_ b q] at h; cases h
  | some o' => rw [T.other b o' q hb] at h; exact h
theorem fr_hide (T : KtsTurn fs h₀ g) (F : Fr g L h m) : Fr (hideAll h₀ fs) L h m :=
  ⟨F.ns, fun b o q => by
    have h1 := of_hideAll _ q
    have hb : b ∉ fs := fun hb => by rw [hideAll_none _ hb] at q; cases q
    exact F.keep b o (T.other b o h1 hb), by rw [hideAll_size]; exact T.size ▸ F.above⟩
theorem news_hide (T : KtsTurn fs h₀ g) (F : Fr g L h m) (N : News g L h tl) : News (hideAll h₀ fs) L h (frsOf fs g ++ tl) := fun q hq => by
  rcases List.mem_append.mp hq with hq | hq
  · obtain ⟨h1, h2⟩ := frs_of hq
    exact ⟨F.keep _ _ h2, (fun e => by rw [e, kts_self F] at h2; cases h2), hideAll_none _ h1⟩
  · refine ⟨(N q hq).1, (N q hq).2.1, ?_⟩
    cases e : (hideAll h₀ fs).get? q.1 with
    | none => rfl
    | some o => have := turn_none T (N q hq).2.2; rw [of_hideAll _ e] at this; cases this
theorem frs_off (N : News g L h tl) : ∀ q ∈ frsOf fs g, AllNe q.1 tl := fun q hq p hp e => by
  have h1 := (frs_of hq).2
  have h2 := (N p hp).2.2
  rw [e, h1] at h2; cases h2
theorem fr_show (T : KtsTurn fs h₀ g) (hL : L ∉ fs) (hab : h₀.objs.size ≤ L) (F : Fr (hideAll h₀ fs) L h m) (N : News (hideAll h₀ fs) L h (frsOf fs g ++ tl)) : Fr g L h m :=
  ⟨F.ns, fun b o q => by
    by_cases hb : b ∈ fs
    · exact (N (b, o) (List.mem_append_left _ (frs_mem hb q))).1
    · exact F.keep b o (hideAll_get _ (turn_back T hb q) hb), by rw [T.size]; exact hab⟩
theorem news_show (T : KtsTurn fs h₀ g) (hfs : ∀ b ∈ fs, ∃ o, h₀.get? b = some o) (off : ∀ q ∈ frsOf fs g, AllNe q.1 tl) (N : News (hideAll h₀ fs) L h (frsOf fs g ++ tl)) : News g L h tl := fun q hq => by
  obtain ⟨h1, h2, h3⟩ := N q (List.mem_append_right _ hq)
  refine ⟨h1, h2, ?_⟩
  cases e : g.get? q.1 with
  | none => rfl
  | some o =>
    by_cases hb : q.1 ∈ fs
    · exact absurd rfl (off _ (frs_mem hb e) q hq)
    · rw [hideAll_get _ (turn_back T hb e) hb] at h3; cases h3
theorem below_turn {A₀ : Around} {base : Heap} {outer : List Env} (T : KtsTurn (outer.filterMap (·.frame)) h₀ g) (B : Below A₀ base outer h₀) : Below A₀ base outer g :=
  ⟨B.stack, fun b o e => T.other b o (B.stays b o e) (fun hm => by rw [(B.frames.mem hm).1] at e; cases e), B.frames.of_keeps fun b o e _ => by
    obtain ⟨sl', hs'⟩ := T.up e
    exact ⟨_, hs', rfl⟩⟩
end
def TurnEndS (fs : List Addr) (h₀ : Heap) (L : Addr) (tl : List (Addr × Obj)) (J : (PySem.Str → Option Value) → Prop) (s₁ : Shared) (Q : Flow → Shared → Prop) (f : Flow) (s₂ : Shared) : Prop :=
  match f with
  | .ret v => Q (.ret v) s₂
  | .brk => Q .next s₂
  | _ => ∃ g' h' tk' m', KtsTurn fs h₀ g' ∧ s₂ = { s₁ with heap := h', toks := tk' } ∧ Fr g' L h' m' ∧ News g' L h' tl ∧ J m'
/-- a loop over a list, in whose turns the frames below may be turned -/
theorem for_listS {prog : Program} {w : World} {A : Around} {E : Value → Shared → Prop} {s : Shared} {env : Env} {h₀ : Heap} {x : PySem.Str} {body : List Stmt} {Q : Flow → Shared → Prop} {m₀ : PySem.Str → Option Value} {fix : List (Addr × Obj)}
    {L : Addr} {l : Addr} {vs : List Value} {k : Nat} (fs : List Addr) (J : Nat → (PySem.Str → Option Value) → Prop) (hL : env.locals = L) (hh : A.handled = none) (hfs : ∀ b ∈ fs, ∃ o, h₀.get? b = some o) (hm : (l, ({ cls := .type "list", data := .seq vs.toArray k } : Obj)) ∈ fix)
    (F : Fr h₀ L s.heap m₀) (N : News h₀ L s.heap fix) (hJ : J 0 m₀)
    (turn : ∀ i v m₁ h tk tl g, vs[i]? = some v → J i m₁ → (∀ p ∈ fix, p ∈ tl) → KtsTurn fs h₀ g → Fr g L h (fun y => if y = x then some v else m₁ y) → News g L h tl →
      wpAny (model prog w) A (execs body env) (TurnEndS fs h₀ L tl (J (i + 1)) { s with heap := h, toks := tk } Q) E { s with heap := h, toks := tk })
    (done : ∀ m₁ h tk g, J vs.length m₁ → KtsTurn fs h₀ g → Fr g L h m₁ → News g L h fix → Q .next { s with heap := h, toks := tk }) :
    wpAny (model prog w) A (pyIter (.ref l)) (fun it s₂ => LoopAtV prog w A (hideAll h₀ fs) env x body Q E it s₂) E s := by
  have hLf : L ∉ fs := fun hb => by
    obtain ⟨o, e⟩ := hfs L hb
    rw [kts_self F] at e; cases e
  have hab := F.above
  refine for_list (h₀ := hideAll h₀ fs) (nx₀ := frsOf fs h₀) (fix := fix) (fun i m nx => ∃ g, KtsTurn fs h₀ g ∧ nx = frsOf fs g ∧ J i m) hL hh hm (fr_hide .refl F) (news_hide .refl F N) (frs_off N) ⟨h₀, .refl, rfl, hJ⟩ ?_ ?_
  · rintro i v m₁ nx h tk tl hv ⟨g, T, rfl, hJi⟩ hsub off F' N'
    have F2 := fr_show T hLf hab F' N'
    have N2 := news_show T hfs off N'
    refine wpAny_mono (turn i v m₁ h tk tl g hv hJi hsub T F2 N2) (fun f s₂ hf => ?_) fun _ _ e => e
    cases f with
    | ret v => exact hf
    | brk => exact hf
    | next =>
      obtain ⟨g', h', tk', m', T', rfl, F3, N3, J3⟩ := hf
      exact ⟨h', tk', m', frsOf fs g', rfl, fr_hide T' F3, news_hide T' F3 N3, frs_off N3, g', T', rfl, J3⟩
    | cont =>
      obtain ⟨g', h', tk', m', T', rfl, F3, N3, J3⟩ := hf
      exact ⟨h', tk', m', frsOf fs g', rfl, fr_hide T' F3, news_hide T' F3 N3, frs_off N3, g', T', rfl, J3⟩
  · rintro m₁ nx h tk ⟨g, T, rfl, hJn⟩ F' N' off
    exact done m₁ h tk g hJn T (fr_show T hLf hab F' N') (news_show T hfs off N')
end Ex

theorem top_off_31 : True := by
  w_top off
  trivial
def Borne (rows written : List (List UInt8)) (t : List UInt8) : Prop :=
  1 ≤ t.length ∧ t.length ≤ 100 ∧ (∀ c ∈ t, 33 ≤ c.toNat ∧ c.toNat ≤ 117) ∧ (heavyB t = true ↔ Heavy t) ∧
  (¬ Heavy t → (decB t).length = (rows.headD []).length ∧ 1 ≤ (decB t).length ∧ (decB t).length ≤ 8 ∧ (Builtin.Bytes.order (encB (decB t)) t == .gt) = false ∧
    ∀ p ∈ rows.zip written, (Builtin.Bytes.order (decB t) p.1 != .lt) = (Builtin.Bytes.order t p.2 != .lt))
section
variable {w : World} {p : Program} {loose : List PySem.Str} {mean : ExcName → Option Value} {mg mb : PySem.Str → Option Value} {news : List (Addr × Obj)}
local macro_rules | `(tactic| walk_at "exec For Tuple Call cons nil") => `(tactic| refine Stop.intro ?_)
local macro_rules | `(tactic| walk_at "call type:zip") => `(tactic| refine Stop.intro ?_)
local macro_rules | `(tactic| walk_at "pyIter ref") => `(tactic| refine Stop.intro ?_)
local macro_rules | `(tactic| walk_at "compareOp Gt bytes bytes") => `(tactic| (refine Bb.gt ?_))
local macro_rules | `(tactic| walk_at "compareOp GtE bytes bytes") => `(tactic| (refine Bb.ge ?_))
local macro_rules | `(tactic| walk_at "off") => `(tactic| (repeat' (first | exact off_refl | exact ovr_offOf (by rfl) | (refine off_upd (by rfl) ?_) | (refine off_ovr (by rfl) ?_))))
local macro_rules | `(tactic| walk_at "call type:type") => `(tactic| ((with_reducible show wpAny _ _ (call _ [Value.bytes _ _]) _ _ _); refine call_type_of (Tx := "bytes") (typeIs_bytes _ _ _) (by decide +kernel) ?_))
local macro_rules | `(tactic| walk_at "subscriptTail") => `(tactic| (refine Stop.intro ?_))
set_option maxHeartbeats 1000000 in
theorem c_borne_st (lr lw lt ls : Addr) (rvs wvs tvs svs : List Value) (kr kw kt ks : Nat) (rows written texts : List (List UInt8)) (hmr : (lr, Ls.lsO rvs kr) ∈ news) (hmw : (lw, Ls.lsO wvs kw) ∈ news) (hmt : (lt, Ls.lsO tvs kt) ∈ news) (hms : (ls, Ls.lsO svs ks) ∈ news)
    (hr : Ls.BytesAre rvs rows) (hw : Ls.BytesAre wvs written) (ht : Ls.BytesAre tvs texts) (hs : SignsAre svs) (hlen : rows.length = written.length) (hr1 : 1 ≤ rows.length) (hr6 : rows.length ≤ 6) (H : ∀ t ∈ texts, Borne rows written t) :
    Ex.DoesS PySem.Challenge.rw_kq0071_01.row.prog w (hd.heap_39 w.params) p loose mean mg mb 127 [.ref lr, .ref lw, .ref lt, .ref ls] [] news 14 (fun v own => own = [] ∧ v = .bool true) ∧ Ex.DoesT PySem.Challenge.rw_kq0071_01.row.prog w (hd.heap_39 w.params) p loose mean mg mb 127 [.ref lr, .ref lw, .ref lt, .ref ls] [] news 14 (fun v own => own = [] ∧ v = .bool true) := by
  refine' Ex.does_defST (binds := [(PySem.Str.ofString "rows", .ref lr), (PySem.Str.ofString "written", .ref lw), (PySem.Str.ofString "texts", .ref lt), (PySem.Str.ofString "signs", .ref ls)]) ?ho ?hcd ?hbind ?hloc ?hco ?hgen ?hk ?hcell ?h
  walk_at "enter"
  intro dp un outer A₀ base g L s B F N X T XB TB D hd hu
  k_fold
  k_steps
  show wpAny _ _ (exec _ _) _ _ _
  with_unfolding_all refine' For_invVF (Ex.fr_hide (fs := outer.filterMap (·.frame)) .refl F) (by rfl) (by rfl) ?_
  k_steps
  refine' Ex.for_listS (L := L) (outer.filterMap (·.frame)) (fun i m => m = ovr [] [PySem.Str.ofString "t", PySem.Str.ofString "back", PySem.Str.ofString "row", PySem.Str.ofString "w"] m
    (fun y => [(PySem.Str.ofString "rows", Value.ref lr), (PySem.Str.ofString "written", .ref lw), (PySem.Str.ofString "texts", .ref lt), (PySem.Str.ofString "signs", .ref ls)].reverse.lookup y)) ?hL ?hh ?hfs hmt F N ?hJ ?turn ?done
  case hL => rfl
  case hh => rfl
  case hfs => intro b hb; obtain ⟨o, _, _, ho, _⟩ := D b hb; exact ⟨o, ho⟩
  case hJ => exact ovr_of keys_nil (by walk_at "off")
  case turn =>
    rintro i v m₁ h tk tl g1 hv hm hsub T1 F' N'
    have B1 := Ex.below_turn T1 B
    have X1 := XB.keeps B1.stays
    have Tp1 := TB.keeps B1.stays
    have D1 := D.turn T1
    have hi : i < texts.length := by rw [← ht.1]; exact (List.getElem?_eq_some_iff.mp hv).1
    obtain ⟨tt, hvb⟩ := ht.2 i texts[i] (List.getElem?_eq_getElem hi)
    rw [hv] at hvb
    cases hvb
    obtain ⟨t1, t100, tsg, thv, tbk⟩ := H texts[i] (List.getElem_mem _)
    generalize texts[i] = t at *
    rw [hm] at F'
    (try k_fold)
    k_steps
    refine (c_read_st t tt t1 t100 tsg).1 _ _ _ _ _ _ _ _ _ _ _ _ _ _ _ B1 F' X1 N' Tp1 XB TB D1 rfl (by ktr_room) (by ktr_units) ?_
    rintro _ own g2 h2 tk2 T2 F2 N2 ha B2 X2 Tp2 D2 hR
    rcases hR with ⟨hnh, rfl, t2, rfl⟩ | ⟨hhv, a, k, t2, rfl, rfl⟩
    · rw [List.nil_append] at N2
      have hvf : heavyB t = false := by
        cases e : heavyB t with
        | false => rfl
        | true => exact absurd (thv.mp e) hnh
      obtain ⟨q1, q2, q3, q4, q5⟩ := tbk hnh
      k_steps
      refine does_use (c_heavy t tt t100) B2 (by k_asm) X2 (by k_asm) Tp2 (by rfl) (by ktr_room) (by ktr_units) ?_
      rintro _ _ h3 tk3 F3 N3 - ⟨rfl, rfl⟩
      rw [List.nil_append] at N3
      rw [hvf]
      obtain ⟨r0, hr0, hr0l⟩ : ∃ r0, rows[0]? = some r0 ∧ (decB t).length = r0.length := by
        rcases rows with _ | ⟨r0, rr⟩
        · exact absurd hr1 (by simp)
        · exact ⟨r0, rfl, q1⟩
      obtain ⟨t0, hv0⟩ := hr.2 0 r0 hr0
      have hr0s : r0.length ≤ 8 := by omega
      k_steps
      refine Ls.item (vs := rvs) (n := kr) N3 (hsub _ hmr) (by decide) (by decide) hv0 ?_ ?_
      · k_steps
        · exfalso; omega
        refine does_use (c_written (decB t) _ q2 q3 ls svs ks (hsub _ hms) hs) B2 (by k_asm) X2 (by k_asm) Tp2 (by rfl) (by ktr_room) (by ktr_units) ?_
        rintro _ _ h4 tk4 F4 N4 - ⟨rfl, t4, rfl⟩
        rw [List.nil_append] at N4
        k_steps
        (with_reducible rename Fr _ _ _ _ => F5)
        (with_reducible rename News _ _ _ _ => N5)
        show wpAny _ _ (exec _ _) _ _ _
        with_unfolding_all refine' For_turns F5 ?_
        k_steps
        refine' for_zip (L := L) (nx₀ := []) (fix := tl) (xs := rvs) (ys := wvs) (fun i m nx => nx = [] ∧ m = ovr [(PySem.Str.ofString "back", .bytes (decB t).toArray t2), (PySem.Str.ofString "t", .bytes t.toArray tt)] [PySem.Str.ofString "row", PySem.Str.ofString "w"] m
          (fun y => [(PySem.Str.ofString "rows", Value.ref lr), (PySem.Str.ofString "written", .ref lw), (PySem.Str.ofString "texts", .ref lt), (PySem.Str.ofString "signs", .ref ls)].reverse.lookup y)) ?hL2 ?hh2 ?hlen2 (hsub _ hmr) (hsub _ hmw) F5 N5 ?hff2 ?hJ2 ?turn2 ?done2
        case hL2 => rfl
        case hh2 => rfl
        case hlen2 => rw [hr.1, hw.1]; exact hlen
        case hff2 => intro q hq; cases hq
        case hJ2 => exact ⟨rfl, ovr_of (keys_cons rfl (keys_cons rfl keys_nil)) (by walk_at "off")⟩
        case turn2 =>
          rintro j Tz x y m₂ nx h6 tk6 tl6 hx hy ⟨rfl, hm2⟩ hsub6 hne6 hT6 F6 N6
          rw [List.nil_append] at N6
          have hj : j < rows.length := by rw [← hr.1]; exact (List.getElem?_eq_some_iff.mp hx).1
          obtain ⟨tx, hxb⟩ := hr.2 j rows[j] (List.getElem?_eq_getElem hj)
          rw [hx] at hxb
          cases hxb
          obtain ⟨ty, hyb⟩ := hw.2 j (written[j]'(by omega)) (List.getElem?_eq_getElem (by omega))
          rw [hy] at hyb
          cases hyb
          have hq5 := q5 (rows[j], written[j]'(by omega)) (by
            refine List.mem_iff_getElem.mpr ⟨j, by rw [List.length_zip]; omega, ?_⟩
            rw [List.getElem_zip])
          dsimp only at hq5
          rw [hm2] at F6
          (try k_fold)
          (try dsimp only)
          k_steps
          · rename_i hv
            exact absurd hv (by rw [hq5]; simp)
          · refine ⟨_, _, _, [], rfl, by k_asm, by k_asm, (fun _ h => nomatch h), rfl, ovr_of (keys_cons rfl (keys_cons rfl keys_nil)) (by walk_at "off")⟩
        case done2 =>
          rintro m₂ nx h6 tk6 ⟨rfl, hm2⟩ F6 N6 -
          rw [List.nil_append] at N6
          rw [hm2] at F6
          (try k_fold)
          k_steps
          exact ⟨g2, _, _, _, T1.trans T2, rfl, by k_asm, by k_asm, ovr_of keys_nil (by walk_at "off")⟩
      · with_unfolding_all rfl
    · rw [List.singleton_append] at N2
      have hvf : heavyB t = true := thv.mpr hhv
      k_steps
      refine does_use (c_heavy t tt t100) B2 (by k_asm) X2 (by k_asm) Tp2 (by rfl) (by ktr_room) (by ktr_units) ?_
      rintro _ _ h3 tk3 F3 N3 - ⟨rfl, rfl⟩
      rw [List.nil_append] at N3
      rw [hvf]
      k_steps
      (with_reducible rename News _ _ _ _ => N9)
      exact ⟨g2, _, _, _, T1.trans T2, rfl, by k_asm, fun p hp => N9 p (List.mem_cons_of_mem _ (List.mem_cons_of_mem _ hp)), ovr_of keys_nil (by walk_at "off")⟩
  case done =>
    rintro m₁ h tk g1 hm T1 F' N'
    rw [hm] at F'
    (try k_fold)
    k_steps
    exact Ex.BodyEndS.ret (own := []) T1 (by k_asm) (by k_asm) (by walk_at "sub") above_nil ⟨rfl, rfl⟩
end

namespace Ex
open PySem.Sem (wp)
theorem eqAt_bytes {A : Around} {s : Shared} {x : Array UInt8} {t u : Tok} : SeqAt.EqAt A s (.bytes x t) (.bytes x u) true := fun prog w E Q hq => by
  unfold eqBool
  refine wpAny_holding ?_
  refine wpAny_ite_split (fun _ => wpAny_bind (wpAny_rule (wpAny_pure hq))) (fun _ => ?_)
  refine wpAny_bind ?_
  show wpAny _ _ (compareOp .Eq (.bytes x t) (.bytes x u)) _ _ _
  refine eq_bytes ?_
  rw [show (x.toList == x.toList) = true by simp]
  exact wpAny_truthy_bool hq
/-- two lists of the same bytes are not unlike -/
theorem ne_same {prog : Program} {w : World} {A : Around} {E : Value → Shared → Prop} {s : Shared} {h₀ : Heap} {L l b : Addr} {news : List (Addr × Obj)} {vs us : List Value} {k k' : Nat} {bs : List (List UInt8)} {Q : Value → Shared → Prop} (N : News h₀ L s.heap news)
    (hm1 : (l, Ls.lsO vs k) ∈ news) (hm2 : (b, Ls.lsO us k') ∈ news) (h1 : Ls.BytesAre vs bs) (h2 : Ls.BytesAre us bs) (hu : A.units < cLine) (h : Q (.bool false) s) : wpAny (model prog w) A (compareOp .NotEq (.ref l) (.ref b)) Q E s := by
  have hr := SeqAt.RcNeAt.lists (A := A) (e := fun _ => true) (Ls.isList N hm1) (Ls.isList N hm2) (by simp [h1.1, h2.1]) hu (fun j i1 i2 => by
    have j1 : j < bs.length := by rw [← h1.1]; simpa using i1
    obtain ⟨t, e1⟩ := h1.2 j bs[j] (List.getElem?_eq_getElem j1)
    obtain ⟨u, e2⟩ := h2.2 j bs[j] (List.getElem?_eq_getElem j1)
    have f1 : vs.toArray[j] = .bytes (bs[j]).toArray t := by
      have := (List.getElem?_eq_some_iff.mp e1).2
      simpa using this
    have f2 : us.toArray[j] = .bytes (bs[j]).toArray u := by
      have := (List.getElem?_eq_some_iff.mp e2).2
      simpa using this
    rw [f1, f2]
    exact eqAt_bytes)
  refine hr prog w E Q ?_
  rw [show (!(List.range vs.toArray.size).all fun _ => true) = false by simp]
  exact h
end Ex
/-- the octets of a row -/
def rowB (k : Nat) (x : Int) : List UInt8 := Bb.ofInts (KTBy.little k x).reverse
theorem rowB_len (k : Nat) (x : Int) : (rowB k x).length = k := by simp [rowB, Bb.ofInts, KTBy.little_length]
theorem bInts_arr {b : Array UInt8} {is : List Int} (h : KBw.bInts b = is) : b = (Bb.ofInts is).toArray := by
  subst h
  unfold KBw.bInts Bb.ofInts
  rw [List.map_map]
  have : ((fun n : Int => n.toNat.toUInt8) ∘ fun c : UInt8 => (c.toNat : Int)) = id := by
    funext c
    show ((c.toNat : Int)).toNat.toUInt8 = c
    rw [Int.toNat_natCast]
    simp
  rw [this, List.map_id, Array.toArray_toList]
theorem boolsAre_true : ∀ (vs : List Value), (∀ (i : Nat) (y : Value), vs[i]? = some y → y = Value.bool true) → LSm.BoolsAre vs (List.replicate vs.length true)
  | [], _ => .nil
  | v :: r, h => by
    have h0 := h 0 v rfl
    subst h0
    exact .cons true (boolsAre_true r fun i y hy => h (i + 1) y hy)
theorem signsAre_of {ys : List Value} (hl : ys.length = 85) (h : ∀ (i : Nat) (y : Value), ys[i]? = some y → ∃ t, y = .bytes (Bb.ofInts [33 + (i : Int)]).toArray t) : SignsAre ys := by
  refine ⟨hl, fun i hi => ?_⟩
  obtain ⟨t, ht⟩ := h i _ (List.getElem?_eq_getElem (by omega))
  exact ⟨t, by rw [List.getElem?_eq_getElem (by omega), ht]⟩
theorem bytesAre_of {ys : List Value} {bs : List (List UInt8)} (hl : ys.length = bs.length) (h : ∀ (i : Nat) (y : Value), ys[i]? = some y → ∃ b t, bs[i]? = some b ∧ y = .bytes b.toArray t) : Ls.BytesAre ys bs := by
  refine ⟨hl, fun i b hb => ?_⟩
  have hi : i < ys.length := by rw [hl]; exact (List.getElem?_eq_some_iff.mp hb).1
  obtain ⟨b', t, e1, e2⟩ := h i _ (List.getElem?_eq_getElem hi)
  rw [hb] at e1
  cases e1
  exact ⟨t, by rw [List.getElem?_eq_getElem hi, e2]⟩

section
/-- all signs of the list lie in [f, f + b) -/
def InBase (f b : Int) (l : List UInt8) : Prop := ∀ c ∈ l, f ≤ (c.toNat : Int) ∧ (c.toNat : Int) < f + b
theorem inBase_app {f b : Int} {x y : List UInt8} (hx : InBase f b x) (hy : InBase f b y) : InBase f b (x ++ y) := fun c hc =>
  (List.mem_append.mp hc).elim (hx c) (hy c)
theorem inBase_take {f b : Int} {x : List UInt8} (n : Nat) (hx : InBase f b x) : InBase f b (x.take n) := fun c hc => hx c (List.mem_of_mem_take hc)
theorem inBase_drop {f b : Int} {x : List UInt8} (n : Nat) (hx : InBase f b x) : InBase f b (x.drop n) := fun c hc => hx c (List.mem_of_mem_drop hc)
theorem foldF (f b : Int) (l : List UInt8) : ∀ a : Int, l.foldl (fun n o => n * b + (o.toNat : Int) - f) a = a * b ^ l.length + numberF f b l := by
  induction l with
  | nil => intro a; simp [numberF]
  | cons c r ih =>
    intro a
    unfold numberF
    rw [List.foldl_cons, List.foldl_cons, ih, ih, List.length_cons, Int.pow_succ]
    have : (a * b + (c.toNat : Int) - f) * b ^ r.length = a * (b ^ r.length * b) + (0 * b + (c.toNat : Int) - f) * b ^ r.length := by
      rw [show a * b + (c.toNat : Int) - f = a * b + (0 * b + (c.toNat : Int) - f) by omega, Int.add_mul, Int.mul_assoc a b, Int.mul_comm b]
    omega
theorem number_app (f b : Int) (x y : List UInt8) : numberF f b (x ++ y) = numberF f b x * b ^ y.length + numberF f b y := by
  show (x ++ y).foldl _ 0 = _
  rw [List.foldl_append, foldF]; rfl
theorem number_cons (f b : Int) (c : UInt8) (y : List UInt8) : numberF f b (c :: y) = ((c.toNat : Int) - f) * b ^ y.length + numberF f b y := by
  have := number_app f b [c] y
  rw [List.singleton_append] at this
  rw [this]
  congr 2
  simp [numberF]
theorem number_in {f b : Int} (hb : 0 < b) {l : List UInt8} (h : InBase f b l) : 0 ≤ numberF f b l ∧ numberF f b l < b ^ l.length := by
  induction l with
  | nil => exact ⟨Int.le_refl 0, by simp [numberF]⟩
  | cons c r ih =>
    have hr := ih fun d hd => h d (List.mem_cons_of_mem _ hd)
    have hc := h c List.mem_cons_self
    have hp : 0 < b ^ r.length := Int.pow_pos hb
    rw [number_cons, List.length_cons, Int.pow_succ]
    have h1 : 0 ≤ ((c.toNat : Int) - f) * b ^ r.length := Int.mul_nonneg (by omega) (Int.le_of_lt hp)
    have h2 : ((c.toNat : Int) - f) * b ^ r.length ≤ (b - 1) * b ^ r.length := Int.mul_le_mul_of_nonneg_right (by omega) (Int.le_of_lt hp)
    have h3 : (b - 1) * b ^ r.length = b ^ r.length * b - b ^ r.length := by rw [Int.sub_mul, Int.one_mul, Int.mul_comm b]
    omega
/-- the order of two lists of one length is that of their numbers -/
theorem order_number {f b : Int} (hb : 0 < b) : ∀ (x y : List UInt8), x.length = y.length → InBase f b x → InBase f b y → Builtin.Bytes.order x y = compare (numberF f b x) (numberF f b y)
  | [], [], _, _, _ => by simp [Builtin.Bytes.order, numberF]
  | [], _ :: _, h, _, _ => by simp at h
  | _ :: _, [], h, _, _ => by simp at h
  | c :: x, d :: y, h, hx, hy => by
    have hl : x.length = y.length := by simpa using h
    have hx' : InBase f b x := fun e he => hx e (List.mem_cons_of_mem _ he)
    have hy' : InBase f b y := fun e he => hy e (List.mem_cons_of_mem _ he)
    have ih := order_number hb x y hl hx' hy'
    have hp : 0 < b ^ y.length := Int.pow_pos hb
    have nx := number_in hb hx'
    have ny := number_in hb hy'
    rw [hl] at nx
    unfold Builtin.Bytes.order
    rw [number_cons, number_cons, hl, ih]
    by_cases h1 : c < d
    · rw [if_pos h1]
      have h1' : (c.toNat : Int) + 1 ≤ (d.toNat : Int) := by have := UInt8.lt_iff_toNat_lt.mp h1; omega
      have : ((c.toNat : Int) + 1 - f) * b ^ y.length ≤ ((d.toNat : Int) - f) * b ^ y.length := Int.mul_le_mul_of_nonneg_right (by omega) (Int.le_of_lt hp)
      rw [show ((c.toNat : Int) + 1 - f) = ((c.toNat : Int) - f) + 1 by omega, Int.add_mul, Int.one_mul] at this
      symm
      rw [Int.compare_eq_lt]
      omega
    · rw [if_neg h1]
      by_cases h2 : c > d
      · rw [if_pos h2]
        have h1' : (d.toNat : Int) + 1 ≤ (c.toNat : Int) := by have := UInt8.lt_iff_toNat_lt.mp h2; omega
        have : ((d.toNat : Int) + 1 - f) * b ^ y.length ≤ ((c.toNat : Int) - f) * b ^ y.length := Int.mul_le_mul_of_nonneg_right (by omega) (Int.le_of_lt hp)
        rw [show ((d.toNat : Int) + 1 - f) = ((d.toNat : Int) - f) + 1 by omega, Int.add_mul, Int.one_mul] at this
        symm
        rw [Int.compare_eq_gt]
        omega
      · rw [if_neg h2]
        have e : c = d := by
          have a1 := mt UInt8.lt_iff_toNat_lt.mpr h1
          have a2 := mt UInt8.lt_iff_toNat_lt.mpr h2
          exact UInt8.toNat_inj.mp (by omega)
        subst e
        have key : ∀ k m n : Int, compare m n = compare (k + m) (k + n) := fun k m n => by
          simp only [compare, compareOfLessAndEq]
          have e1 : (k + m < k + n) ↔ (m < n) := by omega
          have e2 : (k + m = k + n) ↔ (m = n) := by omega
          simp only [e1, e2]
        exact key _ _ _
end
section
theorem inBytes (l : List UInt8) : InBase 0 256 l := fun c _ => ⟨by omega, by have := c.toNat_lt; omega⟩
theorem order_eq : ∀ (x y : List UInt8), Builtin.Bytes.order x y = .eq → x = y
  | [], [], _ => rfl
  | [], _ :: _, h => by simp [Builtin.Bytes.order] at h
  | _ :: _, [], h => by simp [Builtin.Bytes.order] at h
  | c :: x, d :: y, h => by
    unfold Builtin.Bytes.order at h
    by_cases h1 : c < d
    · rw [if_pos h1] at h; cases h
    · rw [if_neg h1] at h
      by_cases h2 : c > d
      · rw [if_pos h2] at h; cases h
      · rw [if_neg h2] at h
        have e : c = d := by
          have a1 := mt UInt8.lt_iff_toNat_lt.mpr h1
          have a2 := mt UInt8.lt_iff_toNat_lt.mpr h2
          exact UInt8.toNat_inj.mp (by omega)
        rw [e, order_eq x y h]
theorem number_inj {f b : Int} (hb : 0 < b) {x y : List UInt8} (h : x.length = y.length) (hx : InBase f b x) (hy : InBase f b y) (e : numberF f b x = numberF f b y) : x = y :=
  order_eq x y (by rw [order_number hb x y h hx hy, e]; simp [compare, compareOfLessAndEq])
theorem order_cons (c d : UInt8) (x y : List UInt8) : Builtin.Bytes.order (c :: x) (d :: y) = if c < d then .lt else if c > d then .gt else Builtin.Bytes.order x y := by
  rw [Builtin.Bytes.order]
theorem order_app : ∀ (x y x' y' : List UInt8), x.length = y.length → Builtin.Bytes.order (x ++ x') (y ++ y') = (Builtin.Bytes.order x y).then (Builtin.Bytes.order x' y')
  | [], [], _, _, _ => by simp [Builtin.Bytes.order, Ordering.then]
  | [], _ :: _, _, _, h => by simp at h
  | _ :: _, [], _, _, h => by simp at h
  | c :: x, d :: y, x', y', h => by
    have hl : x.length = y.length := by simpa using h
    show Builtin.Bytes.order (c :: (x ++ x')) (d :: (y ++ y')) = _
    rw [order_cons, order_cons]
    split
    · rfl
    · split
      · rfl
      · exact order_app x y x' y' hl
theorem number_take {f b : Int} (hb : 0 < b) {l : List UInt8} (hl : InBase f b l) (q : Nat) : numberF f b (l.take q) = numberF f b l / b ^ (l.length - q) := by
  have h := number_app f b (l.take q) (l.drop q)
  rw [List.take_append_drop, List.length_drop] at h
  have hd := number_in hb (inBase_drop q hl)
  rw [List.length_drop] at hd
  have hp : (0 : Int) < b ^ (l.length - q) := Int.pow_pos hb
  rw [h, Int.add_comm, Int.add_mul_ediv_right _ _ (Int.ne_of_gt hp), Int.ediv_eq_zero_of_lt hd.1 hd.2, Int.zero_add]
theorem ofI {z : Int} (h0 : 0 ≤ z) (h1 : z < 256) : ((z.toNat.toUInt8).toNat : Int) = z := by
  show ((UInt8.ofNat z.toNat).toNat : Int) = z
  rw [UInt8.toNat_ofNat']
  omega
theorem five_in {n : Int} (h0 : 0 ≤ n) (h1 : n < 4437053125) : InBase 33 85 (fiveB n) := by
  intro c hc
  unfold fiveB pairB Bb.ofInts at hc
  simp only [List.map_cons, List.map_nil, List.cons_append, List.nil_append, List.mem_cons, List.not_mem_nil, or_false] at hc
  rcases hc with rfl | rfl | rfl | rfl | rfl <;> rw [ofI (by omega) (by omega)] <;> omega
theorem five_number {n : Int} (h0 : 0 ≤ n) (h1 : n < 4437053125) : numberF 33 85 (fiveB n) = n := by
  unfold fiveB pairB Bb.ofInts numberF
  simp only [List.map_cons, List.map_nil, List.cons_append, List.nil_append, List.foldl_cons, List.foldl_nil]
  rw [ofI (by omega) (by omega), ofI (by omega) (by omega), ofI (by omega) (by omega), ofI (by omega) (by omega), ofI (by omega) (by omega)]
  omega
theorem natB (k : Nat) : ((k % 256).toUInt8).toNat = k % 256 := by
  show (UInt8.ofNat (k % 256)).toNat = _
  rw [UInt8.toNat_ofNat']
  omega
theorem packed_number {n : Int} (h0 : 0 ≤ n) (h1 : n < 4294967296) : numberF 0 256 (packed n) = n := by
  unfold packed
  rw [Bo.intBytes4]
  unfold numberF
  simp only [List.foldl_cons, List.foldl_nil, natB]
  obtain ⟨k, rfl⟩ := Int.eq_ofNat_of_zero_le h0
  have e : (((k : Int) % 2 ^ (8 * 4)).toNat) = k := by
    rw [show (2 : Int) ^ (8 * 4) = 4294967296 by decide]
    omega
  rw [e, show (256 : Nat) ^ 3 = 16777216 by decide, show (256 : Nat) ^ 2 = 65536 by decide, show (256 : Nat) ^ 1 = 256 by decide, show (256 : Nat) ^ 0 = 1 by decide]
  omega
theorem cmp_ge (a b : Int) : (compare a b != .lt) = decide (b ≤ a) := by
  simp only [compare, compareOfLessAndEq]
  by_cases h : a < b
  · rw [if_pos h, decide_eq_false (by omega)]; rfl
  · rw [if_neg h, decide_eq_true (by omega)]
    split <;> rfl
theorem then_ge (o o' : Ordering) : (o.then o' != .lt) = (match o with | .lt => false | .gt => true | .eq => o' != .lt) := by cases o <;> rfl
theorem step_last {q : Nat} (h1 : 1 ≤ q) (h4 : q ≤ 4) (D m : Int) : m ≤ (D * 85 ^ (4 - q) + (85 ^ (4 - q) - 1)) / 256 ^ (4 - q) ↔ m * 256 ^ (4 - q) / 85 ^ (4 - q) ≤ D := by
  have hq : q = 1 ∨ q = 2 ∨ q = 3 ∨ q = 4 := by omega
  rcases hq with rfl | rfl | rfl | rfl
  · rw [show (85 : Int) ^ (4 - 1) = 614125 by decide, show (256 : Int) ^ (4 - 1) = 16777216 by decide]; omega
  · rw [show (85 : Int) ^ (4 - 2) = 7225 by decide, show (256 : Int) ^ (4 - 2) = 65536 by decide]; omega
  · rw [show (85 : Int) ^ (4 - 3) = 85 by decide, show (256 : Int) ^ (4 - 3) = 256 by decide]; omega
  · rw [show (85 : Int) ^ (4 - 4) = 1 by decide, show (256 : Int) ^ (4 - 4) = 1 by decide]; omega
/-- a short group read back: the octets of the number that the signs, filled up, write -/
theorem step_back {q : Nat} (h1 : 1 ≤ q) (h4 : q ≤ 4) {m : Int} (h0 : 0 ≤ m) (hm : m < 256 ^ q) :
    m * 256 ^ (4 - q) / 85 ^ (4 - q) * 85 ^ (4 - q) + (85 ^ (4 - q) - 1) < 4294967296 ∧ (m * 256 ^ (4 - q) / 85 ^ (4 - q) * 85 ^ (4 - q) + (85 ^ (4 - q) - 1)) / 256 ^ (4 - q) = m := by
  have hq : q = 1 ∨ q = 2 ∨ q = 3 ∨ q = 4 := by omega
  rcases hq with rfl | rfl | rfl | rfl
  · rw [show (256 : Int) ^ 1 = 256 by decide] at hm
    rw [show (85 : Int) ^ (4 - 1) = 614125 by decide, show (256 : Int) ^ (4 - 1) = 16777216 by decide]; omega
  · rw [show (256 : Int) ^ 2 = 65536 by decide] at hm
    rw [show (85 : Int) ^ (4 - 2) = 7225 by decide, show (256 : Int) ^ (4 - 2) = 65536 by decide]; omega
  · rw [show (256 : Int) ^ 3 = 16777216 by decide] at hm
    rw [show (85 : Int) ^ (4 - 3) = 85 by decide, show (256 : Int) ^ (4 - 3) = 256 by decide]; omega
  · rw [show (256 : Int) ^ 4 = 4294967296 by decide] at hm
    rw [show (85 : Int) ^ (4 - 4) = 1 by decide, show (256 : Int) ^ (4 - 4) = 1 by decide]; omega
end
section
theorem number_zeros (k : Nat) : numberF 0 256 (List.replicate k 0) = 0 := by
  induction k with
  | zero => rfl
  | succ k ih => rw [List.replicate_succ, number_cons, ih]; simp
theorem number_us (k : Nat) : numberF 33 85 (List.replicate k 117) = 85 ^ k - 1 := by
  induction k with
  | zero => rfl
  | succ k ih =>
    rw [List.replicate_succ, number_cons, ih, List.length_replicate, Int.pow_succ]
    rw [show (((117 : UInt8).toNat : Int) - 33) = 84 by decide]
    omega
theorem encB_1 {row : List UInt8} (h1 : 1 ≤ row.length) (h4 : row.length ≤ 4) : encB row = (fiveB (numberF 0 256 row * 256 ^ (4 - row.length))).take (row.length + 1) := by
  have hz : padz row = row ++ List.replicate (4 - row.length) 0 := by unfold padz; congr 2; omega
  have hl : (padz row).length = 4 := by rw [hz, List.length_append, List.length_replicate]; omega
  have hw : wordAt (padz row) 0 = numberF 0 256 row * 256 ^ (4 - row.length) := by
    unfold wordAt
    rw [Nat.mul_zero, List.drop_zero, List.take_of_length_le (by omega), hz, number_app, number_zeros, List.length_replicate, Int.add_zero]
  unfold encB chunksOf
  rw [hl, show List.range (4 / 4) = [0] from rfl]
  simp only [List.map_cons, List.map_nil, List.flatten_cons, List.flatten_nil, List.append_nil]
  rw [hw]
  congr 1
  omega
theorem encB_2 {row : List UInt8} (h1 : 5 ≤ row.length) (h4 : row.length ≤ 7) : encB row = fiveB (numberF 0 256 (row.take 4)) ++ (fiveB (numberF 0 256 (row.drop 4) * 256 ^ (8 - row.length))).take (row.length - 3) := by
  have hz : padz row = row ++ List.replicate (8 - row.length) 0 := by unfold padz; congr 2; omega
  have hl : (padz row).length = 8 := by rw [hz, List.length_append, List.length_replicate]; omega
  have hw0 : wordAt (padz row) 0 = numberF 0 256 (row.take 4) := by
    unfold wordAt
    rw [Nat.mul_zero, List.drop_zero, hz, List.take_append_of_le_length (by omega)]
  have hw1 : wordAt (padz row) 1 = numberF 0 256 (row.drop 4) * 256 ^ (8 - row.length) := by
    unfold wordAt
    rw [Nat.mul_one, List.take_of_length_le (by rw [List.length_drop]; omega), hz, List.drop_append_of_le_length (by omega), number_app, number_zeros, List.length_replicate, Int.add_zero]
  unfold encB chunksOf
  rw [hl, show List.range (8 / 4) = [0, 1] from rfl]
  simp only [List.map_cons, List.map_nil, List.flatten_cons, List.flatten_nil, List.append_nil]
  rw [hw0, hw1, List.take_append, fiveB_len, List.take_of_length_le (by rw [fiveB_len]; omega)]
  congr 2
  omega
theorem padU_take {t : List UInt8} {k : Nat} (hk : k ≤ 4) : (t ++ [117, 117, 117, 117]).take (t.length + k) = t ++ List.replicate k 117 := by
  rw [List.take_append, List.take_of_length_le (by omega), Nat.add_sub_cancel_left]
  congr 1
  have : k = 0 ∨ k = 1 ∨ k = 2 ∨ k = 3 ∨ k = 4 := by omega
  rcases this with rfl | rfl | rfl | rfl | rfl <;> rfl
/-- the number of a last group, filled up -/
def lastG (d : List UInt8) : Int := numberF 33 85 d * 85 ^ (5 - d.length) + (85 ^ (5 - d.length) - 1)
theorem lastG_eq {d : List UInt8} (h1 : 1 ≤ d.length) (h5 : d.length ≤ 5) : numberF 33 85 ((d ++ [117, 117, 117, 117]).take 5) = lastG d := by
  rw [show 5 = d.length + (5 - d.length) by omega, padU_take (by omega), number_app, number_us, List.length_replicate]
  rfl
theorem groups_1 {t : List UInt8} (h1 : 1 ≤ t.length) (h5 : t.length ≤ 5) : groupAt (padU t) 0 = lastG t := by
  unfold groupAt padU
  rw [Nat.zero_mul, List.drop_zero]
  exact lastG_eq h1 h5
theorem groups_2 {t : List UInt8} (h1 : 6 ≤ t.length) (h5 : t.length ≤ 10) : groupAt (padU t) 0 = numberF 33 85 (t.take 5) ∧ groupAt (padU t) 1 = lastG (t.drop 5) := by
  unfold groupAt padU
  refine ⟨?_, ?_⟩
  · rw [Nat.zero_mul, List.drop_zero, List.take_append_of_le_length (by omega)]
  · rw [Nat.one_mul, List.drop_append_of_le_length (by omega)]
    exact lastG_eq (by rw [List.length_drop]; omega) (by rw [List.length_drop]; omega)
theorem decB_1 {t : List UInt8} (h1 : 2 ≤ t.length) (h5 : t.length ≤ 5) : decB t = (packed (lastG t)).take (t.length - 1) := by
  unfold decB
  rw [show (t.length + 4) / 5 = 1 by omega, show List.range 1 = [0] from rfl]
  simp only [List.map_cons, List.map_nil, List.flatten_cons, List.flatten_nil, List.append_nil]
  rw [groups_1 (by omega) h5]
  congr 1
  omega
theorem decB_2 {t : List UInt8} (h1 : 7 ≤ t.length) (h5 : t.length ≤ 10) : decB t = packed (numberF 33 85 (t.take 5)) ++ (packed (lastG (t.drop 5))).take (t.length - 6) := by
  unfold decB
  rw [show (t.length + 4) / 5 = 2 by omega, show List.range 2 = [0, 1] from rfl]
  simp only [List.map_cons, List.map_nil, List.flatten_cons, List.flatten_nil, List.append_nil]
  rw [(groups_2 (by omega) h5).1, (groups_2 (by omega) h5).2, List.take_append, packed_len, List.take_of_length_le (by rw [packed_len]; omega)]
  congr 2
  omega
theorem heavy_1 {t : List UInt8} (h1 : 1 ≤ t.length) (h5 : t.length ≤ 5) : Heavy t ↔ 4294967296 ≤ lastG t := by
  unfold Heavy
  rw [show (t.length + 4) / 5 = 1 by omega, ← groups_1 h1 h5]
  exact ⟨fun ⟨j, hj, h⟩ => by rw [show j = 0 by omega] at h; exact h, fun h => ⟨0, by omega, h⟩⟩
theorem heavy_2 {t : List UInt8} (h1 : 6 ≤ t.length) (h5 : t.length ≤ 10) : Heavy t ↔ 4294967296 ≤ numberF 33 85 (t.take 5) ∨ 4294967296 ≤ lastG (t.drop 5) := by
  unfold Heavy
  rw [show (t.length + 4) / 5 = 2 by omega, ← (groups_2 h1 h5).1, ← (groups_2 h1 h5).2]
  constructor
  · rintro ⟨j, hj, h⟩
    have : j = 0 ∨ j = 1 := by omega
    rcases this with rfl | rfl
    · exact .inl h
    · exact .inr h
  · rintro (h | h)
    · exact ⟨0, by omega, h⟩
    · exact ⟨1, by omega, h⟩
end
section
theorem prod_bound {q : Nat} (h4 : q ≤ 4) {m : Int} (h0 : 0 ≤ m) (hm : m < 256 ^ q) : 0 ≤ m * 256 ^ (4 - q) ∧ m * 256 ^ (4 - q) < 4294967296 := by
  have hq : q = 0 ∨ q = 1 ∨ q = 2 ∨ q = 3 ∨ q = 4 := by omega
  rcases hq with rfl | rfl | rfl | rfl | rfl
  · rw [show (256 : Int) ^ 0 = 1 by decide] at hm
    rw [show (256 : Int) ^ (4 - 0) = 4294967296 by decide]; omega
  · rw [show (256 : Int) ^ 1 = 256 by decide] at hm
    rw [show (256 : Int) ^ (4 - 1) = 16777216 by decide]; omega
  · rw [show (256 : Int) ^ 2 = 65536 by decide] at hm
    rw [show (256 : Int) ^ (4 - 2) = 65536 by decide]; omega
  · rw [show (256 : Int) ^ 3 = 16777216 by decide] at hm
    rw [show (256 : Int) ^ (4 - 3) = 256 by decide]; omega
  · rw [show (256 : Int) ^ 4 = 4294967296 by decide] at hm
    rw [show (256 : Int) ^ (4 - 4) = 1 by decide]; omega
theorem oct_in (l : List UInt8) : 0 ≤ numberF 0 256 l ∧ numberF 0 256 l < 256 ^ l.length := number_in (by decide) (inBytes l)
theorem four_in {l : List UInt8} (h : l.length = 4) : 0 ≤ numberF 0 256 l ∧ numberF 0 256 l < 4294967296 := by
  have := oct_in l
  rw [h, show (256 : Int) ^ 4 = 4294967296 by decide] at this
  exact this
/-- the word of a last group of octets -/
def lastW (d : List UInt8) : Int := numberF 0 256 d * 256 ^ (4 - d.length)
theorem lastW_in {d : List UInt8} (h : d.length ≤ 4) : 0 ≤ lastW d ∧ lastW d < 4294967296 := prod_bound h (oct_in d).1 (oct_in d).2
/-- the signs of a last group of octets -/
def lastE (d : List UInt8) : List UInt8 := (fiveB (lastW d)).take (d.length + 1)
theorem lastE_len {d : List UInt8} (h : d.length ≤ 4) : (lastE d).length = d.length + 1 := by unfold lastE; rw [List.length_take, fiveB_len]; omega
theorem lastE_in {d : List UInt8} (h : d.length ≤ 4) : InBase 33 85 (lastE d) := by
  have := lastW_in h
  exact inBase_take _ (five_in this.1 (by omega))
theorem lastE_number {d : List UInt8} (h : d.length ≤ 4) : numberF 33 85 (lastE d) = lastW d / 85 ^ (4 - d.length) := by
  have := lastW_in h
  unfold lastE
  rw [number_take (by decide) (five_in this.1 (by omega)), five_number this.1 (by omega), fiveB_len]
  congr 2
  omega
theorem encB_one {row : List UInt8} (h1 : 1 ≤ row.length) (h4 : row.length ≤ 4) : encB row = lastE row := encB_1 h1 h4
theorem encB_two {row : List UInt8} (h1 : 5 ≤ row.length) (h4 : row.length ≤ 7) : encB row = fiveB (numberF 0 256 (row.take 4)) ++ lastE (row.drop 4) := by
  rw [encB_2 h1 h4]
  unfold lastE lastW
  rw [List.length_drop, show 4 - (row.length - 4) = 8 - row.length by omega, show row.length - 4 + 1 = row.length - 3 by omega]
theorem plain_len {row : List UInt8} (h1 : 1 ≤ row.length) (h7 : row.length ≤ 7) : (encB row).length = row.length + (row.length + 3) / 4 := by
  by_cases h : row.length ≤ 4
  · rw [encB_one h1 h, lastE_len h]; omega
  · rw [encB_two (by omega) h7, List.length_append, fiveB_len, lastE_len (by rw [List.length_drop]; omega), List.length_drop]; omega
theorem enc_in {row : List UInt8} (h1 : 1 ≤ row.length) (h7 : row.length ≤ 7) : InBase 33 85 (encB row) := by
  by_cases h : row.length ≤ 4
  · rw [encB_one h1 h]; exact lastE_in h
  · rw [encB_two (by omega) h7]
    have := four_in (l := row.take 4) (by rw [List.length_take]; omega)
    exact inBase_app (five_in this.1 (by omega)) (lastE_in (by rw [List.length_drop]; omega))
theorem plain_signs {row : List UInt8} (h1 : 1 ≤ row.length) (h7 : row.length ≤ 7) : ∀ c ∈ encB row, 33 ≤ c.toNat ∧ c.toNat ≤ 117 := fun c hc => by
  have := enc_in h1 h7 c hc
  omega
theorem lastG_pos {d : List UInt8} (h : InBase 33 85 d) : 0 ≤ lastG d := by
  have h1 := (number_in (by decide) h).1
  have hp : (0 : Int) < 85 ^ (5 - d.length) := Int.pow_pos (by decide)
  have := Int.mul_nonneg h1 (Int.le_of_lt hp)
  unfold lastG
  omega
/-- the octets that a last group of signs gives back -/
theorem lastD_number {d : List UInt8} (hd : InBase 33 85 d) (h2 : 2 ≤ d.length) (h5 : d.length ≤ 5) (h : lastG d < 4294967296) : numberF 0 256 ((packed (lastG d)).take (d.length - 1)) = lastG d / 256 ^ (5 - d.length) := by
  rw [number_take (by decide) (inBytes _), packed_number (lastG_pos hd) h, packed_len]
  congr 2
  omega
theorem lastD_len {d : List UInt8} (h2 : 2 ≤ d.length) (h5 : d.length ≤ 5) : ((packed (lastG d)).take (d.length - 1)).length = d.length - 1 := by
  rw [List.length_take, packed_len]; omega
theorem last_back {d : List UInt8} (h1 : 1 ≤ d.length) (h4 : d.length ≤ 4) : lastG (lastE d) < 4294967296 ∧ (packed (lastG (lastE d))).take d.length = d := by
  have hb := step_back h1 h4 (oct_in d).1 (oct_in d).2
  have hl := lastE_len h4
  have e : lastG (lastE d) = numberF 0 256 d * 256 ^ (4 - d.length) / 85 ^ (4 - d.length) * 85 ^ (4 - d.length) + (85 ^ (4 - d.length) - 1) := by
    unfold lastG
    rw [lastE_number h4, hl, show 5 - (d.length + 1) = 4 - d.length by omega]
    rfl
  rw [← e] at hb
  refine ⟨hb.1, ?_⟩
  have hn := lastD_number (lastE_in h4) (by omega) (by omega) hb.1
  rw [hl, Nat.add_sub_cancel, show 5 - (d.length + 1) = 4 - d.length by omega, hb.2] at hn
  exact number_inj (by decide) (by rw [List.length_take, packed_len]; omega) (inBytes _) (inBytes _) hn
theorem plain_back {row : List UInt8} (h1 : 1 ≤ row.length) (h7 : row.length ≤ 7) : ¬ Heavy (encB row) ∧ decB (encB row) = row := by
  have hl := plain_len h1 h7
  by_cases h : row.length ≤ 4
  · have hb := last_back h1 h
    rw [heavy_1 (by omega) (by omega), decB_1 (by omega) (by omega), encB_one h1 h]
    refine ⟨by omega, ?_⟩
    rw [lastE_len h, Nat.add_sub_cancel]
    exact hb.2
  · have h0 := four_in (l := row.take 4) (by rw [List.length_take]; omega)
    have hd : (row.drop 4).length = row.length - 4 := List.length_drop
    have hb := last_back (d := row.drop 4) (by omega) (by omega)
    rw [heavy_2 (by omega) (by omega), decB_2 (by omega) (by omega), hl, encB_two (by omega) h7]
    rw [List.take_append_of_le_length (by rw [fiveB_len]; omega), List.take_of_length_le (by rw [fiveB_len]; omega), List.drop_append_of_le_length (by rw [fiveB_len]; omega), List.drop_of_length_le (by rw [fiveB_len]; omega), List.nil_append]
    rw [five_number h0.1 (by omega)]
    refine ⟨by omega, ?_⟩
    rw [show row.length + (row.length + 3) / 4 - 6 = (row.drop 4).length by omega, hb.2]
    have hp : packed (numberF 0 256 (row.take 4)) = row.take 4 := number_inj (by decide) (by rw [packed_len, List.length_take]; omega) (inBytes _) (inBytes _) (packed_number h0.1 h0.2)
    rw [hp, List.take_append_drop]
theorem last_ge {d m : List UInt8} (hd : InBase 33 85 d) (h1 : 1 ≤ m.length) (h4 : m.length ≤ 4) (hl : d.length = m.length + 1) (h : lastG d < 4294967296) :
    (Builtin.Bytes.order ((packed (lastG d)).take (d.length - 1)) m != .lt) = (Builtin.Bytes.order d (lastE m) != .lt) := by
  rw [order_number (f := 0) (b := 256) (by decide) _ _ (by rw [lastD_len (by omega) (by omega)]; omega) (inBytes _) (inBytes _), order_number (f := 33) (b := 85) (by decide) d (lastE m) (by rw [lastE_len h4]; omega) hd (lastE_in h4)]
  rw [cmp_ge, cmp_ge, lastD_number hd (by omega) (by omega) h, lastE_number h4]
  unfold lastG lastW
  rw [show 5 - d.length = 4 - m.length by omega]
  exact decide_eq_decide.mpr (step_last h1 h4 _ _)
theorem dec_len {t : List UInt8} {r : Nat} (h1 : 1 ≤ r) (h7 : r ≤ 7) (hl : t.length = r + (r + 3) / 4) : (decB t).length = r := by
  by_cases h : r ≤ 4
  · rw [decB_1 (by omega) (by omega), List.length_take, packed_len]; omega
  · rw [decB_2 (by omega) (by omega), List.length_append, packed_len, List.length_take, packed_len]; omega
/-- writing and reading are two sides of one step -/
theorem plain_ge {t row : List UInt8} (h1 : 1 ≤ row.length) (h7 : row.length ≤ 7) (hl : t.length = row.length + (row.length + 3) / 4) (ht : InBase 33 85 t) (nh : ¬ Heavy t) :
    (Builtin.Bytes.order (decB t) row != .lt) = (Builtin.Bytes.order t (encB row) != .lt) := by
  by_cases h : row.length ≤ 4
  · rw [heavy_1 (by omega) (by omega)] at nh
    rw [decB_1 (by omega) (by omega), encB_one h1 h]
    exact last_ge ht h1 h (by omega) (by omega)
  · rw [heavy_2 (by omega) (by omega)] at nh
    have n0 : numberF 33 85 (t.take 5) < 4294967296 := by omega
    have n1 : lastG (t.drop 5) < 4294967296 := by omega
    have p0 := (number_in (by decide) (inBase_take 5 ht)).1
    have h0 := four_in (l := row.take 4) (by rw [List.length_take]; omega)
    have hd : (row.drop 4).length = row.length - 4 := List.length_drop
    have hd5 : (t.drop 5).length = t.length - 5 := List.length_drop
    have hg := last_ge (d := t.drop 5) (m := row.drop 4) (inBase_drop 5 ht) (by omega) (by omega) (by omega) n1
    have e1 : Builtin.Bytes.order (decB t) row = (compare (numberF 33 85 (t.take 5)) (numberF 0 256 (row.take 4))).then (Builtin.Bytes.order ((packed (lastG (t.drop 5))).take ((t.drop 5).length - 1)) (row.drop 4)) := by
      rw [decB_2 (by omega) (by omega), show t.length - 6 = (t.drop 5).length - 1 by omega]
      conv => lhs; rw [← List.take_append_drop 4 row]
      rw [order_app _ _ _ _ (by rw [packed_len, List.length_take]; omega), order_number (f := 0) (b := 256) (by decide) _ _ (by rw [packed_len, List.length_take]; omega) (inBytes _) (inBytes _), packed_number p0 n0]
    have e2 : Builtin.Bytes.order t (encB row) = (compare (numberF 33 85 (t.take 5)) (numberF 0 256 (row.take 4))).then (Builtin.Bytes.order (t.drop 5) (lastE (row.drop 4))) := by
      rw [encB_two (by omega) h7]
      conv => lhs; rw [← List.take_append_drop 5 t]
      rw [order_app _ _ _ _ (by rw [fiveB_len, List.length_take]; omega), order_number (f := 33) (b := 85) (by decide) _ _ (by rw [fiveB_len, List.length_take]; omega) (inBase_take 5 ht) (five_in h0.1 (by omega)), five_number h0.1 (by omega)]
    rw [e1, e2, then_ge, then_ge, hg]
end
section
theorem fill_group {t : List UInt8} {j : Nat} (hj : j < (t.length + 4) / 5) : ((padU t).drop (j * 5)).take 5 = fillG t j ∧ (fillG t j).length = 5 := by
  have hd : (t.drop (j * 5)).length = t.length - j * 5 := List.length_drop
  have h1 : 1 ≤ (t.drop (j * 5)).length := by omega
  unfold padU fillG
  rw [List.drop_append_of_le_length (by omega)]
  generalize t.drop (j * 5) = d at h1
  by_cases h : d.length ≤ 5
  · rw [List.take_of_length_le h, show 5 = d.length + (5 - d.length) by omega, padU_take (by omega), Nat.add_sub_cancel_left]
    exact ⟨rfl, by rw [List.length_append, List.length_replicate]⟩
  · rw [List.take_append_of_le_length (by omega), show (d.take 5).length = 5 by rw [List.length_take]; omega]
    exact ⟨by simp, by simp; omega⟩
theorem gt_iff (o : Ordering) : (o == .gt) = true ↔ o = .gt := by cases o <;> decide
theorem heavy_iff {t : List UInt8} (ht : InBase 33 85 t) : heavyB t = true ↔ Heavy t := by
  have key : ∀ j, j < (t.length + 4) / 5 → (heavyAt t j = true ↔ 4294967296 ≤ groupAt (padU t) j) := fun j hj => by
    obtain ⟨hf, hl⟩ := fill_group hj
    have h4 : InBase 33 85 [117, 117, 117, 117] := by
      intro c hc
      simp only [List.mem_cons, List.not_mem_nil, or_false] at hc
      rcases hc with rfl | rfl | rfl | rfl <;> decide
    have hu : InBase 33 85 (padU t) := inBase_app ht h4
    have hi : InBase 33 85 (fillG t j) := by rw [← hf]; exact inBase_take _ (inBase_drop _ hu)
    have hS : InBase 33 85 [115, 56, 87, 45, 33] := by
      intro c hc
      simp only [List.mem_cons, List.not_mem_nil, or_false] at hc
      rcases hc with rfl | rfl | rfl | rfl | rfl <;> decide
    unfold heavyAt groupAt
    rw [gt_iff, order_number (f := 33) (b := 85) (by decide) _ _ (by rw [hl]; rfl) hi hS, hf, Int.compare_eq_gt, show numberF 33 85 [115, 56, 87, 45, 33] = 4294967295 by decide]
    omega
  unfold heavyB Heavy
  rw [List.any_eq_true]
  constructor
  · rintro ⟨j, hj, h⟩
    have hj' := List.mem_range.mp hj
    exact ⟨j, hj', (key j hj').mp h⟩
  · rintro ⟨j, hj, h⟩
    exact ⟨j, List.mem_range.mpr hj, (key j hj).mpr h⟩
theorem order_self : ∀ x : List UInt8, Builtin.Bytes.order x x = .eq
  | [] => by simp [Builtin.Bytes.order]
  | c :: x => by
    rw [order_cons, if_neg (UInt8.lt_irrefl c), if_neg (show ¬ c > c from UInt8.lt_irrefl c), order_self x]
theorem order_swap : ∀ x y : List UInt8, Builtin.Bytes.order x y = .gt → Builtin.Bytes.order y x = .lt
  | [], [], h => by simp [Builtin.Bytes.order] at h
  | [], _ :: _, h => by simp [Builtin.Bytes.order] at h
  | _ :: _, [], _ => by simp [Builtin.Bytes.order]
  | c :: x, d :: y, h => by
    rw [order_cons] at h ⊢
    by_cases h1 : c < d
    · rw [if_pos h1] at h; cases h
    · rw [if_neg h1] at h
      by_cases h2 : c > d
      · rw [if_pos h2]
      · rw [if_neg h2] at h
        rw [if_neg h2, if_neg h1]
        exact order_swap x y h
theorem borne_of {t : List UInt8} {rows : List (List UInt8)} {r : Nat} (h1 : 1 ≤ r) (h7 : r ≤ 7) (hr : ∀ x ∈ rows, x.length = r) (hne : 1 ≤ rows.length) (hl : t.length = r + (r + 3) / 4) (ht : InBase 33 85 t) : Borne rows (rows.map encB) t := by
  refine ⟨by omega, by omega, fun c hc => by have := ht c hc; omega, heavy_iff ht, fun nh => ?_⟩
  have hd := dec_len h1 h7 hl
  refine ⟨?_, by omega, by omega, ?_, ?_⟩
  · rcases rows with _ | ⟨x, rr⟩
    · exact absurd hne (by simp)
    · rw [hd]; exact (hr x List.mem_cons_self).symm
  · have hg := plain_ge (t := t) (row := decB t) (by omega) (by omega) (by rw [hd]; exact hl) ht nh
    rw [order_self] at hg
    cases e : Builtin.Bytes.order (encB (decB t)) t with
    | lt => rfl
    | eq => rfl
    | gt => rw [order_swap _ _ e] at hg; cases hg
  · intro p hp
    rw [List.zip_map_right] at hp
    obtain ⟨q, hq, rfl⟩ := List.mem_map.mp hp
    have hqq : q.1 = q.2 ∧ q.1 ∈ rows := by
      obtain ⟨i, hi, e⟩ := List.mem_iff_getElem.mp hq
      rw [List.getElem_zip] at e
      subst e
      exact ⟨rfl, List.getElem_mem _⟩
    show (Builtin.Bytes.order (decB t) q.1 != .lt) = (Builtin.Bytes.order t (encB q.2) != .lt)
    rw [← hqq.1]
    have hx := hr _ hqq.2
    exact plain_ge (by omega) (by omega) (by rw [hx]; exact hl) ht nh
theorem digs_in (n : Int) : ∀ k, InBase 33 85 (Bb.ofInts (digsLow k n))
  | 0 => fun c hc => nomatch hc
  | k + 1 => by
    intro c hc
    rcases List.mem_cons.mp hc with rfl | hc
    · have a := Int.emod_nonneg (n / 85 ^ k) (by decide : (85 : Int) ≠ 0)
      have b := Int.emod_lt_of_pos (n / 85 ^ k) (by decide : (0 : Int) < 85)
      rw [ofI (by omega) (by omega)]
      omega
    · exact digs_in n k c hc
theorem beside_in {b : List UInt8} {z : Int} (hb : InBase 33 85 b) (h1 : 1 ≤ b.length) : ∀ t ∈ besideB b z, t.length = b.length ∧ InBase 33 85 t := by
  intro t h
  unfold besideB at h
  dsimp only at h
  split at h
  · cases h
  · rw [List.mem_singleton] at h
    subst h
    have hk : lastK b ≤ b.length := by unfold lastK; split <;> omega
    refine ⟨?_, inBase_app (inBase_take _ hb) (digs_in _ _)⟩
    rw [List.length_append, List.length_take]
    unfold Bb.ofInts
    rw [List.length_map, digsLow_len]
    omega
theorem changed_in {b : List UInt8} {v : Int} (hb : InBase 33 85 b) (h1 : 1 ≤ b.length) : (changedB b v).length = b.length ∧ InBase 33 85 (changedB b v) := by
  have hp0 : 0 ≤ v % b.length := Int.emod_nonneg _ (by omega)
  have hp1 : v % b.length < b.length := Int.emod_lt_of_pos _ (by omega)
  unfold changedB
  refine ⟨?_, inBase_app (inBase_app (inBase_take _ hb) ?_) (inBase_drop _ hb)⟩
  · rw [List.length_append, List.length_append, List.length_take, List.length_drop]
    show min _ _ + 1 + _ = _
    omega
  · intro c hc
    have hc' : c = (33 + v / (b.length : Int) % 85).toNat.toUInt8 := by simpa [Bb.ofInts] using hc
    subst hc'
    have a := Int.emod_nonneg (v / (b.length : Int)) (by decide : (85 : Int) ≠ 0)
    have b := Int.emod_lt_of_pos (v / (b.length : Int)) (by decide : (0 : Int) < 85)
    rw [ofI (by omega) (by omega)]
    omega
theorem plain_borne {size : Nat} {rows : List (List UInt8)} {numbers : List Int} (hs1 : 1 ≤ size) (hs7 : size ≤ 7) (hlen : numbers.length = rows.length) (hr : ∀ r ∈ rows, r.length = size) :
    ∀ t ∈ textsB (numbers.zip (rows.map encB)), Borne rows (rows.map encB) t := by
  intro t ht
  unfold textsB at ht
  obtain ⟨q, hq, ht⟩ := List.mem_flatMap.mp ht
  have hq2 : q.2 ∈ rows.map encB := (List.of_mem_zip (a := q.1) (b := q.2) hq).2
  obtain ⟨row, hrow, e⟩ := List.mem_map.mp hq2
  have hrl := hr row hrow
  have hwl := plain_len (row := row) (by omega) (by omega)
  have hwi := enc_in (row := row) (by omega) (by omega)
  rw [e] at hwl hwi
  have hne : 1 ≤ rows.length := List.length_pos_of_mem hrow
  have key : t.length = q.2.length ∧ InBase 33 85 t := by
    unfold textsOf at ht
    simp only [List.mem_append, List.mem_singleton] at ht
    rcases ht with ((rfl | h) | h) | rfl
    · exact ⟨rfl, hwi⟩
    · exact beside_in hwi (by omega) t h
    · exact beside_in hwi (by omega) t h
    · exact changed_in hwi (by omega)
  exact borne_of hs1 hs7 hr hne (by rw [key.1, hwl, hrl]) key.2
end

theorem top_off_40 : True := by
  w_top off
  trivial
section
local macro_rules | `(tactic| walk_at "CompSrc") => `(tactic| refine Stop.intro ?_)
local macro_rules | `(tactic| walk_at "call ref") => `(tactic| refine Stop.intro ?_)
local macro_rules | `(tactic| walk_at "call type:type") => `(tactic| ((with_reducible show wpAny _ _ (call _ [Value.bytes _ _]) _ _ _); refine call_type_of (Tx := "bytes") (typeIs_bytes _ _ _) (by decide +kernel) ?_))
local macro_rules | `(tactic| walk_at "compareOp NotEq ref ref") => `(tactic| refine Stop.intro ?_)
local macro_rules | `(tactic| walk_at "call builtin:all") => `(tactic| refine Stop.intro ?_)
local macro_rules | `(tactic| walk_at "binaryOp Pow int int") => `(tactic| refine Stop.intro ?_)
theorem size_of (x : Int) : ∃ sz : Nat, 1 + x % 7 = (sz : Int) ∧ 1 ≤ sz ∧ sz ≤ 7 := ⟨(1 + x % 7).toNat, by omega, by omega, by omega⟩
set_option maxHeartbeats 4000000 in
theorem law_holds : PySem.Challenge.rw_kq0071_01.Holds := hd (by w_strict (k_go0; (
  k_fold
  k_steps
  (with_reducible rename IsRange _ _ _ _ _ _ _ _ => hr)
  (with_reducible rename Fr _ _ _ _ => F1)
  (with_reducible rename News _ _ _ _ => N1)
  (with_reducible rename IntsAre _ _ => hnI)
  (with_reducible rename List Int => script)
  (with_reducible rename (_ = Data.cell _) => dsz)
  obtain ⟨sz, hsz, hs1, hs7⟩ := size_of (List.take 4 script).sum
  rw [hsz] at dsz
  obtain ⟨numbers, hnum, hn2, hn6⟩ : ∃ numbers, [70, 9999] ++ List.take 4 script = numbers ∧ 2 ≤ numbers.length ∧ numbers.length ≤ 6 := ⟨_, rfl, by simp, by simp; omega⟩
  rw [hnum] at hnI
  have hnl := hnI.length
  refine LCg.CompSrc.range (n := 85) rfl F1 N1 hr (by decide) rfl (by decide) ?_
  intro g1
  refine compRest_all (fun i y => ∃ t, y = .bytes (Bb.ofInts [33 + (i : Int)]).toArray t) trivial ?_ ?_
  · intro i v I oI C oC D' ys m₂ h tk hi hv hC hx F N
    clear F1 N1
    obtain ⟨t, rfl⟩ := hv
    (try k_fold)
    k_steps
    (with_reducible rename Fr _ _ _ _ => F2)
    (with_reducible rename News _ _ _ _ => N2)
    exact EltEnd.intro F2 N2 (by walk_at "sub") ⟨_, by rw [show (33 : Int) + (0 + (i : Int)) = 33 + (i : Int) by omega]⟩
  · intro ys hyl hyR
    have hsig := signsAre_of hyl hyR
    intro D h tk F N o1
    clear F1 N1
    (simp only [LCg.Off1, and_true] at o1)
    k_steps
    (with_reducible rename Fr _ _ _ _ => F3)
    (with_reducible rename News _ _ _ _ => N3)
    refine LCg.CompSrc.ledger rfl F3 N3 (by k_mem) (by rw [sizeLine_eq, List.size_toArray]; omega) ?_
    intro g3
    refine compRest_all (fun i y => ∃ n t, numbers[i]? = some n ∧ y = .bytes (rowB sz (n % 256 ^ sz)).toArray t) (.inr ⟨_, List.mem_cons_of_mem _ List.mem_cons_self, rfl, _, rfl⟩) ?_ ?_
    · intro i v I oI C oC D' ys' m₂ h tk hi hv hC hx F N
      clear F3 N3
      obtain ⟨n, t, rfl, hn⟩ := IntsAre.at hnI i v (by simpa using hv)
      have hp0 : (0 : Int) < 256 ^ sz := Int.pow_pos (by decide)
      have hm0 := Int.emod_nonneg n (Int.ne_of_gt hp0)
      have hm1 := Int.emod_lt_of_pos n hp0
      (try k_fold)
      k_steps
      refine pow_int_small (by omega) (by omega) (by decide) ?_
      rw [Int.toNat_natCast]
      refine Ii.mod hp0 ?_
      k_steps
      refine KTBy.to_big (k := sz) (B := 256 ^ sz) (by omega) rfl hm0 hm1 ?_
      intro b t' k' hb hbl
      rw [bInts_arr hb]
      k_steps
      (with_reducible rename Fr _ _ _ _ => F5)
      (with_reducible rename News _ _ _ _ => N5)
      exact EltEnd.intro F5 N5 (by walk_at "sub") ⟨n, _, hn, rfl⟩
    · intro ys2 hyl2 hyR2
      obtain ⟨rows, hrows⟩ : ∃ rows, numbers.map (fun n => rowB sz (n % 256 ^ sz)) = rows := ⟨_, rfl⟩
      have hrl : numbers.length = rows.length := by rw [← hrows, List.length_map]
      have hrs : ∀ r ∈ rows, r.length = sz := fun r hr => by
        rw [← hrows] at hr
        obtain ⟨n, _, rfl⟩ := List.mem_map.mp hr
        exact rowB_len _ _
      have hrB : Ls.BytesAre ys2 rows := bytesAre_of (by rw [hyl2, ← hrl, List.size_toArray, hnl]) fun i y hy => by
        obtain ⟨n, t, hn, rfl⟩ := hyR2 i y hy
        exact ⟨_, t, by rw [← hrows, List.getElem?_map, hn]; rfl, rfl⟩
      have hy2l := hrB.1
      intro D2 h2 tk2 F4 N4 o2
      clear F3 N3
      (simp only [LCg.Off1, and_true] at o2)
      k_steps
      (with_reducible rename Fr _ _ _ _ => F5)
      (with_reducible rename News _ _ _ _ => N5)
      refine LCg.CompSrc.ledger rfl F5 N5 (by k_mem) (by rw [sizeLine_eq, List.size_toArray]; omega) ?_
      intro g5
      refine compRest_all (fun i y => ∃ b t, (rows.map encB)[i]? = some b ∧ y = .bytes b.toArray t) (.inr ⟨_, List.mem_cons_self, rfl, _, rfl⟩) ?_ ?_
      · intro i v I oI C oC D' ys' m₂ h tk hi hv hC hx F N
        clear F5 N5
        have hi' : i < rows.length := by rw [List.size_toArray] at hi; omega
        obtain ⟨t, hvb⟩ := hrB.2 i rows[i] (List.getElem?_eq_getElem hi')
        have hv' : ys2[i]? = some v := by simpa using hv
        rw [hv'] at hvb
        cases hvb
        have hri := hrs _ (List.getElem_mem hi')
        have hmap : (rows.map encB)[i]? = some (encB rows[i]) := by rw [List.getElem?_map, List.getElem?_eq_getElem hi']; rfl
        (try k_fold)
        k_steps
        (with_reducible rename Fr _ _ _ _ => F6)
        (with_reducible rename News _ _ _ _ => N6)
        refine does_use (c_written rows[i] t (by omega) (by omega) D ys ys.length (by k_mem) hsig) (by k_asm) F6 (by k_asm) N6 (by k_asm) (by rfl) (by ktr_room) (by ktr_units) ?_
        rintro _ _ h7 tk7 F7 N7 - ⟨rfl, t7, rfl⟩
        rw [List.nil_append] at N7
        k_steps
        exact EltEnd.intro F7 N7 (by walk_at "sub") ⟨_, t7, hmap, rfl⟩
      · intro ys3 hyl3 hyR3
        have hwB : Ls.BytesAre ys3 (rows.map encB) := bytesAre_of (by rw [hyl3, List.size_toArray, List.length_map, hy2l]) hyR3
        have hy3l := hwB.1
        rw [List.length_map] at hy3l
        intro D3 h3 tk3 F6 N6 o3
        clear F5 N5
        (simp only [LCg.Off1, and_true] at o3)
        k_steps
        (with_reducible rename Fr _ _ _ _ => F7)
        (with_reducible rename News _ _ _ _ => N7)
        refine LCg.CompSrc.ledger rfl F7 N7 (by k_mem) (by rw [sizeLine_eq, List.size_toArray]; omega) ?_
        intro g7
        refine compRest_all (fun i y => y = .bool true) (.inr ⟨_, List.mem_cons_self, rfl, _, rfl⟩) ?_ ?_
        · intro i v I oI C oC D' ys' m₂ h tk hi hv hC hx F N
          clear F7 N7
          have hi' : i < rows.length := by rw [List.size_toArray] at hi; omega
          obtain ⟨t, hvb⟩ := hwB.2 i (encB rows[i]) (by rw [List.getElem?_map, List.getElem?_eq_getElem hi']; rfl)
          have hv' : ys3[i]? = some v := by simpa using hv
          rw [hv'] at hvb
          cases hvb
          have hri := hrs _ (List.getElem_mem hi')
          have hpl := plain_len (row := rows[i]) (by omega) (by omega)
          (try k_fold)
          k_steps
          (with_reducible rename Fr _ _ _ _ => F8)
          (with_reducible rename News _ _ _ _ => N8)
          refine EltEnd.intro F8 N8 (by walk_at "sub") ?_
          rw [hpl, hri]
          congr 1
          rw [beq_iff_eq]
          omega
        · intro ys4 hyl4 hyR4
          have hall := boolsAre_true ys4 hyR4
          intro D4 h4 tk4 F8 N8 o4
          clear F7 N7
          (simp only [LCg.Off1, and_true] at o4)
          k_steps
          (with_reducible rename Fr _ _ _ _ => F9)
          (with_reducible rename News _ _ _ _ => N9)
          refine LSm.all_bools F9 N9 rfl (Ls.isList N9 (vs := ys4) (k := ys4.length) List.mem_cons_self) hall ?_
          intro h5 tk5 F10 N10
          rw [show (List.replicate ys4.length true).all id = true by simp]
          clear F9 N9
          k_steps
          (with_reducible rename Fr _ _ _ _ => F11)
          (with_reducible rename News _ _ _ _ => N11)
          refine LCg.CompSrc.ledger rfl F11 N11 (by k_mem) (by rw [sizeLine_eq, List.size_toArray]; omega) ?_
          intro g9
          refine compRest_all (fun i y => ∃ b t, rows[i]? = some b ∧ y = .bytes b.toArray t) (.inr ⟨_, List.mem_cons_of_mem _ List.mem_cons_self, rfl, _, rfl⟩) ?_ ?_
          · intro i v I oI C oC D' ys' m₂ h tk hi hv hC hx F N
            clear F11 N11
            have hi' : i < rows.length := by rw [List.size_toArray] at hi; omega
            obtain ⟨t, hvb⟩ := hwB.2 i (encB rows[i]) (by rw [List.getElem?_map, List.getElem?_eq_getElem hi']; rfl)
            have hv' : ys3[i]? = some v := by simpa using hv
            rw [hv'] at hvb
            cases hvb
            have hri := hrs _ (List.getElem_mem hi')
            have hpl := plain_len (row := rows[i]) (by omega) (by omega)
            have hpb := plain_back (row := rows[i]) (by omega) (by omega)
            have hps := plain_signs (row := rows[i]) (by omega) (by omega)
            have hri' : rows[i]? = some rows[i] := List.getElem?_eq_getElem hi'
            (try k_fold)
            k_steps
            (with_reducible rename Fr _ _ _ _ => F12)
            (with_reducible rename News _ _ _ _ => N12)
            refine (c_read_st (encB rows[i]) t (by omega) (by omega) hps).2 _ _ _ _ _ _ _ _ _ _ _ _ _ _ (by k_asm) F12 (by k_asm) N12 (by k_asm) rfl (by ktr_room) (by ktr_units) ?_
            rintro _ own h7 tk7 F13 N13 ha hR
            rcases hR with ⟨_, rfl, t7, rfl⟩ | ⟨hv, _⟩
            · rw [List.nil_append] at N13
              k_steps
              exact EltEnd.intro F13 N13 (by walk_at "sub") ⟨_, t7, hri', by rw [hpb.2]⟩
            · exact absurd hv hpb.1
          · intro ys5 hyl5 hyR5
            have hrB5 : Ls.BytesAre ys5 rows := bytesAre_of (by rw [hyl5, List.size_toArray, hy3l]) hyR5
            intro D5 h6 tk6 F12 N12 o5
            clear F11 N11
            (simp only [LCg.Off1, and_true] at o5)
            k_steps
            (with_reducible rename News _ _ _ _ => N13)
            refine Ex.ne_same (k := ys5.length) (k' := ys2.length) N13 (by k_mem) (by k_mem) hrB5 hrB (by ktr_units) ?_
            k_steps
            (with_reducible rename Fr _ _ _ _ => F14)
            (with_reducible rename News _ _ _ _ => N14)
            refine does_use (c_texts _ _ _ _ _ _ numbers (rows.map encB) (by k_mem) (by k_mem) hnI hwB (by rw [List.length_map]; exact hrl) hn6 (fun b hb => ?_)) (by k_asm) F14 (by k_asm) N14 (by k_asm) (by rfl) (by ktr_room) (by ktr_units) ?_
            · obtain ⟨r, hr, rfl⟩ := List.mem_map.mp hb
              have h1 := hrs r hr
              rw [plain_len (by omega) (by omega)]
              omega
            rintro _ _ h7 tk7 F15 N15 - ⟨a, vs, k, rfl, rfl, htB⟩
            rw [List.singleton_append] at N15
            k_steps
            (with_reducible rename Fr _ _ _ _ => F16)
            (with_reducible rename News _ _ _ _ => N16)
            refine (c_borne_st _ _ _ _ _ _ _ _ _ _ _ _ rows (rows.map encB) (textsB (numbers.zip (rows.map encB))) (by k_mem) (by k_mem) (by k_mem) (by k_mem) hrB hwB htB hsig (by rw [List.length_map]) (by omega) (by omega) (plain_borne hs1 hs7 hrl hrs)).2 _ _ _ _ _ _ _ _ _ _ _ _ _ _ (by k_asm) F16 (by k_asm) N16 (by k_asm) rfl (by ktr_room) (by ktr_units) ?_
            rintro _ _ h8 tk8 F17 N17 - ⟨rfl, rfl⟩
            k_steps)))
end

end Mine
theorem PySem.Challenge.cw_kq0071_01_holds : PySem.Challenge.rw_kq0071_01.Holds :=
  Mine.law_holds
