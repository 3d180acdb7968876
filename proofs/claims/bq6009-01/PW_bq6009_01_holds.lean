import PyProof.Rows.All
import Wide.All
import OpenK.AllK
import Wide.FinOn
import PySem.Challenge.RW_bq6009_01
set_option Elab.async false
/-
What follows, in this order: the head of the row (open_top); loops and comprehensions over free ledgers; the law's own
small letters, ids and words; the three patterns in the search machine; encode and decode; what the substitutions make;
the walks of the program's functions; the plain law; the law's walk.
-/
section
open PySem PySem.W PyProof.Rows
set_option maxRecDepth 100000 in
set_option maxHeartbeats 8000000 in
open_top Mine.hd for PySem.Challenge.rw_bq6009_01
end
section
open PySem PySem.W PyProof.Rows
namespace Mine
section
variable {prog : Program} {w : World} {A : Around} {E : Value → Shared → Prop} {s : Shared} {env : Env} {h₀ : Heap} {x : Str} {body : List Stmt} {Q : Flow → Shared → Prop}

/-- what a turn of a loop leaves: the next letter, its ledger, its names -/
def TurnEnd {σ : Type} (h₀ : Heap) (L : Addr) (x : Str) (Led : σ → List (Addr × Obj)) (ps : σ → List (Str × Value)) (stored : List Str) (m₀ : Str → Option Value) (P : Nat → σ → Prop) (i : Nat) (I : Addr) (oI : Obj) (s₁ s₂ : Shared) : Prop :=
  ∃ c' h' tk m', s₂ = { s₁ with heap := h', toks := tk } ∧ Fr h₀ L h' m' ∧ News h₀ L h' ((I, oI) :: Led c') ∧ (∀ p ∈ Led c', p.1 ≠ I) ∧ (∀ p ∈ ps c', m' p.1 = some p.2) ∧
    (∀ z, z ≠ x → (∀ p ∈ ps c', z ≠ p.1) → stored.contains z = false → m' z = m₀ z) ∧ P (i + 1) c'
def TurnPost {σ : Type} (h₀ : Heap) (L : Addr) (x : Str) (Led : σ → List (Addr × Obj)) (ps : σ → List (Str × Value)) (stored : List Str) (m₀ : Str → Option Value) (P : Nat → σ → Prop) (i : Nat) (I : Addr) (oI : Obj) (s₁ : Shared) (Q : Flow → Shared → Prop) (f : Flow) (s₂ : Shared) : Prop :=
  match f with
  | .ret v => Q (.ret v) s₂
  | .brk => Q .next s₂
  | _ => TurnEnd h₀ L x Led ps stored m₀ P i I oI s₁ s₂

theorem TurnPost.next {σ : Type} {h₀ h' : Heap} {L : Addr} {x : Str} {Led : σ → List (Addr × Obj)} {ps : σ → List (Str × Value)} {stored : List Str} {m₀ m' : Str → Option Value} {P : Nat → σ → Prop} {i : Nat} {I : Addr} {oI : Obj} {s₁ : Shared} {Q : Flow → Shared → Prop} {all : List (Addr × Obj)} {tk : Nat} (c' : σ)
    (F : Fr h₀ L h' m') (N : News h₀ L h' all) (sub : ∀ p ∈ (I, oI) :: Led c', p ∈ all) (off : ∀ p ∈ Led c', p.1 ≠ I) (k1 : ∀ p ∈ ps c', m' p.1 = some p.2)
    (k2 : ∀ z, z ≠ x → (∀ p ∈ ps c', z ≠ p.1) → stored.contains z = false → m' z = m₀ z) (hP : P (i + 1) c') : TurnPost h₀ L x Led ps stored m₀ P i I oI s₁ Q .next { s₁ with heap := h', toks := tk } :=
  ⟨c', h', tk, m', rfl, F, fun p hp => N p (sub p hp), off, k1, k2, hP⟩
section
variable {prog : Program} {w : World} {A : Around} {E : Value → Shared → Prop} {s : Shared} {h₀ : Heap} {L : Addr} {m : Str → Option Value} {news : List (Addr × Obj)}
theorem add_listsK {l b : Addr} {vs ws : List Value} {Q : Value → Shared → Prop} (F : Fr h₀ L s.heap m) (N : News h₀ L s.heap news) (hl : s.heap.IsList l vs.toArray) (hb : s.heap.IsList b ws.toArray)
    (h : ∀ D h', Fr h₀ L h' m → News h₀ L h' ((D, { cls := .type "list", data := .seq (vs ++ ws).toArray }) :: news) → (∀ q ∈ news, q.1 < D) → Q (.ref D) { s with heap := h' })
    (hsz : vs.length + ws.length ≤ sizeLine) : wpAny (model prog w) A (binaryOp .Add (.ref l) (.ref b)) Q E s :=
  add_lists (hsz := hsz) F N hl hb fun h' F' N' => h _ h' F' N' fun q hq => Heap.lt_size (N q hq).1
end
/-- a loop over what an iterator walks, its letter and its ledger free -/
theorem loop_free {σ : Type} {I : Addr} {fp : List Addr} {n : Nat} {V : Nat → Value → Prop} {St : Nat → Heap → Prop} {m₀ : Str → Option Value}
    (Led : σ → List (Addr × Obj)) (ps : σ → List (Str × Value)) (stored : List Str) (P : Nat → σ → Prop) (c₀ : σ)
    (W : Walks prog w A I fp [I] n V St) (hI : ∀ i h, St i h → ∃ o, h.get? I = some o)
    (hLf : env.locals ∉ fp) (hI₀ : h₀.get? I = none) (hfp : ∀ b, b ∈ fp → b ≠ I → h₀.get? b = none → ∃ o, ∀ c, (b, o) ∈ Led c)
    (off : ∀ p ∈ Led c₀, p.1 ≠ I) (hst : St 0 s.heap) (F : Fr h₀ env.locals s.heap m₀) (N : News h₀ env.locals s.heap (Led c₀)) (hk : ∀ p ∈ ps c₀, m₀ p.1 = some p.2) (hp : P 0 c₀)
    (turn : ∀ (c : σ) i v (u : Str → Option Value) h tk oI, i < n → V i v → P i c → (∀ p ∈ Led c, p.1 ≠ I) →
      Fr h₀ env.locals h (fun y => if y = x then some v else kstB (fun z => if stored.contains z then u z else m₀ z) (ps c) y) → News h₀ env.locals h ((I, oI) :: Led c) →
      wpAny (model prog w) A (execs body env) (TurnPost h₀ env.locals x Led ps stored m₀ P i I oI { s with heap := h, toks := tk } Q) E { s with heap := h, toks := tk })
    (done : ∀ (c : σ) (u : Str → Option Value) h tk, P n c → Fr h₀ env.locals h (fun y => if y = x then u y else kstB (fun z => if stored.contains z then u z else m₀ z) (ps c) y) → News h₀ env.locals h (Led c) → Q .next { s with heap := h, toks := tk }) :
    LoopAtV prog w A h₀ env x body Q E (.ref I) s := by
  refine ⟨I, fp, [I], n, V, St, m₀, Led c₀, fun i m nx => ∃ c, nx = Led c ∧ (∀ p ∈ ps c, m p.1 = some p.2) ∧ (∀ z, z ≠ x → (∀ p ∈ ps c, z ≠ p.1) → stored.contains z = false → m z = m₀ z) ∧ P i c, rfl, W, hLf, ?_, ?_, hst, F, N, ⟨c₀, rfl, hk, fun _ _ _ _ => rfl, hp⟩, ?_, ?_⟩
  · intro b hb
    rw [List.mem_singleton.mp hb]; exact hI₀
  · intro p hp hm
    exact off p hp (List.mem_singleton.mp hm)
  · rintro i v m₁ news₁ s₁ own ⟨h, tk, rfl⟩ hin hV ⟨c, rfl, h1, h2, hP⟩ hoff hown hget hall hst₁ F₁ N₁
    obtain ⟨oI, hoI⟩ := hI _ _ hst₁
    have hIo : (I, oI) ∈ own := hall I (W.sub I (List.mem_singleton.mpr rfl)) hI₀ oI hoI
    have off' : ∀ p ∈ Led c, p.1 ≠ I := fun p hp e => hoff p hp (List.mem_singleton.mpr e)
    have N₂ : News h₀ env.locals h ((I, oI) :: Led c) := fun p hp => by
      rcases List.mem_cons.mp hp with rfl | hp
      · exact N₁ _ (List.mem_append_left _ hIo)
      · exact N₁ p (List.mem_append_right _ hp)
    have fin : ∀ s₂, TurnEnd h₀ env.locals x Led ps stored m₀ P i I oI { s with heap := h, toks := tk } s₂ → LoopStepU h₀ env.locals [I] own (fun m nx => ∃ c, nx = Led c ∧ (∀ p ∈ ps c, m p.1 = some p.2) ∧ (∀ z, z ≠ x → (∀ p ∈ ps c, z ≠ p.1) → stored.contains z = false → m z = m₀ z) ∧ P (i + 1) c) { s with heap := h, toks := tk } .next s₂ := by
      rintro s₂ ⟨c', h', tk', m', rfl, F', N', of', k1, k2, hP'⟩
      refine ⟨rfl, h', tk', m', Led c', rfl, F', fun p hp => ?_, fun p hp hm => of' p hp (List.mem_singleton.mp hm), c', rfl, k1, k2, hP'⟩
      rcases List.mem_append.mp hp with hp | hp
      · have hg := hget p hp
        by_cases e : p.1 = I
        · have hp2 : p = (I, oI) := by
            obtain ⟨b, o⟩ := p
            dsimp only at e hg
            subst e
            rw [hoI] at hg
            exact congrArg (Prod.mk b) (Option.some.inj hg).symm
          rw [hp2]
          exact N' _ (List.mem_cons_self)
        · have hb := hown p hp
          have hp₀ : h₀.get? p.1 = none := (N₁ p (List.mem_append_left _ hp)).2.2
          obtain ⟨o, ho⟩ := hfp p.1 hb e hp₀
          have z := (N₂ _ (List.mem_cons_of_mem _ (ho c))).1
          dsimp only at z hg
          rw [hg] at z
          have hp2 : p = (p.1, o) := congrArg (Prod.mk p.1) (Option.some.inj z)
          rw [hp2]
          exact N' _ (List.mem_cons_of_mem _ (ho c'))
      · exact N' p (List.mem_cons_of_mem _ hp)
    refine wpAny_mono (turn c i v m₁ h tk oI hin hV hP off' (kst_fr h1 h2 F₁) N₂) (fun f s₂ p => ?_) fun _ _ e => e
    cases f with
    | ret v => exact .ret p
    | brk => exact .brk p
    | next => exact .next (fin _ p)
    | cont => exact .cont (fin _ p)
  · rintro h' tk m' news' F' N' _ ⟨c, rfl, h1, h2, hP⟩
    exact done c m' h' tk hP (kst_frOut h1 h2 F') N'

/-- a loop over a text's signs -/
theorem loop_text {σ : Type} {xt : Str} {tx : Tok} {m₀ : Str → Option Value} (Led : σ → List (Addr × Obj)) (ps : σ → List (Str × Value)) (stored : List Str) (P : Nat → σ → Prop) (c₀ : σ)
    (hh : A.handled = none) (F : Fr h₀ env.locals s.heap m₀) (N : News h₀ env.locals s.heap (Led c₀)) (hk : ∀ p ∈ ps c₀, m₀ p.1 = some p.2) (hp : P 0 c₀)
    (turn : ∀ (c : σ) i k t I (u : Str → Option Value) h tk oI, xt.cps[i]? = some k → P i c → (∀ p ∈ Led c, p.1 ≠ I) →
      Fr h₀ env.locals h (fun y => if y = x then some (.str ⟨#[k]⟩ t) else kstB (fun z => if stored.contains z then u z else m₀ z) (ps c) y) → News h₀ env.locals h ((I, oI) :: Led c) →
      wpAny (model prog w) A (execs body env) (TurnPost h₀ env.locals x Led ps stored m₀ P i I oI { s with heap := h, toks := tk } Q) E { s with heap := h, toks := tk })
    (done : ∀ (c : σ) (u : Str → Option Value) h tk, P xt.cps.size c → Fr h₀ env.locals h (fun y => if y = x then u y else kstB (fun z => if stored.contains z then u z else m₀ z) (ps c) y) → News h₀ env.locals h (Led c) → Q .next { s with heap := h, toks := tk }) :
    wpAny (model prog w) A (pyIter (.str xt tx)) (fun it s₂ => LoopAtV prog w A h₀ env x body Q E it s₂) E s := by
  have hLt := F.ns.lt
  have run : ∀ (T : String) (W : Walks prog w A s.heap.objs.size [s.heap.objs.size] [s.heap.objs.size] xt.cps.size (SignAt xt) (fun i h => h.IsStrIter s.heap.objs.size T xt tx i)) (o : Obj), (s.heap.push o).IsStrIter s.heap.objs.size T xt tx 0 →
      LoopAtV prog w A h₀ env x body Q E (.ref s.heap.objs.size) { s with heap := s.heap.push o } := by
    intro T W o hst
    refine loop_free (s := { s with heap := s.heap.push o }) Led ps stored P c₀ W (fun i h st => ⟨_, st.choose_spec.1⟩) (fun hm => absurd (List.mem_singleton.mp hm ▸ hLt) (Nat.lt_irrefl _)) (next_is_new F) (fun b hb hne => absurd (List.mem_singleton.mp hb) hne)
      (fun p hp e => absurd (Heap.lt_size (N p hp).1) (by rw [e]; exact Nat.lt_irrefl _)) hst (F.push _) (fun p hp => ⟨Heap.get?_push_of_some _ (N p hp).1, (N p hp).2⟩) hk hp ?_ done
    rintro c i v u h tk oI hin ⟨k, t, hk', rfl⟩ hP off F₁ N₁
    exact turn c i k t _ u h tk oI hk' hP off F₁ N₁
  cases ha : xt.cps.all (· < 128)
  · exact wpAny_pyIter_wide ha (run _ (Walks.strWide hh _ xt tx) _ ⟨_, Heap.get?_push_size _ rfl, rfl, rfl⟩)
  · exact wpAny_pyIter_ascii ha (run _ (Walks.strAscii hh _ xt tx) _ ⟨_, Heap.get?_push_size _ rfl, rfl, rfl⟩)

/-- a loop over a made list of texts -/
theorem loop_list {σ : Type} {ax : Addr} {vs : List Value} {ws : List Str} {ep : Nat} {m₀ : Str → Option Value} (Led : σ → List (Addr × Obj)) (ps : σ → List (Str × Value)) (stored : List Str) (P : Nat → σ → Prop) (c₀ : σ)
    (hh : A.handled = none) (hl : ∀ c, (ax, ({ cls := .type "list", data := .seq vs.toArray ep } : Obj)) ∈ Led c) (hw : StrsAre vs ws) (F : Fr h₀ env.locals s.heap m₀) (N : News h₀ env.locals s.heap (Led c₀)) (hk : ∀ p ∈ ps c₀, m₀ p.1 = some p.2) (hp : P 0 c₀)
    (turn : ∀ (c : σ) i y t I (u : Str → Option Value) h tk oI, ws[i]? = some y → P i c → (∀ p ∈ Led c, p.1 ≠ I) →
      Fr h₀ env.locals h (fun z => if z = x then some (.str y t) else kstB (fun z => if stored.contains z then u z else m₀ z) (ps c) z) → News h₀ env.locals h ((I, oI) :: Led c) →
      wpAny (model prog w) A (execs body env) (TurnPost h₀ env.locals x Led ps stored m₀ P i I oI { s with heap := h, toks := tk } Q) E { s with heap := h, toks := tk })
    (done : ∀ (c : σ) (u : Str → Option Value) h tk, P ws.length c → Fr h₀ env.locals h (fun y => if y = x then u y else kstB (fun z => if stored.contains z then u z else m₀ z) (ps c) y) → News h₀ env.locals h (Led c) → Q .next { s with heap := h, toks := tk }) :
    wpAny (model prog w) A (pyIter (.ref ax)) (fun it s₂ => LoopAtV prog w A h₀ env x body Q E it s₂) E s := by
  have hLt := F.ns.lt
  have hax := N _ (hl c₀)
  have hlist : s.heap.IsList ax vs.toArray := ⟨_, hax.1, rfl, _, rfl⟩
  have hlt : ax < s.heap.objs.size := Heap.lt_size hax.1
  have hne : ax ≠ s.heap.objs.size := Nat.ne_of_lt hlt
  refine wpAny_pyIter_list hlist ?_
  have W := Walks.list (prog := prog) (w := w) hh s.heap.objs.size ax hne vs.toArray
  refine loop_free (s := { s with heap := s.heap.push { cls := .type "list_iterator", data := .fields #[.ref ax, .int 0 0] } }) Led ps stored P c₀ W (fun i h st => ⟨_, st.1.choose_spec.1⟩) ?_ (next_is_new F) ?_
    (fun p hp e => absurd (Heap.lt_size (N p hp).1) (by rw [e]; exact Nat.lt_irrefl _)) ⟨⟨_, Heap.get?_push_size _ rfl, rfl, rfl⟩, hlist.push _⟩ (F.push _) (fun p hp => ⟨Heap.get?_push_of_some _ (N p hp).1, (N p hp).2⟩) hk hp ?_ ?_
  · intro hm
    rcases List.mem_cons.mp hm with e | hm
    · exact absurd (e ▸ hLt) (Nat.lt_irrefl _)
    · exact hax.2.1 (List.mem_singleton.mp hm).symm
  · intro b hb hne' _
    rcases List.mem_cons.mp hb with e | hb
    · exact absurd e hne'
    · exact ⟨_, fun c => by rw [List.mem_singleton.mp hb]; exact hl c⟩
  · rintro c i v u h tk oI hin hV hP off F₁ N₁
    have hlen := hw.length
    have hi : i < ws.length := by rw [← hlen]; simpa using hin
    obtain ⟨t, e⟩ := hw.get i ws[i] (by simp [hi])
    have hv : v = .str ws[i] t := by
      have hV' : vs[i]? = some v := by simpa using hV
      rw [e] at hV'; exact (Option.some.inj hV').symm
    subst hv
    exact turn c i _ t _ u h tk oI (by simp [hi]) hP off F₁ N₁
  · intro c u h tk hP F' N'
    refine done c u h tk ?_ F' N'
    rw [← hw.length]
    simpa using hP
end
end Mine
end
local macro_rules | `(tactic| walk_at "none C0 0") => `(tactic| fail "none")
section
open PySem PySem.W PyProof.Rows
namespace Mine
theorem fillK : (fun (_ : OpenLaw) (_ : Params → Frag) => True) PySem.Challenge.rw_bq6009_01 hd.heap_39 := by k_fill; trivial

/-- the law's own small letter, sign by sign -/
def smallS (x : Str) : Str := if x = Str.ofString "B" then Str.ofString "b" else x

theorem small_flat {x : Str} {v : Value} {t u : Tok} (h : PyProof.V.Flat v ((Spec.lookup (PyData.str x) (strData [(Value.str (Str.ofString "B") t, Value.str (Str.ofString "b") u)])).getD (PyData.str x))) : ∃ t, v = .str (smallS x) t := by
  have e : (Spec.lookup (PyData.str x) (strData [(Value.str (Str.ofString "B") t, Value.str (Str.ofString "b") u)])).getD (PyData.str x) = PyData.str (smallS x) := by
    unfold smallS strData Spec.lookup
    rw [PyProof.V.same_str]
    by_cases h : Str.ofString "B" = x
    · subst h; simp [datumOf]
    · have h' : ¬ x = Str.ofString "B" := fun e => h e.symm
      simp [h, h', strData, Spec.lookup]
  rw [e] at h
  exact h.str_inv

section
variable {prog : Program} {w : World} {dp un : Nat} {gd : Option (List Code)} {cn : Str} {cs : Scope} {a : Addr} {ccd : Value} {cl : List (Str × Addr)} {outer : List Env} {A₀ : Around} {base h₀ : Heap} {L : Addr} {m : Str → Option Value} {s : Shared} {Q E : Value → Shared → Prop} {news : List (Addr × Obj)} {mean : ExcName → Option Value} {mg mb : Str → Option Value} {p : Program} {loose : List Str}

set_option maxRecDepth 100000 in
set_option maxHeartbeats 1000000 in
theorem small_code {x : Str} {t : Tok} (B : Below A₀ base outer h₀) (F : Fr h₀ L s.heap m) (X : (hd.heap_39 w.params).In h₀) (N : News h₀ L s.heap news) (T : Top p loose mean mg mb h₀) (hk : cs.kind = .function)
   (hdp : dp + 3 < recursionLimit) (hun : un + 50 < cLine)
  (ret : ∀ t h' tk', Fr h₀ L h' m → News h₀ L h' news → Q (.str (smallS x) t) {s with heap := h', toks := tk'}) :
  wpAny (model prog w) (ktrTop dp un gd cn cs L a ccd cl outer) (call (.ref 117) [.str x t]) Q E s := by
  refine wpAny_call ?_
  k_dflt cell_enter
  k_steps
  rename PyProof.V.Flat _ _ => hv
  obtain ⟨t', rfl⟩ := small_flat hv
  exact ret _ _ _ (by k_asm) (cb_drop (by assumption) (by intro p hp; exact List.mem_cons_of_mem _ hp))

theorem smallS_length (x : Str) : (smallS x).length = x.length := by
  unfold smallS
  split
  · rename_i e; rw [e]; rfl
  · rfl
theorem small_code1 {n : Nat} {t : Tok} (B : Below A₀ base outer h₀) (F : Fr h₀ L s.heap m) (X : (hd.heap_39 w.params).In h₀) (N : News h₀ L s.heap news) (T : Top p loose mean mg mb h₀) (hk : cs.kind = .function)
   (hdp : dp + 3 < recursionLimit) (hun : un + 50 < cLine)
  (ret : ∀ t h' tk', Fr h₀ L h' m → News h₀ L h' news → (smallS ⟨#[n]⟩).length = 1 → Q (.str (smallS ⟨#[n]⟩) t) {s with heap := h', toks := tk'}) :
  wpAny (model prog w) (ktrTop dp un gd cn cs L a ccd cl outer) (call (.ref 117) [.str ⟨#[n]⟩ t]) Q E s :=
  small_code B F X N T hk hdp hun fun t h' tk' F' N' => ret t h' tk' F' N' (smallS_length _)
end
end Mine
end
local macro_rules | `(tactic| walk_at "none C1 0") => `(tactic| fail "none")
section
open PySem PySem.W PyProof.Rows
set_option rowWalk.seconds 0
namespace Mine
theorem fillK2 : (fun (_ : OpenLaw) (_ : Params → Frag) => True) PySem.Challenge.rw_bq6009_01 hd.heap_39 := by k_fill; trivial

/-- y does not stand in x -/
abbrev out (x y : Str) : Bool := (Builtin.Str.occurrences x y 0 x.length 1).isEmpty
def idStep (st : Str × Bool) (c : Str) : Str × Bool :=
  if !out (Str.ofString "abz") (smallS c) || (!out (Str.ofString "70") c && st.1 != Str.ofString "") then
    (st.1 ++ (if st.2 && st.1 != Str.ofString "" then Str.ofString "-" else Str.ofString "") ++ smallS c, false)
  else if out (Str.ofString "éß") c then (st.1, true) else st
def idFold (l : List Int) : Str × Bool := l.foldl (fun st n => idStep st ⟨#[n.toNat]⟩) (Str.ofString "", false)
def IdAt (pre : List Int) (told : Str) (gap : Bool) : Prop := idFold pre = (told, gap) ∧ told.length ≤ 2 * pre.length
theorem idFold_snoc (l : List Int) (n : Nat) : idFold (l ++ [(n : Int)]) = idStep (idFold l) ⟨#[n]⟩ := by
  unfold idFold
  rw [List.foldl_append]
  rfl
theorem IdAt.start : IdAt [] (Str.ofString "") false := ⟨rfl, Nat.le_refl _⟩
section
variable {pre : List Int} {told : Str} {gap : Bool} {n : Nat}
theorem IdAt.next (h : IdAt pre told gap) {told' : Str} {gap' : Bool} (e : idStep (told, gap) ⟨#[n]⟩ = (told', gap')) (hl : told'.length ≤ told.length + 2) : IdAt (pre ++ [(n : Int)]) told' gap' := by
  refine ⟨by rw [idFold_snoc, h.1]; exact e, ?_⟩
  rw [List.length_append, List.length_singleton]
  have := h.2
  omega
theorem id_a (h : IdAt pre told gap) (h1 : out (Str.ofString "abz") (smallS ⟨#[n]⟩) = true) (h2 : out (Str.ofString "70") ⟨#[n]⟩ = true) (h3 : out (Str.ofString "éß") ⟨#[n]⟩ = true) : IdAt (pre ++ [(n : Int)]) told true :=
  h.next (by simp only [idStep, h1, h2, h3, Bool.not_true, Bool.false_or, Bool.false_and, Bool.false_eq_true, if_false, if_true]) (by omega)
theorem id_b (h : IdAt pre told gap) (h1 : out (Str.ofString "abz") (smallS ⟨#[n]⟩) = true) (h2 : out (Str.ofString "70") ⟨#[n]⟩ = true) (h3 : out (Str.ofString "éß") ⟨#[n]⟩ = false) : IdAt (pre ++ [(n : Int)]) told gap :=
  h.next (by simp only [idStep, h1, h2, h3, Bool.not_true, Bool.false_or, Bool.false_and, Bool.false_eq_true, if_false]) (by omega)
theorem id_len {x : Str} (hs : (smallS ⟨#[n]⟩).length = 1) (hx : x.length ≤ 1) : (told ++ x ++ smallS ⟨#[n]⟩).length ≤ told.length + 2 := by
  rw [Str.length_append, Str.length_append]; omega
theorem id_c (h : IdAt pre told gap) (h1 : out (Str.ofString "abz") (smallS ⟨#[n]⟩) = true) (h2 : out (Str.ofString "70") ⟨#[n]⟩ = false) (h4 : (told != Str.ofString "") = true) (h5 : gap = true) : IdAt (pre ++ [(n : Int)]) (told ++ Str.ofString "-" ++ smallS ⟨#[n]⟩) false :=
  h.next (by simp only [idStep, h1, h2, h4, h5, Bool.not_true, Bool.not_false, Bool.false_or, Bool.true_and, if_true]) (id_len (smallS_length _) (by decide))
theorem id_d (h : IdAt pre told gap) (h1 : out (Str.ofString "abz") (smallS ⟨#[n]⟩) = true) (h2 : out (Str.ofString "70") ⟨#[n]⟩ = false) (h4 : (told != Str.ofString "") = true) (h5 : gap = false) : IdAt (pre ++ [(n : Int)]) (told ++ Str.ofString "" ++ smallS ⟨#[n]⟩) false :=
  h.next (by simp only [idStep, h1, h2, h4, h5, Bool.not_true, Bool.not_false, Bool.false_or, Bool.true_and, Bool.false_and, Bool.false_eq_true, if_false, if_true]) (id_len (smallS_length _) (by decide))
theorem id_e (h : IdAt pre told gap) (h1 : out (Str.ofString "abz") (smallS ⟨#[n]⟩) = true) (h2 : out (Str.ofString "70") ⟨#[n]⟩ = false) (h4 : (told != Str.ofString "") = false) (h3 : out (Str.ofString "éß") ⟨#[n]⟩ = true) : IdAt (pre ++ [(n : Int)]) told true :=
  h.next (by simp only [idStep, h1, h2, h3, h4, Bool.not_true, Bool.false_or, Bool.and_false, Bool.false_eq_true, if_false, if_true]) (by omega)
theorem id_f (h : IdAt pre told gap) (h1 : out (Str.ofString "abz") (smallS ⟨#[n]⟩) = true) (h2 : out (Str.ofString "70") ⟨#[n]⟩ = false) (h4 : (told != Str.ofString "") = false) (h3 : out (Str.ofString "éß") ⟨#[n]⟩ = false) : IdAt (pre ++ [(n : Int)]) told gap :=
  h.next (by simp only [idStep, h1, h2, h3, h4, Bool.not_true, Bool.false_or, Bool.and_false, Bool.false_eq_true, if_false]) (by omega)
theorem id_g (h : IdAt pre told gap) (h1 : out (Str.ofString "abz") (smallS ⟨#[n]⟩) = false) (h5 : gap = true) (h4 : (told != Str.ofString "") = true) : IdAt (pre ++ [(n : Int)]) (told ++ Str.ofString "-" ++ smallS ⟨#[n]⟩) false :=
  h.next (by simp only [idStep, h1, h4, h5, Bool.not_false, Bool.true_or, Bool.true_and, if_true]) (id_len (smallS_length _) (by decide))
theorem id_h (h : IdAt pre told gap) (h1 : out (Str.ofString "abz") (smallS ⟨#[n]⟩) = false) (h5 : gap = true) (h4 : (told != Str.ofString "") = false) : IdAt (pre ++ [(n : Int)]) (told ++ Str.ofString "" ++ smallS ⟨#[n]⟩) false :=
  h.next (by simp only [idStep, h1, h4, h5, Bool.not_false, Bool.true_or, Bool.and_false, Bool.false_eq_true, if_false, if_true]) (id_len (smallS_length _) (by decide))
theorem id_i (h : IdAt pre told gap) (h1 : out (Str.ofString "abz") (smallS ⟨#[n]⟩) = false) (h5 : gap = false) : IdAt (pre ++ [(n : Int)]) (told ++ Str.ofString "" ++ smallS ⟨#[n]⟩) false :=
  h.next (by simp only [idStep, h1, h5, Bool.not_false, Bool.true_or, Bool.false_and, Bool.false_eq_true, if_false, if_true]) (id_len (smallS_length _) (by decide))
end
theorem IdAt.len {pre : List Int} {told : Str} {gap : Bool} (h : IdAt pre told gap) : told.length ≤ 2 * pre.length := h.2

local macro_rules | `(tactic| walk_at "call ref") => `(tactic| (k_here; (with_reducible show wpAny _ _ (call (Value.ref 117) [Value.str _ _]) _ _ _); k_dflt (refine' small_code1 ?k1 ?k2 ?k3 ?k4 ?k5 ?kK ?kd ?ku ?_; (case k1 => k_asm); (case k2 => k_asm); (case k3 => k_asm); (case k4 => k_asm); (case k5 => k_asm); (case kK => first | exact rfl | assumption); (case kd => ktr_room); (case ku => ktr_units)); intro t9 h9 tk9 F9 N9 hs9; (try dsimp only); (try k_fold)))
local macro_rules | `(tactic| walk_at "binaryOp Add str str") => `(tactic| (k_here; (rename IdAt _ _ _ => hI9); (have hI8 := IdAt.len hI9); (refine' PyProof.Rows.add_str ?_ ?ks; (case ks => ((simp only [Str.length_append, sizeLine_eq, show (Str.ofString "-").length = 1 from rfl, show (Str.ofString "").length = 0 from rfl]); omega))); clear hI8; intro _ _))

section
variable {prog : Program} {w : World} {dp un : Nat} {gd : Option (List Code)} {cn : Str} {cs : Scope} {a : Addr} {ccd : Value} {cl : List (Str × Addr)} {outer : List Env} {A₀ : Around} {base h₀ : Heap} {L : Addr} {m : Str → Option Value} {s : Shared} {Q E : Value → Shared → Prop} {news : List (Addr × Obj)} {mean : ExcName → Option Value} {mg mb : Str → Option Value} {p : Program} {loose : List Str}

set_option maxRecDepth 100000 in
set_option maxHeartbeats 1000000 in
theorem lawId_code {x : Str} {t : Tok} (B : Below A₀ base outer h₀) (F : Fr h₀ L s.heap m) (X : (hd.heap_39 w.params).In h₀) (N : News h₀ L s.heap news) (T : Top p loose mean mg mb h₀) (hk : cs.kind = .function)
   (hdp : dp + 6 < recursionLimit) (hun : un + 100 < cLine) (hx : x.length ≤ 100)
  (ret : ∀ t h' tk', Fr h₀ L h' m → News h₀ L h' news → Q (.str (idFold (KStt.codes x)).1 t) {s with heap := h', toks := tk'}) :
  wpAny (model prog w) (ktrTop dp un gd cn cs L a ccd cl outer) (call (.ref 124) [.str x t]) Q E s := by
  k_with "pyIter str" => k_state (fun pre told gap => IdAt pre told gap) "told" "gap"
  k_with "state" => first | exact IdAt.start | exact id_a (by assumption) (by assumption) (by assumption) (by assumption) | exact id_b (by assumption) (by assumption) (by assumption) (by assumption) | exact id_c (by assumption) (by assumption) (by assumption) (by assumption) (by assumption) | exact id_d (by assumption) (by assumption) (by assumption) (by assumption) (by assumption) | exact id_e (by assumption) (by assumption) (by assumption) (by assumption) (by assumption) | exact id_f (by assumption) (by assumption) (by assumption) (by assumption) (by assumption) | exact id_g (by assumption) (by assumption) (by assumption) (by assumption) | exact id_h (by assumption) (by assumption) (by assumption) (by assumption) | exact id_i (by assumption) (by assumption) (by assumption)
  refine wpAny_call ?_
  k_dflt cell_enter
  k_steps
  rename IdAt _ _ _ => hI
  have e := congrArg Prod.fst hI.1
  dsimp only at e
  rw [← e]
  k_with_none
  exact ret _ _ _ (by k_asm) (cb_drop (by assumption) (by intro p hp; exact List.mem_cons_of_mem _ hp))
end
end Mine
end
local macro_rules | `(tactic| walk_at "none C2 0") => `(tactic| fail "none")
local macro_rules | `(tactic| walk_at "none C2 1") => `(tactic| fail "none")
local macro_rules | `(tactic| walk_at "none C2 2") => `(tactic| fail "none")
section
open PySem PySem.W PyProof.Rows
set_option rowWalk.seconds 0
namespace Mine
theorem fillK3 : (fun (_ : OpenLaw) (_ : Params → Frag) => True) PySem.Challenge.rw_bq6009_01 hd.heap_39 := by k_fill; trivial

abbrev lob (vs : List Value) (ep : Nat) : Obj := { cls := .type "list", data := .seq vs.toArray ep }
def wStep (st : List Str × Str) (c : Str) : List Str × Str :=
  if !out (Str.ofString " \t\n") c then (st.1 ++ (if st.2 != Str.ofString "" then [st.2] else []), Str.ofString "") else (st.1, st.2 ++ c)
def wFold (l : List Nat) : List Str × Str := l.foldl (fun st n => wStep st ⟨#[n]⟩) ([], Str.ofString "")
def lawWords (x : Str) : List Str := (wFold (x ++ Str.ofString " ").cps.toList).1
theorem wFold_snoc (l : List Nat) (n : Nat) : wFold (l ++ [n]) = wStep (wFold l) ⟨#[n]⟩ := by
  unfold wFold
  rw [List.foldl_append]
  rfl
structure WL where
  aw : Addr
  vs : List Value
  ep : Nat
  ws : List Str
  word : Str
  tw : Tok
def WAt (l : List Nat) (i : Nat) (c : WL) : Prop := wFold (l.take i) = (c.ws, c.word) ∧ StrsAre c.vs c.ws ∧ c.ws.length ≤ i ∧ c.word.length ≤ i

local macro_rules | `(tactic| walk_at "exec For Name BinOp cons nil") => `(tactic| (k_here; (rename Fr _ _ _ _ => lF'); (with_unfolding_all refine' For_invVF lF' ?k1 ?k2 ?_; (case k1 => exact rfl); (case k2 => exact rfl); k_whole)))
local macro_rules | `(tactic| walk_at "binaryOp Add ref ref") => `(tactic| (k_here; (with_reducible show wpAny _ _ (binaryOp _ (Value.ref _) (Value.ref _)) _ _ _); k_dflt (refine' add_listsK ?F ?N ?a ?b ?_ ?z; (case F => k_asm); (case N => k_asm); (case a => exact News.isList (by k_asm) (by k_mem)); (case b => exact News.isList (by k_asm) (by k_mem)); (case z => ((simp only [List.length_cons, List.length_nil, sizeLine_eq]); omega))); intro D' h' F' N' l1; (try k_lt l1)))
local macro_rules | `(tactic| walk_at "binaryOp Add str str") => `(tactic| (k_here; (refine' PyProof.Rows.add_str ?_ ?ks; (case ks => ((simp only [sizeLine_eq, show (Str.ofString " ").length = 1 from rfl, show ∀ n, PySem.Str.length ⟨#[n]⟩ = 1 from fun _ => rfl]); omega))); intro _ _))
section
variable {l : List Nat} {i k ep : Nat} {aw : Addr} {tw t' : Tok} {vs : List Value} {ws : List Str} {word : Str} {x : Str}
theorem w_take (hi : x.cps[i]? = some k) : x.cps.toList.take (i + 1) = x.cps.toList.take i ++ [k] := by
  rw [List.take_add_one, Array.getElem?_toList, hi]; rfl
theorem w_no {D : Addr} (hi : x.cps[i]? = some k) (hw : wFold (x.cps.toList.take i) = (ws, word)) (hs : StrsAre vs ws) (hl1 : ws.length ≤ i) (hl2 : word.length ≤ i) (h1 : out (Str.ofString " \t\n") ⟨#[k]⟩ = true) : WAt x.cps.toList (i + 1) ⟨D, vs, ep, ws, word ++ ⟨#[k]⟩, t'⟩ := by
  refine ⟨?_, hs, Nat.le_succ_of_le hl1, ?_⟩
  · rw [w_take hi, wFold_snoc, hw]
    simp only [wStep, h1, Bool.not_true, Bool.false_eq_true, if_false]
  · show (word ++ (⟨#[k]⟩ : Str)).length ≤ i + 1
    rw [Str.length_append]
    exact Nat.succ_le_succ hl2
theorem w_yes {D : Addr} (hi : x.cps[i]? = some k) (hw : wFold (x.cps.toList.take i) = (ws, word)) (hs : StrsAre vs ws) (hl1 : ws.length ≤ i) (hl2 : word.length ≤ i) (h1 : out (Str.ofString " \t\n") ⟨#[k]⟩ = false) (h2 : (word != Str.ofString "") = true) : WAt x.cps.toList (i + 1) ⟨D, vs ++ [.str word tw], 0, ws ++ [word], Str.ofString "", t'⟩ := by
  refine ⟨?_, hs.append' (.cons _ _ .nil), ?_, Nat.zero_le _⟩
  · rw [w_take hi, wFold_snoc, hw]
    simp only [wStep, h1, h2, Bool.not_false, if_true]
  · show (ws ++ [word]).length ≤ i + 1
    rw [List.length_append]
    exact Nat.succ_le_succ hl1
theorem w_nil {D : Addr} (hi : x.cps[i]? = some k) (hw : wFold (x.cps.toList.take i) = (ws, word)) (hs : StrsAre vs ws) (hl1 : ws.length ≤ i) (hl2 : word.length ≤ i) (h1 : out (Str.ofString " \t\n") ⟨#[k]⟩ = false) (h2 : (word != Str.ofString "") = false) : WAt x.cps.toList (i + 1) ⟨D, vs ++ [], 0, ws ++ [], Str.ofString "", t'⟩ := by
  refine ⟨?_, hs.append' .nil, ?_, Nat.zero_le _⟩
  · rw [w_take hi, wFold_snoc, hw]
    simp only [wStep, h1, h2, Bool.not_false, Bool.false_eq_true, if_true, if_false]
  · show (ws ++ []).length ≤ i + 1
    rw [List.append_nil]
    exact Nat.le_succ_of_le hl1
end
section
variable {prog : Program} {w : World} {dp un : Nat} {gd : Option (List Code)} {cn : Str} {cs : Scope} {a : Addr} {ccd : Value} {cl : List (Str × Addr)} {outer : List Env} {A₀ : Around} {base h₀ : Heap} {L : Addr} {m : Str → Option Value} {s : Shared} {Q E : Value → Shared → Prop} {news : List (Addr × Obj)} {mean : ExcName → Option Value} {mg mb : Str → Option Value} {p : Program} {loose : List Str}

set_option maxRecDepth 100000 in
set_option maxHeartbeats 1000000 in
theorem lawWords_code {x : Str} {t : Tok} (B : Below A₀ base outer h₀) (F : Fr h₀ L s.heap m) (X : (hd.heap_39 w.params).In h₀) (N : News h₀ L s.heap news) (T : Top p loose mean mg mb h₀) (hk : cs.kind = .function)
   (hdp : dp + 6 < recursionLimit) (hun : un + 100 < cLine) (hx : x.length ≤ 100)
  (ret : ∀ a vs ep h' tk', Fr h₀ L h' m → News h₀ L h' ((a, lob vs ep) :: news) → StrsAre vs (lawWords x) → Q (.ref a) {s with heap := h', toks := tk'}) :
  wpAny (model prog w) (ktrTop dp un gd cn cs L a ccd cl outer) (call (.ref 131) [.str x t]) Q E s := by
  refine wpAny_call ?_
  k_dflt cell_enter
  repeat' ((fail_if_success (with_reducible show wpAny _ _ (pyIter (Value.str _ _)) _ _ _)); (first | (k_unfold; (try dsimp only)) | walk1 | (dsimp only; walk1)))
  rename Fr _ _ _ _ => kF
  rename News _ _ _ _ => kN
  refine' loop_text (σ := WL) (fun c => (c.aw, lob c.vs c.ep) :: news) (fun c => [(Str.ofString "words", .ref c.aw), (Str.ofString "word", .str c.word c.tw)]) [] (WAt (x ++ Str.ofString " ").cps.toList) ⟨_, [], 0, [], Str.ofString "", _⟩ rfl kF (cb_drop kN ?sub) ?hk ?hp ?turn ?done
  case hk => exact List.forall_mem_cons.mpr ⟨by with_unfolding_all exact rfl, List.forall_mem_cons.mpr ⟨by with_unfolding_all exact rfl, List.forall_mem_nil _⟩⟩
  case sub => intro p hp; exact List.mem_cons_of_mem _ hp
  case hp => exact ⟨rfl, .nil, Nat.le_refl _, Nat.le_refl _⟩
  case turn =>
    clear kF kN
    rintro ⟨aw, vs, ep, ws, word, tw⟩ i k t I u h tk oI hi ⟨hw, hs, hl1, hl2⟩ off F9 N9
    have hi' : i < (x ++ Str.ofString " ").length := (Array.getElem?_eq_some_iff.mp hi).1
    rw [Str.length_append, show (Str.ofString " ").length = 1 from rfl] at hi'
    dsimp only [kstB] at hw hs hl1 hl2 off F9 N9 ⊢
    have hvl := hs.length
    have hoff := fun p hp => off p (List.mem_cons_of_mem _ hp)
    have hoff0 := off _ List.mem_cons_self
    dsimp only at hoff0
    k_steps
    · refine TurnPost.next (WL.mk aw vs ep ws (word ++ ⟨#[k]⟩) _) (by k_asm) (by k_asm) (fun p hp => hp) off (List.forall_mem_cons.mpr ⟨by with_unfolding_all exact rfl, List.forall_mem_cons.mpr ⟨by with_unfolding_all exact rfl, List.forall_mem_nil _⟩⟩) ?_ ?_
      · (intro z h0 hp _; (have h1 := hp _ List.mem_cons_self); (have h2 := hp _ (List.mem_cons_of_mem _ List.mem_cons_self)); dsimp only at h1 h2 ⊢; simp only [if_neg h0, if_neg h1, if_neg h2, List.contains_nil, Bool.false_eq_true, if_false])
      · exact w_no hi hw hs hl1 hl2 (by assumption)
    · refine TurnPost.next (WL.mk _ (vs ++ [.str word tw]) 0 (ws ++ [word]) (Str.ofString "") _) (by k_asm) (by k_asm) ?_ ?_ (List.forall_mem_cons.mpr ⟨by with_unfolding_all exact rfl, List.forall_mem_cons.mpr ⟨by with_unfolding_all exact rfl, List.forall_mem_nil _⟩⟩) ?_ ?_
      · ((try dsimp only); (repeat' (refine List.forall_mem_cons.mpr ⟨by k_mem, ?_⟩)); (intro p hp); (repeat (first | exact hp | refine List.mem_cons_of_mem _ ?_)))
      · exact List.forall_mem_cons.mpr ⟨by k_ne, hoff⟩
      · (intro z h0 hp _; (have h1 := hp _ List.mem_cons_self); (have h2 := hp _ (List.mem_cons_of_mem _ List.mem_cons_self)); dsimp only at h1 h2 ⊢; simp only [if_neg h0, if_neg h1, if_neg h2, List.contains_nil, Bool.false_eq_true, if_false])
      · exact w_yes hi hw hs hl1 hl2 (by assumption) (by assumption)
    · refine TurnPost.next (WL.mk _ (vs ++ []) 0 (ws ++ []) (Str.ofString "") _) (by k_asm) (by k_asm) ?_ ?_ (List.forall_mem_cons.mpr ⟨by with_unfolding_all exact rfl, List.forall_mem_cons.mpr ⟨by with_unfolding_all exact rfl, List.forall_mem_nil _⟩⟩) ?_ ?_
      · ((try dsimp only); (repeat' (refine List.forall_mem_cons.mpr ⟨by k_mem, ?_⟩)); (intro p hp); (repeat (first | exact hp | refine List.mem_cons_of_mem _ ?_)))
      · exact List.forall_mem_cons.mpr ⟨by k_ne, hoff⟩
      · (intro z h0 hp _; (have h1 := hp _ List.mem_cons_self); (have h2 := hp _ (List.mem_cons_of_mem _ List.mem_cons_self)); dsimp only at h1 h2 ⊢; simp only [if_neg h0, if_neg h1, if_neg h2, List.contains_nil, Bool.false_eq_true, if_false])
      · exact w_nil hi hw hs hl1 hl2 (by assumption) (by assumption)
  case done =>
    clear kF kN
    rintro ⟨aw, vs, ep, ws, word, tw⟩ u h tk ⟨hw, hs, hl1, hl2⟩ F9 N9
    dsimp only [kstB] at hw hs hl1 hl2 F9 N9 ⊢
    k_steps
    refine ret _ _ _ _ _ (by k_asm) (by k_asm) ?_
    have e : (x ++ Str.ofString " ").cps.size = (x ++ Str.ofString " ").cps.toList.length := by simp
    rw [e, List.take_length] at hw
    unfold lawWords
    rw [hw]
    exact hs
end
end Mine
end
local macro_rules | `(tactic| walk_at "none C3 0") => `(tactic| fail "none")
local macro_rules | `(tactic| walk_at "none C3 1") => `(tactic| fail "none")
local macro_rules | `(tactic| walk_at "none C3 2") => `(tactic| fail "none")
local macro_rules | `(tactic| walk_at "none C3 3") => `(tactic| fail "none")
section
open PySem
namespace Mine
open PySem.Sre PySem.Sre.M

/-- a machine that comes to its end within n steps, and what is true there -/
def Ends (n : Nat) (m : M) (P : M → Prop) : Prop := ∃ k, k ≤ n ∧ (runFor k m).outcome.isSome = true ∧ P (runFor k m)
theorem runFor_add : ∀ (a b : Nat) (m : M), runFor (a + b) m = runFor b (runFor a m)
  | 0, b, m => by rw [Nat.zero_add]; rfl
  | a + 1, b, m => by
    rw [Nat.succ_add]
    show (if m.outcome.isSome = true then m else runFor (a + b) m.step) = runFor b (if m.outcome.isSome = true then m else runFor a m.step)
    by_cases h : m.outcome.isSome = true
    · rw [if_pos h, if_pos h]
      cases b with
      | zero => rfl
      | succ b => show m = (if m.outcome.isSome = true then m else runFor b m.step); rw [if_pos h]
    · rw [if_neg h, if_neg h]; exact runFor_add a b m.step
theorem runFor_done {m : M} (h : m.outcome.isSome = true) : ∀ n, runFor n m = m
  | 0 => rfl
  | n + 1 => by show (if m.outcome.isSome = true then m else runFor n m.step) = m; rw [if_pos h]
theorem Ends.at {n k : Nat} {m : M} {P : M → Prop} (h : Ends n m P) (hk : n ≤ k) : (runFor k m).outcome.isSome = true ∧ P (runFor k m) := by
  obtain ⟨j, hj, ho, hp⟩ := h
  have : k = j + (k - j) := by omega
  rw [this, runFor_add, runFor_done ho]
  exact ⟨ho, hp⟩
theorem Ends.step {n : Nat} {m : M} {P : M → Prop} (hm : m.outcome = none) (h : Ends n m.step P) : Ends (n + 1) m P := by
  obtain ⟨j, hj, h⟩ := h
  have e : runFor (j + 1) m = runFor j m.step := by
    show (if m.outcome.isSome = true then m else runFor j m.step) = _
    rw [hm]; rfl
  exact ⟨j + 1, by omega, by rw [e]; exact h⟩
theorem Ends.now {n : Nat} {m : M} {P : M → Prop} (h : m.outcome.isSome = true) (hp : P m) : Ends n m P := ⟨0, Nat.zero_le _, h, hp⟩

def c1 : Array Nat := #[14, 4, 0, 1, 4294967295, 24, 14, 1, 4294967295, 13, 9, 21, 22, 97, 122, 22, 48, 57, 0, 1, 1]
def c2 : Array Nat := #[14, 4, 0, 1, 4294967295, 7, 18, 6, 0, 24, 12, 1, 4294967295, 13, 7, 16, 45, 22, 48, 57, 0, 1, 15, 14, 12, 24, 6, 1, 4294967295, 16, 45, 1, 6, 5, 15, 2, 0, 1]
def c3 : Array Nat := #[14, 4, 0, 1, 4294967295, 24, 16, 1, 4294967295, 13, 11, 9, 0, 67067904, 2281701374, 134217726, 0, 0, 0, 0, 0, 1, 1]

/-- small letters and figures -/
def idc (c : Nat) : Bool := (97 ≤ c && c ≤ 122) || (48 ≤ c && c ≤ 57)


theorem set1_n (c n : Nat) (y : Bool) (sn : Seen) : inSet c1 c (n + 1) 11 y sn = inSet c1 c n 12 (!y) (sn.add 21) := rfl
theorem set1_a (c n : Nat) (y : Bool) (sn : Seen) : inSet c1 c (n + 1) 12 y sn = if 97 ≤ c && c ≤ 122 then .ok (y, sn.add 22) else inSet c1 c n 15 y (sn.add 22) := rfl
theorem set1_0 (c n : Nat) (y : Bool) (sn : Seen) : inSet c1 c (n + 1) 15 y sn = if 48 ≤ c && c ≤ 57 then .ok (y, sn.add 22) else inSet c1 c n 18 y (sn.add 22) := rfl
theorem set1_f (c n : Nat) (y : Bool) (sn : Seen) : inSet c1 c (n + 1) 18 y sn = .ok (!y, sn.add 0) := rfl
theorem acc1 (c : Nat) (sn : Seen) : ∃ sn', accepts c1 9 c sn = .ok (!idc c, sn') := by
  have e : accepts c1 9 c sn = inSet c1 c 21 11 true sn := rfl
  rw [e, set1_n, set1_a, set1_0, set1_f]
  unfold idc
  cases h1 : (97 ≤ c && c ≤ 122 : Bool) <;> cases h2 : (48 ≤ c && c ≤ 57 : Bool) <;> simp
/-- how many signs ahead are in the set -/
def runOf (p : Nat → Bool) : List Nat → Nat
  | [] => 0
  | c :: r => if p c then runOf p r + 1 else 0
theorem runOf_le (p : Nat → Bool) : ∀ l, runOf p l ≤ l.length
  | [] => Nat.le_refl _
  | c :: r => by unfold runOf; split; exact Nat.succ_le_succ (runOf_le p r); exact Nat.zero_le _
theorem run_of {code text : Array Nat} {i : Nat} (p : Nat → Bool) (hp : ∀ c sn, ∃ sn', accepts code i c sn = .ok (p c, sn')) : ∀ (n q found : Nat) (sn : Seen), q + n = text.size →
    ∃ sn', Sre.run code text i n q found sn = .ok (found + runOf p (text.toList.drop q), sn') := by
  intro n
  induction n with
  | zero =>
    intro q found sn h
    have : text.toList.drop q = [] := by rw [List.drop_eq_nil_iff]; simp; omega
    rw [this]
    exact ⟨sn, rfl⟩
  | succ n ih =>
    intro q found sn h
    have hq : q < text.size := by omega
    have e1 : text.getD q 0 = text[q] := by simp [Array.getD, hq]
    have e2 : text.toList.drop q = text[q] :: text.toList.drop (q + 1) := by
      rw [List.drop_eq_getElem_cons (by simpa using hq)]; simp
    obtain ⟨sn1, h1⟩ := hp text[q] sn
    unfold Sre.run
    rw [e1, h1, e2]
    cases hpc : p text[q] with
    | false =>
      refine ⟨sn1, ?_⟩
      simp [bind, Except.bind, runOf, hpc, pure, Except.pure]
    | true =>
      obtain ⟨sn2, h2⟩ := ih (q + 1) (found + 1) sn1 (by omega)
      refine ⟨sn2, ?_⟩
      simp only [bind, Except.bind, runOf, hpc, if_true]
      rw [h2]
      congr 2
      omega

def St (code text : Array Nat) (last : Nat) (whole must : Bool) (start pc pos handed : Nat) (o : Bool) (fs : List Sre.Frame) (wt : Nat) (an : Option Bool) (sn : Seen) : M :=
  { code, text, lim := text.size, start, lastStart := last, wholeText := whole, mustAdvance := must, pc, pos, handed, outermost := o, marks := #[], frames := fs, weight := wt, answer := an, seen := sn }
section
variable {code text : Array Nat} {last start pc pos handed wt : Nat} {whole must o : Bool} {fs : List Sre.Frame} {an : Option Bool} {sn : Seen}
theorem step_exec (hpc : pc < code.size) : (St code text last whole must start pc pos handed o fs wt none sn).step = (St code text last whole must start pc pos handed o fs wt none sn).exec := by
  unfold M.step St
  simp only [Option.isSome_none, Bool.false_eq_true, if_false]
  exact if_pos hpc
def repTail (m : M) (r : Except String (Nat × Seen)) : M := match r with
  | .error why => m.stick why
  | .ok (n, seen) => if n < m.word 2 then { m with seen }.say false else { m with seen, pos := m.pos + n }.afterRun .giveBack n ({ m with seen, pos := m.pos + n }.keep m.inner.isSome)
theorem exec_rep (m : M) (hop : ops[m.word 0]? = some .REPEAT_ONE) : m.exec = if ((m.word 2 : Nat) : Int) > (m.lim : Int) - m.pos then { m with seen := m.seen.add (m.word 0) }.say false
    else repTail { m with seen := m.seen.add (m.word 0) } (Sre.run m.code m.text (m.pc + 4) (min (m.word 3) ((m.lim : Int) - m.pos).toNat) m.pos 0 ((m.seen.add (m.word 0)).add (m.word 4))) := by
  unfold M.exec
  simp only [hop]
  rfl
/-- the greedy repeat of one set: nothing to take -/
theorem rep_none (p : Nat → Bool) (hpc : pc < code.size) (hop : ops[code.getD pc 0]? = some .REPEAT_ONE) (h2 : code.getD (pc + 2) 0 = 1) (h3 : code.getD (pc + 3) 0 = 4294967295) (hsz : text.size ≤ 1000)
    (hp : ∀ c sn, ∃ sn', accepts code (pc + 4) c sn = .ok (p c, sn')) (hn : runOf p (text.toList.drop pos) = 0) :
    ∃ sn', (St code text last whole must start pc pos handed o fs wt none sn).step = St code text last whole must start pc pos handed o fs wt (some false) sn' := by
  rw [step_exec hpc, exec_rep (St code text last whole must start pc pos handed o fs wt none sn) hop]
  have w2 : (St code text last whole must start pc pos handed o fs wt none sn).word 2 = 1 := h2
  have w3 : (St code text last whole must start pc pos handed o fs wt none sn).word 3 = 4294967295 := h3
  rw [w2, w3]
  by_cases hr : ((1 : Nat) : Int) > ((text.size : Int) - pos)
  · exact ⟨sn.add (code.getD pc 0), if_pos hr⟩
  · have e : min (4294967295 : Nat) ((text.size : Int) - (pos : Int)).toNat = text.size - pos := by omega
    obtain ⟨sn', hrun⟩ := run_of (text := text) p hp (text.size - pos) pos 0 ((sn.add (code.getD pc 0)).add (code.getD (pc + 4) 0)) (by omega)
    rw [hn, ← e] at hrun
    refine ⟨sn', (if_neg hr).trans ?_⟩
    refine (congrArg (repTail _) hrun).trans ?_
    show (if (0 + 0 : Nat) < code.getD (pc + 2) 0 then _ else _) = _
    rw [h2]
    rfl
def gb (pc pos n : Nat) (o : Bool) : Sre.Frame := { wait := .giveBack, pc, pos, outermost := o, count := (n : Int) }
/-- the greedy repeat of one set: what it takes -/
theorem rep_some (p : Nat → Bool) {n : Nat} (hpc : pc < code.size) (hop : ops[code.getD pc 0]? = some .REPEAT_ONE) (h2 : code.getD (pc + 2) 0 = 1) (h3 : code.getD (pc + 3) 0 = 4294967295) (hsz : text.size ≤ 1000) (hw : wt ≤ 1000)
    (hp : ∀ c sn, ∃ sn', accepts code (pc + 4) c sn = .ok (p c, sn')) (hpos : pos ≤ text.size) (hn : runOf p (text.toList.drop pos) = n + 1) :
    ∃ sn', (St code text last whole must start pc pos handed o fs wt none sn).step = St code text last whole must start (pc + 1 + code.getD (pc + 1) 0) (pos + (n + 1)) (pos + (n + 1)) o (gb pc (pos + (n + 1)) (n + 1) o :: fs) (wt + 1) none sn' := by
  rw [step_exec hpc, exec_rep (St code text last whole must start pc pos handed o fs wt none sn) hop]
  have w2 : (St code text last whole must start pc pos handed o fs wt none sn).word 2 = 1 := h2
  have w3 : (St code text last whole must start pc pos handed o fs wt none sn).word 3 = 4294967295 := h3
  rw [w2, w3]
  have hle := runOf_le p (text.toList.drop pos)
  rw [List.length_drop, Array.length_toList] at hle
  have e : min (4294967295 : Nat) ((text.size : Int) - (pos : Int)).toNat = text.size - pos := by omega
  obtain ⟨sn', hrun⟩ := run_of (text := text) p hp (text.size - pos) pos 0 ((sn.add (code.getD pc 0)).add (code.getD (pc + 4) 0)) (by omega)
  rw [hn, ← e, Nat.zero_add] at hrun
  refine ⟨sn', (if_neg (by show ¬ ((1 : Nat) : Int) > ((text.size : Int) - pos); omega)).trans ?_⟩
  refine (congrArg (repTail _) hrun).trans ?_
  show (if n + 1 < code.getD (pc + 2) 0 then _ else _) = _
  rw [h2, if_neg (by omega)]
  unfold M.afterRun M.attempt
  exact if_neg (by show ¬ wt + 1 + 0 > 16777216; omega)

def ns (s : Nat) (o : Bool) : Sre.Frame := { wait := .nextStart, pc := 5, pos := s, outermost := o }
def nb (pc pos : Nat) (o : Bool) : Sre.Frame := { wait := .nextBranch, pc, pos, outermost := o }
theorem step_ok (hpc : pc < code.size) (hop : ops[code.getD pc 0]? = some .SUCCESS) (hc : (o && ((whole && pos != text.size) || (must && pos == start))) = false) :
    (St code text last whole must start pc pos handed o fs wt none sn).step = St code text last whole must start pc pos pos o fs wt (some true) (sn.add (code.getD pc 0)) := by
  rw [step_exec hpc]
  have w0 : ops[(St code text last whole must start pc pos handed o fs wt none sn).word 0]? = some .SUCCESS := hop
  unfold M.exec
  simp only [w0]
  exact if_neg (by show ¬ (o && ((whole && pos != text.size) || (must && pos == start))) = true; rw [hc]; exact Bool.false_ne_true)
theorem step_no (hpc : pc < code.size) (hop : ops[code.getD pc 0]? = some .SUCCESS) (hc : (o && ((whole && pos != text.size) || (must && pos == start))) = true) :
    (St code text last whole must start pc pos handed o fs wt none sn).step = St code text last whole must start pc pos handed o fs wt (some false) (sn.add (code.getD pc 0)) := by
  rw [step_exec hpc]
  have w0 : ops[(St code text last whole must start pc pos handed o fs wt none sn).word 0]? = some .SUCCESS := hop
  unfold M.exec
  simp only [w0]
  exact if_pos hc
theorem gb_yes {q n : Nat} {o' : Bool} : (St code text last whole must start pc pos handed o (gb q n k o' :: fs) (wt + 1) (some true) sn).step = St code text last whole must start q n handed o' fs wt (some true) sn := rfl
theorem step_back {f : Sre.Frame} {yes : Bool} : (St code text last whole must start pc pos handed o (f :: fs) wt (some yes) sn).step =
    resume { St code text last whole must start pc pos handed o (f :: fs) wt (some yes) sn with answer := none, frames := fs, weight := wt - (1 + f.kept.marks.size), pc := f.pc, pos := f.pos, outermost := f.outermost } f yes := rfl
theorem resume_gb (m : M) (q n : Nat) (k : Int) (o' : Bool) : m.resume { wait := .giveBack, pc := q, pos := n, outermost := o', count := k } false =
    if k - 1 < ((m.word 2 : Nat) : Int) then (m.putBack {}).say false else { m.putBack {} with pos := n - 1 }.afterRun .giveBack (k - 1) {} := by
  unfold M.resume
  simp only [Bool.false_eq_true, if_false]
theorem resume_ns (m : M) (q : Nat) (o' : Bool) : m.resume (ns q o') false = if q < m.lastStart then { m with mustAdvance := false }.attemptFrom (q + 1) false else m.say false := by
  unfold M.resume ns
  simp only [Bool.false_eq_true, if_false]
theorem gb_no0 {q n : Nat} {o' : Bool} (h2 : code.getD (q + 2) 0 = 1) : (St code text last whole must start pc pos handed o (gb q n 1 o' :: fs) (wt + 1) (some false) sn).step = St code text last whole must start q n handed o' fs wt (some false) sn := by
  rw [step_back]
  unfold gb
  rw [resume_gb, if_pos (by show ((1 : Int) - 1) < ((code.getD (q + 2) 0 : Nat) : Int); rw [h2]; decide)]
  rfl
theorem gb_no {q n k : Nat} {o' : Bool} (h2 : code.getD (q + 2) 0 = 1) (hw : wt ≤ 1000) : (St code text last whole must start pc pos handed o (gb q n (k + 2) o' :: fs) (wt + 1) (some false) sn).step =
    St code text last whole must start (q + 1 + code.getD (q + 1) 0) (n - 1) (n - 1) o' (gb q (n - 1) (k + 1) o' :: fs) (wt + 1) none sn := by
  rw [step_back]
  unfold gb
  have e : ((k + 2 : Nat) : Int) - 1 = ((k + 1 : Nat) : Int) := by omega
  rw [resume_gb, if_neg (by show ¬ (((k + 2 : Nat) : Int) - 1) < ((code.getD (q + 2) 0 : Nat) : Int); rw [h2]; omega), e]
  unfold M.afterRun M.attempt
  exact if_neg (by show ¬ wt + 1 + 0 > 16777216; omega)
theorem ns_yes {q : Nat} {o' : Bool} : (St code text last whole must start pc pos handed o (ns q o' :: fs) (wt + 1) (some true) sn).step = St code text last whole must start 5 q handed o' fs wt (some true) sn := rfl
theorem ns_no {q : Nat} {o' : Bool} (h : ¬ q < last) : (St code text last whole must start pc pos handed o (ns q o' :: fs) (wt + 1) (some false) sn).step = St code text last whole must start 5 q handed o' fs wt (some false) sn := by
  rw [step_back, resume_ns, if_neg (by exact h)]
  rfl
theorem noFirst {m : M} (hm : m.code = code) (hh : (ops[code.getD 0 0]? = some .INFO) ∧ code.getD 2 0 = 0) : m.hasFirstSet = false := by
  unfold M.hasFirstSet
  rw [hm, hh.1, hh.2]
  rfl
theorem ns_on {q : Nat} {o' : Bool} (h : q < last) (hh : (ops[code.getD 0 0]? = some .INFO) ∧ code.getD 2 0 = 0) : (St code text last whole must start pc pos handed o [ns q o'] 1 (some false) sn).step =
    St code text last whole false (q + 1) 5 (q + 1) (q + 1) false [ns (q + 1) false] 1 none sn := by
  rw [step_back, resume_ns, if_pos (by exact h)]
  unfold M.attemptFrom
  rw [noFirst rfl hh]
  rfl
theorem done_yes : (St code text last whole must start pc pos handed o [] wt (some true) sn).step = { St code text last whole must start pc pos handed o [] wt (some true) sn with outcome := some .matched } := rfl
theorem done_no : (St code text last whole must start pc pos handed o [] wt (some false) sn).step = { St code text last whole must start pc pos handed o [] wt (some false) sn with outcome := some .failed } := rfl
/-- what a run that ends says -/
def Found (r : M) (b e : Nat) : Prop := r.outcome = some .matched ∧ r.start = b ∧ r.handed = e
def Lost (r : M) : Prop := r.outcome = some .failed
end

def Ans (text : Array Nat) (p : Nat → Bool) (s : Nat) (r : M) : Prop :=
  if s + runOf (fun c => !p c) (text.toList.drop s) = text.size then Lost r
  else Found r (s + runOf (fun c => !p c) (text.toList.drop s)) (s + runOf (fun c => !p c) (text.toList.drop s) + runOf p (text.toList.drop (s + runOf (fun c => !p c) (text.toList.drop s))))
theorem drop_at {text : Array Nat} {s : Nat} (h : s < text.size) : text.toList.drop s = text[s] :: text.toList.drop (s + 1) := by
  rw [List.drop_eq_getElem_cons (by simpa using h)]; simp
theorem c1_search {text : Array Nat} (hsz : text.size ≤ 1000) : ∀ (j s : Nat) (o must : Bool) (sn : Seen), s + j = text.size →
    Ends (2 * j + 8) (St c1 text text.size false must s 5 s s o [ns s o] 1 none sn) (Ans text (fun c => !idc c) s) := by
  intro j
  induction j with
  | zero =>
    intro s o must sn h
    have hd : text.toList.drop s = [] := by rw [List.drop_eq_nil_iff]; simp; omega
    obtain ⟨sn', e⟩ := rep_none (code := c1) (text := text) (last := text.size) (start := s) (pc := 5) (pos := s) (handed := s) (wt := 1) (whole := false) (must := must) (o := o) (fs := [ns s o]) (sn := sn) (fun c => !idc c) (by decide) rfl rfl rfl hsz acc1 (by rw [hd]; rfl)
    refine Ends.step rfl ?_
    rw [e]
    refine Ends.step rfl ?_
    rw [ns_no (by omega)]
    refine Ends.step rfl ?_
    rw [done_no]
    refine Ends.now rfl ?_
    unfold Ans
    rw [hd, if_pos (by simp [runOf]; omega)]
    rfl
  | succ j ih =>
    intro s o must sn h
    have hs : s < text.size := by omega
    cases hp : idc text[s] with
    | true =>
      obtain ⟨sn', e⟩ := rep_none (code := c1) (text := text) (last := text.size) (start := s) (pc := 5) (pos := s) (handed := s) (wt := 1) (whole := false) (must := must) (o := o) (fs := [ns s o]) (sn := sn) (fun c => !idc c) (by decide) rfl rfl rfl hsz acc1 (by rw [drop_at hs]; simp [runOf, hp])
      have he := ih (s + 1) false false sn' (by omega)
      have ha : Ans text (fun c => !idc c) (s + 1) = Ans text (fun c => !idc c) s := by
        funext r
        unfold Ans
        have hr : runOf (fun c => !!idc c) (text.toList.drop s) = runOf (fun c => !!idc c) (text.toList.drop (s + 1)) + 1 := by rw [drop_at hs]; simp [runOf, hp]
        have e2 : s + (runOf (fun c => !!idc c) (text.toList.drop (s + 1)) + 1) = s + 1 + runOf (fun c => !!idc c) (text.toList.drop (s + 1)) := by omega
        rw [hr, e2]
      rw [ha] at he
      have : 2 * (j + 1) + 8 = 2 * j + 8 + 1 + 1 := by omega
      rw [this]
      refine Ends.step rfl ?_
      rw [e]
      refine Ends.step rfl ?_
      rw [ns_on hs ⟨rfl, rfl⟩]
      exact he
    | false =>
      have hr : runOf (fun c => !!idc c) (text.toList.drop s) = 0 := by rw [drop_at hs]; simp [runOf, hp]
      have hn : runOf (fun c => !idc c) (text.toList.drop s) = runOf (fun c => !idc c) (text.toList.drop (s + 1)) + 1 := by rw [drop_at hs]; simp [runOf, hp]
      obtain ⟨sn', e⟩ := rep_some (code := c1) (text := text) (last := text.size) (start := s) (pc := 5) (pos := s) (handed := s) (wt := 1) (whole := false) (must := must) (o := o) (fs := [ns s o]) (sn := sn) (fun c => !idc c) (by decide) rfl rfl rfl hsz (by decide) acc1 (by omega) hn
      refine Ends.step rfl ?_
      rw [e]
      refine Ends.step rfl ?_
      rw [step_ok (by decide) rfl (by
        have : (s + (runOf (fun c => !idc c) (text.toList.drop (s + 1)) + 1) == s) = false := by rw [beq_eq_false_iff_ne]; omega
        rw [this]; cases o <;> cases must <;> rfl)]
      refine Ends.step rfl ?_
      rw [gb_yes]
      refine Ends.step rfl ?_
      rw [ns_yes]
      refine Ends.step rfl ?_
      rw [done_yes]
      refine Ends.now rfl ?_
      unfold Ans
      rw [hr, if_neg (by omega)]
      refine ⟨rfl, rfl, ?_⟩
      show s + (runOf (fun c => !idc c) (text.toList.drop (s + 1)) + 1) = s + runOf (fun c => !idc c) (text.toList.drop s)
      rw [hn]
theorem c1_from {text : Array Nat} (hsz : text.size ≤ 1000) {s : Nat} (hs : s ≤ text.size) (must : Bool) :
    Ends 3000 (forSearch c1 text 0 s text.size must) (Ans text (fun c => !idc c) s) := by
  by_cases h : s < text.size
  · have e : forSearch c1 text 0 s text.size must = St c1 text text.size false must s 5 s s true [ns s true] 1 none (({} : Seen).add 14) := by
      unfold forSearch
      refine (if_neg ?_).trans ?_
      · simp only [Bool.or_eq_true, decide_eq_true_eq, not_or]
        exact ⟨by omega, by show ¬ text.size - s < 1; omega⟩
      · unfold M.attemptFrom
        rw [noFirst rfl ⟨rfl, rfl⟩]
        rfl
    rw [e]
    obtain ⟨k, hk, r⟩ := c1_search hsz (text.size - s) s true must _ (by omega)
    exact ⟨k, by omega, r⟩
  · have hse : s = text.size := by omega
    have e : ∃ m, forSearch c1 text 0 s text.size must = M.say m false ∧ m.frames = [] ∧ m.outcome = none := by
      unfold forSearch
      exact ⟨_, if_pos (by simp only [Bool.or_eq_true, decide_eq_true_eq]; exact .inr (by show text.size - s < 1; omega)), rfl, rfl⟩
    obtain ⟨m, e, hf, ho⟩ := e
    rw [e]
    refine Ends.step ho ?_
    refine Ends.now ?_ ?_
    · unfold M.step M.say
      rw [show ({ m with answer := some false } : M).outcome = none from ho]
      rw [show ({ m with answer := some false } : M).frames = [] from hf]
      rfl
    · have hd : text.toList.drop s = [] := by rw [List.drop_eq_nil_iff]; simp; omega
      unfold Ans
      rw [hd, if_pos (by simp [runOf]; omega)]
      unfold Lost M.step M.say
      rw [show ({ m with answer := some false } : M).outcome = none from ho]
      rw [show ({ m with answer := some false } : M).frames = [] from hf]
      rfl

/-! the third pattern: a whole text of name signs -/
def nmc (c : Nat) : Bool := c < 256 && (c3.getD (12 + c / 32) 0).testBit (c % 32)
theorem set3_c (c n : Nat) (y : Bool) (sn : Seen) : inSet c3 c (n + 1) 11 y sn = if c < 256 && (c3.getD (11 + (1 + c / 32)) 0).testBit (c % 32) then .ok (y, sn.add 9) else inSet c3 c n 20 y (sn.add 9) := rfl
theorem set3_f (c n : Nat) (y : Bool) (sn : Seen) : inSet c3 c (n + 1) 20 y sn = .ok (!y, sn.add 0) := rfl
theorem acc3 (c : Nat) (sn : Seen) : ∃ sn', accepts c3 9 c sn = .ok (nmc c, sn') := by
  have e : accepts c3 9 c sn = inSet c3 c 23 11 true sn := rfl
  rw [e, set3_c, set3_f]
  have e2 : 11 + (1 + c / 32) = 12 + c / 32 := by omega
  unfold nmc
  rw [e2]
  cases h : (c < 256 && (c3.getD (12 + c / 32) 0).testBit (c % 32) : Bool) <;> simp
section
variable {text : Array Nat}
theorem c3_back : ∀ (k n : Nat) (st : Nat) (sn : Seen) (pc h : Nat), n ≤ text.size → k < n → Ends (2 * k + 4) (St c3 text 0 true false st pc n h true [gb 5 n (k + 1) true] 1 (some false) sn) Lost := by
  intro k
  induction k with
  | zero =>
    intro n st sn pc h hn hk
    refine Ends.step rfl ?_
    rw [gb_no0 rfl]
    refine Ends.step rfl ?_
    rw [done_no]
    exact Ends.now rfl rfl
  | succ k ih =>
    intro n st sn pc h hn hk
    have e : 2 * (k + 1) + 4 = 2 * k + 4 + 1 + 1 := by omega
    rw [e]
    refine Ends.step rfl ?_
    rw [gb_no rfl (by decide)]
    refine Ends.step rfl ?_
    rw [step_no (by decide) rfl (by
      have : (n - 1 != text.size) = true := by rw [bne_iff_ne]; omega
      rw [this]; rfl)]
    exact ih (n - 1) st _ _ _ (by omega) (by omega)
theorem c3_match (hsz : text.size ≤ 1000) (sn : Seen) : Ends 3000 (St c3 text 0 true false 0 5 0 0 true [] 0 none sn) (fun r => if runOf nmc text.toList = text.size ∧ text.size ≠ 0 then r.outcome = some .matched else Lost r) := by
  cases hn : runOf nmc (text.toList.drop 0) with
  | zero =>
    obtain ⟨sn', e⟩ := rep_none (code := c3) (text := text) (last := 0) (start := 0) (pc := 5) (pos := 0) (handed := 0) (wt := 0) (whole := true) (must := false) (o := true) (fs := []) (sn := sn) nmc (by decide) rfl rfl rfl hsz acc3 hn
    refine Ends.step rfl ?_
    rw [e]
    refine Ends.step rfl ?_
    rw [done_no]
    refine Ends.now rfl ?_
    rw [List.drop_zero] at hn
    rw [if_neg (by rw [hn]; omega)]
    rfl
  | succ n =>
    have hle := runOf_le nmc (text.toList.drop 0)
    rw [List.length_drop, Array.length_toList] at hle
    obtain ⟨sn', e⟩ := rep_some (code := c3) (text := text) (last := 0) (start := 0) (pc := 5) (pos := 0) (handed := 0) (wt := 0) (whole := true) (must := false) (o := true) (fs := []) (sn := sn) nmc (by decide) rfl rfl rfl hsz (by decide) acc3 (by omega) hn
    refine Ends.step rfl ?_
    rw [e]
    refine Ends.step rfl ?_
    by_cases hf : 0 + (n + 1) = text.size
    · rw [step_ok (by decide) rfl (by
        have : (0 + (n + 1) != text.size) = false := by rw [hf]; simp
        rw [this]; rfl)]
      refine Ends.step rfl ?_
      rw [gb_yes]
      refine Ends.step rfl ?_
      rw [done_yes]
      refine Ends.now rfl ?_
      rw [List.drop_zero] at hn
      rw [if_pos (by rw [hn]; omega)]
    · rw [step_no (by decide) rfl (by
        have : (0 + (n + 1) != text.size) = true := by rw [bne_iff_ne]; exact hf
        rw [this]; rfl)]
      have := c3_back (text := text) n (0 + (n + 1)) 0 (sn'.add (c3.getD (5 + 1 + c3.getD (5 + 1) 0) 0)) (5 + 1 + c3.getD (5 + 1) 0) (0 + (n + 1)) (by omega) (by omega)
      obtain ⟨k, hk, ho, hl⟩ := this
      refine ⟨k, by omega, ho, ?_⟩
      rw [List.drop_zero] at hn
      rw [if_neg (by rw [hn]; omega)]
      exact hl
theorem c3_from (hsz : text.size ≤ 1000) : Ends 3000 (forMatch c3 text 0 0 text.size true false) (fun r => if runOf nmc text.toList = text.size ∧ text.size ≠ 0 then r.outcome = some .matched else Lost r) := by
  by_cases h : text.size = 0
  · have e : ∃ m, forMatch c3 text 0 0 text.size true false = M.say m false ∧ m.frames = [] ∧ m.outcome = none := by
      unfold forMatch
      exact ⟨_, if_pos (by rw [h]; rfl), rfl, rfl⟩
    obtain ⟨m, e, hf, ho⟩ := e
    rw [e]
    refine Ends.step ho (Ends.now ?_ ?_)
    · unfold M.step M.say
      rw [show ({ m with answer := some false } : M).outcome = none from ho, show ({ m with answer := some false } : M).frames = [] from hf]
      rfl
    · rw [if_neg (by omega)]
      unfold Lost M.step M.say
      rw [show ({ m with answer := some false } : M).outcome = none from ho, show ({ m with answer := some false } : M).frames = [] from hf]
      rfl
  · have e : forMatch c3 text 0 0 text.size true false = St c3 text 0 true false 0 5 0 0 true [] 0 none (({} : Seen).add 14) := by
      unfold forMatch
      refine (if_neg ?_).trans rfl
      simp only [Bool.and_eq_true, decide_eq_true_eq, not_and]
      intro _
      show ¬ text.size - 0 < 1
      omega
    rw [e]
    exact c3_match hsz _
end

/-! the second pattern: what stands at the ends -/
def dbc (c : Nat) : Bool := c == 45 || (48 ≤ c && c ≤ 57)
theorem set2_l (c n : Nat) (y : Bool) (sn : Seen) : inSet c2 c (n + 1) 15 y sn = if c == 45 then .ok (y, sn.add 16) else inSet c2 c n 17 y (sn.add 16) := rfl
theorem set2_r (c n : Nat) (y : Bool) (sn : Seen) : inSet c2 c (n + 1) 17 y sn = if 48 ≤ c && c ≤ 57 then .ok (y, sn.add 22) else inSet c2 c n 20 y (sn.add 22) := rfl
theorem set2_f (c n : Nat) (y : Bool) (sn : Seen) : inSet c2 c (n + 1) 20 y sn = .ok (!y, sn.add 0) := rfl
theorem acc2a (c : Nat) (sn : Seen) : ∃ sn', accepts c2 13 c sn = .ok (dbc c, sn') := by
  have e : accepts c2 13 c sn = inSet c2 c 38 15 true sn := rfl
  rw [e, set2_l, set2_r, set2_f]
  unfold dbc
  cases h1 : (c == 45) <;> cases h2 : (48 ≤ c && c ≤ 57 : Bool) <;> simp
theorem acc2b (c : Nat) (sn : Seen) : ∃ sn', accepts c2 29 c sn = .ok (c == 45, sn') := ⟨sn, rfl⟩
section
variable {text : Array Nat} {last start pos handed wt : Nat} {must o : Bool} {fs : List Sre.Frame} {an : Option Bool} {sn : Seen}
theorem b_branch (hw : wt ≤ 1000) : (St c2 text last false must start 5 pos handed o fs wt none sn).step = St c2 text last false must start 7 pos pos o (nb 6 pos o :: fs) (wt + 1) none (sn.add 7) := by
  rw [step_exec (by decide)]
  have w0 : ops[(St c2 text last false must start 5 pos handed o fs wt none sn).word 0]? = some .BRANCH := rfl
  unfold M.exec
  simp only [w0]
  unfold M.alternative
  refine (if_neg (by show ¬ (c2.getD 6 0 == 0) = true; decide)).trans ?_
  unfold M.attempt
  exact if_neg (by show ¬ wt + 1 + 0 > 16777216; omega)
theorem b_at0 : (St c2 text last false must start 7 pos handed o fs wt none sn).step = if pos == 0 then St c2 text last false must start 9 pos handed o fs wt none ((sn.add 6).add 43) else St c2 text last false must start 7 pos handed o fs wt (some false) ((sn.add 6).add 43) := by
  rw [step_exec (by decide)]
  have w0 : ops[(St c2 text last false must start 7 pos handed o fs wt none sn).word 0]? = some .AT := rfl
  unfold M.exec
  simp only [w0]
  rfl
theorem b_atE : (St c2 text last false must start 32 pos handed o fs wt none sn).step = if pos == text.size || (pos + 1 == text.size && text.getD pos 0 == 10) then St c2 text last false must start 34 pos handed o fs wt none ((sn.add 6).add 48) else St c2 text last false must start 32 pos handed o fs wt (some false) ((sn.add 6).add 48) := by
  rw [step_exec (by decide)]
  have w0 : ops[(St c2 text last false must start 32 pos handed o fs wt none sn).word 0]? = some .AT := rfl
  unfold M.exec
  simp only [w0]
  rfl
theorem b_jump1 : (St c2 text last false must start 22 pos handed o fs wt none sn).step = St c2 text last false must start 37 pos handed o fs wt none (sn.add 15) := by
  rw [step_exec (by decide)]
  have w0 : ops[(St c2 text last false must start 22 pos handed o fs wt none sn).word 0]? = some .JUMP := rfl
  unfold M.exec
  simp only [w0]
  rfl
theorem b_jump2 : (St c2 text last false must start 34 pos handed o fs wt none sn).step = St c2 text last false must start 37 pos handed o fs wt none (sn.add 15) := by
  rw [step_exec (by decide)]
  have w0 : ops[(St c2 text last false must start 34 pos handed o fs wt none sn).word 0]? = some .JUMP := rfl
  unfold M.exec
  simp only [w0]
  rfl
theorem resume_nb (m : M) (q n : Nat) (o' : Bool) : m.resume (nb q n o') false = (m.putBack {}).alternative (q + m.code.getD q 0) {} := by
  unfold M.resume nb
  simp only [Bool.false_eq_true, if_false]
theorem nb_yes {q n pc : Nat} {o' : Bool} : (St c2 text last false must start pc pos handed o (nb q n o' :: fs) (wt + 1) (some true) sn).step = St c2 text last false must start q n handed o' fs wt (some true) sn := rfl
theorem nb_second {n pc : Nat} {o' : Bool} (hw : wt ≤ 1000) : (St c2 text last false must start pc pos handed o (nb 6 n o' :: fs) (wt + 1) (some false) sn).step = St c2 text last false must start 25 n n o' (nb 24 n o' :: fs) (wt + 1) none sn := by
  rw [step_back, resume_nb]
  unfold M.alternative
  refine (if_neg (by show ¬ (c2.getD 24 0 == 0) = true; decide)).trans ?_
  unfold M.attempt
  exact if_neg (by show ¬ wt + 1 + 0 > 16777216; omega)
theorem nb_last {n pc : Nat} {o' : Bool} : (St c2 text last false must start pc pos handed o (nb 24 n o' :: fs) (wt + 1) (some false) sn).step = St c2 text last false must start 24 n handed o' fs wt (some false) sn := by
  rw [step_back, resume_nb]
  unfold M.alternative
  exact if_pos (by show (c2.getD 36 0 == 0) = true; decide)
/-- the dashes behind s that do not reach the end: given back one by one -/
theorem b_back {Z : M → Prop} {N : Nat} {o' : Bool} (hw : wt ≤ 1000)
    (fin : ∀ (sn : Seen) (n h : Nat), Ends N (St c2 text last false must start 25 n h o' fs wt (some false) sn) Z) :
    ∀ (k n : Nat) (sn : Seen) (pc : Nat), n ≤ text.size → (∀ j, n ≤ j + (k + 1) → j < n → text.getD j 0 ≠ 10) → k < n → Ends (2 * k + 1 + N) (St c2 text last false must start pc n n o' (gb 25 n (k + 1) o' :: fs) (wt + 1) (some false) sn) Z := by
  intro k
  induction k with
  | zero =>
    intro n sn pc hn h10 hk
    have e : 2 * 0 + 1 + N = N + 1 := by omega
    rw [e]
    refine Ends.step rfl ?_
    rw [gb_no0 rfl]
    exact fin sn n n
  | succ k ih =>
    intro n sn pc hn h10 hk
    have e : 2 * (k + 1) + 1 + N = 2 * k + 1 + N + 1 + 1 := by omega
    rw [e]
    refine Ends.step rfl ?_
    rw [gb_no rfl hw]
    refine Ends.step rfl ?_
    have hpc : 25 + 1 + c2.getD (25 + 1) 0 = 32 := rfl
    rw [hpc, b_atE, if_neg (by
      have h1 : (n - 1 == text.size) = false := by rw [beq_eq_false_iff_ne]; omega
      have h2 : (text.getD (n - 1) 0 == 10) = false := by rw [beq_eq_false_iff_ne]; exact h10 (n - 1) (by omega) (by omega)
      rw [h1, h2]; simp)]
    exact ih (n - 1) _ _ (by omega) (fun j h1 h2 => h10 j (by omega) (by omega)) (by omega)

def AllDash (l : List Nat) : Prop := ∀ c ∈ l, c = 45
def Ans2 (text : Array Nat) (s : Nat) (r : M) : Prop :=
  (∃ b, s ≤ b ∧ b < text.size ∧ AllDash (text.toList.drop b) ∧ (∀ b', s ≤ b' → b' < b → ¬ AllDash (text.toList.drop b')) ∧ Found r b text.size) ∨
  ((∀ b, s ≤ b → b < text.size → ¬ AllDash (text.toList.drop b)) ∧ Lost r)
theorem runOf_all {p : Nat → Bool} : ∀ {l : List Nat}, runOf p l = l.length → ∀ c ∈ l, p c = true
  | [], _, _, h => nomatch h
  | a :: r, h, c, hc => by
    unfold runOf at h
    cases hp : p a with
    | false => rw [hp] at h; simp at h
    | true =>
      rw [hp, if_pos rfl, List.length_cons] at h
      rcases List.mem_cons.mp hc with rfl | hc
      · exact hp
      · exact runOf_all (by omega) c hc
theorem all_runOf {p : Nat → Bool} : ∀ {l : List Nat}, (∀ c ∈ l, p c = true) → runOf p l = l.length
  | [], _ => rfl
  | a :: r, h => by
    unfold runOf
    rw [if_pos (h a List.mem_cons_self), all_runOf fun c hc => h c (List.mem_cons_of_mem _ hc)]
    rfl
theorem runOf_take {p : Nat → Bool} : ∀ {l : List Nat} {j : Nat}, j < runOf p l → ∃ c, l[j]? = some c ∧ p c = true
  | [], j, h => absurd h (Nat.not_lt_zero _)
  | a :: r, j, h => by
    unfold runOf at h
    cases hp : p a with
    | false => rw [hp] at h; simp at h
    | true =>
      rw [hp, if_pos rfl] at h
      cases j with
      | zero => exact ⟨a, rfl, hp⟩
      | succ j => obtain ⟨c, h1, h2⟩ := runOf_take (l := r) (p := p) (j := j) (by omega); exact ⟨c, by simpa using h1, h2⟩
/-- the second way of the branch, at s -/
theorem b_second (hsz : text.size ≤ 1000) (h10 : ∀ j, text.getD j 0 ≠ 10) {s : Nat} (hs : s ≤ text.size) (hst : start = s) (hmust : must = false) {Z : M → Prop} {N : Nat}
    (yes : AllDash (text.toList.drop s) → s < text.size → ∀ sn, Ends N (St c2 text last false must start 5 s text.size o [] 0 (some true) sn) Z)
    (no : ¬ (AllDash (text.toList.drop s) ∧ s < text.size) → ∀ sn h, Ends N (St c2 text last false must start 24 s h o [ns s o] 1 (some false) sn) Z) :
    ∀ sn, Ends (2200 + N) (St c2 text last false must start 25 s s o [nb 24 s o, ns s o] 2 none sn) Z := by
  intro sn
  cases hn : runOf (fun c => c == 45) (text.toList.drop s) with
  | zero =>
    obtain ⟨sn', e⟩ := rep_none (code := c2) (text := text) (last := last) (start := start) (pc := 25) (pos := s) (handed := s) (wt := 2) (whole := false) (must := must) (o := o) (fs := [nb 24 s o, ns s o]) (sn := sn) (fun c => c == 45) (by decide) rfl rfl rfl hsz acc2b hn
    have e9 : 2200 + N = 2198 + N + 1 + 1 := by omega
    rw [e9]
    refine Ends.step rfl ?_
    rw [e]
    refine Ends.step rfl ?_
    rw [nb_last]
    obtain ⟨k, hk, r⟩ := no (fun h => by
      have := all_runOf (p := fun c => c == 45) (l := text.toList.drop s) (fun c hc => by rw [h.1 c hc]; rfl)
      rw [hn, List.length_drop, Array.length_toList] at this
      omega) sn' s
    exact ⟨k, by omega, r⟩
  | succ n =>
    have hle := runOf_le (fun c => c == 45) (text.toList.drop s)
    rw [List.length_drop, Array.length_toList] at hle
    obtain ⟨sn', e⟩ := rep_some (code := c2) (text := text) (last := last) (start := start) (pc := 25) (pos := s) (handed := s) (wt := 2) (whole := false) (must := must) (o := o) (fs := [nb 24 s o, ns s o]) (sn := sn) (fun c => c == 45) (by decide) rfl rfl rfl hsz (by decide) acc2b (by omega) hn
    have e9 : 2200 + N = 2190 + N + 8 + 1 + 1 := by omega
    rw [e9]
    refine Ends.step rfl ?_
    rw [e]
    refine Ends.step rfl ?_
    have hpc : 25 + 1 + c2.getD (25 + 1) 0 = 32 := rfl
    rw [hpc, b_atE]
    by_cases hf : s + (n + 1) = text.size
    · rw [if_pos (by rw [hf]; simp)]
      have ha : AllDash (text.toList.drop s) := fun c hc => by
        have := runOf_all (p := fun c => c == 45) (l := text.toList.drop s) (by rw [hn, List.length_drop, Array.length_toList]; omega) c hc
        simpa using this
      have e9 : 2190 + N + 8 = 2190 + N + 3 + 1 + 1 + 1 + 1 + 1 := by omega
      rw [e9]
      refine Ends.step rfl ?_
      rw [b_jump2]
      refine Ends.step rfl ?_
      rw [step_ok (by decide) rfl (by subst hmust; cases o <;> rfl)]
      refine Ends.step rfl ?_
      rw [gb_yes]
      refine Ends.step rfl ?_
      rw [nb_yes]
      refine Ends.step rfl ?_
      rw [ns_yes, hf]
      obtain ⟨k, hk, r⟩ := yes ha (by omega) _
      exact ⟨k, by omega, r⟩
    · rw [if_neg (by
        have h1 : (s + (n + 1) == text.size) = false := by rw [beq_eq_false_iff_ne]; exact hf
        have h2 : (text.getD (s + (n + 1)) 0 == 10) = false := by rw [beq_eq_false_iff_ne]; exact h10 _
        rw [h1, h2]; simp)]
      have hb := b_back (text := text) (last := last) (start := start) (wt := 2) (must := must) (fs := [nb 24 s o, ns s o]) (Z := Z) (N := N + 1) (o' := o) (by decide) (fun sn n h => by
        refine Ends.step rfl ?_
        rw [nb_last]
        exact no (fun hc => by
          have := all_runOf (p := fun c => c == 45) (l := text.toList.drop s) (fun c hc' => by rw [hc.1 c hc']; rfl)
          rw [hn, List.length_drop, Array.length_toList] at this
          omega) sn h) n (s + (n + 1)) ((sn'.add 6).add 48) 32 (by omega) (fun j _ _ => h10 j) (by omega)
      obtain ⟨k, hk, r⟩ := hb
      exact ⟨k, by omega, r⟩
set_option maxRecDepth 20000 in
/-- a search behind the start -/
theorem c2_behind (hsz : text.size ≤ 1000) (h10 : ∀ j, text.getD j 0 ≠ 10) : ∀ (j s : Nat) (o : Bool) (sn : Seen), s + j = text.size → 0 < s →
    Ends (3000 * j + 3000) (St c2 text text.size false false s 5 s s o [ns s o] 1 none sn) (Ans2 text s) := by
  intro j
  induction j with
  | zero =>
    intro s o sn h hs0
    have hse : s = text.size := by omega
    have e9 : 3000 * 0 + 3000 = 2200 + 700 + 97 + 1 + 1 + 1 := by omega
    rw [e9]
    refine Ends.step rfl ?_
    rw [b_branch (by decide)]
    refine Ends.step rfl ?_
    rw [b_at0, if_neg (by simp; omega)]
    refine Ends.step rfl ?_
    rw [nb_second (by decide)]
    have hb := b_second (text := text) (last := text.size) (start := s) (must := false) (o := o) hsz h10 (s := s) (by omega) rfl rfl (Z := Ans2 text s) (N := 3) (fun _ h => absurd h (by omega)) (fun _ sn h => by
      refine Ends.step rfl ?_
      rw [ns_no (by omega)]
      refine Ends.step rfl ?_
      rw [done_no]
      exact Ends.now rfl (.inr ⟨fun b h1 h2 => absurd h2 (by omega), rfl⟩)) (((sn.add 7).add 6).add 43)
    obtain ⟨k, hk, r⟩ := hb
    exact ⟨k, by omega, r⟩
  | succ j ih =>
    intro s o sn h hs0
    have hs : s < text.size := by omega
    have e9 : 3000 * (j + 1) + 3000 = 2200 + (3000 * j + 3001) + 796 + 1 + 1 + 1 := by omega
    rw [e9]
    refine Ends.step rfl ?_
    rw [b_branch (by decide)]
    refine Ends.step rfl ?_
    rw [b_at0, if_neg (by simp; omega)]
    refine Ends.step rfl ?_
    rw [nb_second (by decide)]
    have hb := b_second (text := text) (last := text.size) (start := s) (must := false) (o := o) hsz h10 (s := s) (by omega) rfl rfl (Z := Ans2 text s) (N := 3000 * j + 3001) (fun ha _ sn => by
      refine Ends.step rfl ?_
      rw [done_yes]
      exact Ends.now rfl (.inl ⟨s, Nat.le_refl _, hs, ha, fun b' h1 h2 => absurd h2 (by omega), rfl, rfl, rfl⟩)) (fun hno sn h9 => by
      refine Ends.step rfl ?_
      rw [ns_on hs ⟨rfl, rfl⟩]
      obtain ⟨k, hk, h1, h2⟩ := ih (s + 1) false sn (by omega) (by omega)
      refine ⟨k, hk, h1, ?_⟩
      rcases h2 with ⟨b, q1, q2, q3, q4, q5⟩ | ⟨q1, q2⟩
      · refine .inl ⟨b, by omega, q2, q3, fun b' z1 z2 => ?_, q5⟩
        by_cases e : b' = s
        · rw [e]; exact fun z => hno ⟨z, hs⟩
        · exact q4 b' (by omega) z2
      · refine .inr ⟨fun b z1 z2 => ?_, q2⟩
        by_cases e : b = s
        · rw [e]; exact fun z => hno ⟨z, hs⟩
        · exact q1 b (by omega) z2) (((sn.add 7).add 6).add 43)
    obtain ⟨k, hk, r⟩ := hb
    exact ⟨k, by omega, r⟩
/-- the search from the start -/
def Ans0 (text : Array Nat) (r : M) : Prop := if runOf dbc text.toList = 0 then Ans2 text 0 r else Found r 0 (runOf dbc text.toList)
set_option maxRecDepth 20000 in
theorem c2_start (hsz : text.size ≤ 1000) (h10 : ∀ j, text.getD j 0 ≠ 10) (hpos : 0 < text.size) (sn : Seen) :
    Ends (3000 * text.size + 9000) (St c2 text text.size false false 0 5 0 0 true [ns 0 true] 1 none sn) (Ans0 text) := by
  have e9 : 3000 * text.size + 9000 = 3000 * text.size + 8990 + 1 + 1 + 1 + 1 + 1 + 1 + 1 + 1 + 1 + 1 := by omega
  rw [e9]
  refine Ends.step rfl ?_
  rw [b_branch (by decide)]
  refine Ends.step rfl ?_
  rw [b_at0, if_pos (by rfl)]
  cases hn : runOf dbc (text.toList.drop 0) with
  | zero =>
    obtain ⟨sn', e⟩ := rep_none (code := c2) (text := text) (last := text.size) (start := 0) (pc := 9) (pos := 0) (handed := 0) (wt := 2) (whole := false) (must := false) (o := true) (fs := [nb 6 0 true, ns 0 true]) (sn := ((sn.add 7).add 6).add 43) dbc (by decide) rfl rfl rfl hsz acc2a hn
    refine Ends.step rfl ?_
    rw [e]
    refine Ends.step rfl ?_
    rw [nb_second (by decide)]
    rw [List.drop_zero] at hn
    have h0 : ¬ AllDash (text.toList.drop 0) := fun ha => by
      rw [List.drop_zero] at ha
      have := all_runOf (p := dbc) (l := text.toList) (fun c hc => by rw [ha c hc]; rfl)
      rw [hn, Array.length_toList] at this
      omega
    have hb := b_second (text := text) (last := text.size) (start := 0) (must := false) (o := true) hsz h10 (s := 0) (by omega) rfl rfl (Z := Ans0 text) (N := 3000 * text.size + 3001) (fun ha _ _ => absurd ha h0) (fun hno sn h9 => by
      refine Ends.step rfl ?_
      rw [ns_on hpos ⟨rfl, rfl⟩]
      obtain ⟨k, hk, h1, h2⟩ := c2_behind hsz h10 (text.size - 1) 1 false sn (by omega) (by omega)
      refine ⟨k, by omega, h1, ?_⟩
      unfold Ans0
      rw [if_pos hn]
      rcases h2 with ⟨b, q1, q2, q3, q4, q5⟩ | ⟨q1, q2⟩
      · refine .inl ⟨b, by omega, q2, q3, fun b' z1 z2 => ?_, q5⟩
        by_cases e : b' = 0
        · rw [e]; exact h0
        · exact q4 b' (by omega) z2
      · refine .inr ⟨fun b z1 z2 => ?_, q2⟩
        by_cases e : b = 0
        · rw [e]; exact h0
        · exact q1 b (by omega) z2) sn'
    obtain ⟨k, hk, r⟩ := hb
    exact ⟨k, by omega, r⟩
  | succ n =>
    have hle := runOf_le dbc (text.toList.drop 0)
    rw [List.length_drop, Array.length_toList] at hle
    obtain ⟨sn', e⟩ := rep_some (code := c2) (text := text) (last := text.size) (start := 0) (pc := 9) (pos := 0) (handed := 0) (wt := 2) (whole := false) (must := false) (o := true) (fs := [nb 6 0 true, ns 0 true]) (sn := ((sn.add 7).add 6).add 43) dbc (by decide) rfl rfl rfl hsz (by decide) acc2a (by omega) hn
    refine Ends.step rfl ?_
    rw [e]
    refine Ends.step rfl ?_
    have hpc : 9 + 1 + c2.getD (9 + 1) 0 = 22 := rfl
    rw [hpc, b_jump1]
    refine Ends.step rfl ?_
    rw [step_ok (by decide) rfl (by rfl)]
    refine Ends.step rfl ?_
    rw [gb_yes]
    refine Ends.step rfl ?_
    rw [nb_yes]
    refine Ends.step rfl ?_
    rw [ns_yes]
    refine Ends.step rfl ?_
    rw [done_yes]
    refine Ends.now rfl ?_
    rw [List.drop_zero] at hn
    unfold Ans0
    rw [if_neg (by omega)]
    refine ⟨rfl, rfl, ?_⟩
    show 0 + (n + 1) = _
    omega
/-- what the second pattern's search says -/
def Ans2s (text : Array Nat) (s : Nat) (r : M) : Prop := if s = 0 then Ans0 text r else Ans2 text s r
set_option maxRecDepth 20000 in
theorem c2_from (hsz : text.size ≤ 1000) (h10 : ∀ j, text.getD j 0 ≠ 10) {s : Nat} (hs : s ≤ text.size) :
    Ends 4000000 (forSearch c2 text 0 s text.size false) (Ans2s text s) := by
  by_cases h : s < text.size
  · have e : forSearch c2 text 0 s text.size false = St c2 text text.size false false s 5 s s true [ns s true] 1 none (({} : Seen).add 14) := by
      unfold forSearch
      refine (if_neg ?_).trans ?_
      · simp only [Bool.or_eq_true, decide_eq_true_eq, not_or]
        exact ⟨by omega, by show ¬ text.size - s < 1; omega⟩
      · unfold M.attemptFrom
        rw [noFirst rfl ⟨rfl, rfl⟩]
        rfl
    rw [e]
    unfold Ans2s
    by_cases h0 : s = 0
    · subst h0
      obtain ⟨k, hk, r⟩ := c2_start hsz h10 h (({} : Seen).add 14)
      exact ⟨k, by omega, r⟩
    · obtain ⟨k, hk, r⟩ := c2_behind hsz h10 (text.size - s) s true (({} : Seen).add 14) (by omega) (by omega)
      exact ⟨k, by omega, r.1, by dsimp only; rw [if_neg h0]; exact r.2⟩
  · have hse : s = text.size := by omega
    have e : ∃ m, forSearch c2 text 0 s text.size false = M.say m false ∧ m.frames = [] ∧ m.outcome = none := by
      unfold forSearch
      exact ⟨_, if_pos (by simp only [Bool.or_eq_true, decide_eq_true_eq]; exact .inr (by show text.size - s < 1; omega)), rfl, rfl⟩
    obtain ⟨m, e, hf, ho⟩ := e
    rw [e]
    have hl : Lost (M.say m false).step := by
      unfold Lost M.step M.say
      rw [show ({ m with answer := some false } : M).outcome = none from ho, show ({ m with answer := some false } : M).frames = [] from hf]
      rfl
    refine Ends.step ho (Ends.now (by rw [hl]; rfl) ?_)
    have h2 : Ans2 text s (M.say m false).step := .inr ⟨fun b h1 h2 => absurd h2 (by omega), hl⟩
    unfold Ans2s
    by_cases h0 : s = 0
    · rw [if_pos h0]
      unfold Ans0
      have hz : text.toList = [] := by rw [← List.length_eq_zero_iff, Array.length_toList]; omega
      rw [if_pos (by rw [hz]; rfl), ← h0]
      exact h2
    · rw [if_neg h0]; exact h2
end
end Mine
end
local macro_rules | `(tactic| walk_at "none Rx2 0") => `(tactic| fail "none")
section
open PySem PySem.W PyProof.Rows
set_option maxRecDepth 100000
namespace Mine
open PySem.Builtin
theorem plainAttrs_pat : PlainAttrs "re.Pattern" :=
  ⟨⟨"object.__getattribute__", by rw [typeLookup_type, builtinLookup_eq_fast]; kernel_rfl, by decide +kernel⟩, by rw [typeLookup_type, builtinLookup_eq_fast]; kernel_rfl⟩
theorem slot_sub : Slot "re.Pattern" "sub" "re.Pattern.sub" :=
  .of (owner := "re.Pattern") (n := "sub") (by rw [typeLookup_type, builtinLookup_eq_fast]; kernel_rfl) (by decide +kernel) (by decide +kernel) (by decide +kernel)
    (by first | exact .inl (by decide +kernel) | exact .inr (by decide +kernel)) (by rw [isSubtype_type]; kernel_rfl)
theorem type_sub : typeOf (.builtin "re.Pattern.sub") = pure (.type "method_descriptor") := by show builtinType _ = _; rw [builtinType_eq_fast]; kernel_rfl
theorem entry_sub : entryFor table "re.Pattern.sub" = some Builtin.«re.Pattern.sub» := entryFor_of_tree (by kernel_rfl)
theorem args_sub (a b c : Value) : argsOk "re.Pattern.sub" ⟨[a, b, c], []⟩ := by unfold argsOk; kernel_rfl
theorem entry_loop : entryFor table "re.Pattern.sub.loop" = some Builtin.«re.Pattern.sub.loop» := entryFor_of_tree (by kernel_rfl)
theorem plain_loop : plainId "re.Pattern.sub.loop" = true := by decide +kernel
theorem slot_full : Slot "re.Pattern" "fullmatch" "re.Pattern.fullmatch" :=
  .of (owner := "re.Pattern") (n := "fullmatch") (by rw [typeLookup_type, builtinLookup_eq_fast]; kernel_rfl) (by decide +kernel) (by decide +kernel) (by decide +kernel)
    (by first | exact .inl (by decide +kernel) | exact .inr (by decide +kernel)) (by rw [isSubtype_type]; kernel_rfl)
theorem type_full : typeOf (.builtin "re.Pattern.fullmatch") = pure (.type "method_descriptor") := by show builtinType _ = _; rw [builtinType_eq_fast]; kernel_rfl
theorem entry_full : entryFor table "re.Pattern.fullmatch" = some Builtin.«re.Pattern.fullmatch» := entryFor_of_tree (by kernel_rfl)
theorem args_full (a b : Value) : argsOk "re.Pattern.fullmatch" ⟨[a, b], []⟩ := by unfold argsOk; kernel_rfl
theorem noCall_str : typeLookup (.type "str") "__call__" = pure none := by rw [typeLookup_type, builtinLookup_eq_fast]; kernel_rfl
end Mine
end
local macro_rules | `(tactic| walk_at "none Bt0 0") => `(tactic| fail "none")
section
open PySem PySem.W PyProof.Rows
set_option maxRecDepth 100000
namespace Mine
open PySem.Builtin PySem.Builtin.Re
section
variable {prog : Program} {w : World} {A : Around} {E : Value → Shared → Prop} {s : Shared}
theorem wp_drive : ∀ (n N : Nat) (m : Sre.M) (P : Sre.M → Prop) (Q : Sre.M → Shared → Prop), Ends N m P → N ≤ n → (∀ r, r.outcome.isSome = true → P r → Q r s) → wpAny (model prog w) A (reDrive (n + 1) m) Q E s := by
  intro n
  induction n with
  | zero =>
    intro N m P Q h hn hQ
    obtain ⟨ho, hp⟩ := h.at (k := 4) (by omega)
    unfold reDrive
    show wpAny _ _ (if (m.runFor 4).outcome.isSome = true then pure (m.runFor 4) else _) _ _ _
    rw [if_pos ho]
    exact wpAny_pure (hQ _ ho hp)
  | succ n ih =>
    intro N m P Q h hn hQ
    unfold reDrive
    show wpAny _ _ (if (m.runFor 4).outcome.isSome = true then pure (m.runFor 4) else _) _ _ _
    by_cases ho : (m.runFor 4).outcome.isSome = true
    · rw [if_pos ho]
      obtain ⟨k, hk, h1, h2⟩ := h
      refine wpAny_pure (hQ _ ho ?_)
      by_cases hk4 : k ≤ 4
      · have : (4 : Nat) = k + (4 - k) := by omega
        rw [this, runFor_add, runFor_done h1]
        exact h2
      · have : k = 4 + (k - 4) := by omega
        rw [this, runFor_add, runFor_done ho] at h2
        exact h2
    · rw [if_neg ho]
      refine wpAny_bind (wpAny_rule ?_)
      obtain ⟨k, hk, h1, h2⟩ := h
      by_cases hk4 : k ≤ 4
      · exfalso
        have : (4 : Nat) = k + (4 - k) := by omega
        rw [this, runFor_add, runFor_done h1] at ho
        exact ho h1
      · have e : k = 4 + (k - 4) := by omega
        rw [e, runFor_add] at h1 h2
        exact ih (N - 4) (m.runFor 4) P Q ⟨k - 4, by omega, h1, h2⟩ (by omega) hQ
theorem wp_rules {α : Type} (c : α → Bool) (tag : α → String) {Q : PUnit → Shared → Prop} (h : Q ⟨⟩ s) : ∀ l : List α, wpAny (model prog w) A (forIn l PUnit.unit fun i _ => if c i = true then (do rule (tag i); pure (ForInStep.yield PUnit.unit)) else pure (ForInStep.yield PUnit.unit)) Q E s := by
  intro l
  induction l with
  | nil => exact wpAny_pure h
  | cons a r ih =>
    rw [List.forIn_cons]
    refine wpAny_bind ?_
    cases c a with
    | true => exact wpAny_bind (wpAny_rule (wpAny_pure ih))
    | false => exact wpAny_pure ih
theorem wp_run {N : Nat} {m : Sre.M} {P : Sre.M → Prop} {Q : Option Sre.M → Shared → Prop} (h : Ends N m P) (hn : N < 2 ^ 64)
    (hst : ∀ r, P r → r.outcome = some .matched ∨ r.outcome = some .failed) (hf : ∀ r, P r → r.outcome = some .matched → Q (some r) s) (hl : ∀ r, P r → r.outcome = some .failed → Q none s) : wpAny (model prog w) A (reRunToEnd m) Q E s := by
  unfold reRunToEnd
  have e : (2 : Nat) ^ 64 = (2 ^ 64 - 1) + 1 := by decide
  rw [e]
  refine wpAny_bind (wp_drive (2 ^ 64 - 1) N m P _ h (by omega) fun r ho hp => ?_)
  refine wpAny_bind (wp_rules (fun i => r.seen.has i) (fun i => Sre.names.getD i "") ?_ _)
  rcases hst r hp with e | e
  · rw [e]; exact wpAny_pure (hf r hp e)
  · rw [e]; exact wpAny_pure (hl r hp e)
end
/-! an asked text, a pattern's fields -/
section
variable {prog : Program} {w : World} {A : Around} {E : Value → Shared → Prop} {s : Shared} {x : Str} {t : Tok}
theorem wp_textOf {Q : Array Nat × Nat → Shared → Prop} (h : Q (x.cps, 0) s) : wpAny (model prog w) A (reTextOf (.str x t)) Q E s := wpAny_pure h
/-- a pattern that stands in the heap with its code -/
structure PatAt (h : Heap) (a : Addr) (code : Array Nat) : Prop where
  ok : ∃ tp o ot pat fl n vs, h.get? a = some o ∧ o.cls = .type "re.Pattern" ∧ o.dict = none ∧ o.data = .fields #[pat, fl, .int 0 0, .none, .none, .ref tp, .int 0 0] ∧
    h.get? tp = some ot ∧ ot.data = .seq vs n ∧ (vs.map reRawOf).map (·.toNat) = code
theorem PatAt.typeIs {a : Addr} {code : Array Nat} (h : PatAt s.heap a code) : s.TypeIs (.ref a) "re.Pattern" := by
  obtain ⟨tp, o, ot, pat, fl, n, vs, ho, hc, _⟩ := h.ok
  exact ⟨o, ho, hc⟩
theorem PatAt.keeps {h h' : Heap} {a : Addr} {code : Array Nat} (p : PatAt h a code) (k : ∀ b o, h.get? b = some o → h'.get? b = some o) : PatAt h' a code := by
  obtain ⟨tp, o, ot, pat, fl, n, vs, ho, hc, hd, hf, ht, r⟩ := p.ok
  exact ⟨tp, o, ot, pat, fl, n, vs, k _ _ ho, hc, hd, hf, k _ _ ht, r⟩
theorem wp_whole {a : Addr} {code : Array Nat} {Q : ReTarget → Shared → Prop} (p : PatAt s.heap a code)
    (h : Q { pattern := .ref a, string := .str x t, code := code, text := x.cps, kind := 0, groups := 0, pos := 0, lim := x.cps.size } s) : wpAny (model prog w) A (reWholeTarget (.ref a) (.str x t)) Q E s := by
  obtain ⟨tp, o, ot, pat, fl, n, vs, ho, hc, hd, hf, ht, htd, hv⟩ := p.ok
  unfold reWholeTarget fieldsOf
  refine wpAny_bind (wpAny_bind (wpAny_load ho ?_))
  rw [hf]
  refine wpAny_pure (wpAny_bind (wp_textOf ?_))
  show wpAny _ _ (reNoCollectionInside (.str x t) 0 >>= fun _ => reRawItems (.ref tp) >>= fun l => pure _) _ _ _
  refine wpAny_bind (wpAny_pure ?_)
  unfold reRawItems seqItems?
  refine wpAny_bind (wpAny_bind (wpAny_bind (wpAny_load ht ?_)))
  rw [htd]
  refine wpAny_pure (wpAny_pure (wpAny_pure ?_))
  subst hv
  exact h
theorem wp_slice {text : Array Nat} {b e : Nat} {Q : Value → Shared → Prop} (h : Q (.str ⟨text.extract b e⟩ s.toks) { s with toks := s.toks + 1 }) (hsz : text.size ≤ sizeLine) : wpAny (model prog w) A (reSlice text 0 b e) Q E s :=
  wpAny_mkStr h (by show (text.extract b e).size ≤ sizeLine; rw [Array.size_extract]; omega)
theorem lit_ok {Q : Unit → Shared → Prop} {y : Str} {u : Tok} (h : Q () s) : wpAny (model prog w) A (reLiteralCannotBeTurned (.str y u)) Q E s := by
  unfold reLiteralCannotBeTurned
  exact wpAny_bind (wpAny_pure (wpAny_pure h))
end
/-! the texts that a replacement puts together -/
def subRest (text : Array Nat) (y : Str) (next : Nat → Option (Nat × Nat)) : Nat → Nat → List Str
  | 0, _ => []
  | k + 1, start => match next start with
    | none => if start < text.size then [⟨text.extract start text.size⟩] else []
    | some (b, e) => (if start < b then [⟨text.extract start b⟩] else []) ++ y :: subRest text y next k e
/-- a search's answers, as a function says them -/
def Says (code text : Array Nat) (next : Nat → Option (Nat × Nat)) : Prop :=
  ∀ start, start ≤ text.size → Ends 4000000 (Sre.forSearch code text 0 start text.size false) (fun r => match next start with
    | none => r.outcome = some .failed
    | some (b, e) => Found r b e ∧ start ≤ b ∧ b < e ∧ e ≤ text.size)
section
variable {prog : Program} {w : World} {A : Around} {E : Value → Shared → Prop} {hb : Heap} {a D : Addr} {code : Array Nat} {x y : Str} {t u : Tok} {next : Nat → Option (Nat × Nat)} {R : Result → Shared → Prop}
theorem wp_push {s : Shared} {vs : List Value} {v : Value} {c : Nat} {Q : Unit → Shared → Prop} (ho : s.heap.get? D = some { cls := .type "list", data := .seq vs.toArray c })
    (h : ∀ h', Heap.SameBut D s.heap h' → h'.get? D = some { cls := .type "list", data := .seq (vs ++ [v]).toArray (c + 1) } → Q () { s with heap := h' }) (hz : vs.length ≤ 10000) : wpAny (model prog w) A (updateSeq D fun x => x.push v) Q E s := by
  refine wpAny_updateSeq (hz := by rw [List.size_toArray, sizeLine_eq]; omega) (_hz' := by rw [Array.size_push, List.size_toArray, sizeLine_eq]; omega) ho rfl (h _ (Heap.SameBut.update ..) ?_)
  rw [Heap.get?_update_self _ ho (by rw [mapSeq_push]; rfl), mapSeq_push]
  simp
theorem keep_but {h h' : Heap} (hD : hb.get? D = none) (hk : ∀ b o, hb.get? b = some o → h.get? b = some o) (hs : Heap.SameBut D h h') : ∀ b o, hb.get? b = some o → h'.get? b = some o :=
  fun b o e => hs.extBut b o (fun q => by rw [q, hD] at e; cases e) (hk b o e)
theorem loop_code (hsz : x.length ≤ 1000) (hy : y.length ≤ 1) (P : PatAt hb a code) (hD : hb.get? D = none) (S : Says code x.cps next) : ∀ (k start n : Nat) (s : Shared) (vs : List Value) (ps : List Str) (c : Nat),
    x.length - start < k → start ≤ x.length → (∀ b o, hb.get? b = some o → s.heap.get? b = some o) → s.heap.get? D = some { cls := .type "list", data := .seq vs.toArray c } → StrsAre vs ps → ps.length ≤ 2 * start + 2 → (ps.map (·.length)).sum ≤ 3 * start →
    (∀ t' h' tk', (∀ b o, hb.get? b = some o → h'.get? b = some o) → R (.ok (.ret (.str (Txt.join Str.empty (ps ++ subRest x.cps y next k start)) t'))) { s with heap := h', toks := tk' }) →
    codeAny (model prog w) A (.builtin "re.Pattern.sub.loop" ⟨[.ref a, .str x t, .str y u, rawInt 0, rawInt 0, rawInt n, rawInt start, rawInt start, .bool false, .ref D, .bool false], []⟩) R s := by
  intro k
  induction k with
  | zero => intro start n s vs ps c h; omega
  | succ k ih =>
    intro start n s vs ps c hk hst hkeep hDo hps hpl hpw hR
    refine codeAny_builtin entry_loop ?_
    rw [Around.under_plainId plain_loop]
    unfold Builtin.«re.Pattern.sub.loop» rawInt
    dsimp only
    refine wpAny_bind (wp_whole (P.keeps hkeep) ?_)
    simp only [beq_self_eq_true, if_true, bne_self_eq_false, Bool.false_and, Bool.false_eq_true, if_false, Int.toNat_natCast]
    refine wpAny_bind (lit_ok ?_)
    have hvl := hps.length
    have hr := S start hst
    refine wpAny_bind (wp_run hr (by decide) (fun r hp => ?_) (fun r hp hm => ?_) (fun r hp hm => ?_))
    · cases hn : next start with
      | none => rw [hn] at hp; exact .inr hp
      | some be => rw [hn] at hp; exact .inl hp.1.1
    · cases hn : next start with
      | none => rw [hn] at hp; rw [hm] at hp; cases hp
      | some be =>
        obtain ⟨b, e⟩ := be
        rw [hn] at hp
        dsimp only at hp
        obtain ⟨⟨_, hb1, hb2⟩, h1, h2, h3⟩ := hp
        have go : ∀ (s : Shared) (vs : List Value) (ps : List Str) (c : Nat), (∀ b o, hb.get? b = some o → s.heap.get? b = some o) → s.heap.get? D = some { cls := .type "list", data := .seq vs.toArray c } → StrsAre vs ps → ps.length ≤ 2 * start + 3 → (ps.map (·.length)).sum ≤ 3 * b →
            (∀ t' h' tk', (∀ b o, hb.get? b = some o → h'.get? b = some o) → R (.ok (.ret (.str (Txt.join Str.empty (ps ++ y :: subRest x.cps y next k e)) t'))) { s with heap := h', toks := tk' }) →
            wpAny (model prog w) A.in1 (updateSeq D (fun x => x.push (.str y u)) >>= fun _ => again (Code.builtin "re.Pattern.sub.loop" { pos := [Value.ref a, Value.str x t, Value.str y u, Value.int 0 0, Value.int 0 0, Value.int (↑n + 1) 0, Value.int (↑r.handed) 0, Value.int (↑r.handed) 0, Value.bool (r.handed == b), Value.ref D, Value.bool false] }))
              (fun fin s' => match fin with | .done f => R (.ok f) s' | .again c' => c'.quiet = true ∧ codeAny (model prog w) A c' R s') (fun e s' => R (.error e) s') s := by
          intro s vs ps c hkeep hDo hps hpl hpw hR
          have hvl := hps.length
          refine wpAny_bind (wp_push hDo (fun h' hs' hD' => ?_) (by have : x.length ≤ 1000 := hsz; have := h3; omega))
          refine wpAny_pure ⟨plainId_quiet plain_loop _, ?_⟩
          have e1 : (r.handed == b) = false := by rw [hb2, beq_eq_false_iff_ne]; omega
          rw [e1, hb2]
          refine ih e (n + 1) { s with heap := h' } _ (ps ++ [y]) (c + 1) (by have : e ≤ x.length := h3; omega) h3 (keep_but hD hkeep hs') hD' (hps.append' (.cons _ _ .nil)) (by rw [List.length_append]; simp; omega) (by rw [List.map_append, List.sum_append]; simp; omega) (fun t' h' tk' hk' => ?_)
          rw [List.append_assoc]
          exact hR t' h' tk' hk'
        dsimp only
        rw [hb1]
        have hsub : subRest x.cps y next (k + 1) start = (if start < b then [⟨x.cps.extract start b⟩] else []) ++ y :: subRest x.cps y next k e := by
          show (match next start with | none => _ | some (b, e) => _) = _
          rw [hn]
        rw [hsub] at hR
        by_cases hlt : start < b
        · rw [if_pos hlt] at hR ⊢
          refine wpAny_bind (wp_slice ?_ (by rw [sizeLine_eq]; have : x.cps.size ≤ 1000 := hsz; omega))
          refine wpAny_bind (wp_push hDo (fun h' hs' hD' => ?_) (by have : x.length ≤ 1000 := hsz; omega))
          refine wpAny_bind (wpAny_pure ?_)
          rw [if_pos (show (Value.str y u != Value.none) = true from rfl)]
          refine go { s with heap := h', toks := s.toks + 1 } _ (ps ++ [⟨x.cps.extract start b⟩]) (c + 1) (keep_but hD hkeep hs') hD' (hps.append' (.cons _ _ .nil)) (by rw [List.length_append]; simp; omega) ?_ (fun t' h' tk' hk' => by rw [List.append_assoc]; exact hR t' h' tk' hk')
          rw [List.map_append, List.sum_append]
          have : PySem.Str.length ⟨x.cps.extract start b⟩ = b - start := by show (x.cps.extract start b).size = _; rw [Array.size_extract]; omega
          simp only [List.map_cons, List.map_nil, List.sum_cons, List.sum_nil, this]
          omega
        · rw [if_neg hlt] at hR ⊢
          refine wpAny_bind (wpAny_pure ?_)
          rw [if_pos (show (Value.str y u != Value.none) = true from rfl)]
          exact go s vs ps c hkeep hDo hps (by omega) (by omega) hR
    · cases hn : next start with
      | some be => rw [hn] at hp; obtain ⟨⟨q, _⟩, _⟩ := hp; rw [hm] at q; cases q
      | none =>
        have hsub : subRest x.cps y next (k + 1) start = if start < x.cps.size then [⟨x.cps.extract start x.cps.size⟩] else [] := by
          show (match next start with | none => _ | some (b, e) => _) = _
          rw [hn]
        rw [hsub] at hR
        dsimp only
        have fin : ∀ (s : Shared) (vs : List Value) (ps : List Str) (c : Nat), (∀ b o, hb.get? b = some o → s.heap.get? b = some o) → s.heap.get? D = some { cls := .type "list", data := .seq vs.toArray c } → StrsAre vs ps → (ps.map (·.length)).sum ≤ 16777216 →
            (∀ t' h' tk', (∀ b o, hb.get? b = some o → h'.get? b = some o) → R (.ok (.ret (.str (Txt.join Str.empty ps) t'))) { s with heap := h', toks := tk' }) →
            wpAny (model prog w) A.in1 (do
              let joiner ← reSlice x.cps 0 0 0
              let __do_lift ← seqItems? (Value.ref D)
              if (__do_lift.getD #[]).isEmpty = true then do
                  let __do_lift ← pure joiner
                  ret __do_lift
                else do
                  let __do_lift ← call (Value.builtin "str.join") [joiner, Value.ref D]
                  ret __do_lift)
              (fun fin s' => match fin with | .done f => R (.ok f) s' | .again c' => c'.quiet = true ∧ codeAny (model prog w) A c' R s') (fun e s' => R (.error e) s') s := by
          intro s vs ps c hkeep hDo hps hpw hR
          refine wpAny_bind (wp_slice ?_ (by rw [sizeLine_eq]; have : x.cps.size ≤ 1000 := hsz; omega))
          have e0 : (⟨x.cps.extract 0 0⟩ : Str) = Str.empty := by
            refine Str.ext' ?_
            show x.cps.extract 0 0 = #[]
            apply Array.eq_empty_of_size_eq_zero
            rw [Array.size_extract]; omega
          rw [e0]
          unfold seqItems?
          refine wpAny_bind (wpAny_bind (wpAny_load (s := { s with toks := s.toks + 1 }) hDo ?_))
          refine wpAny_pure ?_
          cases ps with
          | nil =>
            have hv := hps.nil_inv
            subst hv
            refine wpAny_bind (wpAny_pure (wpAny_pure ?_))
            exact hR _ s.heap _ hkeep
          | cons z zs =>
            obtain ⟨t1, vs', hv, _⟩ := hps.cons_inv
            subst hv
            refine wpAny_bind (join_list (ys := z :: zs) ⟨_, hDo, rfl, _, rfl⟩ (by simpa using hps) (by show _ + _ * 0 ≤ _; omega) (fun t' k => wpAny_pure ?_))
            exact hR t' s.heap k hkeep
        by_cases hlt : start < x.cps.size
        · rw [if_pos hlt] at hR ⊢
          refine wpAny_bind (wp_slice ?_ (by rw [sizeLine_eq]; have : x.cps.size ≤ 1000 := hsz; omega))
          refine wpAny_bind (wp_push hDo (fun h' hs' hD' => ?_) (by have : x.length ≤ 1000 := hsz; omega))
          refine fin { s with heap := h', toks := s.toks + 1 } _ (ps ++ [⟨x.cps.extract start x.cps.size⟩]) (c + 1) (keep_but hD hkeep hs') hD' (hps.append' (.cons _ _ .nil)) ?_ hR
          rw [List.map_append, List.sum_append]
          have : PySem.Str.length ⟨x.cps.extract start x.cps.size⟩ = x.cps.size - start := by show (x.cps.extract start x.cps.size).size = _; rw [Array.size_extract]; omega
          have hs1 : x.cps.size ≤ 1000 := hsz
          simp only [List.map_cons, List.map_nil, List.sum_cons, List.sum_nil, this]
          omega
        · rw [if_neg hlt] at hR ⊢
          have hs1 : x.length ≤ 1000 := hsz
          exact fin s vs ps c hkeep hDo hps (by omega) (by rw [List.append_nil] at hR; exact hR)
end
end Mine
end
local macro_rules | `(tactic| walk_at "none Bt 0") => `(tactic| fail "none")
section
open PySem PySem.W PyProof.Rows
set_option maxRecDepth 100000
namespace Mine
open PySem.Builtin PySem.Builtin.Re
theorem named_sub (r x : Value) : reNamed "re.Pattern.sub" "sub" ["repl", "string", "count"] 2 [r, x] [] = pure [some r, some x, none] := by kernel_rfl
theorem named_full (x : Value) : reNamed "re.Pattern.fullmatch" "fullmatch" ["string", "pos", "endpos"] 1 [x] [] = pure [some x, none, none] := by kernel_rfl
section
variable {prog : Program} {w : World} {A : Around} {E : Value → Shared → Prop} {s : Shared} {a : Addr} {code : Array Nat} {x y : Str} {t u : Tok} {next : Nat → Option (Nat × Nat)}
theorem meets_sub (hsz : x.length ≤ 1000) (hy : y.length ≤ 1) (hc : y.cps.contains 92 = false) (S : Says code x.cps next) :
    Meets (Builtin.«re.Pattern.sub» ⟨[.ref a, .str y u, .str x t], []⟩) (fun _ R s => PatAt s.heap a code ∧ ∀ t' h' tk', (∀ b o, s.heap.get? b = some o → h'.get? b = some o) →
      R (.ok (.ret (.str (Txt.join Str.empty (subRest x.cps y next (x.length + 1) 0)) t'))) { s with heap := h', toks := tk' }) := by
  intro prog w A R s hS
  obtain ⟨P, hR⟩ := hS
  unfold Builtin.«re.Pattern.sub» reSubstitute
  dsimp only
  rw [named_sub]
  refine wpAny_bind (wpAny_pure ?_)
  dsimp only
  refine wpAny_bind (wpAny_pure ?_)
  refine wpAny_bind (wpAny_specialOf (typeIs_str _ _ _) noCall_str ?_)
  simp only [Option.isSome_none, Bool.false_eq_true, if_false]
  refine wpAny_bind (wpAny_pure ?_)
  simp only [hc, Bool.not_false]
  refine wpAny_bind (wpAny_pure ?_)
  simp only [if_true]
  refine wpAny_bind (wpAny_pure ?_)
  dsimp only
  refine wpAny_bind (wpAny_holding (wp_whole P ?_))
  rw [if_neg (by decide)]
  refine wpAny_bind (wpAny_newObj_type ?_)
  refine wpAny_pure ⟨plainId_quiet plain_loop _, ?_⟩
  have hD : s.heap.get? s.heap.objs.size = none := Heap.get?_none_of_le (Nat.le_refl _)
  exact loop_code hsz hy P hD S (x.length + 1) 0 0 _ [] [] 0 (by omega) (Nat.zero_le _) (fun b o e => Heap.get?_push_of_some _ e) (Heap.get?_push_size _ rfl) .nil (Nat.zero_le _) (Nat.zero_le _) (fun t' h' tk' hk => hR t' h' tk' hk)
theorem sub_call {Q : Value → Shared → Prop} (hsz : x.length ≤ 1000) (hy : y.length ≤ 1) (hc : y.cps.contains 92 = false) (S : Says code x.cps next) (P : PatAt s.heap a code)
    (h : ∀ t' h' tk', (∀ b o, s.heap.get? b = some o → h'.get? b = some o) → Q (.str (Txt.join Str.empty (subRest x.cps y next (x.length + 1) 0)) t') { s with heap := h', toks := tk' }) :
    wpAny (model prog w) A (call (.builtin "re.Pattern.sub") [.ref a, .str y u, .str x t]) Q E s :=
  call_meets slot_sub P.typeIs entry_sub (args_sub _ _ _) (meets_sub hsz hy hc S) ⟨P, h⟩
theorem meets_full (hsz : x.length ≤ 1000) :
    Meets (Builtin.«re.Pattern.fullmatch» ⟨[.ref a, .str x t], []⟩) (fun _ R s => PatAt s.heap a c3 ∧
      (runOf nmc x.cps.toList = x.cps.size ∧ x.cps.size ≠ 0 → ∀ tp h' tk', (∀ b o, s.heap.get? b = some o → h'.get? b = some o) → (∃ o, h'.get? tp = some o ∧ o.cls = .type "re.Match" ∧ ∀ es n, o.data ≠ .dict es n) → s.heap.get? tp = none → R (.ok (.ret (.ref tp))) { s with heap := h', toks := tk' }) ∧
      (¬ (runOf nmc x.cps.toList = x.cps.size ∧ x.cps.size ≠ 0) → R (.ok (.ret .none)) s)) := by
  intro prog w A R s hS
  obtain ⟨P, hy, hn⟩ := hS
  unfold Builtin.«re.Pattern.fullmatch» reTarget
  dsimp only
  rw [named_full]
  obtain ⟨tp, o, ot, pat, fl, n, vs, ho, hc, hd, hf, ht, htd, hv⟩ := P.ok
  refine wpAny_bind (wpAny_bind (wpAny_pure ?_))
  dsimp only
  refine wpAny_bind (wpAny_pure (wpAny_bind (wpAny_pure ?_)))
  unfold fieldsOf
  refine wpAny_bind (wpAny_bind (wpAny_load ho ?_))
  rw [hf]
  refine wpAny_pure (wpAny_bind (wp_textOf ?_))
  show wpAny _ _ (reNoCollectionInside (.str x t) 0 >>= fun _ => reRawItems (.ref tp) >>= fun l => pure _) _ _ _
  refine wpAny_bind (wpAny_pure ?_)
  unfold reRawItems seqItems?
  refine wpAny_bind (wpAny_bind (wpAny_bind (wpAny_load ht ?_)))
  rw [htd]
  refine wpAny_pure (wpAny_pure (wpAny_pure ?_))
  dsimp only
  have e0 : (Min.min (Int.toNat 0) x.cps.size) = 0 := by show min 0 _ = 0; exact Nat.zero_min _
  have e1 : (Min.min ((2 : Int) ^ 63 - 1).toNat x.cps.size) = x.cps.size := by
    have : x.cps.size ≤ 1000 := hsz
    exact Nat.min_eq_right (Nat.le_trans this (by decide))
  have e2 : (Array.map (fun x : Int => x.toNat) (Array.map reRawOf ((some vs).getD #[]))) = c3 := hv
  rw [e0, e1, e2]
  show wpAny _ _ (reAnswer { pattern := Value.ref a, string := Value.str x t, code := c3, text := x.cps, kind := 0, groups := 0, pos := 0, lim := x.cps.size } (Sre.forMatch c3 x.cps 0 0 x.cps.size true false)) _ _ _
  unfold reAnswer
  refine wpAny_bind (wp_run (c3_from hsz) (by decide) (fun r hp => ?_) (fun r hp hm => ?_) (fun r hp hm => ?_))
  · by_cases hq : runOf nmc x.cps.toList = x.cps.size ∧ x.cps.size ≠ 0
    · rw [if_pos hq] at hp; exact .inl hp
    · rw [if_neg hq] at hp; exact .inr hp
  · by_cases hq : runOf nmc x.cps.toList = x.cps.size ∧ x.cps.size ≠ 0
    · show wpAny _ _ (reNewMatch (.ref a) (.str x t) 0 0 x.cps.size r >>= fun v => ret v) _ _ _
      unfold reNewMatch
      simp only [List.range_zero, List.flatMap_nil, List.any_nil, Bool.false_eq_true, if_false]
      refine wpAny_bind (wpAny_bind (wpAny_newObj_type (wpAny_newObj_type (wpAny_pure ?_))))
      refine hy hq _ _ _ (fun b o e => Heap.get?_push_of_some _ (Heap.get?_push_of_some _ e)) ⟨_, Heap.get?_push_size _ rfl, rfl, fun es n q => by cases q⟩ ?_
      exact Heap.get?_none_of_le (by rw [Heap.size_push]; exact Nat.le_succ _)
    · rw [if_neg hq] at hp; rw [show r.outcome = _ from hp] at hm; cases hm
  · by_cases hq : runOf nmc x.cps.toList = x.cps.size ∧ x.cps.size ≠ 0
    · rw [if_pos hq] at hp; rw [hp] at hm; cases hm
    · exact wpAny_pure (hn hq)
theorem full_call {Q : Value → Shared → Prop} (hsz : x.length ≤ 1000) (P : PatAt s.heap a c3)
    (hy : runOf nmc x.cps.toList = x.cps.size ∧ x.cps.size ≠ 0 → ∀ tp h' tk', (∀ b o, s.heap.get? b = some o → h'.get? b = some o) → (∃ o, h'.get? tp = some o ∧ o.cls = .type "re.Match" ∧ ∀ es n, o.data ≠ .dict es n) → s.heap.get? tp = none → Q (.ref tp) { s with heap := h', toks := tk' })
    (hn : ¬ (runOf nmc x.cps.toList = x.cps.size ∧ x.cps.size ≠ 0) → Q .none s) :
    wpAny (model prog w) A (call (.builtin "re.Pattern.fullmatch") [.ref a, .str x t]) Q E s :=
  call_meets slot_full P.typeIs entry_full (args_full _ _) (meets_full hsz) ⟨P, hy, hn⟩
theorem method_sub {pl : Sem Bool} {Q : Value × List Value → Shared → Prop} (P : PatAt s.heap a code) (h : Q (.builtin "re.Pattern.sub", [.ref a]) s) : wpAny (model prog w) A (getMethod (.ref a) "sub" pl) Q E s :=
  getMethod_builtin P.typeIs plainAttrs_pat slot_sub type_sub (fun b e => by cases e; obtain ⟨tp, o, _, _, _, _, _, ho, _, hd, _⟩ := P.ok; exact ⟨o, ho, hd⟩) h
theorem method_full {pl : Sem Bool} {Q : Value × List Value → Shared → Prop} (P : PatAt s.heap a code) (h : Q (.builtin "re.Pattern.fullmatch", [.ref a]) s) : wpAny (model prog w) A (getMethod (.ref a) "fullmatch" pl) Q E s :=
  getMethod_builtin P.typeIs plainAttrs_pat slot_full type_full (fun b e => by cases e; obtain ⟨tp, o, _, _, _, _, _, ho, _, hd, _⟩ := P.ok; exact ⟨o, ho, hd⟩) h
end
end Mine
end
local macro_rules | `(tactic| walk_at "none Bu 0") => `(tactic| fail "none")
section
open PySem PySem.W PyProof.Rows
set_option maxRecDepth 100000
namespace Mine
open PySem.Builtin PySem.Builtin._codecs
theorem findIdx_run (p : Nat → Bool) : ∀ l : List Nat, (l.findIdx? p).getD l.length = runOf (fun c => !p c) l
  | [] => rfl
  | a :: r => by
    have ih := findIdx_run p r
    unfold runOf
    rw [List.findIdx?_cons]
    cases h : p a with
    | true => simp
    | false =>
      simp only [Bool.false_eq_true, if_false, Bool.not_false, if_true]
      rw [← ih]
      cases List.findIdx? p r <;> simp
theorem arr_run (p : Nat → Bool) (a : Array Nat) : (a.findIdx? p).getD a.size = runOf (fun c => !p c) a.toList := by
  rw [← findIdx_run]
  obtain ⟨l⟩ := a
  simp
theorem runOf_filter (p : Nat → Bool) : ∀ l : List Nat, (l.take (runOf p l)).filter p = l.take (runOf p l)
  | [] => rfl
  | a :: r => by
    unfold runOf
    cases h : p a with
    | true => simp only [if_true, List.take_succ_cons, List.filter_cons, h]; rw [runOf_filter p r]
    | false => simp
theorem runOf_filterN (p : Nat → Bool) : ∀ l : List Nat, (l.take (runOf (fun c => !p c) l)).filter p = []
  | [] => rfl
  | a :: r => by
    unfold runOf
    cases h : p a with
    | true => simp
    | false => simp only [Bool.not_false, if_true, List.take_succ_cons, List.filter_cons, h, Bool.false_eq_true, if_false]; exact runOf_filterN p r
/-- the signs that ASCII has -/
def asc (l : List Nat) : List Nat := l.filter (fun c => !decide (c ≥ 128))
def ascB (l : List Nat) : Array UInt8 := ((asc l).map (·.toUInt8)).toArray
section
variable {prog : Program} {w : World} {A : Around} {E : Value → Shared → Prop} {s : Shared} {x : Str} {t : Tok}
theorem wp_forIn {σ : Type} {f : Nat → σ → Sem (ForInStep σ)} (I : Nat → σ → Prop) {Q : σ → Shared → Prop}
    (step : ∀ a st k, I (k + 1) st → wpAny (model prog w) A (f a st) (fun r s' => match r with | .done st' => Q st' s' | .yield st' => s' = s ∧ I k st') E s) (fin : ∀ st, I 0 st → Q st s) :
    ∀ (l : List Nat) (st : σ), I l.length st → wpAny (model prog w) A (forIn l st f) Q E s := by
  intro l
  induction l with
  | nil => intro st h; exact wpAny_pure (fin st h)
  | cons a r ih =>
    intro st h
    rw [List.forIn_cons]
    refine wpAny_bind (wpAny_mono (step a st r.length h) (fun q s' hq => ?_) fun _ _ e => e)
    cases q with
    | done st' => exact wpAny_pure hq
    | yield st' => obtain ⟨rfl, hI⟩ := hq; exact ih st' hI
theorem fold_bytes : ∀ (l : List Nat) (acc : Array UInt8), l.foldl (fun acc y => acc ++ (asciiCodec.bytesOf y).toArray) acc = acc ++ (l.map (·.toUInt8)).toArray
  | [], acc => by simp
  | a :: r, acc => by
    rw [List.foldl_cons, fold_bytes r]
    show acc ++ #[a.toUInt8] ++ _ = _
    simp
theorem wp_narrow {Q : Array UInt8 → Shared → Prop} (hx : x.length ≤ 1000) (h : Q (ascB x.cps.toList) s) : wpAny (model prog w) A (encodeNarrow "str.encode" asciiCodec (some (Str.ofString "ignore")) (.str x t) x) Q E s := by
  unfold encodeNarrow
  have e : (((some (Str.ofString "ignore")).getD "strict").toString) = "ignore" := by decide +kernel
  simp only [e]
  rw [Std.Legacy.Range.forIn_eq_forIn_range']
  have hsz : x.cps.size ≤ 1000 := hx
  refine wpAny_bind (wp_forIn (s := s) (fun k (st : Nat × Array UInt8 × Faults) => st.1 ≤ x.cps.size ∧ x.cps.size - st.1 ≤ k ∧ st.2.1 = ascB (x.cps.toList.take st.1)) ?_ ?_ _ _ ?_)
  · rintro a ⟨i, out, st⟩ k ⟨h1, h2, h3⟩
    dsimp only at h1 h2 h3 ⊢
    have hout : out.size ≤ 1000 := by
      rw [h3]
      unfold ascB asc
      rw [List.size_toArray, List.length_map]
      exact Nat.le_trans (List.length_filter_le _ _) (by rw [List.length_take, Array.length_toList]; omega)
    rw [if_neg (by rw [sizeLine_eq]; omega)]
    by_cases hi : i < x.cps.size
    · have he : x.cps[i]? = some x.cps[i] := by simp [hi]
      rw [he]
      dsimp only
      have er : (x.cps.extract i).toList = x.cps.toList.drop i := by
        simp only [Array.toList_extract, List.extract_eq_take_drop]
        exact List.take_of_length_le (by rw [List.length_drop, Array.length_toList]; omega)
      have ed := drop_at (text := x.cps) hi
      have hext : (x.cps.extract i).size = x.cps.size - i := by simp
      cases hb : asciiCodec.bad x.cps[i] with
      | false =>
        simp only [Bool.not_false, if_true]
        refine wpAny_pure ⟨rfl, ?_⟩
        dsimp only
        rw [arr_run, er]
        have hr : runOf (fun c => !asciiCodec.bad c) (x.cps.toList.drop i) = runOf (fun c => !asciiCodec.bad c) (x.cps.toList.drop (i + 1)) + 1 := by
          rw [ed]; simp [runOf, hb]
        have hle := runOf_le (fun c => !asciiCodec.bad c) (x.cps.toList.drop i)
        rw [List.length_drop, Array.length_toList] at hle
        refine ⟨by omega, by omega, ?_⟩
        rw [← Array.foldl_toList, fold_bytes, h3]
        have et : (Array.extract (x.cps.extract i) 0 (runOf (fun c => !asciiCodec.bad c) (x.cps.toList.drop i))).toList = (x.cps.toList.drop i).take (runOf (fun c => !asciiCodec.bad c) (x.cps.toList.drop i)) := by
          rw [Array.toList_extract, er]
          simp [List.extract_eq_take_drop]
        rw [et]
        have ef := runOf_filter (fun c => !asciiCodec.bad c) (x.cps.toList.drop i)
        unfold ascB
        rw [List.take_add]
        unfold asc
        rw [List.filter_append]
        rw [show (fun c => !decide (c ≥ 128)) = (fun c : Nat => !asciiCodec.bad c) from rfl, ef]
        simp
      | true =>
        simp only [Bool.not_true, Bool.false_eq_true, if_false]
        refine wpAny_bind (wpAny_rule (wpAny_pure ⟨rfl, ?_⟩))
        dsimp only
        have e9 : x.cps.size - i = (x.cps.extract i).size := by rw [hext]
        rw [e9, arr_run, er]
        have hr : runOf (fun c => !!asciiCodec.bad c) (x.cps.toList.drop i) = runOf (fun c => !!asciiCodec.bad c) (x.cps.toList.drop (i + 1)) + 1 := by
          rw [ed]; simp [runOf, hb]
        have hle := runOf_le (fun c => !!asciiCodec.bad c) (x.cps.toList.drop i)
        rw [List.length_drop, Array.length_toList] at hle
        refine ⟨by omega, by omega, ?_⟩
        rw [h3]
        have ef := runOf_filterN (fun c => !asciiCodec.bad c) (x.cps.toList.drop i)
        unfold ascB
        rw [List.take_add]
        unfold asc
        rw [List.filter_append]
        rw [show (fun c => !decide (c ≥ 128)) = (fun c : Nat => !asciiCodec.bad c) from rfl, ef]
        simp
    · have he : x.cps[i]? = none := by simp; omega
      rw [he]
      refine wpAny_pure ?_
      dsimp only
      refine wpAny_pure ?_
      have : i = x.cps.size := by omega
      rw [h3, this, ← Array.length_toList, List.take_length]
      exact h
  · rintro ⟨i, out, st⟩ ⟨h1, h2, h3⟩
    dsimp only at h1 h2 h3
    refine wpAny_pure ?_
    have : i = x.cps.size := by omega
    dsimp only
    rw [h3, this, ← Array.length_toList, List.take_length]
    exact h
  · refine ⟨Nat.zero_le _, ?_, ?_⟩
    · rw [List.length_range']
      show x.cps.size - 0 ≤ _
      simp [Std.Legacy.Range.size, Str.length]
    · rw [List.take_zero]; rfl
theorem road_ascii (id : String) (v : Value) (y : Str) (er : Option Str) : encodeRoad id v y (Str.ofString "ascii") er = (encodeNarrow id asciiCodec er v y >>= fun b => mkBytes b) := by kernel_rfl
theorem encode_eq {u v : Tok} : Builtin.«str.encode» ⟨[.str x t, .str (Str.ofString "ascii") u, .str (Str.ofString "ignore") v], []⟩ = (encodeRoad "str.encode" (.str x t) x (Str.ofString "ascii") (some (Str.ofString "ignore")) >>= fun r => ret r) := by kernel_rfl
theorem droad_ascii (id : String) (b : Array UInt8) : decodeRoad id b (Str.ofString "ascii") none [] = (runDecoder id asciiDecoder none true b 0 [] >>= fun r => mkStr ⟨r.1⟩) := by kernel_rfl
theorem decode_eq {c : UInt8} {cs : List UInt8} {u : Tok} : Builtin.«bytes.decode» ⟨[.bytes (c :: cs).toArray t, .str (Str.ofString "ascii") u], []⟩ = (mkStr (PySem.Str.ofString "utf-8") >>= fun _ => mkStr (PySem.Str.ofString "ascii") >>= fun e => mkStr (PySem.Str.ofString "bytes.decode") >>= fun d =>
    call (.builtin "_codecs.decode.text") [.bytes (c :: cs).toArray t, e, .none, d] >>= fun v => ret v) := by kernel_rfl
theorem decode_nil {u : Tok} : Builtin.«bytes.decode» ⟨[.bytes ([] : List UInt8).toArray t, .str (Str.ofString "ascii") u], []⟩ = (rule "bytes.decode.empty" >>= fun _ => retStr Str.empty) := by kernel_rfl
theorem wp_dec {b : Array UInt8} {Q : Array Nat × Nat → Shared → Prop} (id : String) (hb : ∀ c ∈ b.toList, c.toNat < 128) (hsz : b.size ≤ 1000) (h : Q (b.map (·.toNat), b.size) s) : wpAny (model prog w) A (runDecoder id asciiDecoder none true b 0 []) Q E s := by
  unfold runDecoder
  dsimp only
  rw [Std.Legacy.Range.forIn_eq_forIn_range']
  have fin : ∀ (p : Nat) (out : Array Nat), p = b.size → out = ((b.toList.take p).map (·.toNat)).toArray → Q (out, p) s := by
    intro p out hp ho
    subst hp
    have e : out = b.map (·.toNat) := by
      rw [ho, ← Array.length_toList, List.take_length]
      apply Array.toList_inj.mp
      simp
    rw [e]
    exact h
  refine wpAny_bind (wp_forIn (s := s) (fun k (st : Nat × Array Nat × Faults) => st.1 ≤ b.size ∧ b.size - st.1 ≤ k ∧ st.2.1 = ((b.toList.take st.1).map (·.toNat)).toArray) ?_ ?_ _ _ ?_)
  · rintro a ⟨p, out, st⟩ k ⟨h1, h2, h3⟩
    dsimp only at h1 h2 h3 ⊢
    have hout : out.size ≤ 1000 := by
      rw [h3, List.size_toArray, List.length_map, List.length_take, Array.length_toList]
      omega
    rw [if_neg (by rw [sizeLine_eq]; omega)]
    by_cases hi : p < b.size
    · rw [if_neg (by omega)]
      have hg : b.getD p 0 = b[p] := by simp [Array.getD, hi]
      have hlt : b[p].toNat < 128 := hb _ (by simp)
      have ef : asciiDecoder.find true b p = Found.text [b[p].toNat] (p + 1) := by
        show (if (b.getD p 0).toNat < 128 then Found.char (b.getD p 0).toNat (p + 1) else _) = _
        rw [hg, if_pos hlt]; rfl
      rw [ef]
      refine wpAny_pure ⟨rfl, ?_, ?_, ?_⟩
      · dsimp only; omega
      · dsimp only; omega
      · dsimp only
        have hl : b.toList[p]? = some b[p] := by simp [hi]
        rw [h3, List.take_add_one, hl]
        simp
    · rw [if_pos (by omega)]
      refine wpAny_pure ?_
      dsimp only
      exact wpAny_pure (fin p out (by omega) h3)
  · rintro ⟨p, out, st⟩ ⟨h1, h2, h3⟩
    dsimp only at h1 h2 h3
    exact wpAny_pure (fin p out (by omega) h3)
  · refine ⟨Nat.zero_le _, ?_, ?_⟩
    · rw [List.length_range']
      show b.size - 0 ≤ _
      simp [Std.Legacy.Range.size]
    · rw [List.take_zero]; rfl
theorem asc_length (l : List Nat) : (asc l).length ≤ l.length := List.length_filter_le _ _
theorem ascB_size (l : List Nat) : (ascB l).size = (asc l).length := by unfold ascB; rw [List.size_toArray, List.length_map]
theorem meets_encode {u v : Tok} (hx : x.length ≤ 1000) : Meets (Builtin.«str.encode» ⟨[.str x t, .str (Str.ofString "ascii") u, .str (Str.ofString "ignore") v], []⟩) (fun _ R s => ∀ t' k, R (.ok (.ret (.bytes (ascB x.cps.toList) t'))) { s with toks := k }) := by
  intro prog w A R s h
  rw [encode_eq, road_ascii]
  refine wpAny_bind (wpAny_bind (wp_narrow hx ?_))
  unfold mkBytes
  have hl := asc_length x.cps.toList
  have hx' : x.cps.toList.length ≤ 1000 := hx
  rw [if_neg (by rw [ascB_size, sizeLine_eq]; omega)]
  exact wpAny_bind (wpAny_fresh (wpAny_pure (wpAny_pure (h _ _))))
theorem encode_call {u v : Tok} {Q : Value → Shared → Prop} (hx : x.length ≤ 1000) (h : ∀ t' k, Q (.bytes (ascB x.cps.toList) t') { s with toks := k }) : wpAny (model prog w) A (call (.builtin "str.encode") [.str x t, .str (Str.ofString "ascii") u, .str (Str.ofString "ignore") v]) Q E s :=
  call_meets PySem.F.slot_str_encode (typeIs_str _ _ _) PySem.F.entry_str_encode (PySem.F.args_str_encode_3 _ _ _) (meets_encode hx) h
theorem encode_method {pl : Sem Bool} {Q : Value × List Value → Shared → Prop} (h : Q (.builtin "str.encode", [.str x t]) s) : wpAny (model prog w) A (getMethod (.str x t) "encode" pl) Q E s :=
  getMethod_builtin (typeIs_str _ _ _) PySem.F.plainAttrs_str PySem.F.slot_str_encode PySem.F.type_str_encode (fun _ e => nomatch e) h
theorem meets_dtext {b : Array UInt8} {t1 t2 : Tok} (hb : ∀ c ∈ b.toList, c.toNat < 128) (hsz : b.size ≤ 1000) :
    Meets (Builtin.«_codecs.decode.text» ⟨[.bytes b t, .str (PySem.Str.ofString "ascii") t1, .none, .str (PySem.Str.ofString "bytes.decode") t2], []⟩) (fun _ R s => ∀ t' k, R (.ok (.ret (.str ⟨b.map (·.toNat)⟩ t'))) { s with toks := k }) := by
  intro prog w A R s h
  show wpAny _ _ (Bytes.bytesLike _ (.bytes b t) >>= fun r => _) _ _ s
  refine wpAny_bind (wpAny_of_eq PySem.W.KBd.like_eq ?_)
  refine wpAny_bind (wpAny_of_eq PySem.W.KBd.held_eq ?_)
  show wpAny _ _ (_codecs.decodeRoad _ b (PySem.Str.ofString "ascii") none [] >>= fun v => _) _ _ s
  rw [droad_ascii]
  refine wpAny_bind (wpAny_bind (wp_dec _ hb hsz ?_))
  exact wpAny_mkStr (wpAny_pure (h _ _)) (by show (b.map _).size ≤ _; rw [Array.size_map, sizeLine_eq]; omega)
theorem meets_decode {b : Array UInt8} {u : Tok} (hb : ∀ c ∈ b.toList, c.toNat < 128) (hsz : b.size ≤ 1000) :
    Meets (Builtin.«bytes.decode» ⟨[.bytes b t, .str (Str.ofString "ascii") u], []⟩) (fun _ R s => ∀ t' k, R (.ok (.ret (.str ⟨b.map (·.toNat)⟩ t'))) { s with toks := k }) := by
  intro prog w A R s h
  obtain ⟨l⟩ := b
  cases l with
  | nil =>
    have e := decode_nil (t := t) (u := u)
    rw [show (⟨[]⟩ : Array UInt8) = ([] : List UInt8).toArray from rfl, e]
    refine wpAny_bind (wpAny_rule ?_)
    unfold retStr
    have e0 : (⟨Array.map (fun x => x.toNat) (⟨[]⟩ : Array UInt8)⟩ : Str) = Str.empty := by
      refine Str.ext' ?_
      show Array.map _ #[] = #[]
      simp
    rw [e0] at h
    exact wpAny_bind (wpAny_mkStr (wpAny_pure (h _ _)) (by decide))
  | cons c cs =>
    rw [show (⟨c :: cs⟩ : Array UInt8) = (c :: cs).toArray from rfl, decode_eq]
    refine wpAny_bind (wpAny_mkStr ?_ (by decide))
    refine wpAny_bind (wpAny_mkStr ?_ (by decide))
    refine wpAny_bind (wpAny_mkStr ?_ (by decide))
    exact wpAny_bind (call_function_meets PySem.W.KBd.kind_text PySem.W.KBd.plain_text PySem.W.KBd.entry_text (PySem.W.KBd.args_text _ _ _ _) (meets_dtext hb hsz) (fun t' k => wpAny_pure (h t' k)))
theorem args_dec2 (a b : Value) : argsOk "bytes.decode" ⟨[a, b], []⟩ := by unfold argsOk; kernel_rfl
theorem decode_call {b : Array UInt8} {u : Tok} {Q : Value → Shared → Prop} (hb : ∀ c ∈ b.toList, c.toNat < 128) (hsz : b.size ≤ 1000) (h : ∀ t' k, Q (.str ⟨b.map (·.toNat)⟩ t') { s with toks := k }) :
    wpAny (model prog w) A (call (.builtin "bytes.decode") [.bytes b t, .str (Str.ofString "ascii") u]) Q E s :=
  call_meets FB.slot_bytes_decode (typeIs_bytes _ _ _) FB.entry_bytes_decode (args_dec2 _ _) (meets_decode hb hsz) h
theorem ascB_low (l : List Nat) : ∀ c ∈ (ascB l).toList, c.toNat < 128 := by
  intro c hc
  unfold ascB at hc
  simp only [List.mem_map] at hc
  obtain ⟨n, hn, rfl⟩ := hc
  unfold asc at hn
  have := (List.mem_filter.mp hn).2
  have hn' : n < 128 := by simpa using this
  show (n.toUInt8).toNat < 128
  rw [Nat.toUInt8, UInt8.toNat_ofNat']
  omega
theorem ascB_text (l : List Nat) : (⟨(ascB l).map (·.toNat)⟩ : Str) = ⟨(asc l).toArray⟩ := by
  refine Str.ext' ?_
  show (ascB l).map (·.toNat) = (asc l).toArray
  unfold ascB
  rw [List.map_toArray, List.map_map]
  congr 1
  refine (List.map_congr_left (g := _root_.id) fun n hn => ?_).trans (List.map_id _)
  unfold asc at hn
  have := (List.mem_filter.mp hn).2
  have hn' : n < 128 := by simpa using this
  show (n.toUInt8).toNat = n
  rw [Nat.toUInt8, UInt8.toNat_ofNat']
  omega
end
end Mine
end
local macro_rules | `(tactic| walk_at "none Be2 0") => `(tactic| fail "none")
section
open PySem PySem.W PyProof.Rows
namespace Mine
theorem runOf_drop {p : Nat → Bool} : ∀ {l : List Nat}, runOf p l < l.length → ∃ c r, l.drop (runOf p l) = c :: r ∧ p c = false
  | [], h => absurd h (Nat.not_lt_zero _)
  | a :: r, h => by
    unfold runOf at h ⊢
    cases hp : p a with
    | false => simp only [Bool.false_eq_true, if_false, List.drop_zero]; exact ⟨a, r, rfl, hp⟩
    | true =>
      rw [hp, if_pos rfl, List.length_cons] at h
      simp only [if_true, List.drop_succ_cons]
      exact runOf_drop (by omega)
def next1 (text : Array Nat) (start : Nat) : Option (Nat × Nat) :=
  let b := start + runOf idc (text.toList.drop start)
  if b = text.size then none else some (b, b + runOf (fun c => !idc c) (text.toList.drop b))
theorem says1 {text : Array Nat} (hsz : text.size ≤ 1000) : Says c1 text (next1 text) := by
  intro start hs
  obtain ⟨k, hk, ho, ha⟩ := c1_from hsz hs false
  refine ⟨k, by omega, ho, ?_⟩
  unfold Ans at ha
  simp only [Bool.not_not] at ha
  unfold next1
  have hle := runOf_le idc (text.toList.drop start)
  rw [List.length_drop, Array.length_toList] at hle
  dsimp only
  by_cases hb : start + runOf idc (text.toList.drop start) = text.size
  · rw [if_pos hb] at ha ⊢
    exact ha
  · rw [if_neg hb] at ha ⊢
    refine ⟨ha, by omega, ?_, ?_⟩
    · obtain ⟨c, r, e, hc⟩ := runOf_drop (p := idc) (l := text.toList.drop start) (by rw [List.length_drop, Array.length_toList]; omega)
      rw [List.drop_drop] at e
      rw [e]
      simp [runOf, hc]
    · have := runOf_le (fun c => !idc c) (text.toList.drop (start + runOf idc (text.toList.drop start)))
      rw [List.length_drop, Array.length_toList] at this
      omega
def allDash (l : List Nat) : Bool := l.all (· == 45)
theorem allDash_iff {l : List Nat} : allDash l = true ↔ AllDash l := by
  unfold allDash AllDash
  simp
def firstDash (text : Array Nat) (start : Nat) : Option Nat := (List.range' start (text.size - start)).find? fun b => allDash (text.toList.drop b)
def next2 (text : Array Nat) (start : Nat) : Option (Nat × Nat) :=
  if start = 0 ∧ runOf dbc text.toList ≠ 0 then some (0, runOf dbc text.toList) else (firstDash text start).map fun b => (b, text.size)
theorem first_says {text : Array Nat} {start : Nat} {r : Sre.M} (ha : Ans2 text start r) : match (firstDash text start).map (fun b => (b, text.size)) with
    | none => r.outcome = some .failed
    | some (b, e) => Found r b e ∧ start ≤ b ∧ b < e ∧ e ≤ text.size := by
  rcases ha with ⟨b, h1, h2, h3, h4, h5⟩ | ⟨h1, h2⟩
  · have e : firstDash text start = some b := by
      unfold firstDash
      rw [List.find?_range'_eq_some]
      refine ⟨by rw [allDash_iff]; exact h3, by rw [List.mem_range'_1]; omega, fun j hj1 hj2 => ?_⟩
      have := h4 j hj1 hj2
      rw [← allDash_iff] at this
      simpa using this
    rw [e]
    exact ⟨h5, h1, h2, Nat.le_refl _⟩
  · have e : firstDash text start = none := by
      unfold firstDash
      rw [List.find?_eq_none]
      intro b hb
      rw [List.mem_range'_1] at hb
      rw [allDash_iff]
      exact h1 b hb.1 (by omega)
    rw [e]
    exact h2
theorem says2 {text : Array Nat} (hsz : text.size ≤ 1000) (h10 : ∀ j, text.getD j 0 ≠ 10) : Says c2 text (next2 text) := by
  intro start hs
  obtain ⟨k, hk, ho, ha⟩ := c2_from hsz h10 hs
  refine ⟨k, hk, ho, ?_⟩
  unfold Ans2s at ha
  unfold next2
  by_cases h0 : start = 0
  · subst h0
    rw [if_pos rfl] at ha
    unfold Ans0 at ha
    by_cases hr : runOf dbc text.toList = 0
    · rw [if_pos hr] at ha
      rw [if_neg (fun h => h.2 hr)]
      exact first_says ha
    · rw [if_neg hr] at ha
      rw [if_pos ⟨rfl, hr⟩]
      refine ⟨ha, by omega, by omega, ?_⟩
      have := runOf_le dbc text.toList
      rw [Array.length_toList] at this
      exact this
  · rw [if_neg h0] at ha
    rw [if_neg (fun h => h0 h.1)]
    exact first_says ha
/-! what they put together -/
def joinL (sep : List Nat) : List (List Nat) → List Nat
  | [] => []
  | [a] => a
  | a :: b :: r => a ++ sep ++ joinL sep (b :: r)
theorem join_toList (sep : Str) : ∀ ps : List Str, (Txt.join sep ps).cps.toList = joinL sep.cps.toList (ps.map (·.cps.toList))
  | [] => rfl
  | [a] => rfl
  | a :: b :: r => by
    have ih := join_toList sep (b :: r)
    unfold Txt.join at ih ⊢
    rw [StrLaws.glued_eq_join] at ih ⊢
    show (a ++ sep ++ Str.join sep (b :: r)).cps.toList = _
    rw [Str.cps_append, Str.cps_append, Array.toList_append, Array.toList_append, ih]
    rfl
theorem joinL_nil : ∀ l : List (List Nat), joinL [] l = l.flatten
  | [] => rfl
  | [a] => by simp [joinL]
  | a :: b :: r => by
    show a ++ [] ++ joinL [] (b :: r) = _
    rw [joinL_nil (b :: r)]
    simp
def cat (ps : List Str) : List Nat := (ps.map (·.cps.toList)).flatten
theorem cat_join (ps : List Str) : (Txt.join Str.empty ps).cps.toList = cat ps := (join_toList _ _).trans (joinL_nil _)
theorem cat_cons (a : Str) (r : List Str) : cat (a :: r) = a.cps.toList ++ cat r := by simp [cat]
theorem cat_append (a b : List Str) : cat (a ++ b) = cat a ++ cat b := by simp [cat]
/-- each run of signs that are no id's, by one hyphen; the flag: one stands behind -/
def sub1 : Bool → List Nat → List Nat
  | _, [] => []
  | pv, c :: r => if idc c then c :: sub1 false r else if pv then sub1 true r else 45 :: sub1 true r
theorem sub1_id : ∀ l : List Nat, sub1 false l = l.take (runOf idc l) ++ sub1 false (l.drop (runOf idc l))
  | [] => rfl
  | c :: r => by
    unfold runOf
    cases h : idc c with
    | false => simp
    | true =>
      simp only [if_true, List.take_succ_cons, List.drop_succ_cons]
      rw [show sub1 false (c :: r) = c :: sub1 false r by simp [sub1, h], sub1_id r]
      rfl
theorem sub1_true : ∀ l : List Nat, sub1 true l = sub1 false (l.drop (runOf (fun c => !idc c) l))
  | [] => rfl
  | c :: r => by
    unfold runOf
    cases h : idc c with
    | true => simp [sub1, h]
    | false =>
      simp only [Bool.not_false, if_true, List.drop_succ_cons]
      rw [show sub1 true (c :: r) = sub1 true r by simp [sub1, h]]
      exact sub1_true r
theorem extract_list (text : Array Nat) (a b : Nat) (h : a ≤ b) : (text.extract a b).toList = (text.toList.drop a).take (b - a) := by
  rw [Array.toList_extract, List.extract_eq_take_drop]
theorem rest1 {text : Array Nat} (y : Str) (hy : y.cps.toList = [45]) : ∀ (k start : Nat), text.size - start < k → start ≤ text.size → cat (subRest text y (next1 text) k start) = sub1 false (text.toList.drop start) := by
  intro k
  induction k with
  | zero => intro start h; omega
  | succ k ih =>
    intro start hk hs
    unfold subRest
    have hle := runOf_le idc (text.toList.drop start)
    rw [List.length_drop, Array.length_toList] at hle
    by_cases hb : start + runOf idc (text.toList.drop start) = text.size
    · have hn : next1 text start = none := if_pos hb
      rw [hn]
      dsimp only
      rw [sub1_id, List.drop_drop, hb]
      have e1 : text.toList.drop text.size = [] := by rw [List.drop_eq_nil_iff]; simp
      rw [e1]
      have e2 : (text.toList.drop start).take (runOf idc (text.toList.drop start)) = text.toList.drop start := List.take_of_length_le (by rw [List.length_drop, Array.length_toList]; omega)
      rw [e2]
      by_cases hlt : start < text.size
      · rw [if_pos hlt, cat_cons]
        show (text.extract start text.size).toList ++ cat [] = _
        rw [extract_list _ _ _ hs, List.take_of_length_le (by rw [List.length_drop, Array.length_toList]; omega)]
        rfl
      · rw [if_neg hlt]
        have : text.toList.drop start = [] := by rw [List.drop_eq_nil_iff]; simp; omega
        rw [this]; rfl
    · have hn : next1 text start = some (start + runOf idc (text.toList.drop start), start + runOf idc (text.toList.drop start) + runOf (fun c => !idc c) (text.toList.drop (start + runOf idc (text.toList.drop start)))) := if_neg hb
      rw [hn]
      dsimp only
      obtain ⟨c, r, e, hc⟩ := runOf_drop (p := idc) (l := text.toList.drop start) (by rw [List.length_drop, Array.length_toList]; omega)
      rw [List.drop_drop] at e
      have hr := runOf_le (fun c => !idc c) (text.toList.drop (start + runOf idc (text.toList.drop start)))
      rw [List.length_drop, Array.length_toList] at hr
      have hpos : 0 < runOf (fun c => !idc c) (text.toList.drop (start + runOf idc (text.toList.drop start))) := by rw [e]; simp [runOf, hc]
      rw [cat_append, cat_cons, hy, ih _ (by omega) (by omega)]
      conv => rhs; rw [sub1_id, List.drop_drop]
      have e3 : sub1 false (text.toList.drop (start + runOf idc (text.toList.drop start))) = 45 :: sub1 false (text.toList.drop (start + runOf idc (text.toList.drop start) + runOf (fun c => !idc c) (text.toList.drop (start + runOf idc (text.toList.drop start))))) := by
        rw [← List.drop_drop (l := text.toList) (j := start + runOf idc (text.toList.drop start)) (i := runOf (fun c => !idc c) (text.toList.drop (start + runOf idc (text.toList.drop start))))]
        rw [e]
        have e4 : runOf (fun c => !idc c) (c :: r) = runOf (fun c => !idc c) r + 1 := by simp [runOf, hc]
        rw [e4, List.drop_succ_cons, ← sub1_true]
        simp [sub1, hc]
      rw [e3]
      have e5 : cat (if start < start + runOf idc (text.toList.drop start) then [(⟨text.extract start (start + runOf idc (text.toList.drop start))⟩ : Str)] else []) = (text.toList.drop start).take (runOf idc (text.toList.drop start)) := by
        by_cases hlt : start < start + runOf idc (text.toList.drop start)
        · rw [if_pos hlt, cat_cons]
          show (text.extract start (start + runOf idc (text.toList.drop start))).toList ++ cat [] = _
          rw [extract_list _ _ _ (by omega), Nat.add_sub_cancel_left]
          simp [cat]
        · rw [if_neg hlt]
          have : runOf idc (text.toList.drop start) = 0 := by omega
          rw [this]; rfl
      rw [e5]
      rfl
/-- the hyphens behind, off -/
def stripD : List Nat → List Nat
  | [] => []
  | c :: r => if c = 45 ∧ stripD r = [] then [] else c :: stripD r
theorem stripD_nil : ∀ {l : List Nat}, stripD l = [] ↔ AllDash l
  | [] => ⟨fun _ c h => (nomatch h), fun _ => rfl⟩
  | a :: r => by
    unfold stripD
    constructor
    · intro h
      split at h
      · rename_i hc
        intro c hcm
        rcases List.mem_cons.mp hcm with rfl | hcm
        · exact hc.1
        · exact stripD_nil.mp hc.2 c hcm
      · cases h
    · intro h
      rw [if_pos ⟨h a List.mem_cons_self, stripD_nil.mpr fun c hc => h c (List.mem_cons_of_mem _ hc)⟩]
theorem stripD_take : ∀ {l : List Nat} {b : Nat}, AllDash (l.drop b) → (∀ j, j < b → ¬ AllDash (l.drop j)) → stripD l = l.take b
  | [], b, _, _ => by simp [stripD]
  | a :: r, 0, h, _ => by rw [List.drop_zero] at h; rw [stripD_nil.mpr h]; rfl
  | a :: r, b + 1, h, hn => by
    rw [List.drop_succ_cons] at h
    have ih := stripD_take (l := r) (b := b) h fun j hj => by have := hn (j + 1) (by omega); rwa [List.drop_succ_cons] at this
    have h0 := hn 0 (by omega)
    rw [List.drop_zero] at h0
    unfold stripD
    rw [if_neg (fun hc => h0 (by
      intro c hcm
      rcases List.mem_cons.mp hcm with rfl | hcm
      · exact hc.1
      · exact stripD_nil.mp hc.2 c hcm)), ih]
    rfl
theorem stripD_none : ∀ {l : List Nat}, (∀ j, j < l.length → ¬ AllDash (l.drop j)) → stripD l = l
  | [], _ => rfl
  | a :: r, hn => by
    have ih := stripD_none (l := r) fun j hj => by have := hn (j + 1) (by rw [List.length_cons]; omega); rwa [List.drop_succ_cons] at this
    have h0 := hn 0 (by rw [List.length_cons]; omega)
    rw [List.drop_zero] at h0
    unfold stripD
    rw [if_neg (fun hc => h0 (by
      intro c hcm
      rcases List.mem_cons.mp hcm with rfl | hcm
      · exact hc.1
      · exact stripD_nil.mp hc.2 c hcm)), ih]
/-- hyphens and figures ahead off, hyphens behind off -/
def ends (l : List Nat) : List Nat := stripD (l.drop (runOf dbc l))
theorem rest2_tail {text : Array Nat} (y : Str) (hy : y.cps.toList = []) {start : Nat} (hs : start ≤ text.size) (hn : next2 text start = (firstDash text start).map fun b => (b, text.size)) (k : Nat) :
    cat (subRest text y (next2 text) (k + 2) start) = stripD (text.toList.drop start) := by
  have hend : next2 text text.size = none ∨ text.size = 0 := by
    by_cases h0 : text.size = 0
    · exact .inr h0
    · left
      unfold next2
      rw [if_neg (fun h => h0 h.1)]
      unfold firstDash
      rw [Nat.sub_self]
      rfl
  unfold subRest
  rw [hn]
  cases hf : firstDash text start with
  | none =>
    dsimp only [Option.map]
    unfold firstDash at hf
    rw [List.find?_eq_none] at hf
    have hst : stripD (text.toList.drop start) = text.toList.drop start := stripD_none fun j hj => by
      rw [List.drop_drop]
      rw [List.length_drop, Array.length_toList] at hj
      have := hf (start + j) (by rw [List.mem_range'_1]; omega)
      rw [allDash_iff] at this
      exact this
    rw [hst]
    by_cases hlt : start < text.size
    · rw [if_pos hlt, cat_cons]
      show (text.extract start text.size).toList ++ cat [] = _
      rw [extract_list _ _ _ hs, List.take_of_length_le (by rw [List.length_drop, Array.length_toList]; omega)]
      simp [cat]
    · rw [if_neg hlt]
      have : text.toList.drop start = [] := by rw [List.drop_eq_nil_iff]; simp; omega
      rw [this]; rfl
  | some b =>
    dsimp only [Option.map]
    unfold firstDash at hf
    rw [List.find?_range'_eq_some] at hf
    obtain ⟨h1, h2, h3⟩ := hf
    rw [List.mem_range'_1] at h2
    rw [allDash_iff] at h1
    have hst : stripD (text.toList.drop start) = (text.toList.drop start).take (b - start) := stripD_take (by rw [List.drop_drop, show start + (b - start) = b by omega]; exact h1) fun j hj => by
      rw [List.drop_drop]
      have := h3 (start + j) (by omega) (by omega)
      rw [← allDash_iff]
      simpa using this
    rw [hst, cat_append, cat_cons, hy]
    have e0 : cat (subRest text y (next2 text) (k + 1) text.size) = [] := by
      unfold subRest
      rcases hend with h | h
      · rw [h]
        dsimp only
        rw [if_neg (Nat.lt_irrefl _)]
        rfl
      · omega
    rw [e0, List.append_nil, List.append_nil]
    by_cases hlt : start < b
    · rw [if_pos hlt, cat_cons]
      show (text.extract start b).toList ++ cat [] = _
      rw [extract_list _ _ _ (by omega)]
      simp [cat]
    · rw [if_neg hlt]
      have : b - start = 0 := by omega
      rw [this]; rfl
theorem rest2 {text : Array Nat} (y : Str) (hy : y.cps.toList = []) (k : Nat) : cat (subRest text y (next2 text) (k + 3) 0) = ends text.toList := by
  unfold ends
  by_cases hr : runOf dbc text.toList = 0
  · rw [hr, rest2_tail y hy (Nat.zero_le _) (by unfold next2; rw [if_neg (fun h => h.2 hr)]) (k + 1)]
  · have hn : next2 text 0 = some (0, runOf dbc text.toList) := by unfold next2; rw [if_pos ⟨rfl, hr⟩]
    unfold subRest
    rw [hn]
    dsimp only
    rw [if_neg (Nat.lt_irrefl _), cat_append, cat_cons, hy]
    have hle := runOf_le dbc text.toList
    rw [Array.length_toList] at hle
    rw [rest2_tail y hy hle (by unfold next2; rw [if_neg (fun h => hr h.1)]) k]
    rfl
end Mine
end
local macro_rules | `(tactic| walk_at "none Sb 0") => `(tactic| fail "none")
section
open PySem PySem.W PyProof.Rows
namespace Mine
theorem dbc_45 : dbc 45 = true := by decide
theorem rest2_all {text : Array Nat} (y : Str) (hy : y.cps.toList = []) : cat (subRest text y (next2 text) (text.size + 1) 0) = ends text.toList := by
  by_cases h2 : 2 ≤ text.size
  · obtain ⟨k, hk⟩ : ∃ k, text.size + 1 = k + 3 := ⟨text.size - 2, by omega⟩
    rw [hk]
    exact rest2 y hy k
  · obtain ⟨l⟩ := text
    match l, h2 with
    | [], _ => simp [subRest, next2, runOf, firstDash, ends, stripD, cat]
    | [c], _ =>
      have e : next2 ⟨[c]⟩ 1 = none := by simp [next2, firstDash]
      by_cases hc : dbc c = true
      · have e0 : next2 ⟨[c]⟩ 0 = some (0, 1) := by simp [next2, runOf, hc]
        show cat (subRest ⟨[c]⟩ y (next2 ⟨[c]⟩) 2 0) = _
        unfold subRest
        rw [e0]
        dsimp only
        unfold subRest
        rw [e]
        simp [cat, hy, ends, runOf, hc, stripD]
      · have h45 : c ≠ 45 := fun h => hc (h ▸ dbc_45)
        have e0 : next2 ⟨[c]⟩ 0 = none := by simp [next2, runOf, hc, firstDash, allDash, h45]
        show cat (subRest ⟨[c]⟩ y (next2 ⟨[c]⟩) 2 0) = _
        unfold subRest
        rw [e0]
        simp [cat, ends, runOf, hc, stripD, h45]
    | _ :: _ :: _, h => exact absurd (by simp) h
/-- what make_id does, part by part -/
def mk0 (x : Str) : Str := Txt.join (Str.ofString " ") (Txt.words ⟨(asc (Txt.lower x).cps.toList).toArray⟩)
def mk1 (z : Str) : Str := Txt.join Str.empty (subRest z.cps (Str.ofString "-") (next1 z.cps) (z.length + 1) 0)
def mk2 (z : Str) : Str := Txt.join Str.empty (subRest z.cps (Str.ofString "") (next2 z.cps) (z.length + 1) 0)
def mkId (x : Str) : Str := mk2 (mk1 (mk0 x))
theorem mk1_list (z : Str) : (mk1 z).cps.toList = sub1 false z.cps.toList := by
  unfold mk1
  rw [cat_join, rest1 _ rfl _ _ (by show z.cps.size - 0 < z.cps.size + 1; omega) (Nat.zero_le _), List.drop_zero]
theorem mk2_list (z : Str) : (mk2 z).cps.toList = ends z.cps.toList := by
  unfold mk2
  rw [cat_join]
  exact rest2_all _ rfl
theorem sub1_length : ∀ (b : Bool) (l : List Nat), (sub1 b l).length ≤ l.length
  | _, [] => Nat.le_refl _
  | b, c :: r => by
    have h1 := sub1_length false r
    have h2 := sub1_length true r
    unfold sub1
    split
    · simpa using h1
    · split
      · simp only [List.length_cons]; omega
      · simpa using h2
theorem sub1_signs : ∀ (b : Bool) (l : List Nat), ∀ c ∈ sub1 b l, idc c = true ∨ c = 45
  | _, [], c, h => nomatch h
  | b, a :: r, c, h => by
    unfold sub1 at h
    split at h
    · rename_i ha
      rcases List.mem_cons.mp h with rfl | h
      · exact .inl ha
      · exact sub1_signs _ _ c h
    · split at h
      · exact sub1_signs _ _ c h
      · rcases List.mem_cons.mp h with rfl | h
        · exact .inr rfl
        · exact sub1_signs _ _ c h
theorem joinL_length : ∀ l : List (List Nat), (joinL [32] l).length ≤ (l.map (·.length)).sum + l.length
  | [] => Nat.le_refl _
  | [a] => by simp [joinL]
  | a :: b :: r => by
    have ih := joinL_length (b :: r)
    show (a ++ [32] ++ joinL [32] (b :: r)).length ≤ _
    simp only [List.length_append, List.map_cons, List.sum_cons, List.length_cons, List.length_nil] at ih ⊢
    omega
theorem join_words_length (x : Str) : (Txt.join (Str.ofString " ") (Txt.words x)).length ≤ x.length + 1 := by
  have h := joinL_length ((Txt.words x).map (·.cps.toList))
  have e : (Txt.join (Str.ofString " ") (Txt.words x)).length = (joinL [32] ((Txt.words x).map (·.cps.toList))).length := by
    have := join_toList (Str.ofString " ") (Txt.words x)
    rw [show (Str.ofString " ").cps.toList = [32] from rfl] at this
    rw [← this, Array.length_toList]; rfl
  have hw := StrLaws.words_weight x
  rw [List.map_map, List.length_map] at h
  have e2 : (Txt.words x).map ((fun l => List.length l) ∘ fun z : Str => z.cps.toList) = (Txt.words x).map (·.length) := List.map_congr_left fun z _ => by simp [Str.length]
  rw [e2] at h
  omega
theorem mk0_length (x : Str) : (mk0 x).length ≤ (Txt.lower x).length + 1 := by
  have := join_words_length ⟨(asc (Txt.lower x).cps.toList).toArray⟩
  have h2 := asc_length (Txt.lower x).cps.toList
  have h3 : (⟨(asc (Txt.lower x).cps.toList).toArray⟩ : Str).length = (asc (Txt.lower x).cps.toList).length := by simp [Str.length]
  have h4 : (Txt.lower x).cps.toList.length = (Txt.lower x).length := by simp [Str.length]
  unfold mk0
  omega
theorem len_list (x : Str) : x.cps.toList.length = x.length := by simp [Str.length]
theorem mk1_length (x : Str) : (mk1 x).length ≤ x.length := by
  rw [← len_list, ← len_list, mk1_list]; exact sub1_length _ _
theorem mk1_ten (x : Str) : ∀ j, (mk1 x).cps.getD j 0 ≠ 10 := by
  intro j h
  by_cases hj : j < (mk1 x).cps.size
  · have : (mk1 x).cps[j] = 10 := by simpa [Array.getD, hj] using h
    have hm : 10 ∈ (mk1 x).cps.toList := by rw [← this]; simp
    rw [mk1_list] at hm
    rcases sub1_signs _ _ _ hm with h | h
    · exact absurd h (by decide)
    · exact absurd h (by decide)
  · simp [Array.getD, hj] at h
end Mine
end
local macro_rules | `(tactic| walk_at "none Sb2 0") => `(tactic| fail "none")
section
open PySem PySem.W PyProof.Rows
set_option rowWalk.seconds 0
namespace Mine
theorem fillKm : (fun (_ : OpenLaw) (_ : Params → Frag) => True) PySem.Challenge.rw_bq6009_01 hd.heap_39 := by k_fill; trivial
theorem pat1 {w : World} {h₀ h : Heap} (X : (hd.heap_39 w.params).In h₀) (hk : ∀ b o, h₀.get? b = some o → h.get? b = some o) : PatAt h 43 c1 :=
  ⟨_, _, _, _, _, _, _, hk _ _ (X 43 _ (by k_is)), rfl, rfl, rfl, hk _ _ (X 42 _ (by k_is)), rfl, by decide +kernel⟩
theorem pat2 {w : World} {h₀ h : Heap} (X : (hd.heap_39 w.params).In h₀) (hk : ∀ b o, h₀.get? b = some o → h.get? b = some o) : PatAt h 48 c2 :=
  ⟨_, _, _, _, _, _, _, hk _ _ (X 48 _ (by k_is)), rfl, rfl, rfl, hk _ _ (X 47 _ (by k_is)), rfl, by decide +kernel⟩
theorem pat3 {w : World} {h₀ h : Heap} (X : (hd.heap_39 w.params).In h₀) (hk : ∀ b o, h₀.get? b = some o → h.get? b = some o) : PatAt h 81 c3 :=
  ⟨_, _, _, _, _, _, _, hk _ _ (X 81 _ (by k_is)), rfl, rfl, rfl, hk _ _ (X 80 _ (by k_is)), rfl, by decide +kernel⟩
section
variable {prog : Program} {w : World} {A : Around} {E : Value → Shared → Prop} {s : Shared} {h₀ : Heap} {L : Addr} {m : Str → Option Value} {news : List (Addr × Obj)} {Q : Value → Shared → Prop}
theorem encodeK {x : Str} {t u v : Tok} (hx : x.length ≤ 1000) (h : ∀ t' k, Q (.bytes (ascB x.cps.toList) t') { s with toks := k }) : wpAny (model prog w) A (call (.builtin "str.encode") [.str x t, .str (Str.ofString "ascii") u, .str (Str.ofString "ignore") v]) Q E s := encode_call hx h
theorem decodeK {x : Str} {t u : Tok} (hx : x.length ≤ 1000) (h : ∀ t' k, Q (.str ⟨(asc x.cps.toList).toArray⟩ t') { s with toks := k }) : wpAny (model prog w) A (call (.builtin "bytes.decode") [.bytes (ascB x.cps.toList) t, .str (Str.ofString "ascii") u]) Q E s :=
  decode_call (ascB_low _) (by rw [ascB_size]; have := asc_length x.cps.toList; rw [len_list] at this; omega) (by rw [ascB_text]; exact h)
theorem joinWordsK {x : Str} {t : Tok} {l : List (Str × Tok)} {D : Addr} (hx : x.length ≤ 1000) (N : News h₀ L s.heap news) (hD : (D, listOf (strValues l).toArray 0) ∈ news) (e : l.map (·.1) = Txt.words x) (S : StrsAre (strValues l) (l.map (·.1)))
    (h : ∀ t' k, Q (.str (Txt.join (Str.ofString " ") (Txt.words x)) t') { s with toks := k }) : wpAny (model prog w) A (call (.builtin "str.join") [.str (Str.ofString " ") t, .ref D]) Q E s := by
  refine join_listW (News.isList N hD) S (by decide) ?_ ?_
  · have := StrLaws.words_weight x
    rw [← e] at this
    omega
  · rw [e]; exact h
theorem sub1K {x : Str} {t u : Tok} (F : Fr h₀ L s.heap m) (N : News h₀ L s.heap news) (X : (hd.heap_39 w.params).In h₀) (hx : x.length ≤ 1000)
    (h : ∀ t' h' k, Fr h₀ L h' m → News h₀ L h' news → Q (.str (mk1 x) t') { s with heap := h', toks := k }) : wpAny (model prog w) A (call (.builtin "re.Pattern.sub") [.ref 43, .str (Str.ofString "-") u, .str x t]) Q E s :=
  sub_call hx (by decide) (by decide +kernel) (says1 hx) (pat1 X F.keep) fun t' h' tk' hk => h t' h' tk' (F.keeps hk) (N.keepsAll hk)
theorem sub2K {x : Str} {t u : Tok} (F : Fr h₀ L s.heap m) (N : News h₀ L s.heap news) (X : (hd.heap_39 w.params).In h₀) (hx : x.length ≤ 1000)
    (h : ∀ t' h' k, Fr h₀ L h' m → News h₀ L h' news → Q (.str (mk2 (mk1 x)) t') { s with heap := h', toks := k }) : wpAny (model prog w) A (call (.builtin "re.Pattern.sub") [.ref 48, .str (Str.ofString "") u, .str (mk1 x) t]) Q E s := by
  have hl : (mk1 x).length ≤ 1000 := Nat.le_trans (mk1_length x) hx
  exact sub_call hl (by decide) (by decide +kernel) (says2 hl (mk1_ten x)) (pat2 X F.keep) fun t' h' tk' hk => h t' h' tk' (F.keeps hk) (N.keepsAll hk)
end
local macro_rules | `(tactic| walk_at "getMethod str") => `(tactic| (k_here; (with_reducible refine encode_method ?_)))
local macro_rules | `(tactic| walk_at "getMethod ref") => `(tactic| (k_here; (rename Fr _ _ _ _ => lF'); (with_reducible show wpAny _ _ (getMethod (Value.ref 43) _ _) _ _ _); (refine method_sub (pat1 (by assumption) lF'.keep) ?_)))
local macro_rules | `(tactic| walk_at "getMethod ref") => `(tactic| (k_here; (rename Fr _ _ _ _ => lF'); (with_reducible show wpAny _ _ (getMethod (Value.ref 48) _ _) _ _ _); (refine method_sub (pat2 (by assumption) lF'.keep) ?_)))
local macro_rules | `(tactic| walk_at "call builtin:str.encode") => `(tactic| (k_here; (refine' encodeK ?hz ?_; (case hz => omega)); intro _ _))
local macro_rules | `(tactic| walk_at "call builtin:bytes.decode") => `(tactic| (k_here; (refine' decodeK ?hz ?_; (case hz => omega)); intro _ _))
local macro_rules | `(tactic| walk_at "call builtin:str.split") => `(tactic| (k_here; (refine' KSpl.split0 ?k1 ?k2 ?_ ?k3; (case k1 => k_asm); (case k2 => k_asm); (case k3 => (simp only [sizeLine_eq]; omega))); intro D' l' h' k' e' a' F' N' l1; (try k_lt l1)))
local macro_rules | `(tactic| walk_at "call builtin:str.join") => `(tactic| (k_here; (refine' joinWordsK ?k1 ?k2 ?k3 ?k4 ?k5 ?_; (case k2 => k_asm); (case k3 => k_mem); (case k4 => assumption); (case k5 => assumption); (case k1 => omega)); intro _ _))
local macro_rules | `(tactic| walk_at "call builtin:re.Pattern.sub") => `(tactic| (k_here; (refine' sub1K ?k1 ?k2 ?k3 ?k4 ?_; (case k1 => k_asm); (case k2 => k_asm); (case k3 => assumption); (case k4 => omega)); intro _ _ _ F9 N9))
local macro_rules | `(tactic| walk_at "call builtin:re.Pattern.sub") => `(tactic| (k_here; (refine' sub2K ?k1 ?k2 ?k3 ?k4 ?_; (case k1 => k_asm); (case k2 => k_asm); (case k3 => assumption); (case k4 => omega)); intro _ _ _ F9 N9))
section
variable {prog : Program} {w : World} {dp un : Nat} {gd : Option (List Code)} {cn : Str} {cs : Scope} {a : Addr} {ccd : Value} {cl : List (Str × Addr)} {outer : List Env} {A₀ : Around} {base h₀ : Heap} {L : Addr} {m : Str → Option Value} {s : Shared} {Q E : Value → Shared → Prop} {news : List (Addr × Obj)} {mean : ExcName → Option Value} {mg mb : Str → Option Value} {p : Program} {loose : List Str}

set_option maxRecDepth 100000 in
set_option maxHeartbeats 1000000 in
theorem makeId_code {x : Str} {t : Tok} (B : Below A₀ base outer h₀) (F : Fr h₀ L s.heap m) (X : (hd.heap_39 w.params).In h₀) (N : News h₀ L s.heap news) (T : Top p loose mean mg mb h₀) (hk : cs.kind = .function)
   (hdp : dp + 6 < recursionLimit) (hun : un + 100 < cLine) (hx : x.length ≤ 100)
  (ret : ∀ t h' tk', Fr h₀ L h' m → News h₀ L h' news → Q (.str (mkId x) t) {s with heap := h', toks := tk'}) :
  wpAny (model prog w) (ktrTop dp un gd cn cs L a ccd cl outer) (call (.ref 38) [.str x t]) Q E s := by
  have hq1 := mk0_length x
  have hq2 : (⟨(asc (Txt.lower x).cps.toList).toArray⟩ : Str).length ≤ (Txt.lower x).length := by rw [← len_list, ← len_list]; exact asc_length _
  unfold mk0 at hq1
  refine wpAny_call ?_
  k_dflt cell_enter
  k_steps
  exact ret _ _ _ (by k_asm) (cb_drop (by assumption) (by intro p hp; exact List.mem_cons_of_mem _ hp))

set_option maxRecDepth 100000 in
set_option maxHeartbeats 1000000 in
theorem white_code {x : Str} {t : Tok} (B : Below A₀ base outer h₀) (F : Fr h₀ L s.heap m) (X : (hd.heap_39 w.params).In h₀) (N : News h₀ L s.heap news) (T : Top p loose mean mg mb h₀) (hk : cs.kind = .function)
   (hdp : dp + 6 < recursionLimit) (hun : un + 100 < cLine) (hx : x.length ≤ 100)
  (ret : ∀ t h' tk', Fr h₀ L h' m → News h₀ L h' news → Q (.str (Txt.join (Str.ofString " ") (Txt.words x)) t) {s with heap := h', toks := tk'}) :
  wpAny (model prog w) (ktrTop dp un gd cn cs L a ccd cl outer) (call (.ref 62) [.str x t]) Q E s := by
  refine wpAny_call ?_
  k_dflt cell_enter
  k_steps
  exact ret _ _ _ (by k_asm) (cb_drop (by assumption) (by intro p hp; exact List.mem_cons_of_mem _ hp))

set_option maxRecDepth 100000 in
set_option maxHeartbeats 1000000 in
theorem fully_code {x : Str} {t : Tok} (B : Below A₀ base outer h₀) (F : Fr h₀ L s.heap m) (X : (hd.heap_39 w.params).In h₀) (N : News h₀ L s.heap news) (T : Top p loose mean mg mb h₀) (hk : cs.kind = .function)
   (hdp : dp + 6 < recursionLimit) (hun : un + 100 < cLine) (hx : x.length ≤ 100)
  (ret : ∀ t h' tk', Fr h₀ L h' m → News h₀ L h' news → Q (.str (Txt.join (Str.ofString " ") (Txt.words (Txt.lower x))) t) {s with heap := h', toks := tk'}) :
  wpAny (model prog w) (ktrTop dp un gd cn cs L a ccd cl outer) (call (.ref 55) [.str x t]) Q E s := by
  refine wpAny_call ?_
  k_dflt cell_enter
  k_steps
  exact ret _ _ _ (by k_asm) (cb_drop (by assumption) (by intro p hp; exact List.mem_cons_of_mem _ hp))
end
end Mine
end
local macro_rules | `(tactic| walk_at "none M1 0") => `(tactic| fail "none")
local macro_rules | `(tactic| walk_at "none M1 1") => `(tactic| fail "none")
local macro_rules | `(tactic| walk_at "none M1 2") => `(tactic| fail "none")
local macro_rules | `(tactic| walk_at "none M1 3") => `(tactic| fail "none")
local macro_rules | `(tactic| walk_at "none M1 4") => `(tactic| fail "none")
local macro_rules | `(tactic| walk_at "none M1 5") => `(tactic| fail "none")
local macro_rules | `(tactic| walk_at "none M1 6") => `(tactic| fail "none")
local macro_rules | `(tactic| walk_at "none M1 7") => `(tactic| fail "none")
local macro_rules | `(tactic| walk_at "none M1 8") => `(tactic| fail "none")
local macro_rules | `(tactic| walk_at "none M1 9") => `(tactic| fail "none")
section
open PySem PySem.W PyProof.Rows
set_option rowWalk.seconds 0
namespace Mine
theorem fillV1 : (fun (_ : OpenLaw) (_ : Params → Frag) => True) PySem.Challenge.rw_bq6009_01 hd.heap_39 := by k_fill; trivial
local macro_rules | `(tactic| walk_at "call ref") => `(tactic| (k_here; (with_reducible show wpAny _ _ (call (Value.ref 38) [Value.str _ _]) _ _ _); k_dflt (refine' makeId_code ?k1 ?k2 ?k3 ?k4 ?k5 ?kK ?kd ?ku ?kx ?_; (case k1 => k_asm); (case k2 => k_asm); (case k3 => k_asm); (case k4 => k_asm); (case k5 => k_asm); (case kK => first | exact rfl | assumption); (case kd => ktr_room); (case ku => ktr_units); (case kx => omega)); intro t9 h9 tk9 F9 N9; (try dsimp only); (try k_fold)))
theorem fs_len {a x b : Str} (h1 : a.length ≤ 100) (h2 : b.length ≤ 100) (hx : x.length ≤ 100) : (Str.empty ++ a ++ x ++ b).length ≤ sizeLine := by
  rw [Str.length_append, Str.length_append, Str.length_append, show Str.empty.length = 0 from rfl, sizeLine_eq]
  omega
local macro_rules | `(tactic| walk_at "joinParts") => `(tactic| (k_here; (first | (with_reducible show wpAny _ _ (joinParts _ []) _ _ _) | (with_reducible show wpAny _ _ (joinParts _ (evalEach [] _)) _ _ _)); k_dflt (refine' PyProof.Rows.joinParts_nil ?_ ?hz; (case hz => exact fs_len (by decide +kernel) (by decide +kernel) (by assumption)))))
theorem RaisedSN.drop {base G : Heap} {l : List Env} {e : Addr} {cls : Value} {news news' : List (Addr × Obj)} {h : Heap} (R : RaisedSN base G l e cls news h) (hs : ∀ p ∈ news', p ∈ news) : RaisedSN base G l e cls news' h := by
  obtain ⟨B, a0, hB, hBG, hl, hfl⟩ := R
  exact ⟨B, a0, hB, hBG, fun q hq => hl q (hs q hq), hfl⟩
local macro_rules | `(tactic| walk_at "leaving ref") => `(tactic| (k_here; first
  | (refine' leave_newS ?k1 ?k0 ?k2 ?k3 ?_; (case k0 => assumption); (case k2 => assumption); (case k1 => assumption); (case k3 => k_asm); k_whole; intro h' S' R' U'; (try dsimp only at S' R' U' ⊢))
  | (refine' leave_onSN ?k1 ?k2 ?k3 ?k4 ?_; (case k3 => assumption); (case k2 => assumption); (case k1 => assumption); (case k4 => assumption); k_whole; intro h' S' R' U'; (try dsimp only at S' R' U' ⊢))))
section
variable {prog : Program} {w : World} {dp un : Nat} {gd : Option (List Code)} {cn : Str} {cs : Scope} {a : Addr} {ccd : Value} {cl : List (Str × Addr)} {outer : List Env} {A₀ : Around} {base h₀ : Heap} {L : Addr} {m : Str → Option Value} {s : Shared} {Q E : Value → Shared → Prop} {news : List (Addr × Obj)} {mean : ExcName → Option Value} {mg mb : Str → Option Value} {p : Program} {loose : List Str}

set_option maxRecDepth 100000 in
set_option maxHeartbeats 1000000 in
theorem vid_code {x : Str} {t : Tok} (B : Below A₀ base outer h₀) (F : Fr h₀ L s.heap m) (X : (hd.heap_39 w.params).In h₀) (N : News h₀ L s.heap news) (T : Top p loose mean mg mb h₀) (hk : cs.kind = .function)
   (hdp : dp + 9 < recursionLimit) (hun : un + 150 < cLine) (hx : x.length ≤ 100)
  (ret : x = mkId x → ∀ h' tk', Fr h₀ L h' m → News h₀ L h' news → Q (.str x t) {s with heap := h', toks := tk'})
  (exc : x ≠ mkId x → ∀ e g h' tk', Fr h₀ L g m → RaisedSN base g (envX cn cs L a ccd cl :: outer) e (.type "ValueError") news h' → g.UpToSlots h' → E (.ref e) {s with heap := h', toks := tk'}) :
  wpAny (model prog w) (ktrTop dp un gd cn cs L a ccd cl outer) (call (.ref 69) [.str x t]) Q E s := by
  refine wpAny_call ?_
  k_dflt cell_enter
  k_steps
  · exact exc (by simpa using (by assumption : (x != mkId x) = true)) _ _ _ _ (by assumption) (by assumption) (by assumption)
  · exact ret (by simpa using (by assumption : (x != mkId x) = false)) _ _ (by k_asm) (by k_asm)
end
end Mine
end
local macro_rules | `(tactic| walk_at "none V1 0") => `(tactic| fail "none")
local macro_rules | `(tactic| walk_at "none V1 1") => `(tactic| fail "none")
local macro_rules | `(tactic| walk_at "none V1 2") => `(tactic| fail "none")
local macro_rules | `(tactic| walk_at "none V1 3") => `(tactic| fail "none")
section
open PySem PySem.W PyProof.Rows
set_option rowWalk.seconds 0
namespace Mine
theorem fillV2 : (fun (_ : OpenLaw) (_ : Params → Frag) => True) PySem.Challenge.rw_bq6009_01 hd.heap_39 := by k_fill; trivial
local macro_rules | `(tactic| walk_at "leaving ref") => `(tactic| (k_here; first
  | (refine' leave_newS ?k1 ?k0 ?k2 ?k3 ?_; (case k0 => assumption); (case k2 => assumption); (case k1 => assumption); (case k3 => k_asm); k_whole; intro h' S' R' U'; (try dsimp only at S' R' U' ⊢))
  | (refine' leave_onSN ?k1 ?k2 ?k3 ?k4 ?_; (case k3 => assumption); (case k2 => assumption); (case k1 => assumption); (case k4 => assumption); k_whole; intro h' S' R' U'; (try dsimp only at S' R' U' ⊢))))
local macro_rules | `(tactic| walk_at "call ref") => `(tactic| (k_here; (with_reducible show wpAny _ _ (call (Value.ref 69) [Value.str _ _]) _ _ _); k_dflt (refine' vid_code ?k1 ?k2 ?k3 ?k4 ?k5 ?kK ?kd ?ku ?kx ?_ ?_; (case k1 => k_asm); (case k2 => k_asm); (case k3 => k_asm); (case k4 => k_asm); (case k5 => k_asm); (case kK => first | exact rfl | assumption); (case kd => ktr_room); (case ku => ktr_units); (case kx => first | assumption | omega)); rotate_left; (intro q9 e9 g9 h9 tk9 FG9 R9 U9; (try dsimp only); (try k_fold)); rotate_right; intro q9 h9 tk9 F9 N9; (try dsimp only); (try k_fold)))
local macro_rules | `(tactic| walk_at "call builtin:str.split") => `(tactic| (k_here; (refine' KSpl.split0 ?k1 ?k2 ?_ ?k3; (case k1 => k_asm); (case k2 => k_asm); (case k3 => (simp only [sizeLine_eq]; omega))); intro D' l' h' k' e' a' F' N' l1; (try k_lt l1)))
theorem take_all {ws : List Str} {i : Nat} {y : Str} {P : Str → Prop} (h : ∀ z ∈ ws.take i, P z) (hi : ws[i]? = some y) (hy : P y) : ∀ z ∈ ws.take (i + 1), P z := by
  intro z hz
  rw [List.take_add_one, hi] at hz
  rcases List.mem_append.mp hz with hz | hz
  · exact h z hz
  · rw [show z = y from by simpa using hz]; exact hy
theorem get_mem {ws : List Str} {i : Nat} {y : Str} (hi : ws[i]? = some y) : y ∈ ws := List.mem_of_getElem? hi
section
variable {prog : Program} {w : World} {dp un : Nat} {gd : Option (List Code)} {cn : Str} {cs : Scope} {a : Addr} {ccd : Value} {cl : List (Str × Addr)} {outer : List Env} {A₀ : Around} {base h₀ : Heap} {L : Addr} {m : Str → Option Value} {s : Shared} {Q E : Value → Shared → Prop} {news : List (Addr × Obj)} {mean : ExcName → Option Value} {mg mb : Str → Option Value} {p : Program} {loose : List Str}

set_option maxRecDepth 100000 in
set_option maxHeartbeats 1000000 in
theorem vilT_code {x : Str} {t : Tok} (B : Below A₀ base outer h₀) (F : Fr h₀ L s.heap m) (X : (hd.heap_39 w.params).In h₀) (N : News h₀ L s.heap news) (T : Top p loose mean mg mb h₀) (hk : cs.kind = .function)
   (hdp : dp + 12 < recursionLimit) (hun : un + 200 < cLine) (hx : x.length ≤ 100)
  (ret : (∀ y ∈ Txt.words x, y = mkId y) → ∀ a vs ep h' tk', Fr h₀ L h' m → News h₀ L h' ((a, lob vs ep) :: news) → StrsAre vs (Txt.words x) → Q (.ref a) {s with heap := h', toks := tk'})
  (exc : (¬ ∀ y ∈ Txt.words x, y = mkId y) → ∀ e g h' tk', Fr h₀ L g m → RaisedSN base g (envX cn cs L a ccd cl :: outer) e (.type "ValueError") news h' → g.UpToSlots h' → E (.ref e) {s with heap := h', toks := tk'}) :
  wpAny (model prog w) (ktrTop dp un gd cn cs L a ccd cl outer) (call (.ref 76) [.str x t]) Q E s := by
  refine wpAny_call ?_
  k_dflt cell_enter
  k_steps
  rename Fr _ _ _ _ => kF
  rename News _ _ _ _ => kN
  rename StrsAre _ _ => kS
  rename List.map _ _ = Txt.words _ => kE
  rw [kE] at kS
  with_unfolding_all refine' For_invVF kF ?k1 ?k2 ?_
  (case k1 => exact rfl)
  (case k2 => exact rfl)
  k_whole
  repeat' ((fail_if_success (with_reducible show wpAny _ _ (pyIter _) _ _ _)); (first | (k_unfold; (try dsimp only)) | walk1 | (dsimp only; walk1)))
  refine' loop_list (σ := Unit) (ws := Txt.words x) (ep := 0) (fun _ => (_, listOf (strValues _).toArray 0) :: news) (fun _ => []) [] (fun i _ => ∀ z ∈ (Txt.words x).take i, z = mkId z) () rfl ?hl kS kF kN (List.forall_mem_nil _) (fun z hz => nomatch hz) ?turn ?done
  case hl => exact fun _ => List.mem_cons_self
  case turn =>
    clear kF kN
    rintro ⟨⟩ i y ty I u h tk oI hi hP off F9 N9
    dsimp only [kstB] at hP off F9 N9 ⊢
    have hy : y.length ≤ 100 := Nat.le_trans (word_short (get_mem hi)) hx
    k_steps
    · refine TurnPost.next () (by k_asm) (by k_asm) (fun p hp => hp) off (List.forall_mem_nil _) ?_ (take_all hP hi (by assumption))
      intro z h0 _ _
      simp only [if_neg h0, List.contains_nil, Bool.false_eq_true, if_false]
    · exact exc (fun hh => (by assumption : y ≠ mkId y) (hh _ (get_mem hi))) _ _ _ _ (by assumption) (RaisedSN.drop (by assumption) (fun p hp => List.mem_cons_of_mem _ (List.mem_cons_of_mem _ hp))) (by assumption)
  case done =>
    clear kF kN
    rintro ⟨⟩ u h tk hP F9 N9
    dsimp only [kstB] at hP F9 N9 ⊢
    rw [List.take_length] at hP
    k_steps
    exact ret hP _ _ _ _ _ (by k_asm) (by k_asm) kS

set_option maxRecDepth 100000 in
set_option maxHeartbeats 1000000 in
theorem vilL_code {ax : Addr} {vs : List Value} {ws : List Str} {ep : Nat} (B : Below A₀ base outer h₀) (F : Fr h₀ L s.heap m) (X : (hd.heap_39 w.params).In h₀) (N : News h₀ L s.heap news) (T : Top p loose mean mg mb h₀) (hk : cs.kind = .function)
   (hdp : dp + 12 < recursionLimit) (hun : un + 200 < cLine) (hax : (ax, lob vs ep) ∈ news) (kS : StrsAre vs ws) (hx : ∀ y ∈ ws, y.length ≤ 100)
  (ret : (∀ y ∈ ws, y = mkId y) → ∀ h' tk', Fr h₀ L h' m → News h₀ L h' news → Q (.ref ax) {s with heap := h', toks := tk'})
  (exc : (¬ ∀ y ∈ ws, y = mkId y) → ∀ e g h' tk', Fr h₀ L g m → RaisedSN base g (envX cn cs L a ccd cl :: outer) e (.type "ValueError") news h' → g.UpToSlots h' → E (.ref e) {s with heap := h', toks := tk'}) :
  wpAny (model prog w) (ktrTop dp un gd cn cs L a ccd cl outer) (call (.ref 76) [.ref ax]) Q E s := by
  refine wpAny_call ?_
  k_dflt cell_enter
  k_steps
  rename Fr _ _ _ _ => kF
  rename News _ _ _ _ => kN
  with_unfolding_all refine' For_invVF kF ?k1 ?k2 ?_
  (case k1 => exact rfl)
  (case k2 => exact rfl)
  k_whole
  repeat' ((fail_if_success (with_reducible show wpAny _ _ (pyIter _) _ _ _)); (first | (k_unfold; (try dsimp only)) | walk1 | (dsimp only; walk1)))
  refine' loop_list (σ := Unit) (ws := ws) (ep := ep) (fun _ => news) (fun _ => []) [] (fun i _ => ∀ z ∈ ws.take i, z = mkId z) () rfl ?hl kS kF kN (List.forall_mem_nil _) (fun z hz => nomatch hz) ?turn ?done
  case hl => exact fun _ => hax
  case turn =>
    clear kF kN
    rintro ⟨⟩ i y ty I u h tk oI hi hP off F9 N9
    dsimp only [kstB] at hP off F9 N9 ⊢
    have hy : y.length ≤ 100 := hx _ (get_mem hi)
    k_steps
    · refine TurnPost.next () (by k_asm) (by k_asm) (fun p hp => hp) off (List.forall_mem_nil _) ?_ (take_all hP hi (by assumption))
      intro z h0 _ _
      simp only [if_neg h0, List.contains_nil, Bool.false_eq_true, if_false]
    · exact exc (fun hh => (by assumption : y ≠ mkId y) (hh _ (get_mem hi))) _ _ _ _ (by assumption) (RaisedSN.drop (by assumption) (fun p hp => List.mem_cons_of_mem _ hp)) (by assumption)
  case done =>
    clear kF kN
    rintro ⟨⟩ u h tk hP F9 N9
    dsimp only [kstB] at hP F9 N9 ⊢
    rw [List.take_length] at hP
    k_steps
    exact ret hP _ _ (by k_asm) (by k_asm)
end
end Mine
end
local macro_rules | `(tactic| walk_at "none V2 0") => `(tactic| fail "none")
local macro_rules | `(tactic| walk_at "none V2 1") => `(tactic| fail "none")
local macro_rules | `(tactic| walk_at "none V2 2") => `(tactic| fail "none")
local macro_rules | `(tactic| walk_at "none V2 3") => `(tactic| fail "none")
section
open PySem PySem.W PyProof.Rows
set_option rowWalk.seconds 0
namespace Mine
theorem fillV3 : (fun (_ : OpenLaw) (_ : Params → Frag) => True) PySem.Challenge.rw_bq6009_01 hd.heap_39 := by k_fill; trivial
theorem noBool_match : typeLookup (.type "re.Match") "__bool__" = pure none := by rw [typeLookup_type, builtinLookup_eq_fast]; kernel_rfl
theorem noLen_match : typeLookup (.type "re.Match") "__len__" = pure none := by rw [typeLookup_type, builtinLookup_eq_fast]; kernel_rfl
theorem truthy_match {prog : Program} {w : World} {A : Around} {E : Value → Shared → Prop} {s : Shared} {h₀ : Heap} {L tp : Addr} {o : Obj} {news : List (Addr × Obj)} {Q : Bool → Shared → Prop} (N : News h₀ L s.heap news) (hm : (tp, o) ∈ news) (hc : o.cls = .type "re.Match") (h : Q true s) : wpAny (model prog w) A (truthy (.ref tp)) Q E s := by
  have hT : s.TypeIs (.ref tp) "re.Match" := ⟨o, (N _ hm).1, hc⟩
  unfold truthy
  refine wpAny_bind (wpAny_callSpecial?_none hT noBool_match ?_)
  refine wpAny_bind (wpAny_specialOf hT noLen_match ?_)
  exact wpAny_pure h
def IsTok (x : Str) : Prop := runOf nmc x.cps.toList = x.cps.size ∧ x.cps.size ≠ 0
section
variable {prog : Program} {w : World} {A : Around} {E : Value → Shared → Prop} {s : Shared} {h₀ : Heap} {L : Addr} {m : Str → Option Value} {news : List (Addr × Obj)} {Q : Value → Shared → Prop}
theorem fullK {x : Str} {t : Tok} (F : Fr h₀ L s.heap m) (N : News h₀ L s.heap news) (X : (hd.heap_39 w.params).In h₀) (hx : x.length ≤ 100)
    (hy : IsTok x → ∀ tp h' tk' o, Fr h₀ L h' m → News h₀ L h' ((tp, o) :: news) → o.cls = .type "re.Match" → (∀ p ∈ news, p.1 ≠ tp) → Q (.ref tp) { s with heap := h', toks := tk' })
    (hn : ¬ IsTok x → Q .none s) : wpAny (model prog w) A (call (.builtin "re.Pattern.fullmatch") [.ref 81, .str x t]) Q E s := by
  refine full_call (by omega) (pat3 X F.keep) (fun hi tp h' tk' hk ho hn => ?_) hn
  obtain ⟨o, ho, hc, hd⟩ := ho
  have hne : ∀ p ∈ news, p.1 ≠ tp := fun p hp e => by have := (N p hp).1; rw [e, hn] at this; cases this
  refine hy hi tp h' tk' o (F.keeps hk) (fun p hp => ?_) hc hne
  rcases List.mem_cons.mp hp with rfl | hp
  · refine ⟨ho, fun e => ?_, kts_none F.keep hn⟩
    dsimp only at e
    obtain ⟨oL, _, _, hL, _⟩ := F.ns
    rw [e, hL] at hn
    cases hn
  · exact N.keepsAll hk p hp
end
local macro_rules | `(tactic| walk_at "leaving ref") => `(tactic| (k_here; first
  | (refine' leave_newS ?k1 ?k0 ?k2 ?k3 ?_; (case k0 => assumption); (case k2 => assumption); (case k1 => assumption); (case k3 => k_asm); k_whole; intro h' S' R' U'; (try dsimp only at S' R' U' ⊢))
  | (refine' leave_onSN ?k1 ?k2 ?k3 ?k4 ?_; (case k3 => assumption); (case k2 => assumption); (case k1 => assumption); (case k4 => assumption); k_whole; intro h' S' R' U'; (try dsimp only at S' R' U' ⊢))))
local macro_rules | `(tactic| walk_at "getMethod ref") => `(tactic| (k_here; (rename Fr _ _ _ _ => lF'); (with_reducible show wpAny _ _ (getMethod (Value.ref 81) _ _) _ _ _); (refine method_full (pat3 (by assumption) lF'.keep) ?_)))
local macro_rules | `(tactic| walk_at "call builtin:re.Pattern.fullmatch") => `(tactic| (k_here; (refine' fullK ?k1 ?k2 ?k3 ?k4 ?_ ?_; (case k1 => k_asm); (case k2 => k_asm); (case k3 => assumption); (case k4 => assumption)); (intro q9 tp9 h9 tk9 o9 F9 N9 c9 d9; (try dsimp only)); rotate_left; (intro q9; (try dsimp only)); rotate_right))
local macro_rules | `(tactic| walk_at "truthy ref") => `(tactic| (k_here; (refine' truthy_match ?k1 ?k2 ?k3 ?_; (case k1 => assumption); (case k2 => exact List.mem_cons_self); (case k3 => assumption)); (try dsimp only)))
local macro_rules | `(tactic| walk_at "joinParts") => `(tactic| (k_here; (first | (with_reducible show wpAny _ _ (joinParts _ []) _ _ _) | (with_reducible show wpAny _ _ (joinParts _ (evalEach [] _)) _ _ _)); k_dflt (refine' PyProof.Rows.joinParts_nil ?_ ?hz; (case hz => exact fs_len (by decide +kernel) (by decide +kernel) (by assumption)))))
section
variable {prog : Program} {w : World} {dp un : Nat} {gd : Option (List Code)} {cn : Str} {cs : Scope} {a : Addr} {ccd : Value} {cl : List (Str × Addr)} {outer : List Env} {A₀ : Around} {base h₀ : Heap} {L : Addr} {m : Str → Option Value} {s : Shared} {Q E : Value → Shared → Prop} {news : List (Addr × Obj)} {mean : ExcName → Option Value} {mg mb : Str → Option Value} {p : Program} {loose : List Str}

set_option maxRecDepth 100000 in
set_option maxHeartbeats 1000000 in
theorem vnm_code {x : Str} {t : Tok} (B : Below A₀ base outer h₀) (F : Fr h₀ L s.heap m) (X : (hd.heap_39 w.params).In h₀) (N : News h₀ L s.heap news) (T : Top p loose mean mg mb h₀) (hk : cs.kind = .function)
   (hdp : dp + 9 < recursionLimit) (hun : un + 150 < cLine) (hx : x.length ≤ 100)
  (ret : IsTok x → ∀ h' tk', Fr h₀ L h' m → News h₀ L h' news → Q (.str x t) {s with heap := h', toks := tk'})
  (exc : ¬ IsTok x → ∀ e g h' tk', Fr h₀ L g m → RaisedSN base g (envX cn cs L a ccd cl :: outer) e (.type "ValueError") news h' → g.UpToSlots h' → E (.ref e) {s with heap := h', toks := tk'}) :
  wpAny (model prog w) (ktrTop dp un gd cn cs L a ccd cl outer) (call (.ref 88) [.str x t]) Q E s := by
  refine wpAny_call ?_
  k_dflt cell_enter
  k_steps
  · exact ret (by assumption) _ _ (by k_asm) (cb_drop (by assumption) (by intro p hp; exact List.mem_cons_of_mem _ hp))
  · exact exc (by assumption) _ _ _ _ (by assumption) (by assumption) (by assumption)
end
local macro_rules | `(tactic| walk_at "call builtin:str.split") => `(tactic| (k_here; (refine' KSpl.split0 ?k1 ?k2 ?_ ?k3; (case k1 => k_asm); (case k2 => k_asm); (case k3 => (simp only [sizeLine_eq]; omega))); intro D' l' h' k' e' a' F' N' l1; (try k_lt l1)))
local macro_rules | `(tactic| walk_at "call ref") => `(tactic| (k_here; (with_reducible show wpAny _ _ (call (Value.ref 88) [Value.str _ _]) _ _ _); k_dflt (refine' vnm_code ?k1 ?k2 ?k3 ?k4 ?k5 ?kK ?kd ?ku ?kx ?_ ?_; (case k1 => k_asm); (case k2 => k_asm); (case k3 => k_asm); (case k4 => k_asm); (case k5 => k_asm); (case kK => first | exact rfl | assumption); (case kd => ktr_room); (case ku => ktr_units); (case kx => first | assumption | omega)); rotate_left; (intro q9 e9 g9 h9 tk9 FG9 R9 U9; (try dsimp only); (try k_fold)); rotate_right; intro q9 h9 tk9 F9 N9; (try dsimp only); (try k_fold)))
section
variable {prog : Program} {w : World} {dp un : Nat} {gd : Option (List Code)} {cn : Str} {cs : Scope} {a : Addr} {ccd : Value} {cl : List (Str × Addr)} {outer : List Env} {A₀ : Around} {base h₀ : Heap} {L : Addr} {m : Str → Option Value} {s : Shared} {Q E : Value → Shared → Prop} {news : List (Addr × Obj)} {mean : ExcName → Option Value} {mg mb : Str → Option Value} {p : Program} {loose : List Str}

set_option maxRecDepth 100000 in
set_option maxHeartbeats 1000000 in
theorem vnsT_code {x : Str} {t : Tok} (B : Below A₀ base outer h₀) (F : Fr h₀ L s.heap m) (X : (hd.heap_39 w.params).In h₀) (N : News h₀ L s.heap news) (T : Top p loose mean mg mb h₀) (hk : cs.kind = .function)
   (hdp : dp + 12 < recursionLimit) (hun : un + 200 < cLine) (hx : x.length ≤ 100)
  (ret : (∀ y ∈ Txt.words x, IsTok y) → ∀ a vs ep h' tk', Fr h₀ L h' m → News h₀ L h' ((a, lob vs ep) :: news) → StrsAre vs (Txt.words x) → Q (.ref a) {s with heap := h', toks := tk'})
  (exc : (¬ ∀ y ∈ Txt.words x, IsTok y) → ∀ e g h' tk', Fr h₀ L g m → RaisedSN base g (envX cn cs L a ccd cl :: outer) e (.type "ValueError") news h' → g.UpToSlots h' → E (.ref e) {s with heap := h', toks := tk'}) :
  wpAny (model prog w) (ktrTop dp un gd cn cs L a ccd cl outer) (call (.ref 95) [.str x t]) Q E s := by
  refine wpAny_call ?_
  k_dflt cell_enter
  k_steps
  rename Fr _ _ _ _ => kF
  rename News _ _ _ _ => kN
  rename StrsAre _ _ => kS
  rename List.map _ _ = Txt.words _ => kE
  rw [kE] at kS
  with_unfolding_all refine' For_invVF kF ?k1 ?k2 ?_
  (case k1 => exact rfl)
  (case k2 => exact rfl)
  k_whole
  repeat' ((fail_if_success (with_reducible show wpAny _ _ (pyIter _) _ _ _)); (first | (k_unfold; (try dsimp only)) | walk1 | (dsimp only; walk1)))
  refine' loop_list (σ := Unit) (ws := Txt.words x) (ep := 0) (fun _ => (_, listOf (strValues _).toArray 0) :: news) (fun _ => []) [] (fun i _ => ∀ z ∈ (Txt.words x).take i, IsTok z) () rfl ?hl kS kF kN (List.forall_mem_nil _) (fun z hz => nomatch hz) ?turn ?done
  case hl => exact fun _ => List.mem_cons_self
  case turn =>
    clear kF kN
    rintro ⟨⟩ i y ty I u h tk oI hi hP off F9 N9
    dsimp only [kstB] at hP off F9 N9 ⊢
    have hy : y.length ≤ 100 := Nat.le_trans (word_short (get_mem hi)) hx
    k_steps
    · refine TurnPost.next () (by k_asm) (by k_asm) (fun p hp => hp) off (List.forall_mem_nil _) ?_ (take_all hP hi (by assumption))
      intro z h0 _ _
      simp only [if_neg h0, List.contains_nil, Bool.false_eq_true, if_false]
    · exact exc (fun hh => (by assumption : ¬ IsTok y) (hh _ (get_mem hi))) _ _ _ _ (by assumption) (RaisedSN.drop (by assumption) (fun p hp => List.mem_cons_of_mem _ (List.mem_cons_of_mem _ hp))) (by assumption)
  case done =>
    clear kF kN
    rintro ⟨⟩ u h tk hP F9 N9
    dsimp only [kstB] at hP F9 N9 ⊢
    rw [List.take_length] at hP
    k_steps
    exact ret hP _ _ _ _ _ (by k_asm) (by k_asm) kS

set_option maxRecDepth 100000 in
set_option maxHeartbeats 1000000 in
theorem vnsL_code {ax : Addr} {vs : List Value} {ws : List Str} {ep : Nat} (B : Below A₀ base outer h₀) (F : Fr h₀ L s.heap m) (X : (hd.heap_39 w.params).In h₀) (N : News h₀ L s.heap news) (T : Top p loose mean mg mb h₀) (hk : cs.kind = .function)
   (hdp : dp + 12 < recursionLimit) (hun : un + 200 < cLine) (hax : (ax, lob vs ep) ∈ news) (kS : StrsAre vs ws) (hx : ∀ y ∈ ws, y.length ≤ 100)
  (ret : (∀ y ∈ ws, IsTok y) → ∀ h' tk', Fr h₀ L h' m → News h₀ L h' news → Q (.ref ax) {s with heap := h', toks := tk'})
  (exc : (¬ ∀ y ∈ ws, IsTok y) → ∀ e g h' tk', Fr h₀ L g m → RaisedSN base g (envX cn cs L a ccd cl :: outer) e (.type "ValueError") news h' → g.UpToSlots h' → E (.ref e) {s with heap := h', toks := tk'}) :
  wpAny (model prog w) (ktrTop dp un gd cn cs L a ccd cl outer) (call (.ref 95) [.ref ax]) Q E s := by
  refine wpAny_call ?_
  k_dflt cell_enter
  k_steps
  rename Fr _ _ _ _ => kF
  rename News _ _ _ _ => kN
  with_unfolding_all refine' For_invVF kF ?k1 ?k2 ?_
  (case k1 => exact rfl)
  (case k2 => exact rfl)
  k_whole
  repeat' ((fail_if_success (with_reducible show wpAny _ _ (pyIter _) _ _ _)); (first | (k_unfold; (try dsimp only)) | walk1 | (dsimp only; walk1)))
  refine' loop_list (σ := Unit) (ws := ws) (ep := ep) (fun _ => news) (fun _ => []) [] (fun i _ => ∀ z ∈ ws.take i, IsTok z) () rfl ?hl kS kF kN (List.forall_mem_nil _) (fun z hz => nomatch hz) ?turn ?done
  case hl => exact fun _ => hax
  case turn =>
    clear kF kN
    rintro ⟨⟩ i y ty I u h tk oI hi hP off F9 N9
    dsimp only [kstB] at hP off F9 N9 ⊢
    have hy : y.length ≤ 100 := hx _ (get_mem hi)
    k_steps
    · refine TurnPost.next () (by k_asm) (by k_asm) (fun p hp => hp) off (List.forall_mem_nil _) ?_ (take_all hP hi (by assumption))
      intro z h0 _ _
      simp only [if_neg h0, List.contains_nil, Bool.false_eq_true, if_false]
    · exact exc (fun hh => (by assumption : ¬ IsTok y) (hh _ (get_mem hi))) _ _ _ _ (by assumption) (RaisedSN.drop (by assumption) (fun p hp => List.mem_cons_of_mem _ hp)) (by assumption)
  case done =>
    clear kF kN
    rintro ⟨⟩ u h tk hP F9 N9
    dsimp only [kstB] at hP F9 N9 ⊢
    rw [List.take_length] at hP
    k_steps
    exact ret hP _ _ (by k_asm) (by k_asm)
end
end Mine
end
local macro_rules | `(tactic| walk_at "none V3 0") => `(tactic| fail "none")
local macro_rules | `(tactic| walk_at "none V3 1") => `(tactic| fail "none")
local macro_rules | `(tactic| walk_at "none V3 2") => `(tactic| fail "none")
local macro_rules | `(tactic| walk_at "none V3 3") => `(tactic| fail "none")
local macro_rules | `(tactic| walk_at "none V3 4") => `(tactic| fail "none")
local macro_rules | `(tactic| walk_at "none V3 5") => `(tactic| fail "none")
local macro_rules | `(tactic| walk_at "none V3 6") => `(tactic| fail "none")
local macro_rules | `(tactic| walk_at "none V3 7") => `(tactic| fail "none")
section
open PySem PySem.W PyProof.Rows
set_option rowWalk.seconds 0
namespace Mine
theorem fillV4 : (fun (_ : OpenLaw) (_ : Params → Frag) => True) PySem.Challenge.rw_bq6009_01 hd.heap_39 := by k_fill; trivial
theorem stripD_length : ∀ l : List Nat, (stripD l).length ≤ l.length
  | [] => Nat.le_refl _
  | c :: r => by
    have ih := stripD_length r
    unfold stripD
    split
    · simp
    · simpa using ih
theorem ends_length (l : List Nat) : (ends l).length ≤ l.length := by
  unfold ends
  have := stripD_length (l.drop (runOf dbc l))
  rw [List.length_drop] at this
  omega
theorem mkId_length0 (x : Str) : (mkId x).length ≤ (Txt.lower x).length + 1 := by
  have h0 := mk0_length x
  have h1 := mk1_length (mk0 x)
  have h2 : (mk2 (mk1 (mk0 x))).length ≤ (mk1 (mk0 x)).length := by
    rw [← len_list, ← len_list, mk2_list]; exact ends_length _
  unfold mkId
  omega
theorem allLt_ne {d : Addr} : ∀ {l : List (Addr × Obj)}, AllLt d l → ∀ p ∈ l, p.1 ≠ d
  | [], _, p, h => nomatch h
  | q :: r, h, p, hp => by
    rcases List.mem_cons.mp hp with rfl | hp
    · exact Nat.ne_of_lt h.1
    · exact allLt_ne h.2 p hp
structure CL where
  vs : List Value
  ep : Nat
def CAt (ws : List Str) (i : Nat) (c : CL) : Prop := StrsAre c.vs ((ws.take i).map mkId) ∧ (∀ z ∈ ws.take i, mkId z ≠ Str.empty)
local macro_rules | `(tactic| walk_at "leaving ref") => `(tactic| (k_here; first
  | (refine' leave_newS ?k1 ?k0 ?k2 ?k3 ?_; (case k0 => assumption); (case k2 => assumption); (case k1 => assumption); (case k3 => k_asm); k_whole; intro h' S' R' U'; (try dsimp only at S' R' U' ⊢))
  | (refine' leave_onSN ?k1 ?k2 ?k3 ?k4 ?_; (case k3 => assumption); (case k2 => assumption); (case k1 => assumption); (case k4 => assumption); k_whole; intro h' S' R' U'; (try dsimp only at S' R' U' ⊢))))
local macro_rules | `(tactic| walk_at "call builtin:str.split") => `(tactic| (k_here; (refine' KSpl.split0 ?k1 ?k2 ?_ ?k3; (case k1 => k_asm); (case k2 => k_asm); (case k3 => (simp only [sizeLine_eq]; omega))); intro D' l' h' k' e' a' F' N' l1; (try k_lt l1)))
local macro_rules | `(tactic| walk_at "call ref") => `(tactic| (k_here; (with_reducible show wpAny _ _ (call (Value.ref 38) [Value.str _ _]) _ _ _); k_dflt (refine' makeId_code ?k1 ?k2 ?k3 ?k4 ?k5 ?kK ?kd ?ku ?kx ?_; (case k1 => k_asm); (case k2 => k_asm); (case k3 => k_asm); (case k4 => k_asm); (case k5 => k_asm); (case kK => first | exact rfl | assumption); (case kd => ktr_room); (case ku => ktr_units); (case kx => first | assumption | omega)); intro t9 h9 tk9 F9 N9; (try dsimp only); (try k_fold)))
section
variable {prog : Program} {w : World} {dp un : Nat} {gd : Option (List Code)} {cn : Str} {cs : Scope} {a : Addr} {ccd : Value} {cl : List (Str × Addr)} {outer : List Env} {A₀ : Around} {base h₀ : Heap} {L : Addr} {m : Str → Option Value} {s : Shared} {Q E : Value → Shared → Prop} {news : List (Addr × Obj)} {mean : ExcName → Option Value} {mg mb : Str → Option Value} {p : Program} {loose : List Str}

set_option maxRecDepth 100000 in
set_option maxHeartbeats 1000000 in
theorem copN_code (B : Below A₀ base outer h₀) (F : Fr h₀ L s.heap m) (X : (hd.heap_39 w.params).In h₀) (N : News h₀ L s.heap news) (T : Top p loose mean mg mb h₀) (hk : cs.kind = .function)
   (hdp : dp + 12 < recursionLimit) (hun : un + 200 < cLine)
  (exc : ∀ e g h' tk', Fr h₀ L g m → RaisedSN base g (envX cn cs L a ccd cl :: outer) e (.type "ValueError") news h' → g.UpToSlots h' → E (.ref e) {s with heap := h', toks := tk'}) :
  wpAny (model prog w) (ktrTop dp un gd cn cs L a ccd cl outer) (call (.ref 102) [.none]) Q E s := by
  refine wpAny_call ?_
  k_dflt cell_enter
  k_steps
  exact exc _ _ _ _ (by assumption) (by assumption) (by assumption)

set_option maxRecDepth 100000 in
set_option maxHeartbeats 1000000 in
theorem copT_code {x : Str} {t : Tok} (B : Below A₀ base outer h₀) (F : Fr h₀ L s.heap m) (X : (hd.heap_39 w.params).In h₀) (N : News h₀ L s.heap news) (T : Top p loose mean mg mb h₀) (hk : cs.kind = .function)
   (hdp : dp + 12 < recursionLimit) (hun : un + 200 < cLine) (hx : x.length ≤ 100)
  (ret : (∀ y ∈ Txt.words x, mkId y ≠ Str.empty) → ∀ a vs ep h' tk', Fr h₀ L h' m → News h₀ L h' ((a, lob vs ep) :: news) → StrsAre vs ((Txt.words x).map mkId) → Q (.ref a) {s with heap := h', toks := tk'})
  (exc : (¬ ∀ y ∈ Txt.words x, mkId y ≠ Str.empty) → ∀ e g h' tk', Fr h₀ L g m → RaisedSN base g (envX cn cs L a ccd cl :: outer) e (.type "ValueError") news h' → g.UpToSlots h' → E (.ref e) {s with heap := h', toks := tk'}) :
  wpAny (model prog w) (ktrTop dp un gd cn cs L a ccd cl outer) (call (.ref 102) [.str x t]) Q E s := by
  refine wpAny_call ?_
  k_dflt cell_enter
  k_steps
  rename Fr _ _ _ _ => kF
  rename News _ _ _ _ => kN
  rename StrsAre _ _ => kS
  rename List.map _ _ = Txt.words _ => kE
  rw [kE] at kS
  with_unfolding_all refine' For_invVF kF ?k1 ?k2 ?_
  (case k1 => exact rfl)
  (case k2 => exact rfl)
  k_whole
  repeat' ((fail_if_success (with_reducible show wpAny _ _ (pyIter _) _ _ _)); (first | (k_unfold; (try dsimp only)) | walk1 | (dsimp only; walk1)))
  refine' loop_list (σ := CL) (ws := Txt.words x) (ep := 0) (fun c => (_, listOf c.vs.toArray c.ep) :: (_, listOf (strValues _).toArray 0) :: news) (fun _ => []) [Str.ofString "class_name"] (CAt (Txt.words x)) ⟨[], 0⟩ rfl ?hl kS kF kN (List.forall_mem_nil _) ?hp ?turn ?done
  case hl => exact fun _ => List.mem_cons_of_mem _ List.mem_cons_self
  case hp => exact ⟨.nil, fun z hz => nomatch hz⟩
  case turn =>
    clear kF kN
    rintro ⟨vs, ep⟩ i y ty I u h tk oI hi hP off F9 N9
    dsimp only [kstB] at hP off F9 N9 ⊢
    have hy : y.length ≤ 100 := Nat.le_trans (word_short (get_mem hi)) hx
    have hvl : vs.length ≤ 200 := by
      have h1 : vs.length = _ := hP.1.length
      rw [List.length_map, List.length_take] at h1
      have h2 := StrLaws.words_weight x
      omega
    have hoff0 := off _ List.mem_cons_self
    have hoff1 := off _ (List.mem_cons_of_mem _ List.mem_cons_self)
    have hoff := fun p hp => off p (List.mem_cons_of_mem _ (List.mem_cons_of_mem _ hp))
    dsimp only at hoff0 hoff1
    have hy2 := mkId_length0 y
    have hy3 := len_lower y
    k_steps
    · rename (_ < _ ∧ AllLt _ _) => hal9
      k_dflt (refine' append_K ?k1 ?k2 (Upd.tail ?k3 (Upd.head (List.forall_mem_cons.mpr ⟨?k4, ?k5⟩))) ?_ ?z)
      (case k1 => k_asm)
      (case k2 => k_asm)
      (case k3 => exact Ne.symm hoff0)
      (case k4 => exact Nat.ne_of_lt hal9.1)
      (case k5 => exact allLt_ne hal9.2)
      (case z => rw [List.size_toArray, sizeLine_eq]; exact Nat.le_trans hvl (by decide))
      k_whole
      intro h2 kF2 kN
      rw [List.push_toArray] at kN
      k_steps
      refine TurnPost.next (CL.mk (vs ++ [.str (mkId y) _]) (ep + 1)) (by k_asm) kN (fun p hp => hp) ?_ (List.forall_mem_nil _) ?_ ?_
      · exact List.forall_mem_cons.mpr ⟨hoff0, List.forall_mem_cons.mpr ⟨hoff1, hoff⟩⟩
      · intro z h0 _ h2
        have h3 : z ≠ Str.ofString "class_name" := fun e => by rw [e] at h2; exact absurd h2 (by decide)
        simp only [if_neg h0, if_neg h3, h2, Bool.false_eq_true, if_false]
      · refine ⟨?_, take_all hP.2 hi ?_⟩
        · show StrsAre (vs ++ _) _
          rw [List.take_add_one, hi, List.map_append]
          exact hP.1.append' (.cons _ _ .nil)
        · intro e
          rename (_ : Int) ≠ 0 => h0
          rw [e] at h0
          exact h0 rfl
    · refine exc (fun hh => ?_) _ _ _ _ (by assumption) (RaisedSN.drop (by assumption) (fun p hp => List.mem_cons_of_mem _ (List.mem_cons_of_mem _ (List.mem_cons_of_mem _ hp)))) (by assumption)
      rename Int.ofNat _ = 0 => h0
      exact hh _ (get_mem hi) (KWd.len0 (Int.ofNat.inj h0))
  case done =>
    clear kF kN
    rintro ⟨vs, ep⟩ u h tk hP F9 N9
    dsimp only [kstB] at hP F9 N9 ⊢
    obtain ⟨hP1, hP2⟩ := hP
    rw [List.take_length] at hP1 hP2
    k_steps
    exact ret hP2 _ _ _ _ _ (by k_asm) (cb_drop (by assumption) (List.forall_mem_cons.mpr ⟨List.mem_cons_self, fun p hp => List.mem_cons_of_mem _ (List.mem_cons_of_mem _ hp)⟩)) hP1
end
end Mine
end
local macro_rules | `(tactic| walk_at "none V4 0") => `(tactic| fail "none")
local macro_rules | `(tactic| walk_at "none V4 1") => `(tactic| fail "none")
local macro_rules | `(tactic| walk_at "none V4 2") => `(tactic| fail "none")
local macro_rules | `(tactic| walk_at "none V4 3") => `(tactic| fail "none")
section
open PySem PySem.W PyProof.Rows
set_option rowWalk.seconds 0
namespace Mine
theorem fillL1 : (fun (_ : OpenLaw) (_ : Params → Frag) => True) PySem.Challenge.rw_bq6009_01 hd.heap_39 := by k_fill; trivial
section
variable {prog : Program} {w : World} {A₀ A : Around} {s : Shared} {base h₀ : Heap} {L : Addr} {m : Str → Option Value} {env : Env} {news : List (Addr × Obj)} {K : Frag} {p : Program} {loose : List Str} {mean : ExcName → Option Value} {mg mb : Str → Option Value}
    {R : Result → Shared → Prop} {name qual : Str} {params : Arguments} {body : List Stmt} {scope : Scope} {dV kV doc pm cdv ct oc : Value} {an od : Option Addr} {osl : Array (Option Value)} {f : Addr} {args : Args} {binds : List (Str × Value)}
/-- into a def that tries, from a frame that may hold cells -/
theorem letX (B : Below A₀ base [] h₀) (F : Fr h₀ L s.heap m) (X₀ : K.In h₀) (N : News h₀ L s.heap news) (T : Top p loose mean mg mb h₀) (hA : A.frames = some [env]) (hf : env.frame = some L) (hke : env.scope.kind = .function)
    (ho : K.lookup f = some ⟨oc, od, .func (fnOf name qual params body scope dV kV doc pm an cdv ct), osl⟩) (hcd : codeIn K cdv qual = true) (hroom : A.depth < recursionLimit)
    (hbind : BindsTo s (fnOf name qual params body scope dV kV doc pm an cdv ct) args binds) (hloc : ∀ y ∈ binds, scope.names.lookup y.1 = some .local)
    (h : ∀ g L' h₁, Fr h₀ L g m → Fr g L' h₁ (fun y => binds.reverse.lookup y) → News g L' h₁ news → Below A base [env] g → K.In g → Top p loose mean mg mb g → KtsDicts ([env].filterMap (·.frame)) g →
      wpAny (model prog w) (A.deeper (envOf qual scope L' f cdv)) (execs body (envOf qual scope L' f cdv))
        (fun fl s' => LeaveS0 ([env].filterMap (·.frame)) h₀ L m g R (match fl with | .ret v => v | _ => .none) s')
        (fun e s' => wpAny (model prog w) (A.deeper (envOf qual scope L' f cdv)) (leaving (envOf qual scope L' f cdv) e) (fun _ s'' => R (.error e) s'') (fun e' s'' => R (.error e') s'') s')
        { s with heap := h₁, toks := s.toks + binds.length })
    (hco : scope.isCoroutine = false) (hgen : scope.isGenerator = false) (hk : scope.kind = .function)
    (hcell : ∀ x ∈ scope.names, x.2 ≠ .cell) : codeAny (model prog w) A (.call (.ref f) args) R s := by
  obtain ⟨FG, BG, st, _⟩ := groundX (R := R) B F N hA hf hke
  have nL₀ : h₀.get? L = none := kts_self F
  have hfs : ∀ b ∈ ([env].filterMap (·.frame)), b = L := by
    intro b hb
    rw [List.filterMap_cons, hf] at hb
    exact List.mem_singleton.mp hb
  obtain ⟨oL, es, ep, hLg, hLd, hLk, hLf⟩ := FG.ns
  refine codeAny_call_def (fd := fnOf name qual params body scope dV kV doc pm an cdv ct) (body := body) (binds := binds) hroom (F.keep _ _ (X₀ _ _ ho)) rfl (T.nolimit.keeps F.keep) (codeRec_of (X₀.keeps F.keep) hcd) rfl hbind hcell hloc (fun h₁ hns hk₁ => ?_) hco hgen hk
  have NG : News (hideAll s.heap (news.map (·.1))) s.heap.objs.size h₁ news := fun p hp => ⟨hk₁ _ _ (N p hp).1, Nat.ne_of_lt (Heap.lt_size (N p hp).1), hideAll_none _ (List.mem_map_of_mem hp)⟩
  refine wpAny_mono (h _ _ h₁ FG ⟨hns, fun b o e => hk₁ b o (of_hideAll _ e), Nat.le_of_eq (hideAll_size _ _)⟩ NG BG (X₀.keeps st) (T.keeps st) (fun b hb => by rw [hfs b hb]; exact ⟨oL, es, ep, hLg, hLd⟩)) (fun fl s' hl => ?_) fun _ _ y => y
  obtain ⟨g', L', m', news', T', F', N', k⟩ := hl
  obtain ⟨sl, hs⟩ := T'.up hLg
  have keep : ∀ b o, h₀.get? b = some o → g'.get? b = some o := fun b o e => T'.other b o (st b o e) fun hb => by rw [hfs b hb, nL₀] at e; cases e
  refine k ⟨⟨_, es, ep, F'.keep _ _ hs, hLd, hLk, hLf⟩, fun b o e => F'.keep b o (keep b o e), F.above⟩ fun p hp => ?_
  obtain ⟨n1, n2, n3⟩ := N' p hp
  refine ⟨n1, fun q => ?_, ?_⟩
  · rw [q, hs] at n3; cases n3
  · cases q : h₀.get? p.1 with
    | none => rfl
    | some o => rw [keep _ _ q] at n3; cases n3
end
local macro_rules | `(tactic| walk_at "call ref") => `(tactic| (k_here; (with_reducible show wpAny _ _ (call (Value.ref 69) [Value.str _ _]) _ _ _); k_dflt (refine' vid_code ?k1 ?k2 ?k3 ?k4 ?k5 ?kK ?kd ?ku ?x0 ?_ ?_; (case k1 => k_asm); (case k2 => k_asm); (case k3 => k_asm); (case k4 => k_asm); (case k5 => k_asm); (case kK => first | exact rfl | assumption); (case kd => ktr_room); (case ku => ktr_units); (case x0 => first | assumption | omega | k_mem)); rotate_left; (intro q9 e9 g9 h9 tk9 FG9 R9 U9; (try dsimp only); (try k_fold)); rotate_right; intro q9 h9 tk9 F9 N9; (try dsimp only); (try k_fold)))
local macro_rules | `(tactic| walk_at "call ref") => `(tactic| (k_here; (with_reducible show wpAny _ _ (call (Value.ref 76) [Value.str _ _]) _ _ _); k_dflt (refine' vilT_code ?k1 ?k2 ?k3 ?k4 ?k5 ?kK ?kd ?ku ?x0 ?_ ?_; (case k1 => k_asm); (case k2 => k_asm); (case k3 => k_asm); (case k4 => k_asm); (case k5 => k_asm); (case kK => first | exact rfl | assumption); (case kd => ktr_room); (case ku => ktr_units); (case x0 => first | assumption | omega | k_mem)); rotate_left; (intro q9 e9 g9 h9 tk9 FG9 R9 U9; (try dsimp only); (try k_fold)); rotate_right; intro q9 a9 vs9 ep9 h9 tk9 F9 N9 S9; (try dsimp only); (try k_fold)))
local macro_rules | `(tactic| walk_at "call ref") => `(tactic| (k_here; (with_reducible show wpAny _ _ (call (Value.ref 76) [Value.ref _]) _ _ _); k_dflt (refine' vilL_code ?k1 ?k2 ?k3 ?k4 ?k5 ?kK ?kd ?ku ?x0 ?x1 ?x2 ?_ ?_; (case k1 => k_asm); (case k2 => k_asm); (case k3 => k_asm); (case k4 => k_asm); (case k5 => k_asm); (case kK => first | exact rfl | assumption); (case kd => ktr_room); (case ku => ktr_units); (case x0 => first | assumption | omega | k_mem); (case x1 => first | assumption | omega | k_mem); (case x2 => first | assumption | omega | k_mem)); rotate_left; (intro q9 e9 g9 h9 tk9 FG9 R9 U9; (try dsimp only); (try k_fold)); rotate_right; intro q9 h9 tk9 F9 N9; (try dsimp only); (try k_fold)))
local macro_rules | `(tactic| walk_at "call ref") => `(tactic| (k_here; (with_reducible show wpAny _ _ (call (Value.ref 102) [Value.str _ _]) _ _ _); k_dflt (refine' copT_code ?k1 ?k2 ?k3 ?k4 ?k5 ?kK ?kd ?ku ?x0 ?_ ?_; (case k1 => k_asm); (case k2 => k_asm); (case k3 => k_asm); (case k4 => k_asm); (case k5 => k_asm); (case kK => first | exact rfl | assumption); (case kd => ktr_room); (case ku => ktr_units); (case x0 => first | assumption | omega | k_mem)); rotate_left; (intro q9 e9 g9 h9 tk9 FG9 R9 U9; (try dsimp only); (try k_fold)); rotate_right; intro q9 a9 vs9 ep9 h9 tk9 F9 N9 S9; (try dsimp only); (try k_fold)))
local macro_rules | `(tactic| walk_at "call ref") => `(tactic| (k_here; (with_reducible show wpAny _ _ (call (Value.ref 102) [Value.none]) _ _ _); k_dflt (refine' copN_code ?k1 ?k2 ?k3 ?k4 ?k5 ?kK ?kd ?ku  ?_; (case k1 => k_asm); (case k2 => k_asm); (case k3 => k_asm); (case k4 => k_asm); (case k5 => k_asm); (case kK => first | exact rfl | assumption); (case kd => ktr_room); (case ku => ktr_units)); intro e9 g9 h9 tk9 FG9 R9 U9; (try dsimp only); (try k_fold)))
local macro_rules | `(tactic| walk_at "call ref") => `(tactic| (k_here; (with_reducible show wpAny _ _ (call (Value.ref 88) [Value.str _ _]) _ _ _); k_dflt (refine' vnm_code ?k1 ?k2 ?k3 ?k4 ?k5 ?kK ?kd ?ku ?x0 ?_ ?_; (case k1 => k_asm); (case k2 => k_asm); (case k3 => k_asm); (case k4 => k_asm); (case k5 => k_asm); (case kK => first | exact rfl | assumption); (case kd => ktr_room); (case ku => ktr_units); (case x0 => first | assumption | omega | k_mem)); rotate_left; (intro q9 e9 g9 h9 tk9 FG9 R9 U9; (try dsimp only); (try k_fold)); rotate_right; intro q9 h9 tk9 F9 N9; (try dsimp only); (try k_fold)))
local macro_rules | `(tactic| walk_at "call ref") => `(tactic| (k_here; (with_reducible show wpAny _ _ (call (Value.ref 95) [Value.str _ _]) _ _ _); k_dflt (refine' vnsT_code ?k1 ?k2 ?k3 ?k4 ?k5 ?kK ?kd ?ku ?x0 ?_ ?_; (case k1 => k_asm); (case k2 => k_asm); (case k3 => k_asm); (case k4 => k_asm); (case k5 => k_asm); (case kK => first | exact rfl | assumption); (case kd => ktr_room); (case ku => ktr_units); (case x0 => first | assumption | omega | k_mem)); rotate_left; (intro q9 e9 g9 h9 tk9 FG9 R9 U9; (try dsimp only); (try k_fold)); rotate_right; intro q9 a9 vs9 ep9 h9 tk9 F9 N9 S9; (try dsimp only); (try k_fold)))
local macro_rules | `(tactic| walk_at "call ref") => `(tactic| (k_here; (with_reducible show wpAny _ _ (call (Value.ref 95) [Value.ref _]) _ _ _); k_dflt (refine' vnsL_code ?k1 ?k2 ?k3 ?k4 ?k5 ?kK ?kd ?ku ?x0 ?x1 ?x2 ?_ ?_; (case k1 => k_asm); (case k2 => k_asm); (case k3 => k_asm); (case k4 => k_asm); (case k5 => k_asm); (case kK => first | exact rfl | assumption); (case kd => ktr_room); (case ku => ktr_units); (case x0 => first | assumption | omega | k_mem); (case x1 => first | assumption | omega | k_mem); (case x2 => first | assumption | omega | k_mem)); rotate_left; (intro q9 e9 g9 h9 tk9 FG9 R9 U9; (try dsimp only); (try k_fold)); rotate_right; intro q9 h9 tk9 F9 N9; (try dsimp only); (try k_fold)))
section
variable {prog : Program} {w : World} {dp un : Nat} {gd : Option (List Code)} {cn : Str} {cs : Scope} {a : Addr} {ccd : Value} {cl : List (Str × Addr)} {A₀ : Around} {h₀ : Heap} {L : Addr} {m : Str → Option Value} {s : Shared} {Q E : Value → Shared → Prop} {news : List (Addr × Obj)} {mean : ExcName → Option Value} {mg mb : Str → Option Value} {p : Program} {loose : List Str}

set_option maxRecDepth 100000 in
set_option maxHeartbeats 1000000 in
theorem let0_code {x : Str} {t t0 : Tok} (B : Below A₀ h₀ [] h₀) (F : Fr h₀ L s.heap m) (X : (hd.heap_39 w.params).In h₀) (N : News h₀ L s.heap news) (T : Top p loose mean mg mb h₀) (hk : cs.kind = .function)
   (hdp : dp + 16 < recursionLimit) (hun : un + 300 < cLine) (hx : x.length ≤ 100)
  (ret : (x = mkId x) → ∀ h' tk', Fr h₀ L h' m → News h₀ L h' news → Q (.str x t) {s with heap := h', toks := tk'})
  (exc : ¬ (x = mkId x) → ∀ t' h' tk', Fr h₀ L h' m → News h₀ L h' news → Q (.str (Str.ofString "refused") t') {s with heap := h', toks := tk'}) :
  wpAny (model prog w) (ktrTop dp un gd cn cs L a ccd cl []) (call (.ref 138) [.int 0 t0, .str x t]) Q E s := by
  refine wpAny_call ?_
  k_dflt (refine' letX ?k1 ?k2 ?k3 ?k4 ?k5 ?kA ?kf ?ke ?k6 ?k7 ?k8 ?k9 ?kB ?_ ?c2 ?c3 ?c4 ?c5)
  (case kA => exact rfl)
  (case kf => exact rfl)
  (case ke => exact hk)
  (case k2 => k_asm)
  (case k1 => k_asm)
  (case k3 => k_asm)
  (case k4 => k_asm)
  (case k5 => k_asm)
  (case k6 => k_is)
  (case k7 => k_is)
  (case k8 => exact Nat.lt_of_le_of_lt (Nat.le_add_right _ _) hdp)
  (case k9 => first | exact binds_K (by k_in) rfl (by k_is) rfl rfl rfl | exact BindsTo.of_eq rfl)
  (case kB => exact locs rfl)
  (case c2 => exact rfl)
  (case c3 => exact rfl)
  (case c4 => exact rfl)
  (case c5 => decide)
  k_whole
  intro g' L' h' FG' F' N' B' X' T' D'
  (try dsimp only)
  (try k_lift B')
  (try k_fold)
  k_steps
  · exact ret (by assumption) _ _ (by k_asm) (by k_asm)
  · exact exc (by assumption) _ _ _ (by k_asm) (by k_asm)

set_option maxRecDepth 100000 in
set_option maxHeartbeats 1000000 in
theorem let1T_code {x : Str} {t t0 : Tok} (B : Below A₀ h₀ [] h₀) (F : Fr h₀ L s.heap m) (X : (hd.heap_39 w.params).In h₀) (N : News h₀ L s.heap news) (T : Top p loose mean mg mb h₀) (hk : cs.kind = .function)
   (hdp : dp + 16 < recursionLimit) (hun : un + 300 < cLine) (hx : x.length ≤ 100)
  (ret : (∀ y ∈ Txt.words x, y = mkId y) → ∀ a vs ep h' tk', Fr h₀ L h' m → News h₀ L h' ((a, lob vs ep) :: news) → StrsAre vs (Txt.words x) → Q (.ref a) {s with heap := h', toks := tk'})
  (exc : ¬ (∀ y ∈ Txt.words x, y = mkId y) → ∀ t' h' tk', Fr h₀ L h' m → News h₀ L h' news → Q (.str (Str.ofString "refused") t') {s with heap := h', toks := tk'}) :
  wpAny (model prog w) (ktrTop dp un gd cn cs L a ccd cl []) (call (.ref 138) [.int 1 t0, .str x t]) Q E s := by
  refine wpAny_call ?_
  k_dflt (refine' letX ?k1 ?k2 ?k3 ?k4 ?k5 ?kA ?kf ?ke ?k6 ?k7 ?k8 ?k9 ?kB ?_ ?c2 ?c3 ?c4 ?c5)
  (case kA => exact rfl)
  (case kf => exact rfl)
  (case ke => exact hk)
  (case k2 => k_asm)
  (case k1 => k_asm)
  (case k3 => k_asm)
  (case k4 => k_asm)
  (case k5 => k_asm)
  (case k6 => k_is)
  (case k7 => k_is)
  (case k8 => exact Nat.lt_of_le_of_lt (Nat.le_add_right _ _) hdp)
  (case k9 => first | exact binds_K (by k_in) rfl (by k_is) rfl rfl rfl | exact BindsTo.of_eq rfl)
  (case kB => exact locs rfl)
  (case c2 => exact rfl)
  (case c3 => exact rfl)
  (case c4 => exact rfl)
  (case c5 => decide)
  k_whole
  intro g' L' h' FG' F' N' B' X' T' D'
  (try dsimp only)
  (try k_lift B')
  (try k_fold)
  k_steps
  · exact ret (by assumption) _ _ _ _ _ (by k_asm) (by k_asm) (by assumption)
  · exact exc (by assumption) _ _ _ (by k_asm) (by k_asm)

set_option maxRecDepth 100000 in
set_option maxHeartbeats 1000000 in
theorem let1L_code {ax : Addr} {vs : List Value} {ws : List Str} {ep : Nat} {t0 : Tok} (B : Below A₀ h₀ [] h₀) (F : Fr h₀ L s.heap m) (X : (hd.heap_39 w.params).In h₀) (N : News h₀ L s.heap news) (T : Top p loose mean mg mb h₀) (hk : cs.kind = .function)
   (hdp : dp + 16 < recursionLimit) (hun : un + 300 < cLine) (hax : (ax, lob vs ep) ∈ news) (kS : StrsAre vs ws) (hx : ∀ y ∈ ws, y.length ≤ 100)
  (ret : (∀ y ∈ ws, y = mkId y) → ∀ h' tk', Fr h₀ L h' m → News h₀ L h' news → Q (.ref ax) {s with heap := h', toks := tk'})
  (exc : ¬ (∀ y ∈ ws, y = mkId y) → ∀ t' h' tk', Fr h₀ L h' m → News h₀ L h' news → Q (.str (Str.ofString "refused") t') {s with heap := h', toks := tk'}) :
  wpAny (model prog w) (ktrTop dp un gd cn cs L a ccd cl []) (call (.ref 138) [.int 1 t0, .ref ax]) Q E s := by
  refine wpAny_call ?_
  k_dflt (refine' letX ?k1 ?k2 ?k3 ?k4 ?k5 ?kA ?kf ?ke ?k6 ?k7 ?k8 ?k9 ?kB ?_ ?c2 ?c3 ?c4 ?c5)
  (case kA => exact rfl)
  (case kf => exact rfl)
  (case ke => exact hk)
  (case k2 => k_asm)
  (case k1 => k_asm)
  (case k3 => k_asm)
  (case k4 => k_asm)
  (case k5 => k_asm)
  (case k6 => k_is)
  (case k7 => k_is)
  (case k8 => exact Nat.lt_of_le_of_lt (Nat.le_add_right _ _) hdp)
  (case k9 => first | exact binds_K (by k_in) rfl (by k_is) rfl rfl rfl | exact BindsTo.of_eq rfl)
  (case kB => exact locs rfl)
  (case c2 => exact rfl)
  (case c3 => exact rfl)
  (case c4 => exact rfl)
  (case c5 => decide)
  k_whole
  intro g' L' h' FG' F' N' B' X' T' D'
  (try dsimp only)
  (try k_lift B')
  (try k_fold)
  k_steps
  · exact ret (by assumption) _ _ (by k_asm) (by k_asm)
  · exact exc (by assumption) _ _ _ (by k_asm) (by k_asm)

set_option maxRecDepth 100000 in
set_option maxHeartbeats 1000000 in
theorem let2T_code {x : Str} {t t0 : Tok} (B : Below A₀ h₀ [] h₀) (F : Fr h₀ L s.heap m) (X : (hd.heap_39 w.params).In h₀) (N : News h₀ L s.heap news) (T : Top p loose mean mg mb h₀) (hk : cs.kind = .function)
   (hdp : dp + 16 < recursionLimit) (hun : un + 300 < cLine) (hx : x.length ≤ 100)
  (ret : (∀ y ∈ Txt.words x, mkId y ≠ Str.empty) → ∀ a vs ep h' tk', Fr h₀ L h' m → News h₀ L h' ((a, lob vs ep) :: news) → StrsAre vs ((Txt.words x).map mkId) → Q (.ref a) {s with heap := h', toks := tk'})
  (exc : ¬ (∀ y ∈ Txt.words x, mkId y ≠ Str.empty) → ∀ t' h' tk', Fr h₀ L h' m → News h₀ L h' news → Q (.str (Str.ofString "refused") t') {s with heap := h', toks := tk'}) :
  wpAny (model prog w) (ktrTop dp un gd cn cs L a ccd cl []) (call (.ref 138) [.int 2 t0, .str x t]) Q E s := by
  refine wpAny_call ?_
  k_dflt (refine' letX ?k1 ?k2 ?k3 ?k4 ?k5 ?kA ?kf ?ke ?k6 ?k7 ?k8 ?k9 ?kB ?_ ?c2 ?c3 ?c4 ?c5)
  (case kA => exact rfl)
  (case kf => exact rfl)
  (case ke => exact hk)
  (case k2 => k_asm)
  (case k1 => k_asm)
  (case k3 => k_asm)
  (case k4 => k_asm)
  (case k5 => k_asm)
  (case k6 => k_is)
  (case k7 => k_is)
  (case k8 => exact Nat.lt_of_le_of_lt (Nat.le_add_right _ _) hdp)
  (case k9 => first | exact binds_K (by k_in) rfl (by k_is) rfl rfl rfl | exact BindsTo.of_eq rfl)
  (case kB => exact locs rfl)
  (case c2 => exact rfl)
  (case c3 => exact rfl)
  (case c4 => exact rfl)
  (case c5 => decide)
  k_whole
  intro g' L' h' FG' F' N' B' X' T' D'
  (try dsimp only)
  (try k_lift B')
  (try k_fold)
  k_steps
  · exact ret (by assumption) _ _ _ _ _ (by k_asm) (by k_asm) (by assumption)
  · exact exc (by assumption) _ _ _ (by k_asm) (by k_asm)

set_option maxRecDepth 100000 in
set_option maxHeartbeats 1000000 in
theorem let2N_code {t0 : Tok} (B : Below A₀ h₀ [] h₀) (F : Fr h₀ L s.heap m) (X : (hd.heap_39 w.params).In h₀) (N : News h₀ L s.heap news) (T : Top p loose mean mg mb h₀) (hk : cs.kind = .function)
   (hdp : dp + 16 < recursionLimit) (hun : un + 300 < cLine)
  (exc : ∀ t' h' tk', Fr h₀ L h' m → News h₀ L h' news → Q (.str (Str.ofString "refused") t') {s with heap := h', toks := tk'}) :
  wpAny (model prog w) (ktrTop dp un gd cn cs L a ccd cl []) (call (.ref 138) [.int 2 t0, .none]) Q E s := by
  refine wpAny_call ?_
  k_dflt (refine' letX ?k1 ?k2 ?k3 ?k4 ?k5 ?kA ?kf ?ke ?k6 ?k7 ?k8 ?k9 ?kB ?_ ?c2 ?c3 ?c4 ?c5)
  (case kA => exact rfl)
  (case kf => exact rfl)
  (case ke => exact hk)
  (case k2 => k_asm)
  (case k1 => k_asm)
  (case k3 => k_asm)
  (case k4 => k_asm)
  (case k5 => k_asm)
  (case k6 => k_is)
  (case k7 => k_is)
  (case k8 => exact Nat.lt_of_le_of_lt (Nat.le_add_right _ _) hdp)
  (case k9 => first | exact binds_K (by k_in) rfl (by k_is) rfl rfl rfl | exact BindsTo.of_eq rfl)
  (case kB => exact locs rfl)
  (case c2 => exact rfl)
  (case c3 => exact rfl)
  (case c4 => exact rfl)
  (case c5 => decide)
  k_whole
  intro g' L' h' FG' F' N' B' X' T' D'
  (try dsimp only)
  (try k_lift B')
  (try k_fold)
  k_steps
  · exact exc _ _ _ (by k_asm) (by k_asm)

set_option maxRecDepth 100000 in
set_option maxHeartbeats 1000000 in
theorem let3_code {x : Str} {t t0 : Tok} (B : Below A₀ h₀ [] h₀) (F : Fr h₀ L s.heap m) (X : (hd.heap_39 w.params).In h₀) (N : News h₀ L s.heap news) (T : Top p loose mean mg mb h₀) (hk : cs.kind = .function)
   (hdp : dp + 16 < recursionLimit) (hun : un + 300 < cLine) (hx : x.length ≤ 100)
  (ret : (IsTok x) → ∀ h' tk', Fr h₀ L h' m → News h₀ L h' news → Q (.str x t) {s with heap := h', toks := tk'})
  (exc : ¬ (IsTok x) → ∀ t' h' tk', Fr h₀ L h' m → News h₀ L h' news → Q (.str (Str.ofString "refused") t') {s with heap := h', toks := tk'}) :
  wpAny (model prog w) (ktrTop dp un gd cn cs L a ccd cl []) (call (.ref 138) [.int 3 t0, .str x t]) Q E s := by
  refine wpAny_call ?_
  k_dflt (refine' letX ?k1 ?k2 ?k3 ?k4 ?k5 ?kA ?kf ?ke ?k6 ?k7 ?k8 ?k9 ?kB ?_ ?c2 ?c3 ?c4 ?c5)
  (case kA => exact rfl)
  (case kf => exact rfl)
  (case ke => exact hk)
  (case k2 => k_asm)
  (case k1 => k_asm)
  (case k3 => k_asm)
  (case k4 => k_asm)
  (case k5 => k_asm)
  (case k6 => k_is)
  (case k7 => k_is)
  (case k8 => exact Nat.lt_of_le_of_lt (Nat.le_add_right _ _) hdp)
  (case k9 => first | exact binds_K (by k_in) rfl (by k_is) rfl rfl rfl | exact BindsTo.of_eq rfl)
  (case kB => exact locs rfl)
  (case c2 => exact rfl)
  (case c3 => exact rfl)
  (case c4 => exact rfl)
  (case c5 => decide)
  k_whole
  intro g' L' h' FG' F' N' B' X' T' D'
  (try dsimp only)
  (try k_lift B')
  (try k_fold)
  k_steps
  · exact ret (by assumption) _ _ (by k_asm) (by k_asm)
  · exact exc (by assumption) _ _ _ (by k_asm) (by k_asm)

set_option maxRecDepth 100000 in
set_option maxHeartbeats 1000000 in
theorem let4T_code {x : Str} {t t0 : Tok} (B : Below A₀ h₀ [] h₀) (F : Fr h₀ L s.heap m) (X : (hd.heap_39 w.params).In h₀) (N : News h₀ L s.heap news) (T : Top p loose mean mg mb h₀) (hk : cs.kind = .function)
   (hdp : dp + 16 < recursionLimit) (hun : un + 300 < cLine) (hx : x.length ≤ 100)
  (ret : (∀ y ∈ Txt.words x, IsTok y) → ∀ a vs ep h' tk', Fr h₀ L h' m → News h₀ L h' ((a, lob vs ep) :: news) → StrsAre vs (Txt.words x) → Q (.ref a) {s with heap := h', toks := tk'})
  (exc : ¬ (∀ y ∈ Txt.words x, IsTok y) → ∀ t' h' tk', Fr h₀ L h' m → News h₀ L h' news → Q (.str (Str.ofString "refused") t') {s with heap := h', toks := tk'}) :
  wpAny (model prog w) (ktrTop dp un gd cn cs L a ccd cl []) (call (.ref 138) [.int 4 t0, .str x t]) Q E s := by
  refine wpAny_call ?_
  k_dflt (refine' letX ?k1 ?k2 ?k3 ?k4 ?k5 ?kA ?kf ?ke ?k6 ?k7 ?k8 ?k9 ?kB ?_ ?c2 ?c3 ?c4 ?c5)
  (case kA => exact rfl)
  (case kf => exact rfl)
  (case ke => exact hk)
  (case k2 => k_asm)
  (case k1 => k_asm)
  (case k3 => k_asm)
  (case k4 => k_asm)
  (case k5 => k_asm)
  (case k6 => k_is)
  (case k7 => k_is)
  (case k8 => exact Nat.lt_of_le_of_lt (Nat.le_add_right _ _) hdp)
  (case k9 => first | exact binds_K (by k_in) rfl (by k_is) rfl rfl rfl | exact BindsTo.of_eq rfl)
  (case kB => exact locs rfl)
  (case c2 => exact rfl)
  (case c3 => exact rfl)
  (case c4 => exact rfl)
  (case c5 => decide)
  k_whole
  intro g' L' h' FG' F' N' B' X' T' D'
  (try dsimp only)
  (try k_lift B')
  (try k_fold)
  k_steps
  · exact ret (by assumption) _ _ _ _ _ (by k_asm) (by k_asm) (by assumption)
  · exact exc (by assumption) _ _ _ (by k_asm) (by k_asm)

set_option maxRecDepth 100000 in
set_option maxHeartbeats 1000000 in
theorem let4L_code {ax : Addr} {vs : List Value} {ws : List Str} {ep : Nat} {t0 : Tok} (B : Below A₀ h₀ [] h₀) (F : Fr h₀ L s.heap m) (X : (hd.heap_39 w.params).In h₀) (N : News h₀ L s.heap news) (T : Top p loose mean mg mb h₀) (hk : cs.kind = .function)
   (hdp : dp + 16 < recursionLimit) (hun : un + 300 < cLine) (hax : (ax, lob vs ep) ∈ news) (kS : StrsAre vs ws) (hx : ∀ y ∈ ws, y.length ≤ 100)
  (ret : (∀ y ∈ ws, IsTok y) → ∀ h' tk', Fr h₀ L h' m → News h₀ L h' news → Q (.ref ax) {s with heap := h', toks := tk'})
  (exc : ¬ (∀ y ∈ ws, IsTok y) → ∀ t' h' tk', Fr h₀ L h' m → News h₀ L h' news → Q (.str (Str.ofString "refused") t') {s with heap := h', toks := tk'}) :
  wpAny (model prog w) (ktrTop dp un gd cn cs L a ccd cl []) (call (.ref 138) [.int 4 t0, .ref ax]) Q E s := by
  refine wpAny_call ?_
  k_dflt (refine' letX ?k1 ?k2 ?k3 ?k4 ?k5 ?kA ?kf ?ke ?k6 ?k7 ?k8 ?k9 ?kB ?_ ?c2 ?c3 ?c4 ?c5)
  (case kA => exact rfl)
  (case kf => exact rfl)
  (case ke => exact hk)
  (case k2 => k_asm)
  (case k1 => k_asm)
  (case k3 => k_asm)
  (case k4 => k_asm)
  (case k5 => k_asm)
  (case k6 => k_is)
  (case k7 => k_is)
  (case k8 => exact Nat.lt_of_le_of_lt (Nat.le_add_right _ _) hdp)
  (case k9 => first | exact binds_K (by k_in) rfl (by k_is) rfl rfl rfl | exact BindsTo.of_eq rfl)
  (case kB => exact locs rfl)
  (case c2 => exact rfl)
  (case c3 => exact rfl)
  (case c4 => exact rfl)
  (case c5 => decide)
  k_whole
  intro g' L' h' FG' F' N' B' X' T' D'
  (try dsimp only)
  (try k_lift B')
  (try k_fold)
  k_steps
  · exact ret (by assumption) _ _ (by k_asm) (by k_asm)
  · exact exc (by assumption) _ _ _ (by k_asm) (by k_asm)
end
end Mine
end
local macro_rules | `(tactic| walk_at "none L1 0") => `(tactic| fail "none")
local macro_rules | `(tactic| walk_at "none L1 1") => `(tactic| fail "none")
local macro_rules | `(tactic| walk_at "none L1 2") => `(tactic| fail "none")
local macro_rules | `(tactic| walk_at "none L1 3") => `(tactic| fail "none")
local macro_rules | `(tactic| walk_at "none L1 4") => `(tactic| fail "none")
local macro_rules | `(tactic| walk_at "none L1 5") => `(tactic| fail "none")
local macro_rules | `(tactic| walk_at "none L1 6") => `(tactic| fail "none")
local macro_rules | `(tactic| walk_at "none L1 7") => `(tactic| fail "none")
local macro_rules | `(tactic| walk_at "none L1 8") => `(tactic| fail "none")
section
open PySem PySem.W PyProof.Rows
set_option rowWalk.seconds 0
namespace Mine
theorem fillN1 : (fun (_ : OpenLaw) (_ : Params → Frag) => True) PySem.Challenge.rw_bq6009_01 hd.heap_39 := by k_fill; trivial
abbrev stO (sl : Addr) (i n : Int) (t1 t2 : Tok) (ep : Nat) : Obj := listOf #[.ref sl, .int i t1, .int n t2] ep
local macro_rules | `(tactic| walk_at "setItem ref int") => `(tactic| (k_here; k_dflt (refine' ki_set ?F ?N ?a ?b ?e ?U ?_; (case F => k_asm); (case N => k_asm); (case U => exact Upd.head (List.forall_mem_cons.mpr ⟨by assumption, by assumption⟩)); (case a => decide); (case b => decide); (case e => rfl)); intro h' F' N'; (try dsimp only [List.nil_append, List.cons_append] at N')))
section
variable {prog : Program} {w : World} {dp un : Nat} {gd : Option (List Code)} {cn : Str} {cs : Scope} {a : Addr} {ccd : Value} {cl : List (Str × Addr)} {outer : List Env} {A₀ : Around} {base h₀ : Heap} {L : Addr} {m : Str → Option Value} {s : Shared} {Q E : Value → Shared → Prop} {news : List (Addr × Obj)} {mean : ExcName → Option Value} {mg mb : Str → Option Value} {p : Program} {loose : List Str}

set_option maxRecDepth 100000 in
set_option maxHeartbeats 1000000 in
theorem next_code {st sl : Addr} {i n many : Int} {t1 t2 tm : Tok} {ep e2 : Nat} {vs : List Value} {ns : List Int} (B : Below A₀ base outer h₀) (F : Fr h₀ L s.heap m) (X : (hd.heap_39 w.params).In h₀) (N : News h₀ L s.heap ((st, stO sl i n t1 t2 ep) :: (sl, listOf vs.toArray e2) :: news)) (T : Top p loose mean mg mb h₀) (hk : cs.kind = .function)
   (hdp : dp + 6 < recursionLimit) (hun : un + 100 < cLine) (hi : IntsAre vs ns) (hl : ns.length ≤ 30) (h0 : 0 ≤ i) (h1 : i ≤ 30) (h2 : 0 ≤ n) (h3 : n < 2147483647) (hm0 : 0 < many) (hm1 : many ≤ 100) (hd1 : sl ≠ st) (hd2 : ∀ p ∈ news, p.1 ≠ st)
  (ret : ∀ r i' n' t t1' t2' ep' h' tk', 0 ≤ r → r < many → 0 ≤ i' → i' ≤ 30 → 0 ≤ n' → n' < 2147483647 → Fr h₀ L h' m → News h₀ L h' ((st, stO sl i' n' t1' t2' ep') :: (sl, listOf vs.toArray e2) :: news) → Q (.int r t) {s with heap := h', toks := tk'}) :
  wpAny (model prog w) (ktrTop dp un gd cn cs L a ccd cl outer) (call (.ref 109) [.ref st, .int many tm]) Q E s := by
  refine wpAny_call ?_
  k_dflt cell_enter
  k_steps
  · refine ret _ _ _ _ _ _ _ _ _ ?_ ?_ ?_ ?_ ?_ ?_ (by k_asm) (by assumption)
    · exact Int.fmod_nonneg_of_pos _ hm0
    · exact Int.fmod_lt_of_pos _ hm0
    · omega
    · rename i < _ => hlt
      omega
    · exact Int.fmod_nonneg_of_pos _ (by decide)
    · exact Int.fmod_lt_of_pos _ (by decide)
  · refine ret _ _ _ _ _ _ _ _ _ ?_ ?_ ?_ ?_ ?_ ?_ (by k_asm) (by assumption)
    · exact Int.fmod_nonneg_of_pos _ hm0
    · exact Int.fmod_lt_of_pos _ hm0
    · exact h0
    · exact h1
    · exact Int.fmod_nonneg_of_pos _ (by decide)
    · exact Int.fmod_lt_of_pos _ (by decide)
end
end Mine
end
local macro_rules | `(tactic| walk_at "none N1 0") => `(tactic| fail "none")
local macro_rules | `(tactic| walk_at "none N1 1") => `(tactic| fail "none")
section
open PySem PySem.W PySem.Calls PyProof.Rows PyProof.Rows.LCg PyProof.Rows.LCt
namespace Mine
section
variable {prog : Program} {w : World} {A : Around} {E : Value → Shared → Prop} {s : Shared} {h₀ : Heap} {L : Addr} {m : Str → Option Value} {env : Env}
variable {ct elt iter : Expr} {x : Str} {px : Pos} {scope : Scope} {cl : List (Str × Addr)} {pos : Pos} {S : List (Addr × Obj) → Prop} {P : Nat → Value → Prop} {Fin : List Value → List (Addr × Obj) → Prop}
/-- what a turn of a comprehension leaves -/
def TurnC {σ : Type} (h₀ : Heap) (L : Addr) (m : Str → Option Value) (Led : σ → List (Addr × Obj)) (Inv : σ → List Value → Prop) (s₁ : Shared) (I : Addr) (oI : Obj) (C : Addr) (oC : Obj) (D : Addr) (oD : Obj) (ys : List Value) (s₂ : Shared) : Prop :=
  ∃ c' h' tk', s₂ = { s₁ with heap := h', toks := tk' } ∧ Fr h₀ L h' m ∧ News h₀ L h' ((I, oI) :: (C, oC) :: (D, oD) :: Led c') ∧ Off3 I C D (Led c') ∧ Inv c' ys
theorem TurnC.mk {σ : Type} {Led : σ → List (Addr × Obj)} {Inv : σ → List Value → Prop} {s₁ : Shared} {I : Addr} {oI : Obj} {C : Addr} {oC : Obj} {D : Addr} {oD : Obj} {ys : List Value} {h' : Heap} {tk' : Nat} {all : List (Addr × Obj)} (c' : σ)
    (F : Fr h₀ L h' m) (N : News h₀ L h' all) (sub : ∀ p ∈ (I, oI) :: (C, oC) :: (D, oD) :: Led c', p ∈ all) (off : Off3 I C D (Led c')) (hI : Inv c' ys) : TurnC h₀ L m Led Inv s₁ I oI C oC D oD ys { s₁ with heap := h', toks := tk' } :=
  ⟨c', h', tk', rfl, F, fun p hp => N p (sub p hp), off, hI⟩
theorem rest_inv {σ : Type} {n : Nat} (Led : σ → List (Addr × Obj)) (Inv : Nat → σ → List Value → Prop) (hS : ∀ c, S (Led c))
    (step : ∀ i c ys v I oI C oC D m₂ h tk (E' : Value → Shared → Prop), i < n → P i v → Inv i c ys → NsObj oC m₂ → m₂ x = some v → Fr h₀ L h m → News h₀ L h ((I, oI) :: (C, oC) :: (D, lst ys) :: Led c) → Off3 I C D (Led c) → ((@Ne Nat I C) ∧ (@Ne Nat I D) ∧ (@Ne Nat C D)) →
      wpAny (model prog w) A (eval elt (compEnvC scope cl C env)) (fun y s₂ => TurnC h₀ L m Led (Inv (i + 1)) { s with heap := h, toks := tk } I oI C oC D (lst ys) (ys ++ [y]) s₂) E' { s with heap := h, toks := tk })
    (fin : ∀ c ys, Inv n c ys → Fin ys (Led c)) : ∀ k i c ys, i + k = n → Inv i c ys → CompRest prog w A h₀ L m env elt x scope cl s S P Fin k i ys (Led c) := by
  intro k
  induction k with
  | zero => intro i c ys hi hI; rw [Nat.add_zero] at hi; subst hi; exact CompRest.zero (fin c ys hI)
  | succ k ih =>
    intro i c ys hi hI
    refine CompRest.succ fun v I oI C oC D m₂ h tk E' hP hC hx F N off ne => ?_
    refine wpAny_mono (step i c ys v I oI C oC D m₂ h tk E' (by omega) hP hI hC hx F N off ne) (fun y s₂ ht => ?_) fun _ _ e => e
    obtain ⟨c', h', tk', rfl, F', N', off', hI'⟩ := ht
    exact ⟨h', tk', Led c', rfl, F', N', off', hS c', ih (i + 1) c' _ (by omega) hI'⟩
theorem rest_invT {σ : Type} {n : Nat} (Led : σ → List (Addr × Obj)) (Inv : Nat → σ → List Value → Prop) (hS : ∀ c, S (Led c))
    (step : ∀ i c ys v I oI C oC D m₂ h tk (E' : Value → Shared → Prop), i < n → P i v → Inv i c ys → NsObj oC m₂ → m₂ x = some v → Fr h₀ L h m → News h₀ L h ((I, oI) :: (C, oC) :: (D, lst ys) :: Led c) → Off3 I C D (Led c) → ((@Ne Nat I C) ∧ (@Ne Nat I D) ∧ (@Ne Nat C D)) →
      wpAny (model prog w) A (isTrue ct (compEnvC scope cl C env) (eval ct (compEnvC scope cl C env))) (fun ok s' => if ok = true then
        wpAny (model prog w) A (eval elt (compEnvC scope cl C env)) (fun y s₂ => TurnC h₀ L m Led (Inv (i + 1)) { s with heap := h, toks := tk } I oI C oC D (lst ys) (ys ++ [y]) s₂) E' s'
        else TurnC h₀ L m Led (Inv (i + 1)) { s with heap := h, toks := tk } I oI C oC D (lst ys) ys s') E' { s with heap := h, toks := tk })
    (fin : ∀ c ys, Inv n c ys → Fin ys (Led c)) : ∀ k i c ys, i + k = n → Inv i c ys → CompRestT prog w A h₀ L m env ct elt x scope cl s S P Fin k i ys (Led c) := by
  intro k
  induction k with
  | zero => intro i c ys hi hI; rw [Nat.add_zero] at hi; subst hi; exact CompRestT.zero (fin c ys hI)
  | succ k ih =>
    intro i c ys hi hI
    refine CompRestT.succ fun v I oI C oC D m₂ h tk E' hP hC hx F N off ne => ?_
    refine wpAny_mono (step i c ys v I oI C oC D m₂ h tk E' (by omega) hP hI hC hx F N off ne) (fun ok s₂ ht => ?_) fun _ _ e => e
    cases ok with
    | true =>
      rw [if_pos rfl] at ht ⊢
      refine wpAny_mono ht (fun y s₃ ht => ?_) fun _ _ e => e
      obtain ⟨c', h', tk', rfl, F', N', off', hI'⟩ := ht
      exact ⟨h', tk', Led c', rfl, F', N', off', hS c', ih (i + 1) c' _ (by omega) hI'⟩
    | false =>
      rw [if_neg Bool.false_ne_true] at ht ⊢
      obtain ⟨c', h', tk', rfl, F', N', off', hI'⟩ := ht
      exact ⟨h', tk', Led c', rfl, F', N', off', hS c', ih (i + 1) c' _ (by omega) hI'⟩
/-! over a text's signs -/
def TextU (prog : Program) (w : World) (A : Around) (h₀ : Heap) (L : Addr) (m : Str → Option Value) (env : Env) (elt : Expr) (x : Str) (scope : Scope) (cl : List (Str × Addr)) (Q : Value → Shared → Prop) (xv : Value) (s₁ : Shared) : Prop :=
  ∃ xt tx news, xv = .str xt tx ∧ A.handled = none ∧ Fr h₀ L s₁.heap m ∧ News h₀ L s₁.heap news ∧ xt.cps.size ≤ sizeLine ∧
    ∀ g, CompRest prog w A h₀ L m env elt x scope cl { s₁ with heap := g } (fun _ => True) (SignAt xt) (FinE h₀ L m { s₁ with heap := g } Q) xt.cps.size 0 [] news
def TextT (prog : Program) (w : World) (A : Around) (h₀ : Heap) (L : Addr) (m : Str → Option Value) (env : Env) (ct elt : Expr) (x : Str) (scope : Scope) (cl : List (Str × Addr)) (Q : Value → Shared → Prop) (xv : Value) (s₁ : Shared) : Prop :=
  ∃ xt tx news, xv = .str xt tx ∧ A.handled = none ∧ Fr h₀ L s₁.heap m ∧ News h₀ L s₁.heap news ∧ xt.cps.size ≤ sizeLine ∧
    ∀ g, CompRestT prog w A h₀ L m env ct elt x scope cl { s₁ with heap := g } (fun _ => True) (SignAt xt) (FinE h₀ L m { s₁ with heap := g } Q) xt.cps.size 0 [] news
theorem str_st {T : String} {xt : Str} {tx : Tok} {I : Addr} : ∀ i (h h' : Heap) (o : Obj) (nw : List (Addr × Obj)), h.IsStrIter I T xt tx i → h.get? I = some o → h'.get? I = some o → (∀ b o, h₀.get? b = some o → h'.get? b = some o) → News h₀ L h' nw → True → h'.IsStrIter I T xt tx i :=
  fun i h h' o nw st e e' k N S => by obtain ⟨o', q, r⟩ := st; rw [e] at q; cases q; exact ⟨o, e', r⟩
theorem fin_end {Q : Value → Shared → Prop} {s₁ : Shared} {g : Heap} {D C : Addr} {h : Heap} {tk : Nat} {m' : Str → Option Value} {ys : List Value} {news' : List (Addr × Obj)} (F' : Fr h₀ L h m) (N' : News h₀ L h ((D, lst ys) :: news')) (o1 : Off1 D news') (hn : h.Ns C m') (hC₀ : h₀.get? C = none) (hCL : C ≠ L) (hCD : C ≠ D) (offC : ∀ p ∈ news', p.1 ≠ C)
    (fin : FinE h₀ L m { s₁ with heap := g } Q ys news') : ∃ m', h.Ns C m' ∧ ∀ h'', Heap.SameBut C h h'' → Q (.ref D) { s₁ with heap := h'', toks := tk } := by
  refine ⟨m', hn, fun h'' hs'' => fin D h'' tk (F'.change hs'' hCL hC₀) (fun p hp => ?_) o1⟩
  refine ⟨hs''.extBut _ _ ?_ (N' p hp).1, (N' p hp).2⟩
  rcases List.mem_cons.mp hp with rfl | hp
  · exact Ne.symm hCD
  · exact offC p hp
theorem compText_U {Q : Value → Shared → Prop} (F₀ : Fr h₀ L s.heap m)
    (hclos : closureFor scope env = pure cl) (hcell : ∀ y ∈ scope.names, y.2 ≠ .cell) (hkind : scope.kind = .function)
    (hnames : ∀ y ∈ scope.names, y.2 = .local → scope.names.lookup y.1 = some .local) (hx : scope.names.lookup x = some .local)
    (h : wpAny (model prog w) A (eval iter env) (TextU prog w A h₀ L m env elt x scope cl Q) E s)
    (hs : ∀ x, foldedSetIterable iter env x = pure x := by intro _; rfl) :
    wpAny (model prog w) A (eval (.ListComp elt [⟨.Name x px, iter, [], 0⟩] scope pos) env) Q E s := by
  rw [eval_ListComp]
  refine wpAny_comprehension_free (use := none) rfl hs hclos hkind hnames (wpAny_mono h (fun xv s₁ h₁ => ?_) fun _ _ e => e)
  obtain ⟨xt, tx, news, rfl, hh, F, N, hsz, R⟩ := h₁
  have up : ∀ (o : Obj) b o', s₁.heap.get? b = some o' → (s₁.heap.push o).get? b = some o' := fun o b o' e => Heap.get?_push_of_some _ e
  have hfp : ∀ (o : Obj), ∀ b ∈ [s₁.heap.objs.size], b < (s₁.heap.push o).objs.size := fun o b hb => by
    rw [List.mem_singleton.mp hb, Heap.size_push]; exact Nat.lt_succ_self _
  cases ha : xt.cps.all (· < 128)
  · refine wpAny_pyIter_wide ha ?_
    refine block_U (Walks.strWide hh _ xt tx) hsz (fun i h st => ⟨_, st.choose_spec.1⟩) str_st hcell hkind hx ⟨_, Heap.get?_push_size _ rfl, rfl, rfl⟩ (hfp _) (F.keeps (up _)) (N.keepsAll (up _)) (Nat.ne_of_lt F.ns.lt) (next_is_new F) (fun p hp => Nat.ne_of_lt (Heap.lt_size (N p hp).1)) trivial (R _) ?_
    intro D C h tk m' ys news' F' N' o1 hn hC₀ hD₀ hCL hDL hCD offC fin
    exact fin_end (s₁ := s₁) F' N' o1 hn hC₀ hCL hCD offC fin
  · refine wpAny_pyIter_ascii ha ?_
    refine block_U (Walks.strAscii hh _ xt tx) hsz (fun i h st => ⟨_, st.choose_spec.1⟩) str_st hcell hkind hx ⟨_, Heap.get?_push_size _ rfl, rfl, rfl⟩ (hfp _) (F.keeps (up _)) (N.keepsAll (up _)) (Nat.ne_of_lt F.ns.lt) (next_is_new F) (fun p hp => Nat.ne_of_lt (Heap.lt_size (N p hp).1)) trivial (R _) ?_
    intro D C h tk m' ys news' F' N' o1 hn hC₀ hD₀ hCL hDL hCD offC fin
    exact fin_end (s₁ := s₁) F' N' o1 hn hC₀ hCL hCD offC fin
theorem compText_T {Q : Value → Shared → Prop} (F₀ : Fr h₀ L s.heap m)
    (hclos : closureFor scope env = pure cl) (hcell : ∀ y ∈ scope.names, y.2 ≠ .cell) (hkind : scope.kind = .function)
    (hnames : ∀ y ∈ scope.names, y.2 = .local → scope.names.lookup y.1 = some .local) (hx : scope.names.lookup x = some .local)
    (h : wpAny (model prog w) A (eval iter env) (TextT prog w A h₀ L m env ct elt x scope cl Q) E s)
    (hs : ∀ x, foldedSetIterable iter env x = pure x := by intro _; rfl) :
    wpAny (model prog w) A (eval (.ListComp elt [⟨.Name x px, iter, [ct], 0⟩] scope pos) env) Q E s := by
  rw [eval_ListComp]
  refine wpAny_comprehension_free (use := none) rfl hs hclos hkind hnames (wpAny_mono h (fun xv s₁ h₁ => ?_) fun _ _ e => e)
  obtain ⟨xt, tx, news, rfl, hh, F, N, hsz, R⟩ := h₁
  have up : ∀ (o : Obj) b o', s₁.heap.get? b = some o' → (s₁.heap.push o).get? b = some o' := fun o b o' e => Heap.get?_push_of_some _ e
  have hfp : ∀ (o : Obj), ∀ b ∈ [s₁.heap.objs.size], b < (s₁.heap.push o).objs.size := fun o b hb => by
    rw [List.mem_singleton.mp hb, Heap.size_push]; exact Nat.lt_succ_self _
  cases ha : xt.cps.all (· < 128)
  · refine wpAny_pyIter_wide ha ?_
    refine block_T (Walks.strWide hh _ xt tx) hsz (fun i h st => ⟨_, st.choose_spec.1⟩) str_st hcell hkind hx ⟨_, Heap.get?_push_size _ rfl, rfl, rfl⟩ (hfp _) (F.keeps (up _)) (N.keepsAll (up _)) (Nat.ne_of_lt F.ns.lt) (next_is_new F) (fun p hp => Nat.ne_of_lt (Heap.lt_size (N p hp).1)) trivial (R _) ?_
    intro D C h tk m' ys news' F' N' o1 hn hC₀ hD₀ hCL hDL hCD offC fin
    exact fin_end (s₁ := s₁) F' N' o1 hn hC₀ hCL hCD offC fin
  · refine wpAny_pyIter_ascii ha ?_
    refine block_T (Walks.strAscii hh _ xt tx) hsz (fun i h st => ⟨_, st.choose_spec.1⟩) str_st hcell hkind hx ⟨_, Heap.get?_push_size _ rfl, rfl, rfl⟩ (hfp _) (F.keeps (up _)) (N.keepsAll (up _)) (Nat.ne_of_lt F.ns.lt) (next_is_new F) (fun p hp => Nat.ne_of_lt (Heap.lt_size (N p hp).1)) trivial (R _) ?_
    intro D C h tk m' ys news' F' N' o1 hn hC₀ hD₀ hCL hDL hCD offC fin
    exact fin_end (s₁ := s₁) F' N' o1 hn hC₀ hCL hCD offC fin
end
end Mine
end
local macro_rules | `(tactic| walk_at "none K1 0") => `(tactic| fail "none")
section
open PySem PySem.W PyProof.Rows
set_option rowWalk.seconds 0
namespace Mine
theorem fillK2b : (fun (_ : OpenLaw) (_ : Params → Frag) => True) PySem.Challenge.rw_bq6009_01 hd.heap_39 := by k_fill; trivial
def sigS : List Str := ["a", "B", "7", "-", "é", " ", ".", "z", "_", "\t", "\n", "ß", "0"].map Str.ofString
section
variable {prog : Program} {w : World} {dp un : Nat} {gd : Option (List Code)} {cn : Str} {cs : Scope} {a : Addr} {ccd : Value} {cl : List (Str × Addr)} {outer : List Env} {A₀ : Around} {base h₀ : Heap} {L : Addr} {m : Str → Option Value} {s : Shared} {Q E : Value → Shared → Prop} {news : List (Addr × Obj)} {mean : ExcName → Option Value} {mg mb : Str → Option Value} {p : Program} {loose : List Str}
set_option maxRecDepth 100000 in
theorem signs_at {A : Around} {value slice : Expr} {r : Int} {u : Tok} (X : (hd.heap_39 w.params).In h₀) (F : Fr h₀ L s.heap m) (h0 : 0 ≤ r) (h1 : r < 13) (h : ∀ x t', x ∈ sigS → Q (.str x t') s)
    (hs : subscripted slice false (.ref 110) (.int r u) = operate [.ref 110, .int r u] (getItem (.ref 110) (.int r u)) := by with_unfolding_all rfl) :
    wpAny (model prog w) A (subscriptTail value slice (.ref 110) (.int r u)) Q E s := by
  refine KTb.item_list (ws := sigS) ⟨_, F.keep _ _ (X 110 _ (by k_is)), rfl, _, rfl⟩ ?_ h0 (by exact h1) (by omega) (fun t' hlt => ?_) hs
  · repeat (first | exact StrsAre.nil | refine StrsAre.cons _ _ ?_)
  · refine h _ _ ?_
    rw [List.getD_eq_getElem?_getD, List.getElem?_eq_getElem hlt]
    exact List.getElem_mem hlt
theorem next_comp {e1 e2 e3 : Addr × Obj} {st sl : Addr} {i n many : Int} {t1 t2 tm : Tok} {ep ep2 : Nat} {vs : List Value} {ns : List Int} (B : Below A₀ base outer h₀) (F : Fr h₀ L s.heap m) (X : (hd.heap_39 w.params).In h₀) (N : News h₀ L s.heap (e1 :: e2 :: e3 :: (st, stO sl i n t1 t2 ep) :: (sl, listOf vs.toArray ep2) :: news)) (T : Top p loose mean mg mb h₀) (hk : cs.kind = .function)
   (hdp : dp + 6 < recursionLimit) (hun : un + 100 < cLine) (hi : IntsAre vs ns) (hl : ns.length ≤ 30) (h0 : 0 ≤ i) (h1 : i ≤ 30) (h2 : 0 ≤ n) (h3 : n < 2147483647) (hm0 : 0 < many) (hm1 : many ≤ 100) (hd1 : sl ≠ st) (hd2 : ∀ p ∈ news, p.1 ≠ st) (g1 : e1.1 ≠ st) (g2 : e2.1 ≠ st) (g3 : e3.1 ≠ st)
  (ret : ∀ r i' n' t t1' t2' ep' h' tk', 0 ≤ r → r < many → 0 ≤ i' → i' ≤ 30 → 0 ≤ n' → n' < 2147483647 → Fr h₀ L h' m → News h₀ L h' (e1 :: e2 :: e3 :: (st, stO sl i' n' t1' t2' ep') :: (sl, listOf vs.toArray ep2) :: news) → Q (.int r t) {s with heap := h', toks := tk'}) :
  wpAny (model prog w) (ktrTop dp un gd cn cs L a ccd cl outer) (call (.ref 109) [.ref st, .int many tm]) Q E s := by
  refine next_code (news := e1 :: e2 :: e3 :: news) (t1 := t1) (t2 := t2) (ep := ep) (e2 := ep2) B F X (fun p hp => N p ?_) T hk hdp hun hi hl h0 h1 h2 h3 hm0 hm1 hd1 (List.forall_mem_cons.mpr ⟨g1, List.forall_mem_cons.mpr ⟨g2, List.forall_mem_cons.mpr ⟨g3, hd2⟩⟩⟩) ?_
  · simp only [List.mem_cons] at hp ⊢
    rcases hp with h | h | h | h | h | h <;> simp [h]
  · intro r i' n' t t1' t2' ep' h' tk' r0 r1 q0 q1 z0 z1 F' N'
    refine ret r i' n' t t1' t2' ep' h' tk' r0 r1 q0 q1 z0 z1 F' fun p hp => N' p ?_
    simp only [List.mem_cons] at hp ⊢
    rcases hp with h | h | h | h | h | h <;> simp [h]
end
structure NL where
  i : Int
  v : Int
  t2 : Tok
  t3 : Tok
  ep : Nat
def NInv (j : Nat) (c : NL) (ys : List Value) : Prop := (0 ≤ c.i ∧ c.i ≤ 30 ∧ 0 ≤ c.v ∧ c.v < 2147483647) ∧ ∃ xs, StrsAre ys xs ∧ xs.length = j ∧ ∀ x ∈ xs, x ∈ sigS
end Mine
end
local macro_rules | `(tactic| walk_at "none K2 0") => `(tactic| fail "none")
section
open PySem PySem.W PyProof.Rows
set_option rowWalk.seconds 0
namespace Mine
def sigN : List Nat := [97, 66, 55, 45, 233, 32, 46, 122, 95, 9, 10, 223, 48]
def Dom (x : Str) : Prop := x.length ≤ 10 ∧ ∀ c ∈ x.cps.toList, c ∈ sigN
theorem sigS_one : ∀ x ∈ sigS, x.length = 1 ∧ ∀ c ∈ x.cps.toList, c ∈ sigN := by decide +kernel
theorem joinL_empty_mem {l : List (List Nat)} {c : Nat} (h : c ∈ joinL [] l) : ∃ y ∈ l, c ∈ y := by
  rw [joinL_nil] at h
  exact List.mem_flatten.mp h
theorem joinL_empty_length : ∀ l : List (List Nat), (∀ y ∈ l, y.length = 1) → (joinL [] l).length = l.length
  | [], _ => rfl
  | a :: r, h => by
    have ih := joinL_empty_length r fun y hy => h y (List.mem_cons_of_mem _ hy)
    rw [joinL_nil] at ih ⊢
    rw [List.flatten_cons, List.length_append, ih, h a List.mem_cons_self, List.length_cons]
    omega
theorem dom_join {xs : List Str} (hm : ∀ x ∈ xs, x ∈ sigS) (hl : xs.length ≤ 10) : Dom (Txt.join (Str.ofString "") xs) := by
  have e := join_toList (Str.ofString "") xs
  rw [show (Str.ofString "").cps.toList = [] from rfl] at e
  refine ⟨?_, fun c hc => ?_⟩
  · rw [← len_list, e, joinL_empty_length _ (fun y hy => ?_), List.length_map]
    · exact hl
    · obtain ⟨z, hz, rfl⟩ := List.mem_map.mp hy
      rw [len_list]; exact (sigS_one z (hm z hz)).1
  · rw [e] at hc
    obtain ⟨y, hy, hc⟩ := joinL_empty_mem hc
    obtain ⟨z, hz, rfl⟩ := List.mem_map.mp hy
    exact (sigS_one z (hm z hz)).2 c hc
theorem sum_one {xs : List Str} (hm : ∀ x ∈ xs, x ∈ sigS) : (xs.map (·.length)).sum = xs.length := by
  induction xs with
  | nil => rfl
  | cons a r ih =>
    rw [List.map_cons, List.sum_cons, ih fun x hx => hm x (List.mem_cons_of_mem _ hx), (sigS_one a (hm a List.mem_cons_self)).1, List.length_cons]
    omega
section
variable {prog : Program} {w : World} {A : Around} {E : Value → Shared → Prop} {s : Shared} {h₀ : Heap} {L : Addr} {news : List (Addr × Obj)} {Q : Value → Shared → Prop}
theorem joinSigs {t : Tok} {D : Addr} {ys : List Value} {xs : List Str} (N : News h₀ L s.heap news) (hD : (D, LCg.lst ys) ∈ news) (S : StrsAre ys xs) (hm : ∀ x ∈ xs, x ∈ sigS) (hl : xs.length ≤ 10)
    (h : ∀ x t' k, Dom x → Q (.str x t') { s with toks := k }) : wpAny (model prog w) A (call (.builtin "str.join") [.str (Str.ofString "") t, .ref D]) Q E s := by
  refine join_listW (News.isList N hD) S (by decide) ?_ (fun t' k => h _ t' k (dom_join hm hl))
  rw [sum_one hm]; omega
end
def told (x : Str) : Str := (idFold (KStt.codes x)).1
/-- é and ß of a text -/
def esOf (y : Str) : List Nat := y.cps.toList.filter fun c => !out (Str.ofString "éß") ⟨#[c]⟩
def Sm (x : Str) : Prop := x.length ≤ 100 ∧ ∀ c ∈ x.cps.toList, c ≤ 255
structure Plain (x : Str) : Prop where
  len : x.length ≤ 10
  w : Txt.words x = lawWords x
  wsm : ∀ y ∈ lawWords x, Sm y
  ism : ∀ y ∈ (lawWords x).map told, Sm y
  xsm : Sm x
  id0 : mkId x = told x
  id1 : mkId (told x) = told x
  id2 : mkId (Str.ofString " \t" ++ x ++ Str.ofString "\n ") = told x
  tlen : (told x).length ≤ 20
  idw : ∀ y ∈ lawWords x, mkId y = told y
  tok : ∀ y ∈ lawWords x, (IsTok y ↔ esOf y = [])
  tokx : IsTok x ↔ (lawWords x = [x] ∧ ∀ y ∈ lawWords x, esOf y = [])
  full : Txt.join (Str.ofString " ") (Txt.words (Txt.lower x)) = Txt.join (Str.ofString "") ((Txt.join (Str.ofString " ") (lawWords x)).cps.toList.map fun c => smallS ⟨#[c]⟩)
end Mine
end
local macro_rules | `(tactic| walk_at "none K3 0") => `(tactic| fail "none")
section
open PySem PySem.W PyProof.Rows
namespace Mine
/-- an id's small letter -/
def lettr (c : Nat) : Bool := 97 ≤ c && c ≤ 122
theorem lettr_id {c : Nat} (h : lettr c = true) : idc c = true := by unfold lettr at h; unfold idc; rw [h]; rfl
theorem id_45 {c : Nat} (h : idc c = true) : c ≠ 45 := by
  unfold idc at h
  simp at h
  omega
theorem dbc_id {c : Nat} (h : idc c = true) : dbc c = !lettr c := by
  unfold idc at h
  unfold dbc lettr
  simp at h
  rcases h with h | h
  · have h1 : ¬ c = 45 := by omega
    have h2 : ¬ (48 ≤ c ∧ c ≤ 57) := by omega
    have h3 : 97 ≤ c ∧ c ≤ 122 := h
    simp [h1, h3]
    omega
  · have h1 : ¬ (97 ≤ c ∧ c ≤ 122) := by omega
    simp [h]
    omega
/-- the machine: none stands for «nothing told yet», some g for «told, with a gap behind or not» -/
def dl (q : Option Bool) (c : Nat) : Option Bool := match q with
  | none => if lettr c then some false else none
  | some _ => if idc c then some false else some true
def ot (q : Option Bool) (c : Nat) : List Nat := match q with
  | none => if lettr c then [c] else []
  | some g => if idc c then (if g then [45, c] else [c]) else []
def run : Option Bool → List Nat → List Nat
  | _, [] => []
  | q, c :: r => ot q c ++ run (dl q c) r
theorem run_append : ∀ (a b : List Nat) (q : Option Bool), run q (a ++ b) = run q a ++ run (a.foldl dl q) b
  | [], _, _ => rfl
  | c :: r, b, q => by
    show ot q c ++ run (dl q c) (r ++ b) = _
    rw [run_append r b, ← List.append_assoc]
    rfl
theorem strip_run : ∀ l : List Nat, stripD (sub1 false l) = run (some false) l ∧ stripD (45 :: sub1 true l) = run (some true) l
  | [] => ⟨rfl, rfl⟩
  | c :: r => by
    obtain ⟨h1, h2⟩ := strip_run r
    cases hc : idc c with
    | true =>
      have h45 := id_45 hc
      have e1 : stripD (c :: sub1 false r) = c :: run (some false) r := by
        unfold stripD
        rw [if_neg (fun h => h45 h.1), h1]
      constructor
      · rw [show sub1 false (c :: r) = c :: sub1 false r by simp [sub1, hc], e1]
        simp [run, ot, dl, hc]
      · rw [show sub1 true (c :: r) = c :: sub1 false r by simp [sub1, hc]]
        unfold stripD
        rw [e1, if_neg (fun h => by cases h.2)]
        simp [run, ot, dl, hc]
    | false =>
      constructor
      · rw [show sub1 false (c :: r) = 45 :: sub1 true r by simp [sub1, hc], h2]
        simp [run, ot, dl, hc]
      · rw [show sub1 true (c :: r) = sub1 true r by simp [sub1, hc], h2]
        simp [run, ot, dl, hc]
theorem ends_cons_d {c : Nat} {l : List Nat} (h : dbc c = true) : ends (c :: l) = ends l := by
  unfold ends
  rw [show runOf dbc (c :: l) = runOf dbc l + 1 by simp [runOf, h], List.drop_succ_cons]
theorem ends_cons_n {c : Nat} {l : List Nat} (h : dbc c = false) : ends (c :: l) = stripD (c :: l) := by
  unfold ends
  rw [show runOf dbc (c :: l) = 0 by simp [runOf, h], List.drop_zero]
theorem ends_run : ∀ (l : List Nat) (b : Bool), ends (sub1 b l) = run none l
  | [], b => by cases b <;> rfl
  | c :: r, b => by
    have ih := ends_run r
    cases hc : idc c with
    | true =>
      rw [show sub1 b (c :: r) = c :: sub1 false r by simp [sub1, hc]]
      cases hl : lettr c with
      | true =>
        rw [ends_cons_n (by rw [dbc_id hc, hl]; rfl)]
        unfold stripD
        rw [if_neg (fun h => id_45 hc h.1), (strip_run r).1]
        simp [run, ot, dl, hl]
      | false =>
        rw [ends_cons_d (by rw [dbc_id hc, hl]; rfl), ih]
        simp [run, ot, dl, hl]
    | false =>
      have hl : lettr c = false := by
        cases h : lettr c with
        | false => rfl
        | true => rw [lettr_id h] at hc; cases hc
      cases b with
      | true =>
        rw [show sub1 true (c :: r) = sub1 true r by simp [sub1, hc], ih]
        simp [run, ot, dl, hl]
      | false =>
        rw [show sub1 false (c :: r) = 45 :: sub1 true r by simp [sub1, hc], ends_cons_d dbc_45, ih]
        simp [run, ot, dl, hl]
theorem run_some : ∀ (l : List Nat) (g : Bool), run (some false) (run (some g) l) = run (some g) l
  | [], _ => rfl
  | c :: r, g => by
    have ih := run_some r
    cases hc : idc c with
    | true =>
      cases g with
      | true =>
        have e : run (some true) (c :: r) = 45 :: c :: run (some false) r := by simp [run, ot, dl, hc]
        rw [e]
        simp only [run, ot, dl, hc, if_true, show idc 45 = false from by decide, Bool.false_eq_true, if_false]
        rw [ih]
        rfl
      | false =>
        have e : run (some false) (c :: r) = c :: run (some false) r := by simp [run, ot, dl, hc]
        rw [e]
        simp only [run, ot, dl, hc, if_true, Bool.false_eq_true, if_false]
        rw [ih]
        rfl
    | false =>
      have e : run (some g) (c :: r) = run (some true) r := by simp [run, ot, dl, hc]
      rw [e]
      exact ih true
theorem run_idem : ∀ l : List Nat, run none (run none l) = run none l
  | [] => rfl
  | c :: r => by
    cases hl : lettr c with
    | true =>
      have e : run none (c :: r) = c :: run (some false) r := by simp [run, ot, dl, hl]
      rw [e]
      simp only [run, ot, dl, hl, if_true]
      rw [run_some]
      rfl
    | false =>
      have e : run none (c :: r) = run none r := by simp [run, ot, dl, hl]
      rw [e]
      exact run_idem r
theorem run_mem : ∀ (l : List Nat) (q : Option Bool) (c : Nat), c ∈ run q l → c = 45 ∨ c ∈ l
  | [], _, _, h => nomatch h
  | a :: r, q, c, h => by
    rcases List.mem_append.mp (show c ∈ ot q a ++ run (dl q a) r from h) with h | h
    · cases q with
      | none => unfold ot at h; dsimp only at h; split at h <;> simp at h; exact .inr (by simp [h])
      | some g =>
        unfold ot at h; dsimp only at h
        split at h
        · cases g <;> simp at h
          · exact .inr (by simp [h])
          · rcases h with h | h
            · exact .inl h
            · exact .inr (by simp [h])
        · cases h
    · rcases run_mem r _ c h with h | h
      · exact .inl h
      · exact .inr (List.mem_cons_of_mem _ h)
theorem run_len : ∀ (l : List Nat) (q : Option Bool), (run q l).length ≤ 2 * l.length
  | [], _ => Nat.le_refl _
  | a :: r, q => by
    have ih := run_len r (dl q a)
    have h2 : (ot q a).length ≤ 2 := by
      cases q with
      | none => unfold ot; dsimp only; split <;> simp
      | some g => unfold ot; dsimp only; split
                  · cases g <;> simp
                  · simp
    show (ot q a ++ run (dl q a) r).length ≤ _
    rw [List.length_append, List.length_cons]
    omega
/-! words -/
def wl : List Nat → List Nat → List (List Nat)
  | cur, [] => if cur = [] then [] else [cur]
  | cur, c :: r => if Unicode.isSpace c then (if cur = [] then wl [] r else cur :: wl [] r) else wl (cur ++ [c]) r
def Spc (l : List Nat) : Prop := ∀ c ∈ l, Unicode.isSpace c = true → idc c = false
theorem joinL_cons (a : List Nat) (l : List (List Nat)) (h : l ≠ []) : joinL [32] (a :: l) = a ++ [32] ++ joinL [32] l := by
  cases l with
  | nil => exact absurd rfl h
  | cons b r => rfl
theorem dl_non {q : Option Bool} {c : Nat} (h : idc c = false) : dl q c = (match q with | none => none | some _ => some true) := by
  have hl : lettr c = false := by
    cases h' : lettr c with
    | false => rfl
    | true => rw [lettr_id h'] at h; cases h
  cases q <;> simp [dl, h, hl]
theorem ot_non {q : Option Bool} {c : Nat} (h : idc c = false) : ot q c = [] := by
  have hl : lettr c = false := by
    cases h' : lettr c with
    | false => rfl
    | true => rw [lettr_id h'] at h; cases h
  cases q <;> simp [ot, h, hl]
theorem run_words : ∀ (l cur : List Nat), Spc l → (cur ≠ [] → ∀ q, run q (joinL [32] (wl cur l)) = run q (cur ++ l)) ∧ (cur = [] → ∀ q, q ≠ some false → run q (joinL [32] (wl [] l)) = run q l)
  | [], cur, _ => by
    constructor
    · intro h q; unfold wl; rw [if_neg h, List.append_nil]; rfl
    · intro h q _; rfl
  | c :: r, cur, hs => by
    have hr : Spc r := fun z hz => hs z (List.mem_cons_of_mem _ hz)
    cases hsp : Unicode.isSpace c with
    | true =>
      have hn := hs c List.mem_cons_self hsp
      constructor
      · intro h q
        have e : wl cur (c :: r) = cur :: wl [] r := by
          show (if Unicode.isSpace c = true then _ else _) = _
          rw [hsp, if_pos rfl, if_neg h]
        rw [e, run_append, show run (cur.foldl dl q) (c :: r) = run (dl (cur.foldl dl q) c) r by simp [run, ot_non hn]]
        have hq : dl (cur.foldl dl q) c ≠ some false := by rw [dl_non hn]; split <;> simp
        rw [← (run_words r [] hr).2 rfl _ hq]
        by_cases hw : wl [] r = []
        · rw [hw]; simp [joinL, run]
        · rw [joinL_cons _ _ hw, List.append_assoc, run_append]
          congr 1
          show ot _ 32 ++ run (dl _ 32) _ = _
          rw [ot_non (by decide), dl_non (c := 32) (by decide), dl_non hn]
          rfl
      · intro h q hq
        have e : wl [] (c :: r) = wl [] r := by
          show (if Unicode.isSpace c = true then _ else _) = _
          rw [hsp, if_pos rfl, if_pos rfl]
        rw [e, (run_words r [] hr).2 rfl _ hq]
        show _ = ot q c ++ run (dl q c) r
        rw [ot_non hn, dl_non hn]
        match q, hq with
        | none, _ => rfl
        | some true, _ => rfl
    | false =>
      have e : ∀ cur, wl cur (c :: r) = wl (cur ++ [c]) r := fun cur => by
        show (if Unicode.isSpace c = true then _ else _) = _
        rw [hsp, if_neg Bool.false_ne_true]
      constructor
      · intro h q
        rw [e, (run_words r (cur ++ [c]) hr).1 (by simp) q, List.append_assoc]
        rfl
      · intro h q _
        rw [e, (run_words r ([] ++ [c]) hr).1 (by simp) q]
        rfl
theorem scan_wl : ∀ (l : List Nat) (st : KWd.St), (KWd.fin (l.foldl KWd.step st)).map (·.cps.toList) = st.1.map (·.cps.toList) ++ wl st.2.cps.toList l
  | [], st => by
    show (KWd.fin st).map _ = _
    unfold KWd.fin wl
    by_cases h : st.2.length = 0
    · rw [if_pos h, if_pos (by rw [KWd.len0 h]; rfl), List.append_nil]
    · rw [if_neg h, if_neg (fun e => h (by rw [← len_list, e]; rfl)), List.map_append]
      rfl
  | c :: r, st => by
    rw [List.foldl_cons, scan_wl r]
    unfold KWd.step
    cases hsp : Unicode.isSpace c with
    | true =>
      have e : wl st.2.cps.toList (c :: r) = if st.2.cps.toList = [] then wl [] r else st.2.cps.toList :: wl [] r := by
        show (if Unicode.isSpace c = true then _ else _) = _
        rw [hsp, if_pos rfl]
      rw [e, if_pos rfl]
      by_cases h : st.2.length = 0
      · rw [if_pos h, if_pos (by rw [KWd.len0 h]; rfl), KWd.len0 h]; rfl
      · rw [if_neg h, if_neg (fun e => h (by rw [← len_list, e]; rfl)), List.map_append, List.append_assoc]
        rfl
    | false =>
      have e : wl st.2.cps.toList (c :: r) = wl (st.2.cps.toList ++ [c]) r := by
        show (if Unicode.isSpace c = true then _ else _) = _
        rw [hsp, if_neg Bool.false_ne_true]
      rw [e, if_neg Bool.false_ne_true]
      show _ ++ wl (st.2 ++ ⟨#[c]⟩ : Str).cps.toList r = _
      rw [Str.cps_append, Array.toList_append]
theorem words_wl (x : Str) : (Txt.words x).map (·.cps.toList) = wl [] x.cps.toList := by
  rw [KWd.words_scan]
  unfold KWd.scan
  rw [scan_wl]
  rfl
/-- make_id, by the machine -/
theorem mkId_run {x : Str} (h : Spc (asc (Txt.lower x).cps.toList)) : (mkId x).cps.toList = run none (asc (Txt.lower x).cps.toList) := by
  unfold mkId
  rw [mk2_list, mk1_list, ends_run]
  unfold mk0
  rw [join_toList, words_wl]
  exact (run_words _ [] h).2 rfl none (by simp)
end Mine
end
local macro_rules | `(tactic| walk_at "none P1 0") => `(tactic| fail "none")
section
open PySem PySem.W PyProof.Rows
set_option maxRecDepth 100000
namespace Mine
def sig14 : List Nat := [97, 66, 55, 45, 233, 32, 46, 122, 95, 9, 10, 223, 48, 98]
def A14 (x : Str) : Prop := ∀ c ∈ x.cps.toList, c ∈ sig14
def lo (c : Nat) : Nat := if c = 66 then 98 else c
theorem lo_of : ∀ c ∈ sig14, Unicode.lowerOf c = [lo c] := by decide +kernel
theorem t_sigma : ∀ c ∈ sig14, (c == 0x3A3) = false := by decide +kernel
theorem t_space : ∀ c ∈ sig14, Unicode.isSpace c = (c == 32 || c == 9 || c == 10) := by decide +kernel
theorem t_spaceLo : ∀ c ∈ sig14, Unicode.isSpace (lo c) = Unicode.isSpace c := by decide +kernel
theorem t_spc : ∀ c ∈ sig14, Unicode.isSpace (lo c) = true → idc (lo c) = false := by decide +kernel
theorem t_out : ∀ c ∈ sig14, out (Str.ofString " \t\n") ⟨#[c]⟩ = !Unicode.isSpace c := by decide +kernel
theorem t_small : ∀ c ∈ sig14, smallS ⟨#[c]⟩ = ⟨#[lo c]⟩ := by decide +kernel
theorem t_abz : ∀ c ∈ sig14, out (Str.ofString "abz") (smallS ⟨#[c]⟩) = !lettr (lo c) := by decide +kernel
theorem t_70 : ∀ c ∈ sig14, out (Str.ofString "70") ⟨#[c]⟩ = !(idc (lo c) && !lettr (lo c)) := by decide +kernel
theorem t_es : ∀ c ∈ sig14, out (Str.ofString "éß") ⟨#[c]⟩ = decide (lo c < 128) := by decide +kernel
theorem t_es2 : ∀ c ∈ sig14, lo c < 128 ∨ (lettr (lo c) = false ∧ idc (lo c) = false) := by decide +kernel
theorem t_nm : ∀ c ∈ sig14, nmc c = (!Unicode.isSpace c && out (Str.ofString "éß") ⟨#[c]⟩) := by decide +kernel
theorem t_255 : ∀ c ∈ sig14, c ≤ 255 := by decide
theorem t_run : ∀ c ∈ sig14, lo c < 128 → c ≠ 66 → (lo c = c) := by decide +kernel
theorem low_map {x : Str} (h : A14 x) : (Txt.lower x).cps.toList = x.cps.toList.map lo := by
  unfold Txt.lower
  rw [placed_single x _ lo fun i c hc => by
    have hc' : x.cps[i]? = some c := by simpa using hc
    have hm := h c (List.mem_of_getElem? hc)
    unfold Unicode.lowerAt
    rw [hc']
    simp only [t_sigma c hm, Bool.false_and, Bool.false_eq_true, if_false]
    exact lo_of c hm]
  simp
theorem asc_mem {l : List Nat} {c : Nat} (h : c ∈ asc l) : c ∈ l ∧ c < 128 := by
  unfold asc at h
  have := List.mem_filter.mp h
  exact ⟨this.1, by simpa using this.2⟩
theorem asc_cons (a : Nat) (l : List Nat) : asc (a :: l) = if a < 128 then a :: asc l else asc l := by
  unfold asc
  rw [List.filter_cons]
  by_cases h : a < 128
  · rw [if_pos (by simp [h]), if_pos h]
  · rw [if_neg (by simp; omega), if_neg h]
theorem mkId_A {x : Str} (h : A14 x) : (mkId x).cps.toList = run none (asc (x.cps.toList.map lo)) := by
  rw [← low_map h]
  refine mkId_run fun c hc hs => ?_
  rw [low_map h] at hc
  obtain ⟨hc, _⟩ := asc_mem hc
  obtain ⟨d, hd, rfl⟩ := List.mem_map.mp hc
  exact t_spc d (h d hd) hs
theorem str_ne {x : Str} : (x != Str.ofString "") = !decide (x.cps.toList = []) := by
  by_cases h : x.cps.toList = []
  · have : x = Str.ofString "" := Str.ext' (Array.toList_inj.mp h)
    rw [this]; rfl
  · have : x ≠ Str.ofString "" := fun e => h (by rw [e]; rfl)
    simp [h, this]
def qOf (st : Str × Bool) : Option Bool := if st.1.cps.toList = [] then none else some st.2
theorem idStep_run {st : Str × Bool} {c : Nat} (h : c ∈ sig14) : (idStep st ⟨#[c]⟩).1.cps.toList = st.1.cps.toList ++ (if lo c < 128 then ot (qOf st) (lo c) else []) ∧ qOf (idStep st ⟨#[c]⟩) = (if lo c < 128 then dl (qOf st) (lo c) else qOf st) := by
  obtain ⟨t, g⟩ := st
  unfold idStep
  rw [t_abz c h, t_70 c h, t_es c h, t_small c h, str_ne]
  dsimp only
  simp only [Bool.not_not]
  have e2 := t_es2 c h
  by_cases ht : t.cps.toList = []
  · cases hl : lettr (lo c) with
    | true =>
      have hlt : lo c < 128 := by rcases e2 with e | e; exact e; rw [hl] at e; cases e.1
      simp [hlt, ht, qOf, ot, dl, hl, Str.cps_append, Array.toList_append, show (Str.ofString "").cps.toList = [] from rfl]
    | false =>
      by_cases hlt : lo c < 128
      · simp [ht, hlt, qOf, ot, dl, hl]
      · simp [ht, hlt, qOf, ot, dl, hl]
  · cases hi : idc (lo c) with
    | true =>
      have hlt : lo c < 128 := by rcases e2 with e | e; exact e; rw [hi] at e; cases e.2
      have hc : (lettr (lo c) || (true && !lettr (lo c)) && !decide (t.cps.toList = [])) = true := by cases lettr (lo c) <;> simp [ht]
      rw [if_pos hc]
      cases g <;> simp [ht, hlt, qOf, ot, dl, hi, Str.cps_append, Array.toList_append, show (Str.ofString "").cps.toList = [] from rfl, show (Str.ofString "-").cps.toList = [45] from rfl]
    | false =>
      have hl : lettr (lo c) = false := by
        cases h' : lettr (lo c) with
        | false => rfl
        | true => rw [lettr_id h'] at hi; cases hi
      by_cases hlt : lo c < 128
      · simp [ht, hlt, qOf, ot, dl, hi, hl]
      · simp [ht, hlt, qOf, ot, dl, hi, hl]
theorem idFold_run : ∀ (l : List Nat) (st : Str × Bool), (∀ c ∈ l, c ∈ sig14) → ((l.map fun c : Nat => (c : Int)).foldl (fun st n => idStep st ⟨#[n.toNat]⟩) st).1.cps.toList = st.1.cps.toList ++ run (qOf st) (asc (l.map lo))
  | [], st, _ => by show _ = _ ++ []; rw [List.append_nil]; rfl
  | c :: r, st, h => by
    have ⟨h1, h2⟩ := idStep_run (st := st) (h c List.mem_cons_self)
    rw [List.map_cons, List.foldl_cons, Int.toNat_natCast, idFold_run r _ fun d hd => h d (List.mem_cons_of_mem _ hd), h1, h2, List.map_cons, asc_cons, List.append_assoc]
    congr 1
    split <;> rfl
theorem told_A {x : Str} (h : A14 x) : (told x).cps.toList = run none (asc (x.cps.toList.map lo)) := by
  unfold told idFold KStt.codes
  rw [idFold_run _ _ h]
  rfl
theorem str_eq {x y : Str} (h : x.cps.toList = y.cps.toList) : x = y := Str.ext' (Array.toList_inj.mp h)
theorem id0_A {x : Str} (h : A14 x) : mkId x = told x := str_eq ((mkId_A h).trans (told_A h).symm)
end Mine
end
local macro_rules | `(tactic| walk_at "none P2 0") => `(tactic| fail "none")
section
open PySem PySem.W PyProof.Rows
set_option maxRecDepth 100000
namespace Mine
theorem emp : Str.ofString "" = Str.empty := rfl
theorem wStep_eq {st : KWd.St} {c : Nat} (h : c ∈ sig14) : wStep st ⟨#[c]⟩ = KWd.step st c := by
  obtain ⟨ws, r⟩ := st
  unfold wStep KWd.step
  rw [t_out c h, str_ne, Bool.not_not]
  cases hs : Unicode.isSpace c with
  | true =>
    rw [if_pos rfl, if_pos rfl]
    dsimp only
    by_cases hr : r.length = 0
    · rw [if_pos hr, KWd.len0 hr]
      show (ws ++ [], Str.ofString "") = _
      rw [List.append_nil]; rfl
    · rw [if_neg hr, if_pos (by simp only [Bool.not_eq_true', decide_eq_false_iff_not]; intro e; exact hr (by rw [← len_list, e]; rfl))]
      rfl
  | false => rfl
theorem wFold_scan : ∀ (l : List Nat) (st : KWd.St), (∀ c ∈ l, c ∈ sig14) → l.foldl (fun st n => wStep st ⟨#[n]⟩) st = l.foldl KWd.step st
  | [], _, _ => rfl
  | c :: r, st, h => by
    rw [List.foldl_cons, List.foldl_cons, wStep_eq (h c List.mem_cons_self)]
    exact wFold_scan r _ fun d hd => h d (List.mem_cons_of_mem _ hd)
theorem words_A {x : Str} (h : A14 x) : Txt.words x = lawWords x := by
  rw [KWd.words_scan]
  unfold lawWords wFold
  rw [Str.cps_append, Array.toList_append, show (Str.ofString " ").cps.toList = [32] from rfl, List.foldl_append, wFold_scan _ _ h]
  show _ = (wStep (x.cps.toList.foldl KWd.step ([], Str.ofString "")) ⟨#[32]⟩).1
  rw [wStep_eq (by decide), show x.cps.toList.foldl KWd.step ([], Str.ofString "") = KWd.scan x from rfl]
  unfold KWd.fin KWd.step
  rw [if_pos (show Unicode.isSpace 32 = true by decide)]
  split <;> rfl
theorem wl_mem : ∀ (l cur z : List Nat), z ∈ wl cur l → z ≠ [] ∧ ∀ c ∈ z, c ∈ cur ∨ (c ∈ l ∧ Unicode.isSpace c = false)
  | [], cur, z, h => by
    unfold wl at h
    split at h
    · cases h
    · rename_i hc
      rw [List.mem_singleton.mp h]
      exact ⟨hc, fun c hc => .inl hc⟩
  | a :: r, cur, z, h => by
    unfold wl at h
    cases hs : Unicode.isSpace a with
    | true =>
      rw [hs, if_pos rfl] at h
      have tail : z ∈ wl [] r → z ≠ [] ∧ ∀ c ∈ z, c ∈ cur ∨ (c ∈ a :: r ∧ Unicode.isSpace c = false) := fun hz => by
        obtain ⟨h1, h2⟩ := wl_mem r [] z hz
        refine ⟨h1, fun c hc => ?_⟩
        rcases h2 c hc with h | h
        · cases h
        · exact .inr ⟨List.mem_cons_of_mem _ h.1, h.2⟩
      split at h
      · exact tail h
      · rename_i hc
        rcases List.mem_cons.mp h with rfl | h
        · exact ⟨hc, fun c hc => .inl hc⟩
        · exact tail h
    | false =>
      rw [hs, if_neg Bool.false_ne_true] at h
      obtain ⟨h1, h2⟩ := wl_mem r (cur ++ [a]) z h
      refine ⟨h1, fun c hc => ?_⟩
      rcases h2 c hc with h | h
      · rcases List.mem_append.mp h with h | h
        · exact .inl h
        · rw [List.mem_singleton.mp h]; exact .inr ⟨List.mem_cons_self, hs⟩
      · exact .inr ⟨List.mem_cons_of_mem _ h.1, h.2⟩
theorem word_of {x y : Str} (h : y ∈ Txt.words x) : y.cps.toList ≠ [] ∧ ∀ c ∈ y.cps.toList, c ∈ x.cps.toList ∧ Unicode.isSpace c = false := by
  have := wl_mem x.cps.toList [] y.cps.toList (by rw [← words_wl]; exact List.mem_map_of_mem h)
  refine ⟨this.1, fun c hc => ?_⟩
  rcases this.2 c hc with h | h
  · cases h
  · exact h
theorem wl_one : ∀ (l cur : List Nat), (∀ c ∈ l, Unicode.isSpace c = false) → cur ++ l ≠ [] → wl cur l = [cur ++ l]
  | [], cur, _, h => by
    rw [List.append_nil] at h ⊢
    unfold wl
    rw [if_neg h]
  | c :: r, cur, hs, h => by
    unfold wl
    rw [hs c List.mem_cons_self, if_neg Bool.false_ne_true, wl_one r (cur ++ [c]) (fun d hd => hs d (List.mem_cons_of_mem _ hd)) (by simp), List.append_assoc]
    rfl
theorem words_one {x : Str} (hs : ∀ c ∈ x.cps.toList, Unicode.isSpace c = false) (h : x.cps.toList ≠ []) : Txt.words x = [x] := by
  have e := words_wl x
  rw [wl_one _ [] hs (by simpa using h), List.nil_append] at e
  cases hw : Txt.words x with
  | nil => rw [hw] at e; cases e
  | cons y r =>
    rw [hw, List.map_cons] at e
    obtain ⟨e1, e2⟩ := List.cons.inj e
    rw [str_eq e1, List.map_eq_nil_iff.mp e2]
theorem runOf_iff {p : Nat → Bool} : ∀ {l : List Nat}, runOf p l = l.length ↔ ∀ c ∈ l, p c = true
  | [] => ⟨fun _ c h => (nomatch h), fun _ => rfl⟩
  | a :: r => by
    constructor
    · exact runOf_all
    · intro h
      unfold runOf
      rw [if_pos (h a List.mem_cons_self), List.length_cons, runOf_iff.mpr fun c hc => h c (List.mem_cons_of_mem _ hc)]
theorem isTok_iff {x : Str} (h : A14 x) : IsTok x ↔ (x.cps.toList ≠ [] ∧ (∀ c ∈ x.cps.toList, Unicode.isSpace c = false) ∧ esOf x = []) := by
  unfold IsTok esOf
  rw [← Array.length_toList, runOf_iff, List.filter_eq_nil_iff]
  constructor
  · rintro ⟨h1, h2⟩
    refine ⟨fun e => h2 (by rw [e]; rfl), fun c hc => ?_, fun c hc => ?_⟩
    · have := h1 c hc
      rw [t_nm c (h c hc), Bool.and_eq_true] at this
      simpa using this.1
    · have := h1 c hc
      rw [t_nm c (h c hc), Bool.and_eq_true] at this
      simpa using this.2
  · rintro ⟨h1, h2, h3⟩
    refine ⟨fun c hc => ?_, fun e => h1 (List.length_eq_zero_iff.mp e)⟩
    rw [t_nm c (h c hc), h2 c hc]
    simpa using h3 c hc
theorem A_sub {x y : Str} (h : A14 x) (hs : ∀ c ∈ y.cps.toList, c ∈ x.cps.toList) : A14 y := fun c hc => h c (hs c hc)
theorem t_lo : ∀ c ∈ sig14, lo c ∈ sig14 ∧ lo c ≠ 66 := by decide +kernel
theorem told_mem {x : Str} (h : A14 x) : ∀ c ∈ (told x).cps.toList, c ∈ sig14 ∧ c ≠ 66 ∧ c < 128 := by
  intro c hc
  rw [told_A h] at hc
  rcases run_mem _ _ _ hc with rfl | hc
  · exact ⟨by decide, by decide, by decide⟩
  · obtain ⟨hc, hlt⟩ := asc_mem hc
    obtain ⟨d, hd, rfl⟩ := List.mem_map.mp hc
    obtain ⟨h1, h2⟩ := t_lo d (h d hd)
    exact ⟨h1, h2, hlt⟩
theorem map_lo_id : ∀ {l : List Nat}, (∀ c ∈ l, c ≠ 66) → l.map lo = l
  | [], _ => rfl
  | a :: r, h => by
    rw [List.map_cons, map_lo_id fun c hc => h c (List.mem_cons_of_mem _ hc)]
    unfold lo
    rw [if_neg (h a List.mem_cons_self)]
theorem asc_id : ∀ {l : List Nat}, (∀ c ∈ l, c < 128) → asc l = l
  | [], _ => rfl
  | a :: r, h => by rw [asc_cons, if_pos (h a List.mem_cons_self), asc_id fun c hc => h c (List.mem_cons_of_mem _ hc)]
theorem id1_A {x : Str} (h : A14 x) : mkId (told x) = told x := by
  have hm := told_mem h
  refine str_eq ?_
  rw [mkId_A fun c hc => (hm c hc).1, map_lo_id fun c hc => (hm c hc).2.1, asc_id fun c hc => (hm c hc).2.2, told_A h]
  exact run_idem _
theorem asc_append (a b : List Nat) : asc (a ++ b) = asc a ++ asc b := by unfold asc; rw [List.filter_append]
theorem id2_A {x : Str} (h : A14 x) : mkId (Str.ofString " \t" ++ x ++ Str.ofString "\n ") = told x := by
  have e : (Str.ofString " \t" ++ x ++ Str.ofString "\n ").cps.toList = [32, 9] ++ (x.cps.toList ++ [10, 32]) := by
    rw [Str.cps_append, Str.cps_append, Array.toList_append, Array.toList_append, List.append_assoc]
    rfl
  refine str_eq ?_
  rw [mkId_A (fun c hc => by
    rw [e] at hc
    rcases List.mem_append.mp hc with hc | hc
    · have : ∀ c ∈ [32, 9], c ∈ sig14 := by decide
      exact this c hc
    · rcases List.mem_append.mp hc with hc | hc
      · exact h c hc
      · have : ∀ c ∈ [10, 32], c ∈ sig14 := by decide
        exact this c hc), e, told_A h, List.map_append, List.map_append, asc_append, asc_append, run_append, run_append]
  have e1 : ∀ q, run q (asc ([10, 32].map lo)) = [] := fun q => by
    match q with
    | none => decide
    | some true => decide
    | some false => decide
  rw [e1, List.append_nil]
  rfl
theorem told_len {x : Str} (h : A14 x) : (told x).length ≤ 2 * x.length := by
  rw [← len_list, told_A h]
  have h1 := run_len (asc (x.cps.toList.map lo)) none
  have h2 := asc_length (x.cps.toList.map lo)
  rw [List.length_map, len_list] at h2
  omega
theorem wl_map : ∀ (l cur : List Nat), (∀ c ∈ l, c ∈ sig14) → wl (cur.map lo) (l.map lo) = (wl cur l).map (List.map lo)
  | [], cur, _ => by
    show wl (cur.map lo) [] = _
    unfold wl
    by_cases h : cur = []
    · subst h; rfl
    · rw [if_neg h, if_neg (by simpa using h)]; rfl
  | c :: r, cur, h => by
    have hr : ∀ d ∈ r, d ∈ sig14 := fun d hd => h d (List.mem_cons_of_mem _ hd)
    show wl (cur.map lo) (lo c :: r.map lo) = _
    unfold wl
    rw [t_spaceLo c (h c List.mem_cons_self)]
    cases Unicode.isSpace c with
    | true =>
      rw [if_pos rfl, if_pos rfl]
      have ih := wl_map r [] hr
      rw [List.map_nil] at ih
      by_cases hc : cur = []
      · subst hc; rw [List.map_nil, if_pos rfl, if_pos rfl, ih]
      · rw [if_neg hc, if_neg (by simpa using hc), ih]; rfl
    | false =>
      rw [if_neg Bool.false_ne_true, if_neg Bool.false_ne_true, ← wl_map r (cur ++ [c]) hr, List.map_append]
      rfl
theorem joinL_map : ∀ l : List (List Nat), joinL [32] (l.map (List.map lo)) = (joinL [32] l).map lo
  | [] => rfl
  | [a] => rfl
  | a :: b :: r => by
    have ih := joinL_map (b :: r)
    show a.map lo ++ [32] ++ joinL [32] ((b :: r).map (List.map lo)) = (a ++ [32] ++ joinL [32] (b :: r)).map lo
    rw [ih, List.map_append, List.map_append]
    rfl
theorem joinL_mem : ∀ {l : List (List Nat)} {c : Nat}, c ∈ joinL [32] l → c = 32 ∨ ∃ z ∈ l, c ∈ z
  | [], _, h => nomatch h
  | [a], c, h => .inr ⟨a, List.mem_cons_self, h⟩
  | a :: b :: r, c, h => by
    rcases List.mem_append.mp (show c ∈ a ++ [32] ++ joinL [32] (b :: r) from h) with h | h
    · rcases List.mem_append.mp h with h | h
      · exact .inr ⟨a, List.mem_cons_self, h⟩
      · exact .inl (List.mem_singleton.mp h)
    · rcases joinL_mem h with h | ⟨z, hz, hc⟩
      · exact .inl h
      · exact .inr ⟨z, List.mem_cons_of_mem _ hz, hc⟩
theorem flatten_singles (f : Nat → Nat) : ∀ l : List Nat, (l.map fun c => [f c]).flatten = l.map f
  | [] => rfl
  | a :: r => by rw [List.map_cons, List.flatten_cons, flatten_singles f r]; rfl
theorem full_A {x : Str} (h : A14 x) : Txt.join (Str.ofString " ") (Txt.words (Txt.lower x)) = Txt.join (Str.ofString "") ((Txt.join (Str.ofString " ") (lawWords x)).cps.toList.map fun c => smallS ⟨#[c]⟩) := by
  refine str_eq ?_
  rw [join_toList, join_toList, join_toList, words_wl, low_map h, show (Str.ofString "").cps.toList = [] from rfl, joinL_nil, ← words_A h, words_wl]
  have e := wl_map x.cps.toList [] h
  rw [List.map_nil] at e
  rw [e, show (Str.ofString " ").cps.toList = [32] from rfl, joinL_map, List.map_map]
  rw [← flatten_singles]
  congr 1
  refine List.map_congr_left fun c hc => ?_
  have hm : c ∈ sig14 := by
    rcases joinL_mem hc with rfl | ⟨z, hz, hc⟩
    · decide
    · rcases (wl_mem _ _ _ hz).2 c hc with h' | h'
      · cases h'
      · exact h c h'.1
  show [lo c] = (smallS ⟨#[c]⟩).cps.toList
  rw [t_small c hm]
theorem plainA {x : Str} (h : Dom x) : Plain x := by
  have hA : A14 x := fun c hc => by
    have := h.2 c hc
    have g : ∀ c ∈ sigN, c ∈ sig14 := by decide
    exact g c this
  have hw := words_A hA
  have hword : ∀ y ∈ lawWords x, y.cps.toList ≠ [] ∧ ∀ c ∈ y.cps.toList, c ∈ x.cps.toList ∧ Unicode.isSpace c = false := fun y hy => word_of (by rw [hw]; exact hy)
  have hAy : ∀ y ∈ lawWords x, A14 y := fun y hy => A_sub hA fun c hc => ((hword y hy).2 c hc).1
  have hly : ∀ y ∈ lawWords x, y.length ≤ x.length := fun y hy => word_short (by rw [hw]; exact hy)
  have htok : ∀ y ∈ lawWords x, (IsTok y ↔ esOf y = []) := fun y hy => by
    rw [isTok_iff (hAy y hy)]
    exact ⟨fun g => g.2.2, fun g => ⟨(hword y hy).1, fun c hc => ((hword y hy).2 c hc).2, g⟩⟩
  have hlen := h.1
  refine ⟨h.1, hw, fun y hy => ⟨?_, fun c hc => t_255 c (hAy y hy c hc)⟩, ?_, ⟨by omega, fun c hc => t_255 c (hA c hc)⟩, id0_A hA, id1_A hA, id2_A hA, ?_, fun y hy => id0_A (hAy y hy), htok, ?_, full_A hA⟩
  · have := hly y hy; omega
  · intro z hz
    obtain ⟨y, hy, rfl⟩ := List.mem_map.mp hz
    have h1 := told_len (hAy y hy)
    have h2 := hly y hy
    exact ⟨by omega, fun c hc => t_255 c (told_mem (hAy y hy) c hc).1⟩
  · have := told_len hA; omega
  · rw [isTok_iff hA]
    constructor
    · rintro ⟨g1, g2, g3⟩
      have e : lawWords x = [x] := by rw [← hw]; exact words_one g2 g1
      refine ⟨e, fun y hy => ?_⟩
      rw [e] at hy
      rw [List.mem_singleton.mp hy]; exact g3
    · rintro ⟨e, g⟩
      have hx : x ∈ lawWords x := by rw [e]; exact List.mem_singleton.mpr rfl
      exact ⟨(hword x hx).1, fun c hc => ((hword x hx).2 c hc).2, g x hx⟩
theorem plain {x : Str} (h : Dom x) : Plain x := plainA h
end Mine
end
local macro_rules | `(tactic| walk_at "none P3 0") => `(tactic| fail "none")
section
open PySem PySem.W PySem.Calls PyProof.Rows PyProof.V PySem.Spec
set_option rowWalk.seconds 0
set_option maxRecDepth 100000
namespace Mine
theorem strOk_of {x : Str} (h : Sm x) : PyData.strOk x = true := by
  obtain ⟨h1, h2⟩ := h
  have h4 : ∀ i (hi : i < x.cps.size), x.cps[i] ≤ 255 := fun i hi => h2 _ (by simp)
  unfold PyData.strOk
  simp only [decide_eq_true_eq, Array.all_eq_true]
  intro i hi
  have := h4 i hi
  omega
theorem strs_lay : ∀ l : List Str, (∀ y ∈ l, Sm y) → PyData.canLayAll0 (l.map PyData.str) = true ∧ PyData.depthAll (l.map PyData.str) = 0
  | [], _ => ⟨rfl, rfl⟩
  | a :: r, hl => by
    obtain ⟨h1, h2⟩ := strs_lay r fun y hy => hl y (List.mem_cons_of_mem _ hy)
    have h3 := strOk_of (hl a List.mem_cons_self)
    constructor
    · simp [PyData.canLayAll0, PyData.canLay0, h1, h3]
    · simp [PyData.depthAll, PyData.depth, h2]
theorem strs_shaped {l : List Str} (hl : ∀ y ∈ l, Sm y) : SeqAt.shaped (.list (l.map PyData.str)) = true := by
  obtain ⟨h1, h2⟩ := strs_lay l hl
  simp [SeqAt.shaped, PyData.canLay0, PyData.depth, h1, h2]
theorem strs_sameAll : ∀ l k : List Str, PySem.Spec.sameAll (l.map PyData.str) (k.map PyData.str) = decide (l = k)
  | [], [] => by simp [PySem.Spec.sameAll]
  | [], _ :: _ => by simp [PySem.Spec.sameAll]
  | _ :: _, [] => by simp [PySem.Spec.sameAll]
  | a :: r, b :: t => by
    have ih := strs_sameAll r t
    simp only [List.map_cons, PySem.Spec.sameAll, PySem.Spec.same, ih]
    by_cases h : a = b <;> by_cases h' : r = t <;> simp [h, h']
theorem strs_same (l k : List Str) : PySem.Spec.same (.list (l.map PyData.str)) (.list (k.map PyData.str)) = decide (l = k) := by
  simp only [PySem.Spec.same]; exact strs_sameAll l k
theorem strs_carried : ∀ {vs : List Value} {l : List Str}, StrsAre vs l → CarriedAll vs (l.map PyData.str)
  | _, _, .nil => .nil
  | _, _, .cons _ t r => .cons (.str _ t) (strs_carried r)
section
variable {prog : Program} {w : World} {A : Around} {E : Value → Shared → Prop} {s : Shared} {a b : Addr} {xs ys : List Value} {l k : List Str} {Q : Value → Shared → Prop} {h₀ : Heap} {L : Addr} {news : List (Addr × Obj)} {o1 o2 : Nat}
theorem eqStrs (N : News h₀ L s.heap news) (ha : (a, lob xs o1) ∈ news) (hb : (b, lob ys o2) ∈ news) (hi : StrsAre xs l) (hj : StrsAre ys k) (g1 : ∀ y ∈ l, Sm y) (g2 : ∀ y ∈ k, Sm y) (hu : A.units + 64 < cLine) (h : Q (.bool (decide (l = k))) s) :
    wpAny (model prog w) A (compareOp .Eq (.ref a) (.ref b)) Q E s :=
  eq_dataH_same (reads_newData (News.isList N ha) (strs_carried hi)) (reads_newData (News.isList N hb) (strs_carried hj)) (strs_shaped g1) (strs_shaped g2) hu (SeqAt.noMix_of_shape (.list .str) rfl _ _ (list_map_has fun _ => rfl) (list_map_has fun _ => rfl)) (by rw [strs_same]; exact h)
theorem neStrs (N : News h₀ L s.heap news) (ha : (a, lob xs o1) ∈ news) (hb : (b, lob ys o2) ∈ news) (hi : StrsAre xs l) (hj : StrsAre ys k) (g1 : ∀ y ∈ l, Sm y) (g2 : ∀ y ∈ k, Sm y) (hu : A.units + 64 < cLine) (h : Q (.bool (!decide (l = k))) s) :
    wpAny (model prog w) A (compareOp .NotEq (.ref a) (.ref b)) Q E s :=
  ne_dataH_same (reads_newData (News.isList N ha) (strs_carried hi)) (reads_newData (News.isList N hb) (strs_carried hj)) (strs_shaped g1) (strs_shaped g2) hu (SeqAt.noMix_of_shape (.list .str) rfl _ _ (list_map_has fun _ => rfl) (list_map_has fun _ => rfl)) (by rw [strs_same]; exact h)
theorem neSame (N : News h₀ L s.heap news) (ha : (a, lob xs o1) ∈ news) (hb : (b, lob ys o2) ∈ news) (hi : StrsAre xs l) (hj : StrsAre ys l) (g1 : ∀ y ∈ l, Sm y) (hu : A.units + 64 < cLine) (h : Q (.bool false) s) :
    wpAny (model prog w) A (compareOp .NotEq (.ref a) (.ref b)) Q E s := neStrs N ha hb hi hj g1 g1 hu (by simpa using h)
end
end Mine
end
local macro_rules | `(tactic| walk_at "none K4 0") => `(tactic| fail "none")
section
open PySem PySem.W PyProof.Rows
set_option rowWalk.seconds 0
namespace Mine
section
variable {M : Model} {A : Around} {E : Value → Shared → Prop} {s : Shared} {h₀ : Heap} {L : Addr} {m : Str → Option Value}
def CutB (h₀ : Heap) (L : Addr) (m : Str → Option Value) (news : List (Addr × Obj)) (b₀ : Bool) (s : Shared) (b : Bool) (s' : Shared) : Prop :=
  b = b₀ ∧ ∃ h' tk', s' = { s with heap := h', toks := tk' } ∧ Fr h₀ L h' m ∧ News h₀ L h' news
theorem CutB.mk {news all : List (Addr × Obj)} {b₀ : Bool} {h' : Heap} {tk' : Nat} (F : Fr h₀ L h' m) (N : News h₀ L h' all) (sub : ∀ p ∈ news, p ∈ all) : CutB h₀ L m news b₀ s b₀ { s with heap := h', toks := tk' } := ⟨rfl, h', tk', rfl, F, fun p hp => N p (sub p hp)⟩
theorem cutB {e : Sem Bool} {Q : Bool → Shared → Prop} {news : List (Addr × Obj)} (F0 : Fr h₀ L s.heap m) (N0 : News h₀ L s.heap news) (b₀ : Bool) (h : wpAny M A e (CutB h₀ L m news b₀ s) E s) (k : ∀ h' tk', Fr h₀ L h' m → News h₀ L h' news → Q b₀ { s with heap := h', toks := tk' }) : wpAny M A e Q E s := by
  refine wpAny_mono h (fun b s' hc => ?_) fun _ _ e => e
  obtain ⟨rfl, h', tk', rfl, F, N⟩ := hc
  exact k h' tk' F N
end
section
variable {prog : Program} {w : World} {A : Around} {E : Value → Shared → Prop} {s : Shared} {x y : Str} {t u : Tok} {Q : Value → Shared → Prop}
theorem strNe0 (e : x = y) (h : Q (.bool false) s) : wpAny (model prog w) A (compareOp .NotEq (.str x t) (.str y u)) Q E s := by
  refine ne_str ?_
  rw [e, show (y != y) = false from by simp]
  exact h
theorem strEq1 (e : x = y) (h : Q (.bool true) s) : wpAny (model prog w) A (compareOp .Eq (.str x t) (.str y u)) Q E s := by
  refine eq_str ?_
  rw [e, show (y == y) = true from by simp]
  exact h
theorem strEq0 (e : x ≠ y) (h : Q (.bool false) s) : wpAny (model prog w) A (compareOp .Eq (.str x t) (.str y u)) Q E s := by
  refine eq_str ?_
  rw [show (x == y) = false from by simpa using e]
  exact h
end
section
variable {prog : Program} {w : World} {dp un : Nat} {gd : Option (List Code)} {cn : Str} {cs : Scope} {a : Addr} {ccd : Value} {cl : List (Str × Addr)} {outer : List Env} {A₀ : Around} {base h₀ : Heap} {L : Addr} {m : Str → Option Value} {s : Shared} {Q E : Value → Shared → Prop} {news : List (Addr × Obj)} {mean : ExcName → Option Value} {mg mb : Str → Option Value} {p : Program} {loose : List Str}
theorem told_code {x : Str} {t : Tok} (B : Below A₀ base outer h₀) (F : Fr h₀ L s.heap m) (X : (hd.heap_39 w.params).In h₀) (N : News h₀ L s.heap news) (T : Top p loose mean mg mb h₀) (hk : cs.kind = .function)
   (hdp : dp + 6 < recursionLimit) (hun : un + 100 < cLine) (hx : x.length ≤ 100)
  (ret : ∀ t h' tk', Fr h₀ L h' m → News h₀ L h' news → Q (.str (told x) t) {s with heap := h', toks := tk'}) :
  wpAny (model prog w) (ktrTop dp un gd cn cs L a ccd cl outer) (call (.ref 124) [.str x t]) Q E s := lawId_code B F X N T hk hdp hun hx ret
theorem make_code {x v : Str} {t : Tok} (B : Below A₀ base outer h₀) (F : Fr h₀ L s.heap m) (X : (hd.heap_39 w.params).In h₀) (N : News h₀ L s.heap news) (T : Top p loose mean mg mb h₀) (hk : cs.kind = .function)
   (hdp : dp + 6 < recursionLimit) (hun : un + 100 < cLine) (hx : x.length ≤ 100) (e : mkId x = v)
  (ret : ∀ t h' tk', Fr h₀ L h' m → News h₀ L h' news → Q (.str v t) {s with heap := h', toks := tk'}) :
  wpAny (model prog w) (ktrTop dp un gd cn cs L a ccd cl outer) (call (.ref 38) [.str x t]) Q E s := makeId_code B F X N T hk hdp hun hx (by rw [e]; exact ret)
theorem white_codeV {x v : Str} {t : Tok} (B : Below A₀ base outer h₀) (F : Fr h₀ L s.heap m) (X : (hd.heap_39 w.params).In h₀) (N : News h₀ L s.heap news) (T : Top p loose mean mg mb h₀) (hk : cs.kind = .function)
   (hdp : dp + 6 < recursionLimit) (hun : un + 100 < cLine) (hx : x.length ≤ 100) (e : Txt.join (Str.ofString " ") (Txt.words x) = v)
  (ret : ∀ t h' tk', Fr h₀ L h' m → News h₀ L h' news → Q (.str v t) {s with heap := h', toks := tk'}) :
  wpAny (model prog w) (ktrTop dp un gd cn cs L a ccd cl outer) (call (.ref 62) [.str x t]) Q E s := white_code B F X N T hk hdp hun hx (by rw [e]; exact ret)
theorem fully_codeV {x v : Str} {t : Tok} (B : Below A₀ base outer h₀) (F : Fr h₀ L s.heap m) (X : (hd.heap_39 w.params).In h₀) (N : News h₀ L s.heap news) (T : Top p loose mean mg mb h₀) (hk : cs.kind = .function)
   (hdp : dp + 6 < recursionLimit) (hun : un + 100 < cLine) (hx : x.length ≤ 100) (e : Txt.join (Str.ofString " ") (Txt.words (Txt.lower x)) = v)
  (ret : ∀ t h' tk', Fr h₀ L h' m → News h₀ L h' news → Q (.str v t) {s with heap := h', toks := tk'}) :
  wpAny (model prog w) (ktrTop dp un gd cn cs L a ccd cl outer) (call (.ref 55) [.str x t]) Q E s := fully_code B F X N T hk hdp hun hx (by rw [e]; exact ret)
end
section
variable {prog : Program} {w : World} {dp un : Nat} {gd : Option (List Code)} {cn : Str} {cs : Scope} {a : Addr} {ccd : Value} {cl : List (Str × Addr)} {A₀ : Around} {h₀ : Heap} {L : Addr} {m : Str → Option Value} {s : Shared} {Q E : Value → Shared → Prop} {news : List (Addr × Obj)} {mean : ExcName → Option Value} {mg mb : Str → Option Value} {p : Program} {loose : List Str}
theorem let0_yes {x : Str} {t t0 : Tok} (B : Below A₀ h₀ [] h₀) (F : Fr h₀ L s.heap m) (X : (hd.heap_39 w.params).In h₀) (N : News h₀ L s.heap news) (T : Top p loose mean mg mb h₀) (hk : cs.kind = .function)
   (hdp : dp + 16 < recursionLimit) (hun : un + 300 < cLine) (hx : x.length ≤ 100) (h : x = mkId x)
  (ret : ∀ h' tk', Fr h₀ L h' m → News h₀ L h' news → Q (.str x t) {s with heap := h', toks := tk'}) :
  wpAny (model prog w) (ktrTop dp un gd cn cs L a ccd cl []) (call (.ref 138) [.int 0 t0, .str x t]) Q E s := let0_code B F X N T hk hdp hun hx (fun _ => ret) (fun n => absurd h n)
theorem let0_no {x : Str} {t t0 : Tok} (B : Below A₀ h₀ [] h₀) (F : Fr h₀ L s.heap m) (X : (hd.heap_39 w.params).In h₀) (N : News h₀ L s.heap news) (T : Top p loose mean mg mb h₀) (hk : cs.kind = .function)
   (hdp : dp + 16 < recursionLimit) (hun : un + 300 < cLine) (hx : x.length ≤ 100) (h : ¬ (x = mkId x))
  (ret : ∀ t' h' tk', Fr h₀ L h' m → News h₀ L h' news → Q (.str (Str.ofString "refused") t') {s with heap := h', toks := tk'}) :
  wpAny (model prog w) (ktrTop dp un gd cn cs L a ccd cl []) (call (.ref 138) [.int 0 t0, .str x t]) Q E s := let0_code B F X N T hk hdp hun hx (fun y => absurd y h) (fun _ => ret)
theorem let1T_yes {x : Str} {W : List Str} {t t0 : Tok} (B : Below A₀ h₀ [] h₀) (F : Fr h₀ L s.heap m) (X : (hd.heap_39 w.params).In h₀) (N : News h₀ L s.heap news) (T : Top p loose mean mg mb h₀) (hk : cs.kind = .function)
   (hdp : dp + 16 < recursionLimit) (hun : un + 300 < cLine) (hx : x.length ≤ 100) (e : Txt.words x = W) (h : ∀ y ∈ W, y = mkId y)
  (ret : ∀ a vs ep h' tk', Fr h₀ L h' m → News h₀ L h' ((a, lob vs ep) :: news) → StrsAre vs (W) → Q (.ref a) {s with heap := h', toks := tk'}) :
  wpAny (model prog w) (ktrTop dp un gd cn cs L a ccd cl []) (call (.ref 138) [.int 1 t0, .str x t]) Q E s := by subst e; exact let1T_code B F X N T hk hdp hun hx (fun _ => ret) (fun n => absurd h n)
theorem let1T_no {x : Str} {W : List Str} {t t0 : Tok} (B : Below A₀ h₀ [] h₀) (F : Fr h₀ L s.heap m) (X : (hd.heap_39 w.params).In h₀) (N : News h₀ L s.heap news) (T : Top p loose mean mg mb h₀) (hk : cs.kind = .function)
   (hdp : dp + 16 < recursionLimit) (hun : un + 300 < cLine) (hx : x.length ≤ 100) (e : Txt.words x = W) (h : ¬ (∀ y ∈ W, y = mkId y))
  (ret : ∀ t' h' tk', Fr h₀ L h' m → News h₀ L h' news → Q (.str (Str.ofString "refused") t') {s with heap := h', toks := tk'}) :
  wpAny (model prog w) (ktrTop dp un gd cn cs L a ccd cl []) (call (.ref 138) [.int 1 t0, .str x t]) Q E s := by subst e; exact let1T_code B F X N T hk hdp hun hx (fun y => absurd y h) (fun _ => ret)
theorem let1L_yes {ax : Addr} {vs : List Value} {ws : List Str} {ep : Nat} {t0 : Tok} (B : Below A₀ h₀ [] h₀) (F : Fr h₀ L s.heap m) (X : (hd.heap_39 w.params).In h₀) (N : News h₀ L s.heap news) (T : Top p loose mean mg mb h₀) (hk : cs.kind = .function)
   (hdp : dp + 16 < recursionLimit) (hun : un + 300 < cLine) (hax : (ax, lob vs ep) ∈ news) (kS : StrsAre vs ws) (hx : ∀ y ∈ ws, y.length ≤ 100) (h : ∀ y ∈ ws, y = mkId y)
  (ret : ∀ h' tk', Fr h₀ L h' m → News h₀ L h' news → Q (.ref ax) {s with heap := h', toks := tk'}) :
  wpAny (model prog w) (ktrTop dp un gd cn cs L a ccd cl []) (call (.ref 138) [.int 1 t0, .ref ax]) Q E s := let1L_code B F X N T hk hdp hun hax kS hx (fun _ => ret) (fun n => absurd h n)
theorem let1L_no {ax : Addr} {vs : List Value} {ws : List Str} {ep : Nat} {t0 : Tok} (B : Below A₀ h₀ [] h₀) (F : Fr h₀ L s.heap m) (X : (hd.heap_39 w.params).In h₀) (N : News h₀ L s.heap news) (T : Top p loose mean mg mb h₀) (hk : cs.kind = .function)
   (hdp : dp + 16 < recursionLimit) (hun : un + 300 < cLine) (hax : (ax, lob vs ep) ∈ news) (kS : StrsAre vs ws) (hx : ∀ y ∈ ws, y.length ≤ 100) (h : ¬ (∀ y ∈ ws, y = mkId y))
  (ret : ∀ t' h' tk', Fr h₀ L h' m → News h₀ L h' news → Q (.str (Str.ofString "refused") t') {s with heap := h', toks := tk'}) :
  wpAny (model prog w) (ktrTop dp un gd cn cs L a ccd cl []) (call (.ref 138) [.int 1 t0, .ref ax]) Q E s := let1L_code B F X N T hk hdp hun hax kS hx (fun y => absurd y h) (fun _ => ret)
theorem let2T_yes {x : Str} {W V : List Str} {t t0 : Tok} (B : Below A₀ h₀ [] h₀) (F : Fr h₀ L s.heap m) (X : (hd.heap_39 w.params).In h₀) (N : News h₀ L s.heap news) (T : Top p loose mean mg mb h₀) (hk : cs.kind = .function)
   (hdp : dp + 16 < recursionLimit) (hun : un + 300 < cLine) (hx : x.length ≤ 100) (e : Txt.words x = W) (e2 : W.map mkId = V) (h : ∀ y ∈ V, y ≠ Str.empty)
  (ret : ∀ a vs ep h' tk', Fr h₀ L h' m → News h₀ L h' ((a, lob vs ep) :: news) → StrsAre vs (V) → Q (.ref a) {s with heap := h', toks := tk'}) :
  wpAny (model prog w) (ktrTop dp un gd cn cs L a ccd cl []) (call (.ref 138) [.int 2 t0, .str x t]) Q E s := by subst e; subst e2; exact let2T_code B F X N T hk hdp hun hx (fun _ => ret) (fun n => absurd (fun y hy => h _ (List.mem_map_of_mem hy)) n)
theorem let2T_no {x : Str} {W V : List Str} {t t0 : Tok} (B : Below A₀ h₀ [] h₀) (F : Fr h₀ L s.heap m) (X : (hd.heap_39 w.params).In h₀) (N : News h₀ L s.heap news) (T : Top p loose mean mg mb h₀) (hk : cs.kind = .function)
   (hdp : dp + 16 < recursionLimit) (hun : un + 300 < cLine) (hx : x.length ≤ 100) (e : Txt.words x = W) (e2 : W.map mkId = V) (h : ¬ (∀ y ∈ V, y ≠ Str.empty))
  (ret : ∀ t' h' tk', Fr h₀ L h' m → News h₀ L h' news → Q (.str (Str.ofString "refused") t') {s with heap := h', toks := tk'}) :
  wpAny (model prog w) (ktrTop dp un gd cn cs L a ccd cl []) (call (.ref 138) [.int 2 t0, .str x t]) Q E s := by subst e; subst e2; exact let2T_code B F X N T hk hdp hun hx (fun y => absurd (fun z hz => by obtain ⟨u, hu, rfl⟩ := List.mem_map.mp hz; exact y u hu) h) (fun _ => ret)
theorem let3_yes {x : Str} {t t0 : Tok} (B : Below A₀ h₀ [] h₀) (F : Fr h₀ L s.heap m) (X : (hd.heap_39 w.params).In h₀) (N : News h₀ L s.heap news) (T : Top p loose mean mg mb h₀) (hk : cs.kind = .function)
   (hdp : dp + 16 < recursionLimit) (hun : un + 300 < cLine) (hx : x.length ≤ 100) (h : IsTok x)
  (ret : ∀ h' tk', Fr h₀ L h' m → News h₀ L h' news → Q (.str x t) {s with heap := h', toks := tk'}) :
  wpAny (model prog w) (ktrTop dp un gd cn cs L a ccd cl []) (call (.ref 138) [.int 3 t0, .str x t]) Q E s := let3_code B F X N T hk hdp hun hx (fun _ => ret) (fun n => absurd h n)
theorem let3_no {x : Str} {t t0 : Tok} (B : Below A₀ h₀ [] h₀) (F : Fr h₀ L s.heap m) (X : (hd.heap_39 w.params).In h₀) (N : News h₀ L s.heap news) (T : Top p loose mean mg mb h₀) (hk : cs.kind = .function)
   (hdp : dp + 16 < recursionLimit) (hun : un + 300 < cLine) (hx : x.length ≤ 100) (h : ¬ (IsTok x))
  (ret : ∀ t' h' tk', Fr h₀ L h' m → News h₀ L h' news → Q (.str (Str.ofString "refused") t') {s with heap := h', toks := tk'}) :
  wpAny (model prog w) (ktrTop dp un gd cn cs L a ccd cl []) (call (.ref 138) [.int 3 t0, .str x t]) Q E s := let3_code B F X N T hk hdp hun hx (fun y => absurd y h) (fun _ => ret)
theorem let4T_yes {x : Str} {W : List Str} {t t0 : Tok} (B : Below A₀ h₀ [] h₀) (F : Fr h₀ L s.heap m) (X : (hd.heap_39 w.params).In h₀) (N : News h₀ L s.heap news) (T : Top p loose mean mg mb h₀) (hk : cs.kind = .function)
   (hdp : dp + 16 < recursionLimit) (hun : un + 300 < cLine) (hx : x.length ≤ 100) (e : Txt.words x = W) (h : ∀ y ∈ W, IsTok y)
  (ret : ∀ a vs ep h' tk', Fr h₀ L h' m → News h₀ L h' ((a, lob vs ep) :: news) → StrsAre vs (W) → Q (.ref a) {s with heap := h', toks := tk'}) :
  wpAny (model prog w) (ktrTop dp un gd cn cs L a ccd cl []) (call (.ref 138) [.int 4 t0, .str x t]) Q E s := by subst e; exact let4T_code B F X N T hk hdp hun hx (fun _ => ret) (fun n => absurd h n)
theorem let4T_no {x : Str} {W : List Str} {t t0 : Tok} (B : Below A₀ h₀ [] h₀) (F : Fr h₀ L s.heap m) (X : (hd.heap_39 w.params).In h₀) (N : News h₀ L s.heap news) (T : Top p loose mean mg mb h₀) (hk : cs.kind = .function)
   (hdp : dp + 16 < recursionLimit) (hun : un + 300 < cLine) (hx : x.length ≤ 100) (e : Txt.words x = W) (h : ¬ (∀ y ∈ W, IsTok y))
  (ret : ∀ t' h' tk', Fr h₀ L h' m → News h₀ L h' news → Q (.str (Str.ofString "refused") t') {s with heap := h', toks := tk'}) :
  wpAny (model prog w) (ktrTop dp un gd cn cs L a ccd cl []) (call (.ref 138) [.int 4 t0, .str x t]) Q E s := by subst e; exact let4T_code B F X N T hk hdp hun hx (fun y => absurd y h) (fun _ => ret)
theorem let4L_yes {ax : Addr} {vs : List Value} {ws : List Str} {ep : Nat} {t0 : Tok} (B : Below A₀ h₀ [] h₀) (F : Fr h₀ L s.heap m) (X : (hd.heap_39 w.params).In h₀) (N : News h₀ L s.heap news) (T : Top p loose mean mg mb h₀) (hk : cs.kind = .function)
   (hdp : dp + 16 < recursionLimit) (hun : un + 300 < cLine) (hax : (ax, lob vs ep) ∈ news) (kS : StrsAre vs ws) (hx : ∀ y ∈ ws, y.length ≤ 100) (h : ∀ y ∈ ws, IsTok y)
  (ret : ∀ h' tk', Fr h₀ L h' m → News h₀ L h' news → Q (.ref ax) {s with heap := h', toks := tk'}) :
  wpAny (model prog w) (ktrTop dp un gd cn cs L a ccd cl []) (call (.ref 138) [.int 4 t0, .ref ax]) Q E s := let4L_code B F X N T hk hdp hun hax kS hx (fun _ => ret) (fun n => absurd h n)
theorem let4L_no {ax : Addr} {vs : List Value} {ws : List Str} {ep : Nat} {t0 : Tok} (B : Below A₀ h₀ [] h₀) (F : Fr h₀ L s.heap m) (X : (hd.heap_39 w.params).In h₀) (N : News h₀ L s.heap news) (T : Top p loose mean mg mb h₀) (hk : cs.kind = .function)
   (hdp : dp + 16 < recursionLimit) (hun : un + 300 < cLine) (hax : (ax, lob vs ep) ∈ news) (kS : StrsAre vs ws) (hx : ∀ y ∈ ws, y.length ≤ 100) (h : ¬ (∀ y ∈ ws, IsTok y))
  (ret : ∀ t' h' tk', Fr h₀ L h' m → News h₀ L h' news → Q (.str (Str.ofString "refused") t') {s with heap := h', toks := tk'}) :
  wpAny (model prog w) (ktrTop dp un gd cn cs L a ccd cl []) (call (.ref 138) [.int 4 t0, .ref ax]) Q E s := let4L_code B F X N T hk hdp hun hax kS hx (fun y => absurd y h) (fun _ => ret)
end
end Mine
end
local macro_rules | `(tactic| walk_at "none K5 0") => `(tactic| fail "none")
section
open PySem PySem.W PySem.Calls PyProof.Rows
set_option rowWalk.seconds 0
namespace Mine
theorem strs_at {vs : List Value} {ws : List Str} {i : Nat} {v : Value} (S : StrsAre vs ws) (h : vs.toArray[i]? = some v) : ∃ y t, v = .str y t ∧ ws[i]? = some y := by
  have h' : vs[i]? = some v := by simpa using h
  have hi : i < vs.length := (List.getElem?_eq_some_iff.mp h').1
  have hi2 : i < ws.length := by rw [← S.length]; exact hi
  obtain ⟨t, e⟩ := S.get i ws[i] (by simp [hi2])
  rw [h'] at e
  exact ⟨ws[i], t, Option.some.inj e, by simp [hi2]⟩
def FInv (f : Str → Bool) (W : List Str) (i : Nat) (_ : Unit) (ys : List Value) : Prop := StrsAre ys ((W.take i).filter f)
def MInv (f : Str → Str) (W : List Str) (i : Nat) (_ : Unit) (ys : List Value) : Prop := StrsAre ys ((W.take i).map f)
theorem FInv.yes {f : Str → Bool} {W : List Str} {i : Nat} {u : Unit} {ys : List Value} {y : Str} {t : Tok} (h : FInv f W i u ys) (hi : W[i]? = some y) (hf : f y = true) : FInv f W (i + 1) u (ys ++ [.str y t]) := by
  unfold FInv at h ⊢
  rw [List.take_add_one, hi, List.filter_append]
  refine h.append' ?_
  show StrsAre _ (List.filter f [y])
  rw [List.filter_cons, if_pos hf]
  exact .cons _ _ .nil
theorem FInv.no {f : Str → Bool} {W : List Str} {i : Nat} {u : Unit} {ys : List Value} {y : Str} (h : FInv f W i u ys) (hi : W[i]? = some y) (hf : f y = false) : FInv f W (i + 1) u ys := by
  unfold FInv at h ⊢
  rw [List.take_add_one, hi, List.filter_append]
  show StrsAre _ (_ ++ List.filter f [y])
  rw [List.filter_cons, if_neg (by rw [hf]; exact Bool.false_ne_true), List.filter_nil, List.append_nil]
  exact h
theorem MInv.next {f : Str → Str} {W : List Str} {i : Nat} {u : Unit} {ys : List Value} {y : Str} {t : Tok} (h : MInv f W i u ys) (hi : W[i]? = some y) : MInv f W (i + 1) u (ys ++ [.str (f y) t]) := by
  unfold MInv at h ⊢
  rw [List.take_add_one, hi, List.map_append]
  exact h.append' (.cons _ _ .nil)
section
variable {prog : Program} {w : World} {A : Around} {E : Value → Shared → Prop} {s : Shared} {a b : Addr} {xs ys : List Value} {l k : List Str} {Q : Value → Shared → Prop} {h₀ : Heap} {L : Addr} {news : List (Addr × Obj)} {o1 o2 : Nat}
theorem eqNil (N : News h₀ L s.heap news) (ha : (a, lob xs o1) ∈ news) (hb : (b, lob [] o2) ∈ news) (hi : StrsAre xs l) (g1 : ∀ y ∈ l, Sm y) (hu : A.units + 64 < cLine) (h : ∀ c : Bool, (c = true ↔ l = []) → Q (.bool c) s) :
    wpAny (model prog w) A (compareOp .Eq (.ref a) (.ref b)) Q E s := eqStrs N ha hb hi .nil g1 (fun y hy => nomatch hy) hu (h _ (by simp))
theorem neNil (N : News h₀ L s.heap news) (ha : (a, lob xs o1) ∈ news) (hb : (b, lob [] o2) ∈ news) (hi : StrsAre xs l) (g1 : ∀ y ∈ l, Sm y) (hu : A.units + 64 < cLine) (h : ∀ c : Bool, (c = true ↔ l ≠ []) → Q (.bool c) s) :
    wpAny (model prog w) A (compareOp .NotEq (.ref a) (.ref b)) Q E s := neStrs N ha hb hi .nil g1 (fun y hy => nomatch hy) hu (h _ (by simp))
end
theorem filter_nil_iff {W : List Str} {f : Str → Bool} {P : Str → Prop} (h : ∀ y ∈ W, (f y = false ↔ P y)) : W.filter f = [] ↔ ∀ y ∈ W, P y := by
  rw [List.filter_eq_nil_iff]
  constructor
  · intro g y hy; exact (h y hy).mp (by simpa using g y hy)
  · intro g y hy; rw [(h y hy).mpr (g y hy)]; exact Bool.false_ne_true
theorem sm_filter {W : List Str} {f : Str → Bool} (h : ∀ y ∈ W, Sm y) : ∀ y ∈ W.filter f, Sm y := fun y hy => h y ((List.mem_filter.mp hy).1)
end Mine
end
local macro_rules | `(tactic| walk_at "none K6 0") => `(tactic| fail "none")
section
open PySem PySem.W PySem.Calls PyProof.Rows
set_option rowWalk.seconds 0
namespace Mine
theorem snd_iff {x : Str} (px : Plain x) : ∀ y ∈ lawWords x, ((told y != y) = false ↔ y = mkId y) := by
  intro y hy
  rw [px.idw y hy, bne_eq_false_iff_eq]
  exact eq_comm
def oneS (c : Nat) : Str := ⟨#[c]⟩
def hasE (y : Str) : Bool := !decide ((esOf y).map oneS = [])
theorem tok_iff {x : Str} (px : Plain x) : ∀ y ∈ lawWords x, (hasE y = false ↔ IsTok y) := by
  intro y hy
  rw [px.tok y hy]
  unfold hasE
  simp
/-- é and ß of a text, sign by sign -/
def EInv (y : Str) (i : Nat) (_ : Unit) (ys : List Value) : Prop := StrsAre ys (((y.cps.toList.take i).filter fun c => !out (Str.ofString "éß") ⟨#[c]⟩).map oneS)
def SInv (y : Str) (i : Nat) (_ : Unit) (ys : List Value) : Prop := StrsAre ys ((y.cps.toList.take i).map fun c => smallS ⟨#[c]⟩)
theorem take_sign {y : Str} {i k : Nat} (hi : y.cps[i]? = some k) : y.cps.toList.take (i + 1) = y.cps.toList.take i ++ [k] := by
  rw [List.take_add_one, Array.getElem?_toList, hi]; rfl
theorem EInv.yes {y : Str} {i k : Nat} {u : Unit} {ys : List Value} {t : Tok} (h : EInv y i u ys) (hi : y.cps[i]? = some k) (hf : out (Str.ofString "éß") ⟨#[k]⟩ = false) : EInv y (i + 1) u (ys ++ [.str ⟨#[k]⟩ t]) := by
  unfold EInv at h ⊢
  rw [take_sign hi, List.filter_append, List.map_append]
  refine h.append' ?_
  rw [List.filter_cons, if_pos (by rw [hf]; rfl), List.filter_nil]
  exact .cons _ _ .nil
theorem EInv.no {y : Str} {i k : Nat} {u : Unit} {ys : List Value} (h : EInv y i u ys) (hi : y.cps[i]? = some k) (hf : out (Str.ofString "éß") ⟨#[k]⟩ = true) : EInv y (i + 1) u ys := by
  unfold EInv at h ⊢
  rw [take_sign hi, List.filter_append, List.map_append, List.filter_cons, if_neg (by rw [hf]; exact Bool.false_ne_true), List.filter_nil, List.map_nil, List.append_nil]
  exact h
theorem EInv.fin {y : Str} {u : Unit} {ys : List Value} (h : EInv y y.cps.size u ys) : StrsAre ys ((esOf y).map oneS) := by
  unfold EInv at h
  rw [← Array.length_toList, List.take_length] at h
  exact h
theorem SInv.next {y : Str} {i k : Nat} {u : Unit} {ys : List Value} {t : Tok} (h : SInv y i u ys) (hi : y.cps[i]? = some k) : SInv y (i + 1) u (ys ++ [.str (smallS ⟨#[k]⟩) t]) := by
  unfold SInv at h ⊢
  rw [take_sign hi, List.map_append]
  exact h.append' (.cons _ _ .nil)
theorem SInv.fin {y : Str} {u : Unit} {ys : List Value} (h : SInv y y.cps.size u ys) : StrsAre ys (y.cps.toList.map fun c => smallS ⟨#[c]⟩) := by
  unfold SInv at h
  rw [← Array.length_toList, List.take_length] at h
  exact h
theorem es_sm {y : Str} (h : Sm y) : ∀ z ∈ (esOf y).map oneS, Sm z := by
  intro z hz
  obtain ⟨c, hc, rfl⟩ := List.mem_map.mp hz
  refine ⟨by show 1 ≤ 100; omega, fun d hd => ?_⟩
  have : d = c := by simpa [oneS] using hd
  rw [this]
  exact h.2 c (List.mem_filter.mp hc).1
theorem sum_small (l : List Nat) : ((l.map fun c => smallS ⟨#[c]⟩).map (·.length)).sum = l.length := by
  induction l with
  | nil => rfl
  | cons a r ih =>
    rw [List.map_cons, List.map_cons, List.sum_cons, ih, smallS_length, List.length_cons]
    show 1 + _ = _
    omega
section
variable {prog : Program} {w : World} {A : Around} {E : Value → Shared → Prop} {s : Shared} {a b : Addr} {xs ys : List Value} {l k : List Str} {Q : Value → Shared → Prop} {h₀ : Heap} {L : Addr} {news : List (Addr × Obj)} {o1 o2 : Nat} {x : Str} {t : Tok} {m : Str → Option Value}
theorem eqYes (N : News h₀ L s.heap news) (ha : (a, lob xs o1) ∈ news) (hb : (b, lob ys o2) ∈ news) (hi : StrsAre xs l) (hj : StrsAre ys k) (g1 : ∀ y ∈ l, Sm y) (e : l = k) (hu : A.units + 64 < cLine) (h : Q (.bool true) s) :
    wpAny (model prog w) A (compareOp .Eq (.ref a) (.ref b)) Q E s := eqStrs N ha hb hi hj g1 (e ▸ g1) hu (by rw [show decide (l = k) = true from decide_eq_true e]; exact h)
theorem eqNo (N : News h₀ L s.heap news) (ha : (a, lob xs o1) ∈ news) (hb : (b, lob ys o2) ∈ news) (hi : StrsAre xs l) (hj : StrsAre ys k) (g1 : ∀ y ∈ l, Sm y) (g2 : ∀ y ∈ k, Sm y) (e : l ≠ k) (hu : A.units + 64 < cLine) (h : Q (.bool false) s) :
    wpAny (model prog w) A (compareOp .Eq (.ref a) (.ref b)) Q E s := eqStrs N ha hb hi hj g1 g2 hu (by rw [show decide (l = k) = false from decide_eq_false e]; exact h)
theorem notYes (N : News h₀ L s.heap news) (ha : (a, lob xs o1) ∈ news) (hi : StrsAre xs l) (e : ∀ y ∈ l, y ≠ Str.empty) (h : Q (.bool true) s) :
    wpAny (model prog w) A (compareOp .NotIn (.str (Str.ofString "") t) (.ref a)) Q E s := notin_list_strs (News.isList N ha) hi (by
  rw [show (!(l.any (· == Str.ofString ""))) = true from by
    rw [Bool.not_eq_true', List.any_eq_false]
    intro y hy
    simpa [emp] using e y hy]
  exact h)
theorem notNo (N : News h₀ L s.heap news) (ha : (a, lob xs o1) ∈ news) (hi : StrsAre xs l) (e : ¬ ∀ y ∈ l, y ≠ Str.empty) (h : Q (.bool false) s) :
    wpAny (model prog w) A (compareOp .NotIn (.str (Str.ofString "") t) (.ref a)) Q E s := notin_list_strs (News.isList N ha) hi (by
  rw [show (!(l.any (· == Str.ofString ""))) = false from by
    rw [Bool.not_eq_false', List.any_eq_true]
    by_cases g : ∃ y ∈ l, y = Str.empty
    · obtain ⟨y, hy, rfl⟩ := g
      exact ⟨_, hy, by decide⟩
    · exact absurd (fun y hy e => g ⟨y, hy, e⟩) e]
  exact h)
theorem joinW (N : News h₀ L s.heap news) (ha : (a, lob xs o1) ∈ news) (hi : StrsAre xs l) (hsep : x.length ≤ 16) (hw : (l.map (·.length)).sum + l.length ≤ 1048576) (h : ∀ t' k, Q (.str (Txt.join x l) t') { s with toks := k }) :
    wpAny (model prog w) A (call (.builtin "str.join") [.str x t, .ref a]) Q E s := join_listW (News.isList N ha) hi hsep hw h
end
theorem plain_wt {x : Str} (px : Plain x) : ((lawWords x).map (·.length)).sum + (lawWords x).length ≤ 1048576 := by
  have := StrLaws.words_weight x
  rw [px.w] at this
  have := px.len
  omega
theorem plain_jt {x : Str} (px : Plain x) : (((Txt.join (Str.ofString " ") (lawWords x)).cps.toList.map fun c => smallS ⟨#[c]⟩).map (·.length)).sum + ((Txt.join (Str.ofString " ") (lawWords x)).cps.toList.map fun c => smallS ⟨#[c]⟩).length ≤ 1048576 := by
  rw [sum_small, List.length_map, len_list]
  have := join_words_length x
  rw [px.w] at this
  have := px.len
  omega
theorem hasE_of {y : Str} {b : Bool} (hb : b = true ↔ (esOf y).map oneS ≠ []) : hasE y = b := by
  unfold hasE
  cases b with
  | true => rw [Bool.not_eq_true', decide_eq_false_iff_not]; exact hb.mp rfl
  | false =>
    rw [Bool.not_eq_false', decide_eq_true_eq]
    by_cases h : (esOf y).map oneS = []
    · exact h
    · exact absurd (hb.mpr h) Bool.false_ne_true
theorem tokx_iff {x : Str} (px : Plain x) : IsTok x ↔ (lawWords x = [x] ∧ ∀ y ∈ lawWords x, IsTok y) := by
  rw [px.tokx]
  constructor
  · rintro ⟨h1, h2⟩; exact ⟨h1, fun y hy => (px.tok y hy).mpr (h2 y hy)⟩
  · rintro ⟨h1, h2⟩; exact ⟨h1, fun y hy => (px.tok y hy).mp (h2 y hy)⟩
theorem ids_eq {x : Str} (px : Plain x) : (lawWords x).map mkId = (lawWords x).map told := List.map_congr_left px.idw
section
variable {prog : Program} {w : World} {A : Around} {E : Value → Shared → Prop} {s : Shared} {l : Addr} {vs : List Value} {ep : Nat} {Q : Value → Shared → Prop} {h₀ : Heap} {L : Addr} {news : List (Addr × Obj)} {m : Str → Option Value}
theorem pick_all (its : Array Value) : slicePick its none none none = its := by
  rw [kmk_pick_nat its (a := 0) (b := its.size) (by simp [sliceBounds])]
  rw [List.drop_zero, Nat.sub_zero, ← Array.length_toList, List.take_length, Array.toArray_toList]
theorem sliceAll {value slice : Expr} (F : Fr h₀ L s.heap m) (N : News h₀ L s.heap news) (hax : (l, lob vs ep) ∈ news) (hz : vs.length ≤ 1000)
    (h : ∀ D h', Fr h₀ L h' m → News h₀ L h' ((D, lob vs 0) :: news) → Q (.ref D) { s with heap := h' })
    (hs : subscripted slice false (.ref l) (.ref s.heap.objs.size) = operate [.ref s.heap.objs.size, .ref l] (getItem (.ref l) (.ref s.heap.objs.size)))
    (ht : ∀ r, letTemporaryGo value (.ref l) r = pure ()) :
    wpAny (model prog w) A (subscriptTail value slice (.ref l) (.ref s.heap.objs.size)) Q E { s with heap := s.heap.push { cls := .type "slice", data := .fields #[.none, .none, .none] } } := by
  refine slice_list F N (News.isList N hax) .none .none (fun h' F' N' => h _ h' F' ?_) hs ht (by rw [List.size_toArray, sizeLine_eq]; omega)
  rw [pick_all] at N'
  exact N'
end
end Mine
end
local macro_rules | `(tactic| walk_at "none K7 0") => `(tactic| fail "none")
section
open PySem PySem.W PyProof.Rows
set_option rowWalk.seconds 0
namespace Mine
local macro_rules | `(tactic| walk_at "call ref") => `(tactic| (k_here; (with_reducible show wpAny _ _ (call (Value.ref 117) [Value.str _ _]) _ _ _); k_dflt (refine' small_code ?k1 ?k2 ?k3 ?k4 ?k5 ?kK ?kd ?ku  ?_; (case k1 => k_asm); (case k2 => k_asm); (case k3 => k_asm); (case k4 => k_asm); (case k5 => k_asm); (case kK => first | exact rfl | assumption); (case kd => ktr_room); (case ku => ktr_units)); intro t9 h9 tk9 F9 N9; (try dsimp only); (try k_fold)))
local macro_rules | `(tactic| walk_at "call ref") => `(tactic| (k_here; (with_reducible show wpAny _ _ (call (Value.ref 124) [Value.str _ _]) _ _ _); k_dflt (refine' told_code ?k1 ?k2 ?k3 ?k4 ?k5 ?kK ?kd ?ku ?x0 ?_; (case k1 => k_asm); (case k2 => k_asm); (case k3 => k_asm); (case k4 => k_asm); (case k5 => k_asm); (case kK => first | exact rfl | assumption); (case kd => ktr_room); (case ku => ktr_units); (case x0 => first | assumption | omega)); intro t9 h9 tk9 F9 N9; (try dsimp only); (try k_fold)))
local macro_rules | `(tactic| walk_at "call ref") => `(tactic| (k_here; (with_reducible show wpAny _ _ (call (Value.ref 131) [Value.str _ _]) _ _ _); k_dflt (refine' lawWords_code ?k1 ?k2 ?k3 ?k4 ?k5 ?kK ?kd ?ku ?x0 ?_; (case k1 => k_asm); (case k2 => k_asm); (case k3 => k_asm); (case k4 => k_asm); (case k5 => k_asm); (case kK => first | exact rfl | assumption); (case kd => ktr_room); (case ku => ktr_units); (case x0 => first | assumption | omega)); intro a9 vs9 ep9 h9 tk9 F9 N9 S9; (try dsimp only); (try k_fold)))
local macro_rules | `(tactic| walk_at "call ref") => `(tactic| (k_here; (with_reducible show wpAny _ _ (call (Value.ref 38) [Value.str _ _]) _ _ _); k_dflt (refine' make_code ?k1 ?k2 ?k3 ?k4 ?k5 ?kK ?kd ?ku ?x0 ?x1 ?_; (case k1 => k_asm); (case k2 => k_asm); (case k3 => k_asm); (case k4 => k_asm); (case k5 => k_asm); (case kK => first | exact rfl | assumption); (case kd => ktr_room); (case ku => ktr_units); (case x0 => first | assumption | omega); (case x1 => assumption)); intro t9 h9 tk9 F9 N9; (try dsimp only); (try k_fold)))
local macro_rules | `(tactic| walk_at "call ref") => `(tactic| (k_here; (with_reducible show wpAny _ _ (call (Value.ref 62) [Value.str _ _]) _ _ _); k_dflt (refine' white_codeV ?k1 ?k2 ?k3 ?k4 ?k5 ?kK ?kd ?ku ?x0 ?x1 ?_; (case k1 => k_asm); (case k2 => k_asm); (case k3 => k_asm); (case k4 => k_asm); (case k5 => k_asm); (case kK => first | exact rfl | assumption); (case kd => ktr_room); (case ku => ktr_units); (case x0 => first | assumption | omega); (case x1 => assumption)); intro t9 h9 tk9 F9 N9; (try dsimp only); (try k_fold)))
local macro_rules | `(tactic| walk_at "call ref") => `(tactic| (k_here; (with_reducible show wpAny _ _ (call (Value.ref 55) [Value.str _ _]) _ _ _); k_dflt (refine' fully_codeV ?k1 ?k2 ?k3 ?k4 ?k5 ?kK ?kd ?ku ?x0 ?x1 ?_; (case k1 => k_asm); (case k2 => k_asm); (case k3 => k_asm); (case k4 => k_asm); (case k5 => k_asm); (case kK => first | exact rfl | assumption); (case kd => ktr_room); (case ku => ktr_units); (case x0 => first | assumption | omega); (case x1 => assumption)); intro t9 h9 tk9 F9 N9; (try dsimp only); (try k_fold)))
local macro_rules | `(tactic| walk_at "call ref") => `(tactic| (k_here; (with_reducible show wpAny _ _ (call (Value.ref 138) [Value.int 0 _, Value.str _ _]) _ _ _); k_dflt (refine' let0_yes ?k1 ?k2 ?k3 ?k4 ?k5 ?kK ?kd ?ku ?x0 ?x1 ?_; (case k1 => k_asm); (case k2 => k_asm); (case k3 => k_asm); (case k4 => k_asm); (case k5 => k_asm); (case kK => first | exact rfl | assumption); (case kd => ktr_room); (case ku => ktr_units); (case x0 => first | assumption | omega); (case x1 => assumption)); intro h9 tk9 F9 N9; (try dsimp only); (try k_fold)))
local macro_rules | `(tactic| walk_at "call ref") => `(tactic| (k_here; (with_reducible show wpAny _ _ (call (Value.ref 138) [Value.int 1 _, Value.str _ _]) _ _ _); k_dflt (refine' let1T_yes ?k1 ?k2 ?k3 ?k4 ?k5 ?kK ?kd ?ku ?x0 ?x1 ?x2 ?_; (case k1 => k_asm); (case k2 => k_asm); (case k3 => k_asm); (case k4 => k_asm); (case k5 => k_asm); (case kK => first | exact rfl | assumption); (case kd => ktr_room); (case ku => ktr_units); (case x0 => first | assumption | omega); (case x1 => assumption); (case x2 => assumption)); intro a9 vs9 ep9 h9 tk9 F9 N9 S9; (try dsimp only); (try k_fold)))
local macro_rules | `(tactic| walk_at "call ref") => `(tactic| (k_here; (with_reducible show wpAny _ _ (call (Value.ref 138) [Value.int 1 _, Value.ref _]) _ _ _); k_dflt (refine' let1L_yes ?k1 ?k2 ?k3 ?k4 ?k5 ?kK ?kd ?ku ?x0 ?x1 ?x2 ?x3 ?_; (case k1 => k_asm); (case k2 => k_asm); (case k3 => k_asm); (case k4 => k_asm); (case k5 => k_asm); (case kK => first | exact rfl | assumption); (case kd => ktr_room); (case ku => ktr_units); (case x0 => k_mem); (case x1 => assumption); (case x2 => assumption); (case x3 => assumption)); intro h9 tk9 F9 N9; (try dsimp only); (try k_fold)))
local macro_rules | `(tactic| walk_at "call ref") => `(tactic| (k_here; (with_reducible show wpAny _ _ (call (Value.ref 138) [Value.int 2 _, Value.str _ _]) _ _ _); k_dflt (refine' let2T_yes ?k1 ?k2 ?k3 ?k4 ?k5 ?kK ?kd ?ku ?x0 ?x1 ?x2 ?x3 ?_; (case k1 => k_asm); (case k2 => k_asm); (case k3 => k_asm); (case k4 => k_asm); (case k5 => k_asm); (case kK => first | exact rfl | assumption); (case kd => ktr_room); (case ku => ktr_units); (case x0 => first | assumption | omega); (case x1 => assumption); (case x2 => assumption); (case x3 => assumption)); intro a9 vs9 ep9 h9 tk9 F9 N9 S9; (try dsimp only); (try k_fold)))
local macro_rules | `(tactic| walk_at "call ref") => `(tactic| (k_here; (with_reducible show wpAny _ _ (call (Value.ref 138) [Value.int 3 _, Value.str _ _]) _ _ _); k_dflt (refine' let3_yes ?k1 ?k2 ?k3 ?k4 ?k5 ?kK ?kd ?ku ?x0 ?x1 ?_; (case k1 => k_asm); (case k2 => k_asm); (case k3 => k_asm); (case k4 => k_asm); (case k5 => k_asm); (case kK => first | exact rfl | assumption); (case kd => ktr_room); (case ku => ktr_units); (case x0 => first | assumption | omega); (case x1 => assumption)); intro h9 tk9 F9 N9; (try dsimp only); (try k_fold)))
local macro_rules | `(tactic| walk_at "call ref") => `(tactic| (k_here; (with_reducible show wpAny _ _ (call (Value.ref 138) [Value.int 4 _, Value.str _ _]) _ _ _); k_dflt (refine' let4T_yes ?k1 ?k2 ?k3 ?k4 ?k5 ?kK ?kd ?ku ?x0 ?x1 ?x2 ?_; (case k1 => k_asm); (case k2 => k_asm); (case k3 => k_asm); (case k4 => k_asm); (case k5 => k_asm); (case kK => first | exact rfl | assumption); (case kd => ktr_room); (case ku => ktr_units); (case x0 => first | assumption | omega); (case x1 => assumption); (case x2 => assumption)); intro a9 vs9 ep9 h9 tk9 F9 N9 S9; (try dsimp only); (try k_fold)))
local macro_rules | `(tactic| walk_at "call ref") => `(tactic| (k_here; (with_reducible show wpAny _ _ (call (Value.ref 138) [Value.int 4 _, Value.ref _]) _ _ _); k_dflt (refine' let4L_yes ?k1 ?k2 ?k3 ?k4 ?k5 ?kK ?kd ?ku ?x0 ?x1 ?x2 ?x3 ?_; (case k1 => k_asm); (case k2 => k_asm); (case k3 => k_asm); (case k4 => k_asm); (case k5 => k_asm); (case kK => first | exact rfl | assumption); (case kd => ktr_room); (case ku => ktr_units); (case x0 => k_mem); (case x1 => assumption); (case x2 => assumption); (case x3 => assumption)); intro h9 tk9 F9 N9; (try dsimp only); (try k_fold)))
local macro_rules | `(tactic| walk_at "call ref") => `(tactic| (k_here; (with_reducible show wpAny _ _ (call (Value.ref 138) [Value.int 0 _, Value.str _ _]) _ _ _); k_dflt (refine' let0_no ?k1 ?k2 ?k3 ?k4 ?k5 ?kK ?kd ?ku ?x0 ?x1 ?_; (case k1 => k_asm); (case k2 => k_asm); (case k3 => k_asm); (case k4 => k_asm); (case k5 => k_asm); (case kK => first | exact rfl | assumption); (case kd => ktr_room); (case ku => ktr_units); (case x0 => first | assumption | omega); (case x1 => assumption)); intro t9 h9 tk9 F9 N9; (try dsimp only); (try k_fold)))
local macro_rules | `(tactic| walk_at "call ref") => `(tactic| (k_here; (with_reducible show wpAny _ _ (call (Value.ref 138) [Value.int 1 _, Value.str _ _]) _ _ _); k_dflt (refine' let1T_no ?k1 ?k2 ?k3 ?k4 ?k5 ?kK ?kd ?ku ?x0 ?x1 ?x2 ?_; (case k1 => k_asm); (case k2 => k_asm); (case k3 => k_asm); (case k4 => k_asm); (case k5 => k_asm); (case kK => first | exact rfl | assumption); (case kd => ktr_room); (case ku => ktr_units); (case x0 => first | assumption | omega); (case x1 => assumption); (case x2 => assumption)); intro t9 h9 tk9 F9 N9; (try dsimp only); (try k_fold)))
local macro_rules | `(tactic| walk_at "call ref") => `(tactic| (k_here; (with_reducible show wpAny _ _ (call (Value.ref 138) [Value.int 1 _, Value.ref _]) _ _ _); k_dflt (refine' let1L_no ?k1 ?k2 ?k3 ?k4 ?k5 ?kK ?kd ?ku ?x0 ?x1 ?x2 ?x3 ?_; (case k1 => k_asm); (case k2 => k_asm); (case k3 => k_asm); (case k4 => k_asm); (case k5 => k_asm); (case kK => first | exact rfl | assumption); (case kd => ktr_room); (case ku => ktr_units); (case x0 => k_mem); (case x1 => assumption); (case x2 => assumption); (case x3 => assumption)); intro t9 h9 tk9 F9 N9; (try dsimp only); (try k_fold)))
local macro_rules | `(tactic| walk_at "call ref") => `(tactic| (k_here; (with_reducible show wpAny _ _ (call (Value.ref 138) [Value.int 2 _, Value.str _ _]) _ _ _); k_dflt (refine' let2T_no ?k1 ?k2 ?k3 ?k4 ?k5 ?kK ?kd ?ku ?x0 ?x1 ?x2 ?x3 ?_; (case k1 => k_asm); (case k2 => k_asm); (case k3 => k_asm); (case k4 => k_asm); (case k5 => k_asm); (case kK => first | exact rfl | assumption); (case kd => ktr_room); (case ku => ktr_units); (case x0 => first | assumption | omega); (case x1 => assumption); (case x2 => assumption); (case x3 => assumption)); intro t9 h9 tk9 F9 N9; (try dsimp only); (try k_fold)))
local macro_rules | `(tactic| walk_at "call ref") => `(tactic| (k_here; (with_reducible show wpAny _ _ (call (Value.ref 138) [Value.int 3 _, Value.str _ _]) _ _ _); k_dflt (refine' let3_no ?k1 ?k2 ?k3 ?k4 ?k5 ?kK ?kd ?ku ?x0 ?x1 ?_; (case k1 => k_asm); (case k2 => k_asm); (case k3 => k_asm); (case k4 => k_asm); (case k5 => k_asm); (case kK => first | exact rfl | assumption); (case kd => ktr_room); (case ku => ktr_units); (case x0 => first | assumption | omega); (case x1 => assumption)); intro t9 h9 tk9 F9 N9; (try dsimp only); (try k_fold)))
local macro_rules | `(tactic| walk_at "call ref") => `(tactic| (k_here; (with_reducible show wpAny _ _ (call (Value.ref 138) [Value.int 4 _, Value.str _ _]) _ _ _); k_dflt (refine' let4T_no ?k1 ?k2 ?k3 ?k4 ?k5 ?kK ?kd ?ku ?x0 ?x1 ?x2 ?_; (case k1 => k_asm); (case k2 => k_asm); (case k3 => k_asm); (case k4 => k_asm); (case k5 => k_asm); (case kK => first | exact rfl | assumption); (case kd => ktr_room); (case ku => ktr_units); (case x0 => first | assumption | omega); (case x1 => assumption); (case x2 => assumption)); intro t9 h9 tk9 F9 N9; (try dsimp only); (try k_fold)))
local macro_rules | `(tactic| walk_at "call ref") => `(tactic| (k_here; (with_reducible show wpAny _ _ (call (Value.ref 138) [Value.int 4 _, Value.ref _]) _ _ _); k_dflt (refine' let4L_no ?k1 ?k2 ?k3 ?k4 ?k5 ?kK ?kd ?ku ?x0 ?x1 ?x2 ?x3 ?_; (case k1 => k_asm); (case k2 => k_asm); (case k3 => k_asm); (case k4 => k_asm); (case k5 => k_asm); (case kK => first | exact rfl | assumption); (case kd => ktr_room); (case ku => ktr_units); (case x0 => k_mem); (case x1 => assumption); (case x2 => assumption); (case x3 => assumption)); intro t9 h9 tk9 F9 N9; (try dsimp only); (try k_fold)))
local macro_rules | `(tactic| walk_at "call ref") => `(tactic| (k_here; (with_reducible show wpAny _ _ (call (Value.ref 138) [Value.int 2 _, Value.none]) _ _ _); k_dflt (refine' let2N_code ?k1 ?k2 ?k3 ?k4 ?k5 ?kK ?kd ?ku  ?_; (case k1 => k_asm); (case k2 => k_asm); (case k3 => k_asm); (case k4 => k_asm); (case k5 => k_asm); (case kK => first | exact rfl | assumption); (case kd => ktr_room); (case ku => ktr_units)); intro t9 h9 tk9 F9 N9; (try dsimp only); (try k_fold)))
local macro_rules | `(tactic| walk_at "compareOp NotEq str str") => `(tactic| (k_here; (refine strNe0 (by first | exact rfl | assumption) ?_)))
local macro_rules | `(tactic| walk_at "compareOp Eq str str") => `(tactic| (k_here; first | (refine strEq1 (by first | exact rfl | assumption) ?_) | (refine strEq0 (by assumption) ?_)))
local macro_rules | `(tactic| walk_at "CutB") => `(tactic| (refine CutB.mk (by k_asm) (by assumption) ?_; lcg_sub))
local macro_rules | `(tactic| walk_at "compareOp NotEq ref ref") => `(tactic| (k_here; k_dflt (refine' neSame ?k1 ?k2 ?k3 ?k4 ?k5 ?k6 ?k7 ?_; (case k1 => assumption); (case k2 => k_mem); (case k3 => k_mem); (case k4 => assumption); (case k5 => assumption); (case k6 => assumption); (case k7 => ke_room))))
local macro_rules | `(tactic| walk_at "compareOp Eq ref ref") => `(tactic| (k_here; k_dflt (first
  | (refine' eqYes ?k1 ?k2 ?k3 ?k4 ?k5 ?k6 ?k8 ?k7 ?_; (case k1 => assumption); (case k2 => k_mem); (case k3 => k_mem); (case k4 => assumption); (case k5 => exact StrsAre.cons _ _ StrsAre.nil); (case k6 => assumption); (case k8 => assumption); (case k7 => ke_room))
  | (refine' eqNo ?k1 ?k2 ?k3 ?k4 ?k5 ?k6 ?k9 ?k8 ?k7 ?_; (case k1 => assumption); (case k2 => k_mem); (case k3 => k_mem); (case k4 => assumption); (case k5 => exact StrsAre.cons _ _ StrsAre.nil); (case k6 => assumption); (case k9 => assumption); (case k8 => assumption); (case k7 => ke_room)))))
local macro_rules | `(tactic| walk_at "compareOp NotIn str ref") => `(tactic| (k_here; k_dflt (first
  | (refine' notYes ?k1 ?k2 ?k3 ?k4 ?_; (case k1 => assumption); (case k2 => k_mem); (case k3 => assumption); (case k4 => assumption))
  | (refine' notNo ?k1 ?k2 ?k3 ?k4 ?_; (case k1 => assumption); (case k2 => k_mem); (case k3 => assumption); (case k4 => assumption)))))
local macro_rules | `(tactic| walk_at "call builtin:str.join") => `(tactic| (k_here; (with_reducible show wpAny _ _ (call (Value.builtin "str.join") [Value.str _ _, Value.ref _]) _ _ _); k_dflt (refine' joinW ?k1 ?k2 ?k3 ?k4 ?k5 ?_; (case k1 => assumption); (case k2 => k_mem); (case k3 => assumption); (case k4 => decide); (case k5 => assumption)); intro _ _))
local macro_rules | `(tactic| walk_at "subscriptTail Name Slice ref ref") => `(tactic| (k_here; (with_reducible show wpAny _ _ (subscriptTail _ (PySem.Expr.Slice none none none _) (Value.ref _) (Value.ref _)) _ _ _); k_dflt (refine' sliceAll ?F ?N ?x ?z ?_ ?s ?t; (case F => k_asm); (case N => k_asm); (case x => k_mem); (case z => omega); (case s => with_unfolding_all rfl); (case t => first | kmk_pure | (intro _; with_unfolding_all rfl))); intro D9 h9 F9 N9))
set_option maxRecDepth 100000 in
set_option maxHeartbeats 8000000 in
theorem X : PySem.Challenge.rw_bq6009_01.Holds := hd (by
  w_strict (
    k_go0
    (all_goals try k_fold)
    (repeat' ((fail_if_success (with_reducible show wpAny _ _ (eval (Expr.ListComp _ _ _ _) _) _ _ _)); (first | (k_unfold; (try dsimp only)) | walk1 | (dsimp only; walk1))))
    rename IntsAre _ (List.take 30 _) => sI
    rename Fr _ _ _ _ => kF
    rename News _ _ _ _ => kN
    rename Obj.data _ = Data.cell (some (Value.ref _)) => cD
    rename _ < _ => l0
    rename _ < _ ∧ _ < _ => l2
    k_dflt (refine LCg.ListComp_U (F₀ := by k_asm) (by with_unfolding_all rfl) (by decide) (by rfl) (by decide) (by rfl) ?_)
    (repeat' ((fail_if_success (with_reducible show wpAny _ _ (call (Value.ref 109) _) _ _ _)); (fail_if_success (with_reducible show LCg.CompSrc _ _ _ _ _ _ _ _ _ _ _ _ _ _)); (first | (k_unfold; (try dsimp only)) | walk1 | (dsimp only; walk1))))
    k_dflt (refine' next_code ?k1 ?k2 ?k3 ?k4 ?k5 rfl ?kd ?ku sI ?hl ?d1 ?d2 ?d3 ?d4 ?d5 ?d6 ?hd1 ?hd2 ?_)
    (case k1 => k_asm)
    (case k2 => k_asm)
    (case k3 => k_asm)
    (case k4 => k_asm)
    (case k5 => k_asm)
    (case kd => ktr_room)
    (case ku => ktr_units)
    (case hl => exact List.length_take_le _ _)
    (case d1 => decide)
    (case d2 => decide)
    (case d3 => decide)
    (case d4 => decide)
    (case d5 => decide)
    (case d6 => decide)
    (case hd1 => k_ne)
    (case hd2 => k_all)
    intro n0 i1 v1 t1 t2 t3 ep1 h1 tk1 n00 n01 i10 i11 v10 v11 kF1 kN1
    (try dsimp only)
    (try k_fold)
    (repeat' ((fail_if_success (with_reducible show wpAny _ _ (call (Value.ref 109) _) _ _ _)); (fail_if_success (with_reducible show LCg.CompSrc _ _ _ _ _ _ _ _ _ _ _ _ _ _)); (first | (k_unfold; (try dsimp only)) | walk1 | (dsimp only; walk1))))
    rename IsRange _ _ _ _ _ _ _ _ => rg
    refine LCg.CompSrc.range (by rfl) (by k_asm) (by k_asm) rg (small_one (by decide) (by decide) (by omega) (by omega)) (rangeSize_nat _ _) (by rw [sizeLine_eq]; omega) ?_
    intro g'
    refine' rest_inv (σ := NL) (n := (n0 - 0).toNat) (fun c => [(_, stO _ c.i c.v c.t2 c.t3 c.ep), (_, listOf _ _), (_, _)]) NInv (fun _ => trivial) ?step ?fin _ 0 ⟨i1, v1, t2, t3, ep1⟩ [] (Nat.zero_add _) ⟨⟨i10, i11, v10, v11⟩, [], .nil, rfl, fun x hx => nomatch hx⟩
    case step =>
      rintro i ⟨ci, cv, ct2, ct3, cep⟩ ys v I oI C oC D m2 h tk E' hi hv ⟨⟨hc1, hc2, hc3, hc4⟩, xs, hxs, hxl, hxm⟩ hC hx F9 N9 off ne
      obtain ⟨t9, rfl⟩ := hv
      simp only [LCg.Off3, and_true] at off
      dsimp only at hc1 hc2 hc3 hc4 F9 N9 ⊢
      (repeat' ((fail_if_success (with_reducible show wpAny _ _ (call (Value.ref 109) _) _ _ _)); (first | (k_unfold; (try dsimp only)) | walk1 | (dsimp only; walk1))))
      k_dflt (refine' next_comp ?k1 ?k2 ?k3 ?k4 ?k5 rfl ?kd ?ku sI ?hl ?d1 ?d2 ?d3 ?d4 ?d5 ?d6 ?hd1 ?hd2 ?g1 ?g2 ?g3 ?_)
      (case k1 => k_asm)
      (case k2 => k_asm)
      (case k3 => k_asm)
      (case k4 => k_asm)
      (case k5 => k_asm)
      (case kd => ktr_room)
      (case ku => ktr_units)
      (case hl => exact List.length_take_le _ _)
      (case d1 => assumption)
      (case d2 => assumption)
      (case d3 => assumption)
      (case d4 => assumption)
      (case d5 => decide)
      (case d6 => decide)
      (case hd1 => k_ne)
      (case hd2 => k_all)
      (case g1 => k_ne)
      (case g2 => k_ne)
      (case g3 => k_ne)
      intro r i2 v2 t4 t5 t6 ep2 h2 tk2 r0 r1 i20 i21 v20 v21 F8 N8
      (try dsimp only)
      (try k_fold)
      (repeat' ((fail_if_success (with_reducible show wpAny _ _ (subscriptTail _ _ (Value.ref 110) _) _ _ _)); (first | (k_unfold; (try dsimp only)) | walk1 | (dsimp only; walk1))))
      refine signs_at (by assumption) (by k_asm) r0 r1 ?_
      intro x t7 hx7
      (try dsimp only)
      k_unfold
      refine TurnC.mk (NL.mk i2 v2 t5 t6 ep2) (by k_asm) N8 (fun p hp => hp) (by lcg_off) ⟨⟨i20, i21, v20, v21⟩, xs ++ [x], hxs.append' (.cons _ _ .nil), ?_, ?_⟩
      · rw [List.length_append, hxl]; rfl
      · intro z hz
        rcases List.mem_append.mp hz with hz | hz
        · exact hxm z hz
        · rw [List.mem_singleton.mp hz]; exact hx7
    case fin =>
      rintro ⟨ci, cv, ct2, ct3, cep⟩ ys ⟨-, xs, hxs, hxl, hxm⟩
      unfold LCg.FinE
      intro D h tk F9 N9 o1
      (repeat' ((fail_if_success (with_reducible show wpAny _ _ (call (Value.builtin "str.join") _) _ _ _)); (first | (k_unfold; (try dsimp only)) | walk1 | (dsimp only; walk1))))
      refine joinSigs (by assumption) (by k_mem) hxs hxm (by omega) ?_
      intro x t k dx
      have px := plain dx
      have plen := px.len
      have ptl := px.tlen
      have pW := px.w
      have hwl : (lawWords x).length ≤ 100 := by
        have := StrLaws.words_weight x
        rw [px.w] at this
        omega
      have pWs := px.wsm
      have pWl : ∀ y ∈ lawWords x, y.length ≤ 100 := fun y hy => (px.wsm y hy).1
      have pIs := px.ism
      have pX1 : ∀ y ∈ [x], Sm y := fun y hy => by rw [List.mem_singleton.mp hy]; exact px.xsm
      have pV := ids_eq px
      have pT := tokx_iff px
      have pWh : Txt.join (Str.ofString " ") (Txt.words x) = Txt.join (Str.ofString " ") (lawWords x) := by rw [px.w]
      have pFu := px.full
      have pWt := plain_wt px
      have pJt := plain_jt px
      have e0 := px.id0
      have e1 := px.id1
      have e2 := px.id2
      have p2len : (Str.ofString " \t" ++ x ++ Str.ofString "\n ").length ≤ 100 := by
        rw [Str.length_append, Str.length_append, show (Str.ofString " \t").length = 2 from rfl, show (Str.ofString "\n ").length = 2 from rfl]; omega
      (try dsimp only)
      (try k_fold)
      (repeat' ((fail_if_success (with_reducible show wpAny _ _ (isTrue (Expr.Compare (Expr.Call (Expr.Name (Str.ofString "_law_let") _) _ _ _) _ _ _) _ _) _ _ _)); (fail_if_success (with_reducible show wpAny _ _ (eval (Expr.ListComp _ _ _ _) _) _ _ _)); (fail_if_success (with_reducible show wpAny _ _ (exec (Stmt.Assign _ (Expr.ListComp _ _ _ _) _) _) _ _ _)); (first | (k_unfold; (try dsimp only)) | walk1 | (dsimp only; walk1))))
      rename Fr _ _ _ _ => kF2
      rename News _ _ _ _ => kN2
      have q5 : told x = mkId (told x) := e1.symm
      refine' cutB kF2 kN2 false ?h0 ?k0
      case h0 =>
        by_cases q : x = told x
        · have q1 : x = mkId x := q.trans e0.symm
          k_steps
        · have q1 : ¬ (x = mkId x) := fun h => q (h.trans e0)
          k_steps
      case k0 =>
        intro h3 tk3 kF3 kN3
        clear kF2 kN2
        (try dsimp only)
        (try k_fold)
        (repeat' ((fail_if_success (with_reducible show wpAny _ _ (isTrue (Expr.Compare (Expr.Call (Expr.Name (Str.ofString "_law_let") _) _ _ _) _ _ _) _ _) _ _ _)); (fail_if_success (with_reducible show wpAny _ _ (eval (Expr.ListComp _ _ _ _) _) _ _ _)); (fail_if_success (with_reducible show wpAny _ _ (exec (Stmt.Assign _ (Expr.ListComp _ _ _ _) _) _) _ _ _)); (first | (k_unfold; (try dsimp only)) | walk1 | (dsimp only; walk1))))
        rename Fr _ _ _ _ => kF2
        rename News _ _ _ _ => kN2
        refine' cutB kF2 kN2 false ?h0 ?k0
        case h0 => k_steps
        case k0 =>
        intro h4 tk4 kF4 kN4
        clear kF2 kN2
        (try dsimp only)
        (try k_fold)
        (repeat' ((fail_if_success (with_reducible show wpAny _ _ (isTrue (Expr.Compare (Expr.Call (Expr.Name (Str.ofString "_law_let") _) _ _ _) _ _ _) _ _) _ _ _)); (fail_if_success (with_reducible show wpAny _ _ (eval (Expr.ListComp _ _ _ _) _) _ _ _)); (fail_if_success (with_reducible show wpAny _ _ (exec (Stmt.Assign _ (Expr.ListComp _ _ _ _) _) _) _ _ _)); (first | (k_unfold; (try dsimp only)) | walk1 | (dsimp only; walk1))))
        rename Fr _ _ _ _ => kF2
        rename News _ _ _ _ => kN2
        rename StrsAre _ (lawWords x) => sW
        k_dflt (refine LCt.ListComp_T (F₀ := by k_asm) (by with_unfolding_all rfl) (by decide) (by rfl) (by decide) (by rfl) ?_)
        (repeat' ((fail_if_success (with_reducible show LCt.CompSrcT _ _ _ _ _ _ _ _ _ _ _ _ _ _ _)); (first | (k_unfold; (try dsimp only)) | walk1 | (dsimp only; walk1))))
        have sWl := sW.length
        k_dflt (refine LCt.CompSrcT.ledger (by rfl) (by k_asm) (by k_asm) (by k_mem) ?_ ?_)
        · rw [sizeLine_eq, List.size_toArray]; omega
        intro g'
        refine' rest_invT (σ := Unit) (fun _ => _) (FInv (fun y => told y != y) (lawWords x)) ?hS ?step ?fin _ 0 () [] (Nat.zero_add _) ?start
        case hS => exact fun _ => Or.inr ⟨_, by k_mem, rfl, _, rfl⟩
        case start => exact .nil
        case step =>
          clear kF2 kN2
          intro i c ys v I oI C oC D2 m2 h tk E' hi hv hI hC hx F9 N9 off ne
          obtain ⟨y, ty, rfl, hy⟩ := strs_at sW hv
          have hyl : y.length ≤ 100 := (px.wsm y (get_mem hy)).1
          dsimp only at F9 N9 ⊢
          k_steps
          · (try k_unfold)
            exact TurnC.mk () (by k_asm) (by assumption) (fun p hp => hp) (by assumption) (FInv.yes hI hy (by assumption))
          · (try k_unfold)
            exact TurnC.mk () (by k_asm) (by assumption) (fun p hp => hp) (by assumption) (FInv.no hI hy (by assumption))
        case fin =>
        rintro ⟨⟩ ys2 hI2
        unfold FInv at hI2
        simp only [List.size_toArray, sWl, List.take_length] at hI2
        unfold LCg.FinE
        intro D2 h5 tk5 kF5 kN5 o5
        clear kF2 kN2
        (repeat' ((fail_if_success (with_reducible show wpAny _ _ (compareOp _ (Value.ref _) (Value.ref _)) _ _ _)); (first | (k_unfold; (try dsimp only)) | walk1 | (dsimp only; walk1))))
        refine eqNil (by assumption) (by first | k_mem | exact List.mem_cons_self | exact List.mem_cons_of_mem _ List.mem_cons_self) (by first | k_mem | exact List.mem_cons_self) hI2 (sm_filter px.wsm) (by ke_room) ?_
        intro b1 hb1
        have hb2 : b1 = true ↔ ∀ y ∈ lawWords x, y = mkId y := hb1.trans (filter_nil_iff (snd_iff px))
        (try dsimp only)
        (try k_fold)
        (repeat' ((fail_if_success (with_reducible show wpAny _ _ (isTrue (Expr.Compare (Expr.Call (Expr.Name (Str.ofString "_law_let") _) _ _ _) _ _ _) _ _) _ _ _)); (fail_if_success (with_reducible show wpAny _ _ (eval (Expr.ListComp _ _ _ _) _) _ _ _)); (fail_if_success (with_reducible show wpAny _ _ (exec (Stmt.Assign _ (Expr.ListComp _ _ _ _) _) _) _ _ _)); (first | (k_unfold; (try dsimp only)) | walk1 | (dsimp only; walk1))))
        rename Fr _ _ _ _ => kF2
        rename News _ _ _ _ => kN2
        refine' cutB kF2 kN2 false ?h0 ?k0
        case h0 =>
          cases b1 with
          | true =>
            have q : ∀ y ∈ lawWords x, y = mkId y := hb2.mp rfl
            k_steps
          | false =>
            have q : ¬ (∀ y ∈ lawWords x, y = mkId y) := fun h => Bool.false_ne_true (hb2.mpr h)
            k_steps
        case k0 =>
        intro h9 tk9 kF9 kN9
        clear kF2 kN2
        (try dsimp only)
        (try k_fold)
        (repeat' ((fail_if_success (with_reducible show wpAny _ _ (isTrue (Expr.Compare (Expr.Call (Expr.Name (Str.ofString "_law_let") _) _ _ _) _ _ _) _ _) _ _ _)); (fail_if_success (with_reducible show wpAny _ _ (eval (Expr.ListComp _ _ _ _) _) _ _ _)); (fail_if_success (with_reducible show wpAny _ _ (exec (Stmt.Assign _ (Expr.ListComp _ _ _ _) _) _) _ _ _)); (first | (k_unfold; (try dsimp only)) | walk1 | (dsimp only; walk1))))
        rename Fr _ _ _ _ => kF2
        rename News _ _ _ _ => kN2
        refine' cutB kF2 kN2 false ?h0 ?k0
        case h0 =>
          cases b1 with
          | true =>
            have q : ∀ y ∈ lawWords x, y = mkId y := hb2.mp rfl
            k_steps
          | false =>
            have q : ¬ (∀ y ∈ lawWords x, y = mkId y) := fun h => Bool.false_ne_true (hb2.mpr h)
            k_steps
        case k0 =>
        intro h9 tk9 kF9 kN9
        clear kF2 kN2
        (try dsimp only)
        (try k_fold)
        (repeat' ((fail_if_success (with_reducible show wpAny _ _ (isTrue (Expr.Compare (Expr.Call (Expr.Name (Str.ofString "_law_let") _) _ _ _) _ _ _) _ _) _ _ _)); (fail_if_success (with_reducible show wpAny _ _ (eval (Expr.ListComp _ _ _ _) _) _ _ _)); (fail_if_success (with_reducible show wpAny _ _ (exec (Stmt.Assign _ (Expr.ListComp _ _ _ _) _) _) _ _ _)); (first | (k_unfold; (try dsimp only)) | walk1 | (dsimp only; walk1))))
        rename Fr _ _ _ _ => kF2
        rename News _ _ _ _ => kN2
        k_dflt (refine LCg.Assign_ListComp_U (F₀ := by k_asm) (by rfl) (by with_unfolding_all rfl) (by with_unfolding_all rfl) (by decide) (by rfl) (by decide) (by rfl) (by rfl) (by rfl) ?_)
        (repeat' ((fail_if_success (with_reducible show LCg.CompSrc _ _ _ _ _ _ _ _ _ _ _ _ _ _)); (first | (k_unfold; (try dsimp only)) | walk1 | (dsimp only; walk1))))
        k_dflt (refine LCg.CompSrc.ledger (by rfl) (by k_asm) (by k_asm) (by k_mem) ?_ ?_)
        · rw [sizeLine_eq, List.size_toArray]; omega
        intro g'
        refine' rest_inv (σ := Unit) (fun _ => _) (MInv told (lawWords x)) ?hS ?step ?fin _ 0 () [] (Nat.zero_add _) ?start
        case hS => exact fun _ => Or.inr ⟨_, by k_mem, rfl, _, rfl⟩
        case start => exact .nil
        case step =>
          clear kF2 kN2
          intro i c ys v I oI C oC D2 m2 h tk E' hi hv hI hC hx F9 N9 off ne
          obtain ⟨y, ty, rfl, hy⟩ := strs_at sW hv
          have hyl : y.length ≤ 100 := (px.wsm y (get_mem hy)).1
          dsimp only at F9 N9 ⊢
          k_steps
          (try k_unfold)
          exact TurnC.mk () (by k_asm) (by assumption) (fun p hp => hp) (by assumption) (MInv.next hI hy)
        case fin =>
        rintro ⟨⟩ ys3 hI3
        unfold MInv at hI3
        simp only [List.size_toArray, sWl, List.take_length] at hI3
        unfold LCg.FinA
        intro D3 h6 tk6 kF6 kN6 o6
        clear kF2 kN2
        (try dsimp only)
        (try k_fold)
        (repeat' ((fail_if_success (with_reducible show wpAny _ _ (isTrue (Expr.Compare (Expr.Call (Expr.Name (Str.ofString "_law_let") _) _ _ _) _ _ _) _ _) _ _ _)); (fail_if_success (with_reducible show wpAny _ _ (eval (Expr.ListComp _ _ _ _) _) _ _ _)); (fail_if_success (with_reducible show wpAny _ _ (exec (Stmt.Assign _ (Expr.ListComp _ _ _ _) _) _) _ _ _)); (first | (k_unfold; (try dsimp only)) | walk1 | (dsimp only; walk1))))
        rename Fr _ _ _ _ => kF2
        rename News _ _ _ _ => kN2
        refine' cutB kF2 kN2 false ?h0 ?k0
        case h0 =>
          by_cases q : ∀ y ∈ (lawWords x).map told, y ≠ Str.empty
          · k_steps
          · k_steps
        case k0 =>
        intro h9 tk9 kF9 kN9
        clear kF2 kN2
        (try dsimp only)
        (try k_fold)
        (repeat' ((fail_if_success (with_reducible show wpAny _ _ (isTrue (Expr.Compare (Expr.Call (Expr.Name (Str.ofString "_law_let") _) _ _ _) _ _ _) _ _) _ _ _)); (fail_if_success (with_reducible show wpAny _ _ (eval (Expr.ListComp _ _ _ _) _) _ _ _)); (fail_if_success (with_reducible show wpAny _ _ (exec (Stmt.Assign _ (Expr.ListComp _ _ _ _) _) _) _ _ _)); (first | (k_unfold; (try dsimp only)) | walk1 | (dsimp only; walk1))))
        rename Fr _ _ _ _ => kF2
        rename News _ _ _ _ => kN2
        refine' cutB kF2 kN2 false ?h0 ?k0
        case h0 =>
          k_steps
        case k0 =>
        intro h9 tk9 kF9 kN9
        clear kF2 kN2
        (try dsimp only)
        (try k_fold)
        (repeat' ((fail_if_success (with_reducible show wpAny _ _ (isTrue (Expr.Compare (Expr.Call (Expr.Name (Str.ofString "_law_let") _) _ _ _) _ _ _) _ _) _ _ _)); (fail_if_success (with_reducible show wpAny _ _ (eval (Expr.ListComp _ _ _ _) _) _ _ _)); (fail_if_success (with_reducible show wpAny _ _ (exec (Stmt.Assign _ (Expr.ListComp _ _ _ _) _) _) _ _ _)); (first | (k_unfold; (try dsimp only)) | walk1 | (dsimp only; walk1))))
        rename Fr _ _ _ _ => kF2
        rename News _ _ _ _ => kN2
        k_dflt (refine LCt.ListComp_T (F₀ := by k_asm) (by with_unfolding_all rfl) (by decide) (by rfl) (by decide) (by rfl) ?_)
        (repeat' ((fail_if_success (with_reducible show LCt.CompSrcT _ _ _ _ _ _ _ _ _ _ _ _ _ _ _)); (first | (k_unfold; (try dsimp only)) | walk1 | (dsimp only; walk1))))
        k_dflt (refine LCt.CompSrcT.ledger (by rfl) (by k_asm) (by k_asm) (by k_mem) ?_ ?_)
        · rw [sizeLine_eq, List.size_toArray]; omega
        intro g'
        refine' rest_invT (σ := Unit) (fun _ => _) (FInv hasE (lawWords x)) ?hS ?step ?fin _ 0 () [] (Nat.zero_add _) ?start
        case hS => exact fun _ => Or.inr ⟨_, by k_mem, rfl, _, rfl⟩
        case start => exact .nil
        case step =>
          clear kF2 kN2
          intro i c ys v I oI C oC D2 m2 h tk E' hi hv hI hC hx F9 N9 off ne
          obtain ⟨y, ty, rfl, hy⟩ := strs_at sW hv
          have hyl : y.length ≤ 100 := (px.wsm y (get_mem hy)).1
          have hysm := es_sm (px.wsm y (get_mem hy))
          dsimp only at F9 N9 ⊢
          (repeat' ((fail_if_success (with_reducible show wpAny _ _ (isTrue (Expr.Compare (Expr.Call (Expr.Name (Str.ofString "_law_let") _) _ _ _) _ _ _) _ _) _ _ _)); (fail_if_success (with_reducible show wpAny _ _ (eval (Expr.ListComp _ _ _ _) _) _ _ _)); (fail_if_success (with_reducible show wpAny _ _ (exec (Stmt.Assign _ (Expr.ListComp _ _ _ _) _) _) _ _ _)); (first | (k_unfold; (try dsimp only)) | walk1 | (dsimp only; walk1))))
          k_dflt (refine compText_T (F₀ := by k_asm) (by with_unfolding_all rfl) (by decide) (by rfl) (by decide) (by rfl) ?_)
          (repeat' ((fail_if_success (with_reducible show TextT _ _ _ _ _ _ _ _ _ _ _ _ _ _ _)); (first | (k_unfold; (try dsimp only)) | walk1 | (dsimp only; walk1))))
          unfold TextT
          refine ⟨_, _, _, rfl, by rfl, by k_asm, N9, ?_, fun g => ?_⟩
          · rw [sizeLine_eq]; exact Nat.le_trans hyl (by decide)
          refine' rest_invT (σ := Unit) (fun _ => _) (EInv y) (fun _ => trivial) ?stepi ?fini _ 0 () [] (Nat.zero_add _) ?starti
          case starti => exact .nil
          case stepi =>
            intro i2 c2 zs v2 I2 oI2 C2 oC2 D3 m3 h3 tk3 E3 hi2 hv2 hI2 hC2 hx2 F8 N8 off2 ne2
            obtain ⟨k, t8, hk, rfl⟩ := hv2
            dsimp only at F8 N8 ⊢
            k_steps
            · (try k_unfold)
              exact TurnC.mk () (by k_asm) (by assumption) (fun p hp => hp) (by assumption) (EInv.no hI2 hk (by assumption))
            · (try k_unfold)
              exact TurnC.mk () (by k_asm) (by assumption) (fun p hp => hp) (by assumption) (EInv.yes hI2 hk (by assumption))
          case fini =>
            rintro ⟨⟩ zs hz
            have S7 := EInv.fin hz
            unfold LCg.FinE
            intro D4 h4 tk4 F7 N7 o7
            (repeat' ((fail_if_success (with_reducible show wpAny _ _ (compareOp _ (Value.ref _) (Value.ref _)) _ _ _)); (first | (k_unfold; (try dsimp only)) | walk1 | (dsimp only; walk1))))
            refine neNil (by assumption) (by first | k_mem | exact List.mem_cons_self | exact List.mem_cons_of_mem _ List.mem_cons_self) (by first | k_mem | exact List.mem_cons_self) S7 hysm (by ke_room) ?_
            intro bb hbb
            have hE := hasE_of hbb
            (try dsimp only)
            (try k_fold)
            k_steps
            · (try k_unfold)
              exact TurnC.mk () (by k_asm) (by assumption) (by lcg_sub) (by assumption) (FInv.yes hI hy (hE.trans (by assumption)))
            · (try k_unfold)
              exact TurnC.mk () (by k_asm) (by assumption) (by lcg_sub) (by assumption) (FInv.no hI hy (hE.trans (by assumption)))
        case fin =>
        rintro ⟨⟩ ys4 hI4
        unfold FInv at hI4
        simp only [List.size_toArray, sWl, List.take_length] at hI4
        unfold LCg.FinE
        intro D5 h7 tk7 kF7 kN7 o7
        clear kF2 kN2
        (repeat' ((fail_if_success (with_reducible show wpAny _ _ (compareOp _ (Value.ref _) (Value.ref _)) _ _ _)); (first | (k_unfold; (try dsimp only)) | walk1 | (dsimp only; walk1))))
        refine eqNil (by assumption) (by first | k_mem | exact List.mem_cons_self | exact List.mem_cons_of_mem _ List.mem_cons_self) (by first | k_mem | exact List.mem_cons_self) hI4 (sm_filter px.wsm) (by ke_room) ?_
        intro b3 hb3
        have hb4 : b3 = true ↔ ∀ y ∈ lawWords x, IsTok y := hb3.trans (filter_nil_iff (tok_iff px))
        (try dsimp only)
        (try k_fold)
        (repeat' ((fail_if_success (with_reducible show wpAny _ _ (isTrue (Expr.Compare (Expr.Call (Expr.Name (Str.ofString "_law_let") _) _ _ _) _ _ _) _ _) _ _ _)); (fail_if_success (with_reducible show wpAny _ _ (eval (Expr.ListComp _ _ _ _) _) _ _ _)); (fail_if_success (with_reducible show wpAny _ _ (exec (Stmt.Assign _ (Expr.ListComp _ _ _ _) _) _) _ _ _)); (first | (k_unfold; (try dsimp only)) | walk1 | (dsimp only; walk1))))
        rename Fr _ _ _ _ => kF2
        rename News _ _ _ _ => kN2
        refine' cutB kF2 kN2 false ?h0 ?k0
        case h0 =>
          by_cases w1 : lawWords x = [x]
          · cases b3 with
            | true =>
              have q : IsTok x := pT.mpr ⟨w1, hb4.mp rfl⟩
              k_steps
            | false =>
              have q : ¬ IsTok x := fun h => Bool.false_ne_true (hb4.mpr (pT.mp h).2)
              k_steps
          · have q : ¬ IsTok x := fun h => w1 (pT.mp h).1
            k_steps
        case k0 =>
        intro h9 tk9 kF9 kN9
        clear kF2 kN2
        (try dsimp only)
        (try k_fold)
        (repeat' ((fail_if_success (with_reducible show wpAny _ _ (isTrue (Expr.Compare (Expr.Call (Expr.Name (Str.ofString "_law_let") _) _ _ _) _ _ _) _ _) _ _ _)); (fail_if_success (with_reducible show wpAny _ _ (eval (Expr.ListComp _ _ _ _) _) _ _ _)); (fail_if_success (with_reducible show wpAny _ _ (exec (Stmt.Assign _ (Expr.ListComp _ _ _ _) _) _) _ _ _)); (first | (k_unfold; (try dsimp only)) | walk1 | (dsimp only; walk1))))
        rename Fr _ _ _ _ => kF2
        rename News _ _ _ _ => kN2
        refine' cutB kF2 kN2 false ?h0 ?k0
        case h0 =>
          cases b3 with
          | true =>
            have q : ∀ y ∈ lawWords x, IsTok y := hb4.mp rfl
            k_steps
          | false =>
            have q : ¬ (∀ y ∈ lawWords x, IsTok y) := fun h => Bool.false_ne_true (hb4.mpr h)
            k_steps
        case k0 =>
        intro h9 tk9 kF9 kN9
        clear kF2 kN2
        (try dsimp only)
        (try k_fold)
        (repeat' ((fail_if_success (with_reducible show wpAny _ _ (isTrue (Expr.Compare (Expr.Call (Expr.Name (Str.ofString "_law_let") _) _ _ _) _ _ _) _ _) _ _ _)); (fail_if_success (with_reducible show wpAny _ _ (eval (Expr.ListComp _ _ _ _) _) _ _ _)); (fail_if_success (with_reducible show wpAny _ _ (exec (Stmt.Assign _ (Expr.ListComp _ _ _ _) _) _) _ _ _)); (first | (k_unfold; (try dsimp only)) | walk1 | (dsimp only; walk1))))
        rename Fr _ _ _ _ => kF2
        rename News _ _ _ _ => kN2
        refine' cutB kF2 kN2 false ?h0 ?k0
        case h0 =>
          cases b3 with
          | true =>
            have q : ∀ y ∈ lawWords x, IsTok y := hb4.mp rfl
            k_steps
          | false =>
            have q : ¬ (∀ y ∈ lawWords x, IsTok y) := fun h => Bool.false_ne_true (hb4.mpr h)
            k_steps
        case k0 =>
        intro h9 tk9 kF9 kN9
        clear kF2 kN2
        (try dsimp only)
        (try k_fold)
        (repeat' ((fail_if_success (with_reducible show wpAny _ _ (isTrue (Expr.Compare (Expr.Call (Expr.Name (Str.ofString "_law_let") _) _ _ _) _ _ _) _ _) _ _ _)); (fail_if_success (with_reducible show wpAny _ _ (eval (Expr.ListComp _ _ _ _) _) _ _ _)); (fail_if_success (with_reducible show wpAny _ _ (exec (Stmt.Assign _ (Expr.ListComp _ _ _ _) _) _) _ _ _)); (first | (k_unfold; (try dsimp only)) | walk1 | (dsimp only; walk1))))
        rename Fr _ _ _ _ => kF2
        rename News _ _ _ _ => kN2
        k_dflt (refine compText_U (F₀ := by k_asm) (by with_unfolding_all rfl) (by decide) (by rfl) (by decide) (by rfl) ?_)
        (repeat' ((fail_if_success (with_reducible show TextU _ _ _ _ _ _ _ _ _ _ _ _ _ _)); (first | (k_unfold; (try dsimp only)) | walk1 | (dsimp only; walk1))))
        unfold TextU
        refine ⟨_, _, _, rfl, by rfl, by k_asm, by k_asm, ?_, fun g => ?_⟩
        · have := join_words_length x
          rw [px.w] at this
          rw [sizeLine_eq]
          exact Nat.le_trans this (by omega)
        refine' rest_inv (σ := Unit) (fun _ => _) (SInv (Txt.join (Str.ofString " ") (lawWords x))) (fun _ => trivial) ?step ?fin _ 0 () [] (Nat.zero_add _) ?start
        case start => exact .nil
        case step =>
          clear kF2 kN2
          intro i c ys v I oI C oC D2 m2 h tk E' hi hv hI hC hx F9 N9 off ne
          obtain ⟨k, t8, hk, rfl⟩ := hv
          dsimp only at F9 N9 ⊢
          k_steps
          (try k_unfold)
          exact TurnC.mk () (by k_asm) (by assumption) (fun p hp => hp) (by assumption) (SInv.next hI hk)
        case fin =>
        rintro ⟨⟩ ys5 hI5
        have S5 := SInv.fin hI5
        unfold LCg.FinE
        intro D6 h8 tk8 kF8 kN8 o8
        clear kF2 kN2
        k_steps
    ))
end Mine
end
local macro_rules | `(tactic| walk_at "none W3 0") => `(tactic| fail "none")
local macro_rules | `(tactic| walk_at "none W3 1") => `(tactic| fail "none")
local macro_rules | `(tactic| walk_at "none W3 2") => `(tactic| fail "none")
local macro_rules | `(tactic| walk_at "none W3 3") => `(tactic| fail "none")
local macro_rules | `(tactic| walk_at "none W3 4") => `(tactic| fail "none")
local macro_rules | `(tactic| walk_at "none W3 5") => `(tactic| fail "none")
local macro_rules | `(tactic| walk_at "none W3 6") => `(tactic| fail "none")
local macro_rules | `(tactic| walk_at "none W3 7") => `(tactic| fail "none")
local macro_rules | `(tactic| walk_at "none W3 8") => `(tactic| fail "none")
local macro_rules | `(tactic| walk_at "none W3 9") => `(tactic| fail "none")
local macro_rules | `(tactic| walk_at "none W3 10") => `(tactic| fail "none")
local macro_rules | `(tactic| walk_at "none W3 11") => `(tactic| fail "none")
local macro_rules | `(tactic| walk_at "none W3 12") => `(tactic| fail "none")
local macro_rules | `(tactic| walk_at "none W3 13") => `(tactic| fail "none")
local macro_rules | `(tactic| walk_at "none W3 14") => `(tactic| fail "none")
local macro_rules | `(tactic| walk_at "none W3 15") => `(tactic| fail "none")
local macro_rules | `(tactic| walk_at "none W3 16") => `(tactic| fail "none")
local macro_rules | `(tactic| walk_at "none W3 17") => `(tactic| fail "none")
local macro_rules | `(tactic| walk_at "none W3 18") => `(tactic| fail "none")
local macro_rules | `(tactic| walk_at "none W3 19") => `(tactic| fail "none")
local macro_rules | `(tactic| walk_at "none W3 20") => `(tactic| fail "none")
local macro_rules | `(tactic| walk_at "none W3 21") => `(tactic| fail "none")
local macro_rules | `(tactic| walk_at "none W3 22") => `(tactic| fail "none")
local macro_rules | `(tactic| walk_at "none W3 23") => `(tactic| fail "none")
local macro_rules | `(tactic| walk_at "none W3 24") => `(tactic| fail "none")
local macro_rules | `(tactic| walk_at "none W3 25") => `(tactic| fail "none")
local macro_rules | `(tactic| walk_at "none W3 26") => `(tactic| fail "none")
local macro_rules | `(tactic| walk_at "none W3 27") => `(tactic| fail "none")
local macro_rules | `(tactic| walk_at "none W3 28") => `(tactic| fail "none")
local macro_rules | `(tactic| walk_at "none W3 29") => `(tactic| fail "none")
theorem PySem.Challenge.cw_bq6009_01_holds : PySem.Challenge.rw_bq6009_01.Holds := by
  exact Mine.X
