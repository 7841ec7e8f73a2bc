import PyProof.Rows.All
import Wide.All
import OpenK.AllK
import Wide.FinOn
import PySem.Challenge.RW_il0035_01
open PySem PySem.W PySem.Calls PyProof.Rows
set_option Elab.async false
set_option maxRecDepth 100000
set_option maxHeartbeats 8000000
set_option rowWalk.seconds 0
namespace Mine
open_top top for PySem.Challenge.rw_il0035_01
end Mine
section MBpart
namespace Mine

/-- a goal that the walk leaves alone -/
noncomputable def Hold (P : Prop) : Prop := P
theorem hold {P : Prop} (h : Hold P) : P := h
theorem Hold.of {P : Prop} (h : P) : Hold P := h

abbrev Kp (h h' : Heap) : Prop := ∀ b o, h.get? b = some o → h'.get? b = some o

/-- a call that comes back, and changes nothing that stood -/
noncomputable def Does (prog : Program) (w : World) (K : Frag) (d u : Nat) (f : Addr) (vals : List Value) (kw : List (Str × Value)) (s : Shared) (R : Value → Heap → Prop) : Prop :=
  ∀ (p : Program) (loose : List Str) (mean : ExcName → Option Value) (mg mb : Str → Option Value) (dp un : Nat) (gd : Option (List Code)) (cn : Str) (cs : Scope) (a : Addr) (ccd : Value) (outer : List Env) (A₀ : Around) (base h₀ : Heap) (L : Addr) (m : Str → Option Value) (Q E : Value → Shared → Prop),
    Below A₀ base outer h₀ → Fr h₀ L s.heap m → K.In h₀ → Top p loose mean mg mb h₀ → cs.kind = .function → dp + d < recursionLimit → un + u < cLine →
    (∀ v h' tk', Kp s.heap h' → R v h' → Q v { s with heap := h', toks := tk' }) →
    wpAny (model prog w) (ktrTop dp un gd cn cs L a ccd [] outer) (call (.ref f) vals kw) Q E s

section
variable {prog : Program} {w : World} {A₀ A : Around} {s : Shared} {base h₀ : Heap} {outer : List Env} {L a : Addr} {m : Str → Option Value} {cn : Str} {cs : Scope} {ccd : Value} {K : Frag} {p : Program} {loose : List Str} {mean : ExcName → Option Value} {mg mb : Str → Option Value}
    {R : Result → Shared → Prop} {name qual : Str} {params : Arguments} {body : List Stmt} {scope : Scope} {dV kV doc pm cdv ct oc : Value} {an od : Option Addr} {osl : Array (Option Value)} {f : Addr} {args : Args} {binds : List (Str × Value)}

theorem code_pure (B : Below A₀ base outer h₀) (F : Fr h₀ L s.heap m) (X₀ : K.In h₀) (T : Top p loose mean mg mb h₀) (hA : A.frames = some (envOf cn cs L a ccd :: outer))
    (ho : K.lookup f = some ⟨oc, od, .func (fnOf name qual params body scope dV kV doc pm an cdv ct), osl⟩) (hcd : codeIn K cdv qual = true) (hroom : A.depth < recursionLimit)
    (hbind : BindsTo s (fnOf name qual params body scope dV kV doc pm an cdv ct) args binds) (hloc : ∀ y ∈ binds, scope.names.lookup y.1 = some .local)
    (h : ∀ h₁, Fr s.heap s.heap.objs.size h₁ (fun y => binds.reverse.lookup y) → News s.heap s.heap.objs.size h₁ [] → Below A base (envOf cn cs L a ccd :: outer) s.heap → K.In s.heap → Top p loose mean mg mb s.heap →
      wpAny (model prog w) (A.deeper (envOf qual scope s.heap.objs.size f cdv)) (execs body (envOf qual scope s.heap.objs.size f cdv))
        (fun fl s' => R (.ok (.ret (match fl with | .ret v => v | _ => .none))) s')
        (fun e s' => wpAny (model prog w) (A.deeper (envOf qual scope s.heap.objs.size f cdv)) (leaving (envOf qual scope s.heap.objs.size f cdv) e) (fun _ s'' => R (.error e) s'') (fun e' s'' => R (.error e') s'') s')
        { s with heap := h₁, toks := s.toks + binds.length })
    (hck : cs.kind = .function := by rfl) (hco : scope.isCoroutine = false := by rfl) (hgen : scope.isGenerator = false := by rfl) (hk : scope.kind = .function := by rfl)
    (hcell : ∀ x ∈ scope.names, x.2 ≠ .cell := by decide) : codeAny (model prog w) A (.call (.ref f) args) R s := by
  have X := X₀.keeps F.keep
  have TT := T.keeps F.keep
  refine codeAny_call_def (fd := fnOf name qual params body scope dV kV doc pm an cdv ct) (body := body) (binds := binds) hroom (X _ _ ho) rfl TT.nolimit (codeRec_of X hcd) rfl hbind hcell hloc (fun h₁ hns hk₁ => ?_) hco hgen hk
  have B₁ := B.push (name := cn) (scope := cs) (a := a) (cd := ccd) F hck
  have B₂ : Below A base (envOf cn cs L a ccd :: outer) s.heap := ⟨hA, B₁.stays, B₁.frames⟩
  exact h h₁ ⟨hns, hk₁, Nat.le_refl _⟩ News.nil B₂ X TT
theorem kindsC {scope : Scope} {binds : List (Str × Value)} (h : (binds.all fun y => scope.names.lookup y.1 == some .local || scope.names.lookup y.1 == some .cell) = true) :
    ∀ n, ∀ x ∈ binds, scope.names.lookup x.1 = some .local ∨ (scope.names.lookup x.1 = some .cell ∧ ((cellsFrom n scope.names []).lookup x.1).isSome = true) := kindsX h

theorem code_pureC (B : Below A₀ base outer h₀) (F : Fr h₀ L s.heap m) (X₀ : K.In h₀) (T : Top p loose mean mg mb h₀) (hA : A.frames = some (envOf cn cs L a ccd :: outer))
    (ho : K.lookup f = some ⟨oc, od, .func (fnOf name qual params body scope dV kV doc pm an cdv ct), osl⟩) (hcd : codeIn K cdv qual = true) (hroom : A.depth < recursionLimit)
    (hbind : BindsTo s (fnOf name qual params body scope dV kV doc pm an cdv ct) args binds)
    (hkind : (binds.all fun y => scope.names.lookup y.1 == some .local || scope.names.lookup y.1 == some .cell) = true)
    (hnd : ((cellsFrom 0 scope.names []).map (·.1)).Nodup)
    (h : ∀ h₁ tk cells, Fr s.heap s.heap.objs.size h₁ (bindL (envOfC qual scope s.heap.objs.size f cdv).kindOf binds fun _ => none) → News s.heap s.heap.objs.size h₁ cells →
      CellsAre (bindC (envOfC qual scope s.heap.objs.size f cdv).kindOf binds fun _ => none) (cellsFrom (s.heap.objs.size + 1) scope.names []) cells →
      Below A base (envOf cn cs L a ccd :: outer) s.heap → K.In s.heap → Top p loose mean mg mb s.heap →
      wpAny (model prog w) (A.deeper (envOfC qual scope s.heap.objs.size f cdv)) (execs body (envOfC qual scope s.heap.objs.size f cdv))
        (fun fl s' => R (.ok (.ret (match fl with | .ret v => v | _ => .none))) s')
        (fun e s' => wpAny (model prog w) (A.deeper (envOfC qual scope s.heap.objs.size f cdv)) (leaving (envOfC qual scope s.heap.objs.size f cdv) e) (fun _ s'' => R (.error e) s'') (fun e' s'' => R (.error e') s'') s')
        { s with heap := h₁, toks := tk })
    (hck : cs.kind = .function := by rfl) (hco : scope.isCoroutine = false := by rfl) (hgen : scope.isGenerator = false := by rfl) (hk : scope.kind = .function := by rfl) :
    codeAny (model prog w) A (.call (.ref f) args) R s := by
  have X := X₀.keeps F.keep
  have TT := T.keeps F.keep
  have B₁ := B.push (name := cn) (scope := cs) (a := a) (cd := ccd) F hck
  have B₂ : Below A base (envOf cn cs L a ccd :: outer) s.heap := ⟨hA, B₁.stays, B₁.frames⟩
  refine codeAny_call_function (fd := fnOf name qual params body scope dV kV doc pm an cdv ct) hroom (X _ _ ho) rfl hco hgen rfl (codeRec_of X hcd) (hbind _ _ _ _ ?_)
  refine wpAny_newFunctionEnv_cells hk (kindsC hkind _) fun env' he s' x => ?_
  subst he
  refine ⟨TT.nolimit.keeps x.toInCall.keep, codeAny_func ?_⟩
  obtain ⟨h₁, tk, rfl, _⟩ := x.done
  have hk₁ := x.toInCall.keep
  obtain ⟨cells, NC, Y⟩ := Cl.news (h₀ := s.heap) (Nat.le_refl _) fun n c hm => ⟨x.cell n c (lookup_of_mem_nodup (cellsFrom_names scope.names 0 (s.heap.objs.size + 1) [] [] rfl ▸ hnd) hm), x.above n c hm⟩
  exact h h₁ tk cells ⟨x.toInCall.ns, hk₁, Nat.le_refl _⟩ NC Y B₂ X TT
end

theorem room1 {x k a r : Nat} (h : x + k < r) (ha : 1 + a ≤ k) : x + 1 + a < r := by
  rw [Nat.add_assoc]; exact Nat.lt_of_le_of_lt (Nat.add_le_add_left ha x) h
theorem room3 {x k a r : Nat} (h : x + k < r) (ha : 3 + a ≤ k) : x + 3 + a < r := by
  rw [Nat.add_assoc]; exact Nat.lt_of_le_of_lt (Nat.add_le_add_left ha x) h
/-! ## tuples taken apart where the goal is still small -/
theorem all2 {α β : Type} {P : α × β → Prop} (h : ∀ a b, P (a, b)) : ∀ c, P c := fun c => h c.1 c.2
theorem all3 {α β γ : Type} {P : α × β × γ → Prop} (h : ∀ a b c, P (a, b, c)) : ∀ x, P x := fun x => h x.1 x.2.1 x.2.2
theorem all4 {α β γ δ : Type} {P : α × β × γ × δ → Prop} (h : ∀ a b c d, P (a, b, c, d)) : ∀ x, P x := fun x => h x.1 x.2.1 x.2.2.1 x.2.2.2
theorem all6 {α β γ δ ε ζ : Type} {P : α × β × γ × δ × ε × ζ → Prop} (h : ∀ a b c d e f, P (a, b, c, d, e, f)) : ∀ x, P x := fun x => h x.1 x.2.1 x.2.2.1 x.2.2.2.1 x.2.2.2.2.1 x.2.2.2.2.2
theorem all10 {a1 a2 a3 a4 a5 a6 a7 a8 a9 a10 : Type} {P : a1 × a2 × a3 × a4 × a5 × a6 × a7 × a8 × a9 × a10 → Prop} (h : ∀ a b c d e f g i j k, P (a, b, c, d, e, f, g, i, j, k)) : ∀ x, P x :=
  fun x => h x.1 x.2.1 x.2.2.1 x.2.2.2.1 x.2.2.2.2.1 x.2.2.2.2.2.1 x.2.2.2.2.2.2.1 x.2.2.2.2.2.2.2.1 x.2.2.2.2.2.2.2.2.1 x.2.2.2.2.2.2.2.2.2

/-! ## a test that walks several ways to one answer -/
theorem once {prog : Program} {w : World} {A : Around} {E : Value → Shared → Prop} {s : Shared} {hp : Heap} {tk : Nat} {c : Sem Bool} {Q : Bool → Shared → Prop}
    (h : wpAny (model prog w) A c (fun b s' => Hold (b = false ∧ ∃ k, s' = { heap := hp, gens := s.gens, drawn := s.drawn, toks := k, os := s.os })) E { heap := hp, gens := s.gens, drawn := s.drawn, toks := tk, os := s.os })
    (hQ : ∀ k, Q false { heap := hp, gens := s.gens, drawn := s.drawn, toks := k, os := s.os }) : wpAny (model prog w) A c Q E { heap := hp, gens := s.gens, drawn := s.drawn, toks := tk, os := s.os } :=
  wpAny_mono h (by rintro _ _ ⟨rfl, k, rfl⟩; exact hQ k) fun _ _ e => e
theorem decided {prog : Program} {w : World} {A : Around} {E : Value → Shared → Prop} {s : Shared} {hp : Heap} {tk : Nat} {c : Sem Bool} {Q : Bool → Shared → Prop} (p : Prop)
    (h : wpAny (model prog w) A c (fun b s' => Hold ((b = true ↔ p) ∧ ∃ k, s' = { heap := hp, gens := s.gens, drawn := s.drawn, toks := k, os := s.os })) E { heap := hp, gens := s.gens, drawn := s.drawn, toks := tk, os := s.os })
    (ht : p → ∀ k, Q true { heap := hp, gens := s.gens, drawn := s.drawn, toks := k, os := s.os }) (hf : ¬ p → ∀ k, Q false { heap := hp, gens := s.gens, drawn := s.drawn, toks := k, os := s.os }) :
    wpAny (model prog w) A c Q E { heap := hp, gens := s.gens, drawn := s.drawn, toks := tk, os := s.os } :=
  wpAny_mono h (by
    rintro b _ ⟨e, k, rfl⟩
    cases b with
    | true => exact ht (e.mp rfl) k
    | false => exact hf (fun hp => Bool.noConfusion (e.mpr hp)) k) fun _ _ e => e
theorem and_no {p q : Prop} (h : ¬ p) : (false = true) ↔ (p ∧ q) := ⟨fun e => Bool.noConfusion e, fun e => absurd e.1 h⟩
theorem and_no2 {p q : Prop} (h : ¬ q) : (false = true) ↔ (p ∧ q) := ⟨fun e => Bool.noConfusion e, fun e => absurd e.2 h⟩
theorem and_yes {p q : Prop} (h : p) (h' : q) : (true = true) ↔ (p ∧ q) := ⟨fun _ => ⟨h, h'⟩, fun _ => rfl⟩
theorem and_dec {p q : Prop} [Decidable q] (h : p) : (decide q = true) ↔ (p ∧ q) := ⟨fun e => ⟨h, of_decide_eq_true e⟩, fun e => decide_eq_true e.2⟩
/-! ## loops by an invariant over a state of one's own -/
section
variable {prog : Program} {w : World} {A : Around} {E : Value → Shared → Prop} {s : Shared} {env : Env} {h₀ : Heap} {x : Str} {body : List Stmt} {Q : Flow → Shared → Prop}

/-- the state c is what frame and ledger tell; the names of `stored` are forgotten -/
noncomputable def Turn {σ : Type} (Led : σ → List (Addr × Obj)) (ps : σ → List (Str × Value)) (x : Str) (stored : List Str) (m₀ : Str → Option Value) (P : σ → Prop) (m : Str → Option Value) (nx : List (Addr × Obj)) : Prop :=
  ∃ c : σ, nx = Led c ∧ (∀ p ∈ ps c, m p.1 = some p.2) ∧ (∀ z, z ≠ x → (∀ p ∈ ps c, z ≠ p.1) → stored.contains z = false → m z = m₀ z) ∧ P c

theorem loop_xs {σ α : Type} {I : Addr} {fp wr : List Addr} {PV : Nat → Value → Prop} {St : Nat → Heap → Prop} (xs : List α) (val : α → Tok → Value) {m₀ : Str → Option Value}
    (Led : σ → List (Addr × Obj)) (ps : σ → List (Str × Value)) (stored : List Str) (P : List α → σ → Prop) (c₀ : σ)
    (W : Walks prog w A I fp wr xs.length PV St) (hPV : ∀ i v, PV i v → ∃ a t, xs[i]? = some a ∧ v = val a t) (hLf : env.locals ∉ fp) (hwr : ∀ b ∈ wr, h₀.get? b = none) (hnw : ∀ p ∈ Led c₀, p.1 ∉ wr) (hfp : ∀ q ∈ Led c₀, q.1 ∉ fp)
    (hst : St 0 s.heap) (F : Fr h₀ env.locals s.heap m₀) (N : News h₀ env.locals s.heap (Led c₀)) (hk : ∀ p ∈ ps c₀, m₀ p.1 = some p.2) (hp : P [] c₀)
    (turn : ∀ (c : σ) pre post a t (u : Str → Option Value) h tk own, xs = pre ++ a :: post → OwnOff own ((Led c₀).map (·.1)) → P pre c →
      Fr h₀ env.locals h (fun y => if y = x then some (val a t) else kstB (fun z => if stored.contains z then u z else m₀ z) (ps c) y) → News h₀ env.locals h (Led c ++ own) →
      wpAny (model prog w) A (execs body env) (InvPostN h₀ env.locals (Turn Led ps x stored m₀ (P (pre ++ [a]))) own ((Led c₀).map (·.1)) { s with heap := h, toks := tk } Q) E { s with heap := h, toks := tk })
    (done : ∀ (c : σ) (u : Str → Option Value) h tk, P xs c → Fr h₀ env.locals h (fun y => if y = x then u y else kstB (fun z => if stored.contains z then u z else m₀ z) (ps c) y) → News h₀ env.locals h (Led c) → Q .next { s with heap := h, toks := tk }) :
    LoopAtV prog w A h₀ env x body Q E (.ref I) s := by
  refine loop_invN (fun i m nx => Turn Led ps x stored m₀ (P (xs.take i)) m nx) W hLf hwr hnw hfp hst F N ⟨c₀, rfl, hk, fun _ _ _ _ => rfl, by simpa using hp⟩ ?_ ?_
  · rintro i v m₁ nx h tk own hi hv _ hoff ⟨c, rfl, h1, h2, hp'⟩ F₁ N₁
    obtain ⟨a, t, hn, rfl⟩ := hPV i v hv
    have hs : xs.take (i + 1) = xs.take i ++ [a] := by simp [List.take_add_one, hn]
    have e : xs = xs.take i ++ a :: xs.drop (i + 1) := by
      have ht := List.take_append_drop (i + 1) xs
      rw [hs, List.append_assoc] at ht
      exact ht.symm
    rw [hs]
    exact turn c _ _ a t m₁ h tk own e hoff hp' (kst_fr h1 h2 F₁) N₁
  · rintro m₁ nx h tk ⟨c, rfl, h1, h2, hp'⟩ F₁ N₁
    rw [List.take_length] at hp'
    exact done c m₁ h tk hp' (kst_frOut h1 h2 F₁) N₁

theorem turn_end {σ : Type} {Led : σ → List (Addr × Obj)} {ps : σ → List (Str × Value)} {stored : List Str} {m₀ : Str → Option Value} {P : σ → Prop} (c : σ) {L : Addr} {m' : Str → Option Value} {own news' : List (Addr × Obj)} {adr : List Addr} {s₁ : Shared} {h' : Heap} {tk : Nat}
    (F : Fr h₀ L h' m') (N : News h₀ L h' news') (hn : ∀ p ∈ Led c, p ∈ news') (ho : ∀ p ∈ own, p ∈ news') (ha : (Led c).map (·.1) = adr) (hk : ∀ p ∈ ps c, m' p.1 = some p.2) (hr : ∀ z, z ≠ x → (∀ p ∈ ps c, z ≠ p.1) → stored.contains z = false → m' z = m₀ z) (hp : P c) :
    Hold (InvEndN h₀ L (Turn Led ps x stored m₀ P) own adr s₁ { s₁ with heap := h', toks := tk }) :=
  InvEndN.intro F N ⟨c, rfl, hk, hr, hp⟩ ha hn ho

theorem IntsAre.nats {vs : List Value} {xs : List Nat} (hi : IntsAre vs (xs.map fun (n : Nat) => (n : Int))) {i : Nat} {v : Value} (hv : vs[i]? = some v) : ∃ a t, xs[i]? = some a ∧ v = .int (a : Nat) t := by
  have hl : vs.length = xs.length := by simpa using hi.length
  have hlt : i < xs.length := by
    rw [← hl]; exact (List.getElem?_eq_some_iff.mp hv).1
  obtain ⟨t, hx⟩ := hi.get i (xs[i] : Nat) (by simp [hlt])
  rw [hx] at hv
  exact ⟨xs[i], t, by simp [hlt], (Option.some.inj hv).symm⟩

/-- over a list of natural numbers that stood at the call -/
theorem nats_list {σ : Type} {l : Addr} {vs : List Value} {xs : List Nat} {m₀ : Str → Option Value} (Led : σ → List (Addr × Obj)) (ps : σ → List (Str × Value)) (stored : List Str) (P : List Nat → σ → Prop) (c₀ : σ)
    (hh : A.handled = none) (hl : h₀.IsList l vs.toArray) (hi : IntsAre vs (xs.map fun (n : Nat) => (n : Int))) (F : Fr h₀ env.locals s.heap m₀) (N : News h₀ env.locals s.heap (Led c₀)) (hk : ∀ p ∈ ps c₀, m₀ p.1 = some p.2) (hp : P [] c₀)
    (turn : ∀ (c : σ) pre post (a : Nat) t (u : Str → Option Value) h tk own, xs = pre ++ a :: post → OwnOff own ((Led c₀).map (·.1)) → P pre c →
      Fr h₀ env.locals h (fun y => if y = x then some (.int (a : Nat) t) else kstB (fun z => if stored.contains z then u z else m₀ z) (ps c) y) → News h₀ env.locals h (Led c ++ own) →
      wpAny (model prog w) A (execs body env) (InvPostN h₀ env.locals (Turn Led ps x stored m₀ (P (pre ++ [a]))) own ((Led c₀).map (·.1)) { s with heap := h, toks := tk } Q) E { s with heap := h, toks := tk })
    (done : ∀ (c : σ) (u : Str → Option Value) h tk, P xs c → Fr h₀ env.locals h (fun y => if y = x then u y else kstB (fun z => if stored.contains z then u z else m₀ z) (ps c) y) → News h₀ env.locals h (Led c) → Q .next { s with heap := h, toks := tk }) :
    wpAny (model prog w) A (pyIter (.ref l)) (fun it s₂ => LoopAtV prog w A h₀ env x body Q E it s₂) E s := by
  have hls : s.heap.IsList l vs.toArray := hl.at fun o e => F.keep l o e
  obtain ⟨ol, hol, _⟩ := id hl
  have hlt : l < h₀.objs.size := Heap.lt_size hol
  have hne : l ≠ s.heap.objs.size := Nat.ne_of_lt (Nat.lt_trans (Nat.lt_of_lt_of_le hlt F.above) F.ns.lt)
  refine wpAny_pyIter_list hls ?_
  have W := Walks.list (prog := prog) (w := w) hh s.heap.objs.size l hne vs.toArray
  have hlen : vs.toArray.size = xs.length := by simpa using hi.length
  rw [hlen] at W
  refine loop_xs (I := s.heap.objs.size) xs (fun a t => Value.int (a : Nat) t) Led ps stored P c₀ W (fun i v hv => IntsAre.nats hi (by simpa using hv)) ?_ ?_ ?_ ?_ ⟨⟨_, Heap.get?_push_size _ rfl, rfl, rfl⟩, hls.at fun o e => Heap.get?_push_of_some _ e⟩ (F.push _) (fun p hp => ⟨Heap.get?_push_of_some _ (N p hp).1, (N p hp).2⟩) hk hp ?_ ?_
  · intro hm
    rcases List.mem_cons.mp hm with e | hm
    · exact absurd F.ns.lt (e ▸ Nat.lt_irrefl _)
    · exact absurd (Nat.lt_of_lt_of_le hlt F.above) ((List.mem_singleton.mp hm) ▸ Nat.lt_irrefl _)
  · intro b hb
    rw [List.mem_singleton.mp hb]
    exact next_is_new F
  · intro p hp hI
    exact absurd (Heap.lt_size (N p hp).1) ((List.mem_singleton.mp hI) ▸ Nat.lt_irrefl _)
  · intro p hp hI
    rcases List.mem_cons.mp hI with e | hm
    · exact absurd (Heap.lt_size (N p hp).1) (e ▸ Nat.lt_irrefl _)
    · have h3 := (N p hp).2.2
      rw [List.mem_singleton.mp hm, hol] at h3
      cases h3
  · intro c pre post a t u h tk own e ho hp F' N'
    exact turn c pre post a t u h tk own e ho hp F' N'
  · exact done

/-- over the numbers of bytes -/
theorem nats_bytes {σ : Type} {b : Array UInt8} {tb : Tok} {m₀ : Str → Option Value} (Led : σ → List (Addr × Obj)) (ps : σ → List (Str × Value)) (stored : List Str) (P : List Nat → σ → Prop) (c₀ : σ)
    (hh : A.handled = none) (F : Fr h₀ env.locals s.heap m₀) (N : News h₀ env.locals s.heap (Led c₀)) (hk : ∀ p ∈ ps c₀, m₀ p.1 = some p.2) (hp : P [] c₀)
    (turn : ∀ (c : σ) pre post (a : Nat) t (u : Str → Option Value) h tk own, (b.toList.map fun x => x.toNat) = pre ++ a :: post → OwnOff own ((Led c₀).map (·.1)) → P pre c →
      Fr h₀ env.locals h (fun y => if y = x then some (.int (a : Nat) t) else kstB (fun z => if stored.contains z then u z else m₀ z) (ps c) y) → News h₀ env.locals h (Led c ++ own) →
      wpAny (model prog w) A (execs body env) (InvPostN h₀ env.locals (Turn Led ps x stored m₀ (P (pre ++ [a]))) own ((Led c₀).map (·.1)) { s with heap := h, toks := tk } Q) E { s with heap := h, toks := tk })
    (done : ∀ (c : σ) (u : Str → Option Value) h tk, P (b.toList.map fun x => x.toNat) c → Fr h₀ env.locals h (fun y => if y = x then u y else kstB (fun z => if stored.contains z then u z else m₀ z) (ps c) y) → News h₀ env.locals h (Led c) → Q .next { s with heap := h, toks := tk }) :
    wpAny (model prog w) A (pyIter (.bytes b tb)) (fun it s₂ => LoopAtV prog w A h₀ env x body Q E it s₂) E s := by
  refine KBw.pyIter_bytes ?_
  have W := KBw.walks (prog := prog) (w := w) hh s.heap.objs.size b tb
  have hlen : b.size = (b.toList.map fun x => x.toNat).length := by simp
  rw [hlen] at W
  refine loop_xs (I := s.heap.objs.size) (b.toList.map fun x => x.toNat) (fun a t => Value.int (a : Nat) t) Led ps stored P c₀ W ?_ ?_ ?_ ?_ ?_ ⟨_, Heap.get?_push_size _ rfl, rfl, rfl⟩ (F.push _) (fun p hp => ⟨Heap.get?_push_of_some _ (N p hp).1, (N p hp).2⟩) hk hp ?_ ?_
  · rintro i v ⟨c, u, hc, rfl⟩
    exact ⟨c.toNat, u, by simp [hc], rfl⟩
  · intro hm
    exact absurd F.ns.lt ((List.mem_singleton.mp hm) ▸ Nat.lt_irrefl _)
  · intro b' hb
    rw [List.mem_singleton.mp hb]
    exact next_is_new F
  · intro p hp hI
    exact absurd (Heap.lt_size (N p hp).1) ((List.mem_singleton.mp hI) ▸ Nat.lt_irrefl _)
  · intro p hp hI
    exact absurd (Heap.lt_size (N p hp).1) ((List.mem_singleton.mp hI) ▸ Nat.lt_irrefl _)
  · intro c pre post a t u h tk own e ho hp F' N'
    exact turn c pre post a t u h tk own e ho hp F' N'
  · exact done

/-- over a range that rises by ones -/
theorem nats_range {σ : Type} {r : Addr} {a₀ b₀ : Int} {t₀ u₀ v₀ : Tok} {n : Nat} {m₀ : Str → Option Value} (Led : σ → List (Addr × Obj)) (ps : σ → List (Str × Value)) (stored : List Str) (P : List Nat → σ → Prop) (c₀ : σ)
    (hh : A.handled = none) (hr : IsRange s.heap r a₀ b₀ 1 t₀ u₀ v₀) (hsmall : Builtin.Range.small a₀ b₀ 1 = true) (hn : Builtin.Range.rangeSize a₀ b₀ 1 = (n : Int)) (F : Fr h₀ env.locals s.heap m₀) (N : News h₀ env.locals s.heap (Led c₀)) (hk : ∀ p ∈ ps c₀, m₀ p.1 = some p.2) (hp : P [] c₀)
    (turn : ∀ (c : σ) pre post (a : Nat) t (u : Str → Option Value) h tk own, List.range n = pre ++ a :: post → OwnOff own ((Led c₀).map (·.1)) → P pre c →
      Fr h₀ env.locals h (fun y => if y = x then some (.int (a₀ + (a : Nat)) t) else kstB (fun z => if stored.contains z then u z else m₀ z) (ps c) y) → News h₀ env.locals h (Led c ++ own) →
      wpAny (model prog w) A (execs body env) (InvPostN h₀ env.locals (Turn Led ps x stored m₀ (P (pre ++ [a]))) own ((Led c₀).map (·.1)) { s with heap := h, toks := tk } Q) E { s with heap := h, toks := tk })
    (done : ∀ (c : σ) (u : Str → Option Value) h tk, P (List.range n) c → Fr h₀ env.locals h (fun y => if y = x then u y else kstB (fun z => if stored.contains z then u z else m₀ z) (ps c) y) → News h₀ env.locals h (Led c) → Q .next { s with heap := h, toks := tk }) :
    wpAny (model prog w) A (pyIter (.ref r)) (fun it s₂ => LoopAtV prog w A h₀ env x body Q E it s₂) E s := by
  refine wpAny_pyIter_range hr hsmall ?_
  have W : Walks prog w A s.heap.objs.size [s.heap.objs.size] [s.heap.objs.size] n (fun i v => i < n ∧ ∃ t, v = .int (a₀ + i * 1) t)
      (fun i h => IsRangeIter h s.heap.objs.size (a₀ + (i : Nat) * 1) ((n : Int) - (i : Nat)) 1) := (Walks.range hh _ a₀ 1 n).bound
  have hlen : n = (List.range n).length := by simp
  have W' : Walks prog w A s.heap.objs.size [s.heap.objs.size] [s.heap.objs.size] (List.range n).length (fun i v => i < n ∧ ∃ t, v = .int (a₀ + i * 1) t)
      (fun i h => IsRangeIter h s.heap.objs.size (a₀ + (i : Nat) * 1) ((n : Int) - (i : Nat)) 1) := by rw [← hlen]; exact W
  refine loop_xs (I := s.heap.objs.size) (List.range n) (fun a t => Value.int (a₀ + (a : Nat)) t) Led ps stored P c₀ W' ?_ ?_ ?_ ?_ ?_ (by show IsRangeIter _ _ _ _ _; rw [hn]; simpa using Heap.get?_push_size _ rfl) (F.push _) (fun p hp => ⟨Heap.get?_push_of_some _ (N p hp).1, (N p hp).2⟩) hk hp ?_ ?_
  · rintro i v ⟨hi, t, rfl⟩
    exact ⟨i, t, by simp [hi], by simp⟩
  · intro hm
    exact absurd F.ns.lt ((List.mem_singleton.mp hm) ▸ Nat.lt_irrefl _)
  · intro b' hb
    rw [List.mem_singleton.mp hb]
    exact next_is_new F
  · intro p hp hI
    exact absurd (Heap.lt_size (N p hp).1) ((List.mem_singleton.mp hI) ▸ Nat.lt_irrefl _)
  · intro p hp hI
    exact absurd (Heap.lt_size (N p hp).1) ((List.mem_singleton.mp hI) ▸ Nat.lt_irrefl _)
  · intro c pre post a t u h tk own e ho hp F' N'
    exact turn c pre post a t u h tk own e ho hp F' N'
  · exact done
end
end Mine
end MBpart
section MCpart
set_option exponentiation.threshold 10000
namespace Mine
/-! ## comprehensions whose element only reckons -/
noncomputable def All2 {α β : Type} (G : α → β → Prop) : List α → List β → Prop
  | [], [] => True
  | a :: xs, b :: ys => G a b ∧ All2 G xs ys
  | [], _ :: _ => False
  | _ :: _, [] => False
theorem All2.nil {α β : Type} {G : α → β → Prop} : All2 G [] [] := trivial
theorem All2.snoc {α β : Type} {G : α → β → Prop} {a : α} {b : β} (h : G a b) : ∀ {xs : List α} {ys : List β}, All2 G xs ys → All2 G (xs ++ [a]) (ys ++ [b])
  | [], [], _ => ⟨h, trivial⟩
  | _ :: _, _ :: _, g => ⟨g.1, All2.snoc h g.2⟩
  | [], _ :: _, g => g.elim
  | _ :: _, [], g => g.elim
theorem All2.ints {α : Type} {f : α → Int} : ∀ {xs : List α} {ys : List Value}, All2 (fun a y => ∃ t, y = Value.int (f a) t) xs ys → IntsAre ys (xs.map f)
  | [], [], _ => .nil
  | _ :: _, _ :: _, g => by
    obtain ⟨⟨t, rfl⟩, g⟩ := g
    exact .cons _ t (All2.ints g)
  | [], _ :: _, g => g.elim
  | _ :: _, [], g => g.elim
theorem All2.strs {α : Type} {f : α → Str} : ∀ {xs : List α} {ys : List Value}, All2 (fun a y => ∃ t, y = Value.str (f a) t) xs ys → StrsAre ys (xs.map f)
  | [], [], _ => .nil
  | _ :: _, _ :: _, g => by
    obtain ⟨⟨t, rfl⟩, g⟩ := g
    exact .cons _ t (All2.strs g)
  | [], _ :: _, g => g.elim
  | _ :: _, [], g => g.elim
section
variable {prog : Program} {w : World} {A : Around} {E : Value → Shared → Prop} {s : Shared} {h₀ : Heap} {L : Addr} {m : Str → Option Value} {env : Env} {elt : Expr} {x : Str} {scope : Scope} {cl : List (Str × Addr)}

/-- the element's end: its value, and nothing made -/
noncomputable def ElEnd {α : Type} (G : α → Value → Prop) (a : α) (s : Shared) (h : Heap) (y : Value) (s₂ : Shared) : Prop := G a y ∧ ∃ tk', s₂ = { s with heap := h, toks := tk' }
theorem ElEnd.mk {α : Type} {G : α → Value → Prop} {a : α} {s : Shared} {h : Heap} {y : Value} {tk' : Nat} (g : G a y) : ElEnd G a s h y { s with heap := h, toks := tk' } := ⟨g, _, rfl⟩
theorem comp_rest {α : Type} (xs : List α) (val : α → Tok → Value) (G : α → Value → Prop) {S : List (Addr × Obj) → Prop} {P : Nat → Value → Prop} {Fin : List Value → List (Addr × Obj) → Prop} {news : List (Addr × Obj)}
    {n : Nat} (hlen : xs.length = n) (hP : ∀ i v, P i v → ∃ a t, xs[i]? = some a ∧ v = val a t) (hS : S news)
    (turn : ∀ a t I oI C oC D m₂ ys h tk (E' : Value → Shared → Prop), a ∈ xs → LCg.NsObj oC m₂ → m₂ x = some (val a t) → Fr h₀ L h m → News h₀ L h ((I, oI) :: (C, oC) :: (D, LCg.lst ys) :: news) →
      wpAny (model prog w) A (eval elt (compEnvC scope cl C env)) (ElEnd G a s h) E' { s with heap := h, toks := tk })
    (fin : ∀ ys, All2 G xs ys → Fin ys news) : LCg.CompRest prog w A h₀ L m env elt x scope cl s S P Fin n 0 [] news := by
  subst hlen
  have key : ∀ (j i : Nat) (ys : List Value), i + j = xs.length → All2 G (xs.take i) ys → LCg.CompRest prog w A h₀ L m env elt x scope cl s S P Fin j i ys news := by
    intro j
    induction j with
    | zero =>
      intro i ys hi hy
      rw [show i = xs.length by lia, List.take_length] at hy
      exact LCg.CompRest.zero (fin ys hy)
    | succ j ih =>
      intro i ys hi hy
      refine LCg.CompRest.succ ?_
      intro v I oI C oC D m₂ h tk E' hv hC hx F N off ne
      obtain ⟨a, t, ha, rfl⟩ := hP i v hv
      refine wpAny_mono (turn a t I oI C oC D m₂ ys h tk E' (List.mem_of_getElem? ha) hC hx F N) (fun y s₂ hq => ?_) fun _ _ e => e
      obtain ⟨hg, tk', rfl⟩ := hq
      refine ⟨h, tk', news, rfl, F, N, off, hS, ih (i + 1) _ (by lia) ?_⟩
      rw [List.take_add_one, ha]
      exact hy.snoc hg
  exact key _ 0 [] (by lia) (by rw [List.take_zero]; exact .nil)

/-- the source: a range of any step -/
noncomputable def SrcAny (prog : Program) (w : World) (A : Around) (h₀ : Heap) (L : Addr) (m : Str → Option Value) (env : Env) (elt : Expr) (x : Str) (scope : Scope) (cl : List (Str × Addr)) (Fin : Shared → List Value → List (Addr × Obj) → Prop) (xv : Value) (s₁ : Shared) : Prop :=
  ∃ r a b c t u v n news, xv = .ref r ∧ A.handled = none ∧ Fr h₀ L s₁.heap m ∧ News h₀ L s₁.heap news ∧ IsRange s₁.heap r a b c t u v ∧ Builtin.Range.small a b c = true ∧ Builtin.Range.rangeSize a b c = ((n : Nat) : Int) ∧ n ≤ sizeLine ∧
    ∀ s₂ : Shared, (∃ h, s₂ = { s₁ with heap := h }) → LCg.CompRest prog w A h₀ L m env elt x scope cl s₂ (fun _ => True) (fun i v => i < n ∧ ∃ t, v = .int (a + i * c) t) (Fin s₂) n 0 [] news

theorem range_stA {I : Addr} {a c : Int} {n : Nat} : ∀ i (h h' : Heap) (o : Obj) (nw : List (Addr × Obj)), IsRangeIter h I (a + (i : Nat) * c) ((n : Int) - (i : Nat)) c → h.get? I = some o → h'.get? I = some o → (∀ b o, h₀.get? b = some o → h'.get? b = some o) → News h₀ L h' nw → True → IsRangeIter h' I (a + (i : Nat) * c) ((n : Int) - (i : Nat)) c :=
  fun i h h' o nw st e e' _ _ _ => by
    have st' : h.get? I = some _ := st
    show h'.get? I = some _
    rw [e', ← e]; exact st'

theorem ListComp_range {iter : Expr} {px : Pos} {pos : Pos} {Q : Value → Shared → Prop} (F₀ : Fr h₀ L s.heap m)
    (hclos : closureFor scope env = pure cl) (hcell : ∀ y ∈ scope.names, y.2 ≠ .cell) (hkind : scope.kind = .function)
    (hnames : ∀ y ∈ scope.names, y.2 = .local → scope.names.lookup y.1 = some .local) (hx : scope.names.lookup x = some .local)
    (h : wpAny (model prog w) A (eval iter env) (SrcAny prog w A h₀ L m env elt x scope cl (fun s₂ => LCg.FinE h₀ L m s₂ Q)) E s)
    (hs : ∀ x, foldedSetIterable iter env x = pure x := by intro _; rfl) :
    wpAny (model prog w) A (eval (.ListComp elt [⟨.Name x px, iter, [], 0⟩] scope pos) env) Q E s := by
  rw [eval_ListComp]
  refine wpAny_comprehension_free (use := none) rfl hs hclos hkind hnames (wpAny_mono h (fun xv s₁ h₁ => ?_) fun _ _ e => e)
  obtain ⟨r, a, b, c, t, u, v, n, news, rfl, hh, F, N, hr, hsm, hn, hsz, R⟩ := h₁
  refine wpAny_pyIter_range hr hsm ?_
  refine LCg.block_U ((Walks.range hh s₁.heap.objs.size a c n).bound) hsz (fun i h st => ⟨_, st⟩) range_stA hcell hkind hx (by show IsRangeIter _ _ _ _ _; rw [hn]; simpa using Heap.get?_push_size _ rfl) (fun b hb => ?_)
    (F.keeps fun _ _ e => Heap.get?_push_of_some _ e) (N.grown fun _ _ e => Heap.get?_push_of_some _ e) (Nat.ne_of_lt F.ns.lt) (next_is_new F) (fun p hp => Nat.ne_of_lt (Heap.lt_size (N p hp).1)) trivial (R _ ⟨_, rfl⟩) ?_
  · rw [List.mem_singleton.mp hb]
    show s₁.heap.objs.size < (s₁.heap.push _).objs.size
    rw [Heap.size_push]; exact Nat.lt_succ_self _
  · intro D C h tk m' ys news' F' N' o1 hn hC₀ hD₀ hCL hDL hCD offC fin
    refine ⟨m', hn, fun h'' hs'' => fin D h'' tk (F'.change hs'' hCL hC₀) (fun p hp => ?_) o1⟩
    refine ⟨hs''.extBut _ _ ?_ (N' p hp).1, (N' p hp).2⟩
    rcases List.mem_cons.mp hp with rfl | hp
    · exact Ne.symm hCD
    · exact offC p hp
end

theorem rangeSize_down (n : Nat) : Builtin.Range.rangeSize ((n : Int) - 1) (-1) (-1) = (n : Int) := by
  unfold Builtin.Range.rangeSize
  simp only [show ¬ ((-1 : Int) > 0) by decide, if_false, show -(-1 : Int) = 1 by decide, Int.ediv_one]
  split <;> lia
theorem small_down {n : Nat} (h : n ≤ 16777216) : Builtin.Range.small ((n : Int) - 1) (-1) (-1) = true := by
  unfold Builtin.Range.small
  rw [rangeSize_down]
  simp only [Builtin.Range.rangeFitsLong, Bool.and_eq_true, Bool.or_eq_true, decide_eq_true_eq, beq_iff_eq, show ¬ ((-1 : Int) > 0) by decide, if_false]
  lia
section
variable {prog : Program} {w : World} {A : Around} {h₀ : Heap} {L : Addr} {m : Str → Option Value} {env : Env} {elt : Expr} {x : Str} {scope : Scope} {cl : List (Str × Addr)}
/-- the numbers under n, downwards -/
noncomputable def downs (n : Nat) : List Nat := (List.range n).map fun i => n - 1 - i
theorem downs_length (n : Nat) : (downs n).length = n := by unfold downs; rw [List.length_map, List.length_range]
theorem SrcAny.down {n : Nat} {news : List (Addr × Obj)} {r : Addr} {t u v : Tok} {Fin : Shared → List Value → List (Addr × Obj) → Prop} {s₁ : Shared} (G : Nat → Value → Prop)
    (hh : A.handled = none) (F : Fr h₀ L s₁.heap m) (N : News h₀ L s₁.heap news) (R : IsRange s₁.heap r ((n : Int) - 1) (-1) (-1) t u v) (hn : n ≤ 1000)
    (turn : ∀ g k t I oI C oC D m₂ ys h tk (E' : Value → Shared → Prop), k < n → LCg.NsObj oC m₂ → m₂ x = some (Value.int (k : Nat) t) → Fr h₀ L h m → News h₀ L h ((I, oI) :: (C, oC) :: (D, LCg.lst ys) :: news) →
      wpAny (model prog w) A (eval elt (compEnvC scope cl C env)) (ElEnd G k { s₁ with heap := g } h) E' { s₁ with heap := h, toks := tk })
    (fin : ∀ g ys, All2 G (downs n) ys → Fin { s₁ with heap := g } ys news) : SrcAny prog w A h₀ L m env elt x scope cl Fin (.ref r) s₁ := by
  refine ⟨r, _, _, _, t, u, v, n, news, rfl, hh, F, N, R, small_down (Nat.le_trans hn (by decide)), rangeSize_down _, by rw [sizeLine_eq]; exact Nat.le_trans hn (by decide), ?_⟩
  rintro _ ⟨g, rfl⟩
  refine comp_rest (downs n) (fun k t => Value.int (k : Nat) t) G (by simp [downs]) ?_ trivial ?_ fun ys hys => fin g ys hys
  · rintro i v ⟨hi, t, rfl⟩
    refine ⟨n - 1 - i, t, by simp [downs, hi], ?_⟩
    congr 1
    lia
  · intro k t I oI C oC D m₂ ys h tk E' hk hC hx F N
    refine turn g k t I oI C oC D m₂ ys h tk E' ?_ hC hx F N
    obtain ⟨i, hi, rfl⟩ := List.mem_map.mp hk
    have := List.mem_range.mp hi
    lia
end
theorem fdiv_nat (a b : Nat) : (a : Int).fdiv (b : Int) = ((a / b : Nat) : Int) := by
  rw [Int.fdiv_eq_ediv_of_nonneg _ (Int.natCast_nonneg _)]; rfl
theorem fmod_nat (a b : Nat) : (a : Int).fmod (b : Int) = ((a % b : Nat) : Int) := by
  rw [Int.fmod_eq_emod_of_nonneg _ (Int.natCast_nonneg _)]; rfl

section
variable {prog : Program} {w : World} {A : Around} {E : Value → Shared → Prop} {s : Shared} {Q : Value → Shared → Prop} {x y : Int} {t u : Tok}
theorem noPylong_nat (x : Int) {b : Nat} (hb : b ≤ 2 ^ 8000) : Builtin.divisionGoesByPylong x (b : Int) = false := by
  refine PyProof.noPylong_of_log2 ?_
  rw [Int.natAbs_natCast]
  by_cases h0 : b = 0
  · subst h0; decide +kernel
  · refine (Nat.log2_lt h0).mpr (Nat.lt_of_le_of_lt hb ?_)
    exact Nat.pow_lt_pow_right (by decide) (by decide)
theorem floordiv_nat (a b : Nat) (hx : x = (a : Int)) (hy : y = (b : Int)) (hb : 0 < b) (hb2 : b ≤ 2 ^ 8000) (h : Q (.int ((a / b : Nat) : Int) s.toks) { s with toks := s.toks + 1 }) :
    wpAny (model prog w) A (binaryOp .FloorDiv (.int x t) (.int y u)) Q E s := by
  subst hx; subst hy
  refine floordiv_int (by lia) ?_ (Or.inl (noPylong_nat _ hb2))
  rw [fdiv_nat]; exact h
theorem mod_nat (a b : Nat) (hx : x = (a : Int)) (hy : y = (b : Int)) (hb : 0 < b) (h : Q (.int ((a % b : Nat) : Int) s.toks) { s with toks := s.toks + 1 }) :
    wpAny (model prog w) A (binaryOp .Mod (.int x t) (.int y u)) Q E s := by
  subst hx; subst hy
  refine PyProof.Rows.mod_int (by lia) ?_
  rw [fmod_nat]; exact h
theorem pow_nat (a b : Nat) (hx : x = (a : Int)) (hy : y = (b : Int)) (ha : a < 2 ^ 64) (hb : b ≤ 1000000) (h : Q (.int ((a ^ b : Nat) : Int) s.toks) { s with toks := s.toks + 1 }) :
    wpAny (model prog w) A (binaryOp .Pow (.int x t) (.int y u)) Q E s := by
  subst hx; subst hy
  refine pow_int_small (by lia) (by lia) (by simpa using ha) ?_
  have e : ((a : Int) ^ (b : Int).toNat) = ((a ^ b : Nat) : Int) := by simp
  rw [e]; exact h
end
section
variable {prog : Program} {w : World} {A : Around} {E : Value → Shared → Prop} {s : Shared} {Q : Value → Shared → Prop} {x y : Int} {t u : Tok}
theorem mul_nat (a b : Nat) (hx : x = (a : Int)) (hy : y = (b : Int)) (hb : b < 2 ^ 64) (h : Q (.int ((a * b : Nat) : Int) s.toks) { s with toks := s.toks + 1 }) :
    wpAny (model prog w) A (binaryOp .Mult (.int x t) (.int y u)) Q E s := by
  subst hx; subst hy
  refine P.mul_int ?_ (IntMulOk.of_right (PySem.intBits_le_64 (by lia) (by lia)))
  have e : (a : Int) * (b : Int) = ((a * b : Nat) : Int) := by push_cast; rfl
  rw [e]; exact h
end
theorem mem_one {α : Type} {a : α} {l : List α} (h : a ∈ l) : ∀ p ∈ [a], p ∈ l := fun p hp => by rw [List.mem_singleton.mp hp]; exact h
theorem pow_small {b k : Nat} (hb : b ≤ 2 ^ 8) (hk : k ≤ 1000) : b ^ k ≤ 2 ^ 8000 := by
  have h1 : b ^ k ≤ (2 ^ 8) ^ k := Nat.pow_le_pow_left hb k
  rw [← Nat.pow_mul] at h1
  exact Nat.le_trans h1 (Nat.pow_le_pow_right (by decide) (by lia))
end Mine
end MCpart
section MDpart
namespace Mine
/-! ## a loop whose ledger may change its addresses -/
section
variable {prog : Program} {w : World} {A : Around} {E : Value → Shared → Prop} {s : Shared} {env : Env} {h₀ : Heap} {x : Str} {body : List Stmt} {Q : Flow → Shared → Prop}
noncomputable def InvEndG (h₀ : Heap) (L : Addr) (J : (Str → Option Value) → List (Addr × Obj) → Prop) (own : List (Addr × Obj)) (s₁ s₂ : Shared) : Prop :=
  ∃ h' tk m' news' nx, s₂ = { s₁ with heap := h', toks := tk } ∧ Fr h₀ L h' m' ∧ News h₀ L h' news' ∧ (∀ p ∈ nx, p ∈ news') ∧ (∀ p ∈ own, p ∈ news') ∧ (∀ p ∈ nx, ∀ q ∈ own, p.1 ≠ q.1) ∧ J m' nx
noncomputable def InvPostG (h₀ : Heap) (L : Addr) (J : (Str → Option Value) → List (Addr × Obj) → Prop) (own : List (Addr × Obj)) (s₁ : Shared) (Q : Flow → Shared → Prop) (f : Flow) (s₂ : Shared) : Prop :=
  match f with
  | .ret v => Q (.ret v) s₂
  | .brk => Q .next s₂
  | _ => InvEndG h₀ L J own s₁ s₂

theorem loop_xsG {σ α : Type} {I : Addr} {fp wr : List Addr} {PV : Nat → Value → Prop} {St : Nat → Heap → Prop} (xs : List α) (val : α → Tok → Value) {m₀ : Str → Option Value}
    (Led : σ → List (Addr × Obj)) (ps : σ → List (Str × Value)) (stored : List Str) (P : List α → σ → Prop) (c₀ : σ)
    (W : Walks prog w A I fp wr xs.length PV St) (hPV : ∀ i v, PV i v → ∃ a t, xs[i]? = some a ∧ v = val a t) (hLf : env.locals ∉ fp) (hwr : ∀ b ∈ wr, h₀.get? b = none) (hnw : ∀ p ∈ Led c₀, p.1 ∉ wr)
    (hfw : ∀ b ∈ fp, b ∈ wr ∨ ∃ o, h₀.get? b = some o) (hIo : ∀ i h, St i h → ∀ b ∈ wr, ∃ o, h.get? b = some o)
    (hst : St 0 s.heap) (F : Fr h₀ env.locals s.heap m₀) (N : News h₀ env.locals s.heap (Led c₀)) (hk : ∀ p ∈ ps c₀, m₀ p.1 = some p.2) (hp : P [] c₀)
    (turn : ∀ (c : σ) pre post a t (u : Str → Option Value) h tk own, xs = pre ++ a :: post → OwnOff own ((Led c).map (·.1)) → P pre c →
      Fr h₀ env.locals h (fun y => if y = x then some (val a t) else kstB (fun z => if stored.contains z then u z else m₀ z) (ps c) y) → News h₀ env.locals h (Led c ++ own) →
      wpAny (model prog w) A (execs body env) (InvPostG h₀ env.locals (Turn Led ps x stored m₀ (P (pre ++ [a]))) own { s with heap := h, toks := tk } Q) E { s with heap := h, toks := tk })
    (done : ∀ (c : σ) (u : Str → Option Value) h tk, P xs c → Fr h₀ env.locals h (fun y => if y = x then u y else kstB (fun z => if stored.contains z then u z else m₀ z) (ps c) y) → News h₀ env.locals h (Led c) → Q .next { s with heap := h, toks := tk }) :
    LoopAtV prog w A h₀ env x body Q E (.ref I) s := by
  refine ⟨I, fp, wr, xs.length, PV, St, m₀, Led c₀, (fun i m nx => Turn Led ps x stored m₀ (P (xs.take i)) m nx), rfl, W, hLf, hwr, hnw, hst, F, N, ⟨c₀, rfl, hk, fun _ _ _ _ => rfl, by simpa using hp⟩, ?_, ?_⟩
  · rintro i v m₁ nx s₁ own ⟨hh', tk', rfl⟩ hi hv ⟨c, rfl, h1, h2, hp'⟩ hoff hown hget hall hst₁ F₁ N₁
    obtain ⟨a, t, hn, rfl⟩ := hPV i v hv
    have hs : xs.take (i + 1) = xs.take i ++ [a] := by simp [List.take_add_one, hn]
    have e : xs = xs.take i ++ a :: xs.drop (i + 1) := by
      have ht := List.take_append_drop (i + 1) xs
      rw [hs, List.append_assoc] at ht
      exact ht.symm
    have hownwr : ∀ p ∈ own, p.1 ∈ wr := fun p hp => by
      rcases hfw _ (hown p hp) with h | ⟨o, ho⟩
      · exact h
      · have := (N₁ p (List.mem_append_left _ hp)).2.2
        rw [ho] at this; cases this
    have hsep : OwnOff own ((Led c).map (·.1)) := by
      intro p hp b hb e
      obtain ⟨q, hq, rfl⟩ := List.mem_map.mp hb
      exact hoff q hq (e ▸ hownwr p hp)
    have N₂ : News h₀ env.locals hh' (Led c ++ own) := fun p hp => N₁ p ((List.mem_append.mp hp).elim (fun h => List.mem_append.mpr (.inr h)) fun h => List.mem_append.mpr (.inl h))
    show wpAny (model prog w) A (execs body env) (LoopStepV h₀ env.locals wr own (fun m nx => Turn Led ps x stored m₀ (P (xs.take (i + 1))) m nx) { s with heap := hh', toks := tk' } (fun v s' => Q (.ret v) s') fun s' => Q .next s') E { s with heap := hh', toks := tk' }
    rw [hs]
    refine wpAny_mono (turn c _ _ a t m₁ hh' tk' own e hsep hp' (kst_fr h1 h2 F₁) N₂) (fun f s₂ p => ?_) fun _ _ e => e
    have fin : InvEndG h₀ env.locals (Turn Led ps x stored m₀ (P (xs.take i ++ [a]))) own { s with heap := hh', toks := tk' } s₂ → LoopStepU h₀ env.locals wr own (fun m nx => Turn Led ps x stored m₀ (P (xs.take i ++ [a])) m nx) { s with heap := hh', toks := tk' } .next s₂ := by
      rintro ⟨h', tk, m', news', nx', e', F', N', hn', ho', hap, hm⟩
      refine ⟨rfl, h', tk, m', nx', e', F', fun p hp => N' p ((List.mem_append.mp hp).elim (ho' p) (hn' p)), fun p hp hq => ?_, hm⟩
      obtain ⟨o, ho⟩ := hIo _ _ hst₁ _ hq
      exact hap p hp _ (hall _ (W.sub _ hq) (hwr _ hq) o ho) rfl
    cases f with
    | ret v => exact .ret p
    | brk => exact .brk p
    | next => exact .next (fin p)
    | cont => exact .cont (fin p)
  · rintro h tk m₁ nx F₁ N₁ _ ⟨c, rfl, h1, h2, hp'⟩
    rw [List.take_length] at hp'
    exact done c m₁ h tk hp' (kst_frOut h1 h2 F₁) N₁

theorem turn_endG {σ : Type} {Led : σ → List (Addr × Obj)} {ps : σ → List (Str × Value)} {stored : List Str} {m₀ : Str → Option Value} {P : σ → Prop} (c : σ) {L : Addr} {m' : Str → Option Value} {own news' : List (Addr × Obj)} {s₁ : Shared} {h' : Heap} {tk : Nat}
    (F : Fr h₀ L h' m') (N : News h₀ L h' news') (hn : ∀ p ∈ Led c, p ∈ news') (ho : ∀ p ∈ own, p ∈ news') (ha : ∀ p ∈ Led c, ∀ q ∈ own, p.1 ≠ q.1) (hk : ∀ p ∈ ps c, m' p.1 = some p.2) (hr : ∀ z, z ≠ x → (∀ p ∈ ps c, z ≠ p.1) → stored.contains z = false → m' z = m₀ z) (hp : P c) :
    InvEndG h₀ L (Turn Led ps x stored m₀ P) own s₁ { s₁ with heap := h', toks := tk } :=
  ⟨h', tk, m', news', _, rfl, F, N, hn, ho, ha, c, rfl, hk, hr, hp⟩

theorem nats_listG {σ : Type} {l : Addr} {vs : List Value} {xs : List Nat} {m₀ : Str → Option Value} (Led : σ → List (Addr × Obj)) (ps : σ → List (Str × Value)) (stored : List Str) (P : List Nat → σ → Prop) (c₀ : σ)
    (hh : A.handled = none) (hl : h₀.IsList l vs.toArray) (hi : IntsAre vs (xs.map fun (n : Nat) => (n : Int))) (F : Fr h₀ env.locals s.heap m₀) (N : News h₀ env.locals s.heap (Led c₀)) (hk : ∀ p ∈ ps c₀, m₀ p.1 = some p.2) (hp : P [] c₀)
    (turn : ∀ (c : σ) pre post (a : Nat) t (u : Str → Option Value) h tk own, xs = pre ++ a :: post → OwnOff own ((Led c).map (·.1)) → P pre c →
      Fr h₀ env.locals h (fun y => if y = x then some (.int (a : Nat) t) else kstB (fun z => if stored.contains z then u z else m₀ z) (ps c) y) → News h₀ env.locals h (Led c ++ own) →
      wpAny (model prog w) A (execs body env) (InvPostG h₀ env.locals (Turn Led ps x stored m₀ (P (pre ++ [a]))) own { s with heap := h, toks := tk } Q) E { s with heap := h, toks := tk })
    (done : ∀ (c : σ) (u : Str → Option Value) h tk, P xs c → Fr h₀ env.locals h (fun y => if y = x then u y else kstB (fun z => if stored.contains z then u z else m₀ z) (ps c) y) → News h₀ env.locals h (Led c) → Q .next { s with heap := h, toks := tk }) :
    wpAny (model prog w) A (pyIter (.ref l)) (fun it s₂ => LoopAtV prog w A h₀ env x body Q E it s₂) E s := by
  have hls : s.heap.IsList l vs.toArray := hl.at fun o e => F.keep l o e
  obtain ⟨ol, hol, _⟩ := id hl
  have hlt : l < h₀.objs.size := Heap.lt_size hol
  have hne : l ≠ s.heap.objs.size := Nat.ne_of_lt (Nat.lt_trans (Nat.lt_of_lt_of_le hlt F.above) F.ns.lt)
  refine wpAny_pyIter_list hls ?_
  have W := Walks.list (prog := prog) (w := w) hh s.heap.objs.size l hne vs.toArray
  have hlen : vs.toArray.size = xs.length := by simpa using hi.length
  rw [hlen] at W
  refine loop_xsG (I := s.heap.objs.size) xs (fun a t => Value.int (a : Nat) t) Led ps stored P c₀ W (fun i v hv => IntsAre.nats hi (by simpa using hv)) ?_ ?_ ?_ ?_ ?_ ⟨⟨_, Heap.get?_push_size _ rfl, rfl, rfl⟩, hls.at fun o e => Heap.get?_push_of_some _ e⟩ (F.push _) (fun p hp => ⟨Heap.get?_push_of_some _ (N p hp).1, (N p hp).2⟩) hk hp ?_ ?_
  · intro hm
    rcases List.mem_cons.mp hm with e | hm
    · exact absurd F.ns.lt (e ▸ Nat.lt_irrefl _)
    · exact absurd (Nat.lt_of_lt_of_le hlt F.above) ((List.mem_singleton.mp hm) ▸ Nat.lt_irrefl _)
  · intro b hb
    rw [List.mem_singleton.mp hb]
    exact next_is_new F
  · intro p hp hI
    exact absurd (Heap.lt_size (N p hp).1) ((List.mem_singleton.mp hI) ▸ Nat.lt_irrefl _)
  · intro b hb
    rcases List.mem_cons.mp hb with rfl | hb
    · exact .inl List.mem_cons_self
    · exact .inr ⟨ol, (List.mem_singleton.mp hb) ▸ hol⟩
  · intro i h st b hb
    obtain ⟨o, e, _⟩ := st.1
    exact ⟨o, (List.mem_singleton.mp hb) ▸ e⟩
  · intro c pre post a t u h tk own e ho hp F' N'
    exact turn c pre post a t u h tk own e ho hp F' N'
  · exact done
end

/-- an item of a list, told by a word -/
theorem item_pick {prog : Program} {w : World} {A : Around} {E : Value → Shared → Prop} {s : Shared} {value slice : Expr} {l : Addr} {vs : List Value} {k : Int} {u : Tok} {Q : Value → Shared → Prop}
    (hl : s.heap.IsList l vs.toArray) (h0 : 0 ≤ k) (hhi : k < 2 ^ 63) (R : Value → Prop) (hx : ∃ v, vs[k.toNat]? = some v ∧ R v) (h : ∀ v, R v → Q v s)
    (hs : subscripted slice false (.ref l) (.int k u) = operate [.ref l, .int k u] (getItem (.ref l) (.int k u)) := by with_unfolding_all rfl) :
    wpAny (model prog w) A (subscriptTail value slice (.ref l) (.int k u)) Q E s := by
  obtain ⟨v, hv, hr⟩ := hx
  exact tail_any hl.typeIs slot_list_getitem.lookup (wpAny_getItem_list hl h0 hhi (by simpa using hv) (h v hr)) hs

/-- one of several lists of numbers that the call has made -/
theorem pick_ints {prog : Program} {w : World} {A : Around} {E : Value → Shared → Prop} {s : Shared} {value slice : Expr} {h₀ : Heap} {L l : Addr} {vs : List Value} {n : Nat} {k : Int} {u : Tok} {news : List (Addr × Obj)} {Q : Value → Shared → Prop}
    (N : News h₀ L s.heap news) (hm : (l, listOf vs.toArray n) ∈ news) (h0 : 0 ≤ k) (hhi : k < 2 ^ 63) (ns : List Int) (hx : ∃ d ws n', vs[k.toNat]? = some (.ref d) ∧ (d, listOf ws n') ∈ news ∧ IntsAre ws.toList ns)
    (h : ∀ d ws n', (d, listOf ws n') ∈ news → IntsAre ws.toList ns → Q (.ref d) s)
    (hs : subscripted slice false (.ref l) (.int k u) = operate [.ref l, .int k u] (getItem (.ref l) (.int k u)) := by with_unfolding_all rfl) :
    wpAny (model prog w) A (subscriptTail value slice (.ref l) (.int k u)) Q E s := by
  obtain ⟨d, ws, n', hv, hd, hi⟩ := hx
  exact item_pick (N.isList hm) h0 hhi (fun v => v = .ref d) ⟨_, hv, rfl⟩ (fun v hv => by subst hv; exact h d ws n' hd hi) hs

theorem News.lst {h₀ h : Heap} {L l : Addr} {its : Array Value} {n : Nat} {news : List (Addr × Obj)} (N : PyProof.Rows.News h₀ L h news) (hm : (l, listOf its n) ∈ news) : h.IsList l its := ⟨_, (N _ hm).1, rfl, n, rfl⟩

theorem map_cast_inj {a b : List Nat} (h : a.map (fun (n : Nat) => (n : Int)) = b.map fun (n : Nat) => (n : Int)) : a = b := by
  induction a generalizing b with
  | nil => cases b with
    | nil => rfl
    | cons y r => cases h
  | cons x r ih => cases b with
    | nil => cases h
    | cons y q =>
      simp only [List.map_cons, List.cons.injEq] at h
      rw [ih h.2]
      have : x = y := by lia
      rw [this]
theorem decide_cast (a b : List Nat) : decide (a.map (fun (n : Nat) => (n : Int)) = b.map fun (n : Nat) => (n : Int)) = decide (a = b) := by
  by_cases h : a = b
  · subst h; simp
  · rw [decide_eq_false h, decide_eq_false fun e => h (map_cast_inj e)]
theorem eq_nats {prog : Program} {w : World} {A : Around} {E : Value → Shared → Prop} {s : Shared} {a b : Addr} {vs us : List Value} {ns ms : List Nat} {Q : Value → Shared → Prop} (hl : s.heap.IsList a vs.toArray) (hi : IntsAre vs (ns.map fun (n : Nat) => (n : Int)))
    (hl' : s.heap.IsList b us.toArray) (hi' : IntsAre us (ms.map fun (n : Nat) => (n : Int))) (hu : A.units + 64 < cLine)
    (h : Q (.bool (decide (ns = ms))) s) : wpAny (model prog w) A (compareOp .Eq (.ref a) (.ref b)) Q E s :=
  eq_intsK hl hi hl' hi' hu (by rw [decide_cast]; exact h)
theorem min_slice (k j n : Nat) : min (min (k + j) n - k) (n - k) = min j (n - k) := by
  rw [← Nat.sub_min_sub_right, Nat.add_sub_cancel_left, Nat.min_assoc, Nat.min_self]
theorem slice_nats (xs : List Nat) (k j : Nat) : List.take (min ((k : Int) + (j : Int)).toNat (xs.map fun (n : Nat) => (n : Int)).length - (k : Int).toNat) (List.drop (k : Int).toNat (xs.map fun (n : Nat) => (n : Int))) = ((xs.drop k).take j).map fun (n : Nat) => (n : Int) := by
  rw [List.map_take, List.map_drop, List.length_map, Int.toNat_natCast, List.take_eq_take_iff, List.length_drop, List.length_map, ← Int.natCast_add, Int.toNat_natCast]
  exact min_slice k j _

theorem mem_two {α : Type} {a b : α} {l : List α} (h : a ∈ l) (h' : b ∈ l) : ∀ p ∈ [a, b], p ∈ l := fun p hp => by
  rcases List.mem_cons.mp hp with rfl | hp
  · exact h
  · rw [List.mem_singleton.mp hp]; exact h'

theorem take_item {xs : List Nat} {k n i : Nat} {ys : List Nat} (h : (xs.drop k).take n = ys) (hi : i < n) : xs[k + i]? = ys[i]? := by
  rw [← h, List.getElem?_take_of_lt hi, List.getElem?_drop]
theorem item_nat {prog : Program} {w : World} {A : Around} {E : Value → Shared → Prop} {s : Shared} {value slice : Expr} {l : Addr} {vs : List Value} {xs : List Nat} {k : Int} {j v : Nat} {u : Tok} {Q : Value → Shared → Prop}
    (hl : s.heap.IsList l vs.toArray) (hi : IntsAre vs (xs.map fun (n : Nat) => (n : Int))) (hk : k = (j : Int)) (hj : j < 2 ^ 63) (hx : xs[j]? = some v) (h : ∀ t, Q (.int (v : Nat) t) s)
    (hs : subscripted slice false (.ref l) (.int k u) = operate [.ref l, .int k u] (getItem (.ref l) (.int k u)) := by with_unfolding_all rfl) :
    wpAny (model prog w) A (subscriptTail value slice (.ref l) (.int k u)) Q E s := by
  subst hk
  obtain ⟨t, ht⟩ := hi.get j (v : Int) (by simp [hx])
  exact item_pick hl (by lia) (by lia) (fun z => z = .int (v : Nat) t) ⟨_, by rw [Int.toNat_natCast]; exact ht, rfl⟩ (fun z hz => by subst hz; exact h t) hs
end Mine
end MDpart
section WalksA
local macro_rules | `(tactic| walk_at "exec For Name Name cons nil") => `(tactic| refine Mine.hold ?_)
local macro_rules | `(tactic| walk_at "exec For Name Call cons nil") => `(tactic| refine Mine.hold ?_)
local macro_rules | `(tactic| walk_at "pyIter ref") => `(tactic| refine Mine.hold ?_)
local macro_rules | `(tactic| walk_at "pyIter bytes") => `(tactic| refine Mine.hold ?_)
local macro_rules | `(tactic| walk_at "InvEndN") => `(tactic| refine Mine.hold ?_)
local macro_rules | `(tactic| walk_at "eval ListComp") => `(tactic| refine Mine.hold ?_)
local macro_rules | `(tactic| walk_at "call type:bytes") => `(tactic| refine Mine.hold ?_)
local macro_rules | `(tactic| walk_at "exec While Compare cons nil") => `(tactic| refine Mine.hold ?_)
section M1part
namespace Mine
noncomputable def b64v (c : Int) : Int := if 65 ≤ c ∧ c ≤ 90 then c - 65 else if 97 ≤ c ∧ c ≤ 122 then c - 71 else if 48 ≤ c ∧ c ≤ 57 then c + 4 else if c = 43 then 62 else if c = 47 then 63 else 64
section
variable {c : Int}
theorem b64v_1 (h : 65 ≤ c ∧ c ≤ 90) : c - 65 = b64v c := by unfold b64v; rw [if_pos h]
theorem b64v_2 (h1 : ¬ (65 ≤ c ∧ c ≤ 90)) (h : 97 ≤ c ∧ c ≤ 122) : c - 71 = b64v c := by unfold b64v; rw [if_neg h1, if_pos h]
theorem b64v_3 (h1 : ¬ (65 ≤ c ∧ c ≤ 90)) (h2 : ¬ (97 ≤ c ∧ c ≤ 122)) (h : 48 ≤ c ∧ c ≤ 57) : c + 4 = b64v c := by unfold b64v; rw [if_neg h1, if_neg h2, if_pos h]
theorem b64v_4 (h1 : ¬ (65 ≤ c ∧ c ≤ 90)) (h2 : ¬ (97 ≤ c ∧ c ≤ 122)) (h3 : ¬ (48 ≤ c ∧ c ≤ 57)) (h : c = 43) : 62 = b64v c := by unfold b64v; rw [if_neg h1, if_neg h2, if_neg h3, if_pos h]
theorem b64v_5 (h1 : ¬ (65 ≤ c ∧ c ≤ 90)) (h2 : ¬ (97 ≤ c ∧ c ≤ 122)) (h3 : ¬ (48 ≤ c ∧ c ≤ 57)) (h4 : ¬ c = 43) (h : c = 47) : 63 = b64v c := by unfold b64v; rw [if_neg h1, if_neg h2, if_neg h3, if_neg h4, if_pos h]
theorem b64v_6 (h1 : ¬ (65 ≤ c ∧ c ≤ 90)) (h2 : ¬ (97 ≤ c ∧ c ≤ 122)) (h3 : ¬ (48 ≤ c ∧ c ≤ 57)) (h4 : ¬ c = 43) (h : ¬ c = 47) : 64 = b64v c := by unfold b64v; rw [if_neg h1, if_neg h2, if_neg h3, if_neg h4, if_neg h]
end
section
local macro_rules | `(tactic| walk_at "isTrue Compare") => `(tactic| ((with_reducible show wpAny _ _ (isTrue (Expr.Compare _ [_, _] _ _) _ _) _ _ _); refine hold ?_))
theorem b64_value {prog : Program} {w : World} (c : Int) (t : Tok) (s : Shared) :
    Does prog w (top.heap_39 w.params) 1 8 70 [.int c t] [] s (fun v _ => ∃ t', v = .int (b64v c) t') := by
  w_top off
  intro p loose mean mg mb dp un gd cn cs a ccd outer A₀ base h₀ L m Q E B F X T hck hdp hun hret
  refine wpAny_call ?_
  k_dflt (refine' code_pure (binds := [(Str.ofString "c", .int c t)]) B F X T ?kA ?k6 ?k7 ?k8 ?k9 ?kB ?_ ?cK ?c2 ?c3 ?c4 ?c5)
  case kA => exact rfl
  case cK => assumption
  case k6 => k_is
  case k7 => k_is
  case k8 => ktr_room
  case k9 => first | exact BindsTo.of_eq rfl | exact binds_K (Frag.In.keeps X F.keep) rfl (by k_is) rfl rfl rfl
  case kB => exact locs rfl
  case c2 => exact rfl
  case c3 => exact rfl
  case c4 => exact rfl
  case c5 => decide
  clear B F X T
  intro h₁ F N B X T
  (try k_fold)
  k_steps
  refine Hold.of (decided (65 ≤ c ∧ c ≤ 90) ?_ (fun g1 k1 => ?_) (fun g1 k1 => ?_))
  · with_reducible refine isTrue_chain ?_
    k_steps
    all_goals first | exact ⟨and_no (by assumption), _, rfl⟩ | exact ⟨and_dec (by assumption), _, rfl⟩
  · k_steps
    exact hret _ _ _ (Fr.keep (by assumption)) ⟨_, congrArg (fun z => Value.int z _) (b64v_1 g1)⟩
  k_steps
  refine Hold.of (decided (97 ≤ c ∧ c ≤ 122) ?_ (fun g2 k2 => ?_) (fun g2 k2 => ?_))
  · with_reducible refine isTrue_chain ?_
    k_steps
    all_goals first | exact ⟨and_no (by assumption), _, rfl⟩ | exact ⟨and_dec (by assumption), _, rfl⟩
  · k_steps
    exact hret _ _ _ (Fr.keep (by assumption)) ⟨_, congrArg (fun z => Value.int z _) (b64v_2 g1 g2)⟩
  k_steps
  refine Hold.of (decided (48 ≤ c ∧ c ≤ 57) ?_ (fun g3 k3 => ?_) (fun g3 k3 => ?_))
  · with_reducible refine isTrue_chain ?_
    k_steps
    all_goals first | exact ⟨and_no (by assumption), _, rfl⟩ | exact ⟨and_dec (by assumption), _, rfl⟩
  · k_steps
    exact hret _ _ _ (Fr.keep (by assumption)) ⟨_, congrArg (fun z => Value.int z _) (b64v_3 g1 g2 g3)⟩
  k_steps
  all_goals (refine hret _ _ _ (Fr.keep (by assumption)) ⟨_, congrArg (fun z => Value.int z _) ?_⟩)
  · exact b64v_4 g1 g2 g3 (by assumption)
  · exact b64v_5 g1 g2 g3 (by assumption) (by assumption)
  · exact b64v_6 g1 g2 g3 (by assumption) (by assumption)
end
end Mine
end M1part
section M2part
namespace Mine
noncomputable def W64 (fs : List Nat) : Nat := fs.foldl (fun a f => a * 64 + f) 0
theorem W64_snoc (xs : List Nat) (a : Nat) : ((W64 (xs ++ [a]) : Nat) : Int) = (W64 xs : Nat) * 64 + (a : Nat) := by
  simp [W64]
noncomputable def bsA (xs : List Nat) : Array UInt8 := (xs.map fun n => n.toUInt8).toArray
theorem byteArr_nat {α : Type} (f : α → Nat) (xs : List α) : byteArr (xs.map fun k => ((f k : Nat) : Int)) = bsA (xs.map f) := by
  unfold byteArr bsA
  rw [List.map_map, List.map_map]; rfl
noncomputable def octW (fs : List Nat) : Nat := W64 fs / 2 ^ (6 * fs.length - 8 * (6 * fs.length / 8))
noncomputable def octs (fs : List Nat) : List Nat := ((List.range (6 * fs.length / 8)).map fun i => 6 * fs.length / 8 - 1 - i).map fun k => octW fs / 256 ^ k % 256
section
local macro_rules | `(tactic| walk_at "binaryOp Pow int int") => `(tactic| refine Mine.hold ?_)
local macro_rules | `(tactic| walk_at "binaryOp FloorDiv int int") => `(tactic| refine Mine.hold ?_)
local macro_rules | `(tactic| walk_at "binaryOp Mod int int") => `(tactic| refine Mine.hold ?_)
theorem octets_walk {prog : Program} {w : World} (l : Addr) (vs : List Value) (fs : List Nat) (s : Shared)
   (hl : s.heap.IsList l vs.toArray) (hi : IntsAre vs (fs.map fun (n : Nat) => (n : Int))) (hn : fs.length ≤ 1000) :
    Does prog w (top.heap_39 w.params) 1 8 139 [.ref l] [] s (fun v _ => ∃ t', v = .bytes (bsA (octs fs)) t') := by
  w_top off
  intro p loose mean mg mb dp un gd cn cs a ccd outer A₀ base h₀ L m Q E B F X T hck hdp hun hret
  refine wpAny_call ?_
  k_dflt (refine' code_pureC (binds := [(Str.ofString "figures", .ref l)]) B F X T ?kA ?k6 ?k7 ?k8 ?k9 ?kB ?kN ?_ ?cK ?c2 ?c3 ?c4)
  case kA => exact rfl
  case cK => assumption
  case k6 => k_is
  case k7 => k_is
  case k8 => ktr_room
  case k9 => first | exact BindsTo.of_eq rfl | exact binds_K (Frag.In.keeps X F.keep) rfl (by k_is) rfl rfl rfl
  case kB => exact rfl
  case kN => decide
  case c2 => exact rfl
  case c3 => exact rfl
  case c4 => exact rfl
  clear B F X T
  intro h₁ tk₁ cells F N Y B X T
  obtain ⟨o₁, rfl, d₁⟩ := CellsAre.one Y
  clear Y
  (try k_fold)
  k_steps
  refine Hold.of ?_
  with_unfolding_all refine' For_invVF (by assumption) ?k1 ?k2 ?_
  case k1 => exact rfl
  case k2 => exact rfl
  k_steps
  refine Hold.of ?_
  rename_i h₂ o₂ F₂ N₂ d₂
  with_unfolding_all refine' nats_list (σ := Obj) (fun c => [(s.heap.objs.size + 1, c)]) (fun _ => []) [] (fun pre c => ∃ t, c.data = .cell (some (.int (W64 pre : Nat) t))) o₂ rfl hl hi F₂ N₂ ?hk ?hp ?_ ?_
  case hk => kst_all
  case hp => exact ⟨_, d₂⟩
  · intro c pre post a t u h tk own e ho hP F N
    clear F₂ N₂
    obtain ⟨t₃, hP⟩ := hP
    try dsimp only at N
    dsimp only [kstB] at F
    simp only [List.cons_append, List.nil_append] at N
    (try k_fold)
    k_steps
    rename_i h₃ o₄ F₃ N₃ d₃
    refine turn_end o₄ F₃ N₃ (by simp) (fun p hp => List.mem_cons_of_mem _ hp) rfl (by kst_all) (by kst_same) ?_
    rw [W64_snoc]
    exact ⟨_, d₃⟩
  · intro c u h tk hP F N
    clear F₂ N₂
    obtain ⟨t₃, hP⟩ := hP
    try dsimp only at N
    dsimp only [kstB] at F
    (try k_fold)
    have hd : 6 * fs.length / 8 ≤ 1000 := by lia
    have hlen : (fs.map fun (n : Nat) => (n : Int)).length = fs.length := List.length_map _
    k_steps
    refine Hold.of (floordiv_nat (6 * fs.length) 8 (by rw [hlen]; push_cast; rfl) rfl (by decide) (by exact Nat.le_of_ble_eq_true rfl) ?_)
    k_steps
    refine Hold.of (pow_nat 2 (6 * fs.length - 8 * (6 * fs.length / 8)) rfl (by rw [hlen]; push_cast; lia) (by decide) (by lia) ?_)
    k_steps
    refine Hold.of (floordiv_nat (W64 fs) (2 ^ (6 * fs.length - 8 * (6 * fs.length / 8))) rfl rfl (Nat.pow_pos (by decide)) (pow_small (by decide) (by lia)) ?_)
    k_steps
    refine Hold.of ?_
    rename_i h₃ o₄ F₃ N₃ d₃
    k_dflt (refine' ListComp_range F₃ ?c1 ?c2 ?c3 ?c4 ?c5 ?_)
    case c1 => with_unfolding_all rfl
    case c2 => decide
    case c3 => rfl
    case c4 => decide
    case c5 => rfl
    k_steps
    rename_i h₅ tk₅ t₅ u₅ v₅ R₅ F₅ N₅ K₅
    refine SrcAny.down (n := 6 * fs.length / 8) (fun k y => ∃ t, y = Value.int ((octW fs / 256 ^ k % 256 : Nat) : Int) t) rfl F₅ N₅ R₅ hd ?_ ?_
    · intro g k t I oI C oC D m₂ ys h tk E' hk hC hx F N
      have hk' : k ≤ 1000 := Nat.le_trans (Nat.le_of_lt hk) hd
      k_steps
      refine Hold.of (pow_nat 256 k rfl rfl (by decide) (Nat.le_trans hk' (by decide)) ?_)
      k_steps
      refine Hold.of (floordiv_nat (octW fs) (256 ^ k) rfl rfl (Nat.pow_pos (by decide)) (pow_small (by decide) hk') ?_)
      k_steps
      refine Hold.of (mod_nat (octW fs / 256 ^ k) 256 rfl rfl (by decide) ?_)
      exact ElEnd.mk ⟨_, rfl⟩
    · intro g ys hys
      intro D h tk F N off
      k_steps
      refine Hold.of (call_bytes_ints (vs := ys) (News.isList N (List.mem_cons_self)) hys.ints ?_ ?_ rfl ?_)
      · intro n hn
        obtain ⟨k, hk, rfl⟩ := List.mem_map.mp hn
        lia
      · have := hys.ints.length
        rw [List.length_map, downs_length] at this
        rw [sizeLine_eq]
        first | (rw [this]; exact Nat.le_trans hd (by decide)) | (rw [← this]; exact Nat.le_trans (Nat.le_of_eq this) (Nat.le_trans hd (by decide)))
      · intro h' t k hk
        exact hret _ h' k (fun b o e => hk b o (Fr.keep F b o e)) ⟨t, congrArg (fun z => Value.bytes z t) (byteArr_nat _ _)⟩
end
end Mine
end M2part
section M3part
namespace Mine
theorem bsA_nats {os : List Nat} (h : ∀ o ∈ os, o < 256) : ((bsA os).toList.map fun x => x.toNat) = os := by
  unfold bsA
  rw [List.map_map]
  conv => rhs; rw [← List.map_id os]
  apply List.map_congr_left
  intro o ho
  have := h o ho
  show o % 256 = o
  lia
theorem bsA_size (os : List Nat) : (bsA os).size = os.length := by simp [bsA]
noncomputable def W256 (os : List Nat) : Nat := os.foldl (fun a f => a * 256 + f) 0
theorem W256_snoc (xs : List Nat) (a : Nat) : ((W256 (xs ++ [a]) : Nat) : Int) = (W256 xs : Nat) * 256 + (a : Nat) := by
  simp [W256]
noncomputable def figW (os : List Nat) : Nat := W256 os * 2 ^ (6 * ((8 * os.length + 5) / 6) - 8 * os.length)
noncomputable def figs (os : List Nat) : List Nat := ((List.range ((8 * os.length + 5) / 6)).map fun i => (8 * os.length + 5) / 6 - 1 - i).map fun k => figW os / 64 ^ k % 64
/-- a list of numbers that was made between h and h' -/
noncomputable def NewNats (h h' : Heap) (v : Value) (xs : List Nat) : Prop := ∃ l vs n, v = .ref l ∧ h.get? l = none ∧ h'.get? l = some (listOf vs.toArray n) ∧ IntsAre vs (xs.map fun (n : Nat) => (n : Int))
section
local macro_rules | `(tactic| walk_at "binaryOp Pow int int") => `(tactic| refine Mine.hold ?_)
local macro_rules | `(tactic| walk_at "binaryOp FloorDiv int int") => `(tactic| refine Mine.hold ?_)
local macro_rules | `(tactic| walk_at "binaryOp Mod int int") => `(tactic| refine Mine.hold ?_)
theorem figures_walk {prog : Program} {w : World} (os : List Nat) (tb : Tok) (s : Shared) (hb : ∀ f ∈ os, f < 256) (hn : os.length ≤ 700) :
    Does prog w (top.heap_39 w.params) 1 8 144 [.bytes (bsA os) tb] [] s (fun v h' => NewNats s.heap h' v (figs os)) := by
  w_top off
  intro p loose mean mg mb dp un gd cn cs a ccd outer A₀ base h₀ L m Q E B F X T hck hdp hun hret
  refine wpAny_call ?_
  k_dflt (refine' code_pureC (binds := [(Str.ofString "octets", .bytes (bsA os) tb)]) B F X T ?kA ?k6 ?k7 ?k8 ?k9 ?kB ?kN ?_ ?cK ?c2 ?c3 ?c4)
  case kA => exact rfl
  case cK => assumption
  case k6 => k_is
  case k7 => k_is
  case k8 => ktr_room
  case k9 => first | exact BindsTo.of_eq rfl | exact binds_K (Frag.In.keeps X F.keep) rfl (by k_is) rfl rfl rfl
  case kB => exact rfl
  case kN => decide
  case c2 => exact rfl
  case c3 => exact rfl
  case c4 => exact rfl
  clear B F X T
  intro h₁ tk₁ cells F N Y B X T
  obtain ⟨o₁, rfl, d₁⟩ := CellsAre.one Y
  clear Y
  (try k_fold)
  k_steps
  refine Hold.of ?_
  with_unfolding_all refine' For_invVF (by assumption) ?k1 ?k2 ?_
  case k1 => exact rfl
  case k2 => exact rfl
  k_steps
  refine Hold.of ?_
  rename_i h₂ o₂ F₂ N₂ d₂
  with_unfolding_all refine' nats_bytes (σ := Obj) (fun c => [(s.heap.objs.size + 1, c)]) (fun _ => []) [] (fun pre c => ∃ t, c.data = .cell (some (.int (W256 pre : Nat) t))) o₂ rfl F₂ N₂ ?hk ?hp ?_ ?_
  case hk => kst_all
  case hp => exact ⟨_, d₂⟩
  · intro c pre post a t u h tk own e ho hP F N
    clear F₂ N₂
    obtain ⟨t₃, hP⟩ := hP
    try dsimp only at N
    dsimp only [kstB] at F
    simp only [List.cons_append, List.nil_append] at N
    (try k_fold)
    k_steps
    rename_i h₃ o₄ F₃ N₃ d₃
    refine turn_end o₄ F₃ N₃ (by simp) (fun p hp => List.mem_cons_of_mem _ hp) rfl (by kst_all) (by kst_same) ?_
    rw [W256_snoc]
    exact ⟨_, d₃⟩
  · rw [bsA_nats hb]
    intro c u h tk hP F N
    clear F₂ N₂
    obtain ⟨t₃, hP⟩ := hP
    try dsimp only at N
    dsimp only [kstB] at F
    (try k_fold)
    have hd : (8 * os.length + 5) / 6 ≤ 1000 := by lia
    have hlen : (bsA os).size = os.length := bsA_size os
    k_steps
    refine Hold.of (floordiv_nat (8 * os.length + 5) 6 (by rw [hlen]; push_cast; rfl) rfl (by decide) (by exact Nat.le_of_ble_eq_true rfl) ?_)
    k_steps
    refine Hold.of (pow_nat 2 (6 * ((8 * os.length + 5) / 6) - 8 * os.length) rfl (by rw [hlen]; push_cast; lia) (by decide) (by lia) ?_)
    k_steps
    refine mul_nat (W256 os) (2 ^ (6 * ((8 * os.length + 5) / 6) - 8 * os.length)) rfl rfl ?_ ?_
    · have : 6 * ((8 * os.length + 5) / 6) - 8 * os.length ≤ 6 := by lia
      exact Nat.lt_of_le_of_lt (Nat.pow_le_pow_right (by decide) this) (by decide)
    k_steps
    refine Hold.of ?_
    rename_i h₃ o₄ F₃ N₃ d₃
    k_dflt (refine' ListComp_range F₃ ?c1 ?c2 ?c3 ?c4 ?c5 ?_)
    case c1 => with_unfolding_all rfl
    case c2 => decide
    case c3 => rfl
    case c4 => decide
    case c5 => rfl
    k_steps
    rename_i h₅ tk₅ t₅ u₅ v₅ R₅ F₅ N₅ K₅
    refine SrcAny.down (n := (8 * os.length + 5) / 6) (fun k y => ∃ t, y = Value.int ((figW os / 64 ^ k % 64 : Nat) : Int) t) rfl F₅ N₅ R₅ hd ?_ ?_
    · intro g k t I oI C oC D m₂ ys h tk E' hk hC hx F N
      have hk' : k ≤ 1000 := Nat.le_trans (Nat.le_of_lt hk) hd
      k_steps
      refine Hold.of (pow_nat 64 k rfl rfl (by decide) (Nat.le_trans hk' (by decide)) ?_)
      k_steps
      refine Hold.of (floordiv_nat (figW os) (64 ^ k) rfl rfl (Nat.pow_pos (by decide)) (pow_small (by decide) hk') ?_)
      k_steps
      refine Hold.of (mod_nat (figW os / 64 ^ k) 64 rfl rfl (by decide) ?_)
      exact ElEnd.mk ⟨_, rfl⟩
    · intro g ys hys
      intro D h tk F N off
      k_steps
      refine hret _ h _ (Fr.keep F) ⟨D, ys, _, rfl, (N _ List.mem_cons_self).2.2, (N _ List.mem_cons_self).1, ?_⟩
      have := hys.ints
      rw [figs, List.map_map]
      exact this
end
end Mine
end M3part
section M4part
namespace Mine
noncomputable def putIn (k : Nat) (fs : List Nat) : List Nat := fs.flatMap fun f => f :: (if f = 62 then (List.replicate k [26, 38, 41, 63]).flatten else [])
theorem putIn_length (k : Nat) (fs : List Nat) : (putIn k fs).length ≤ (4 * k + 1) * fs.length := by
  induction fs with
  | nil => simp [putIn]
  | cons f r ih =>
    have e : putIn k (f :: r) = (f :: (if f = 62 then (List.replicate k [26, 38, 41, 63]).flatten else [])) ++ putIn k r := by simp [putIn]
    rw [e, List.length_append, List.length_cons, List.length_cons, Nat.mul_add, Nat.mul_one]
    have : (if f = 62 then (List.replicate k [26, 38, 41, 63]).flatten else []).length ≤ 4 * k := by
      split
      · simp; lia
      · simp
    lia
theorem putIn_snoc (k : Nat) (fs : List Nat) (a : Nat) : putIn k (fs ++ [a]) = putIn k fs ++ (a :: (if a = 62 then (List.replicate k [26, 38, 41, 63]).flatten else [])) := by
  simp [putIn]
section

theorem put_walk {prog : Program} {w : World} (l : Addr) (vs : List Value) (fs : List Nat) (k : Nat) (tk : Tok) (s : Shared)
   (hl : s.heap.IsList l vs.toArray) (hi : IntsAre vs (fs.map fun (n : Nat) => (n : Int))) (hn : fs.length ≤ 100) (hk : k ≤ 3) :
    Does prog w (top.heap_39 w.params) 1 8 151 [.ref l, .int (k : Nat) tk] [] s (fun v h' => NewNats s.heap h' v (putIn k fs)) := by
  w_top off
  intro p loose mean mg mb dp un gd cn cs a ccd outer A₀ base h₀ L m Q E B F X T hck hdp hun hret
  refine wpAny_call ?_
  k_dflt (refine' code_pure (binds := [(Str.ofString "figures", .ref l), (Str.ofString "times", .int (k : Nat) tk)]) B F X T ?kA ?k6 ?k7 ?k8 ?k9 ?kB ?_ ?cK ?c2 ?c3 ?c4 ?c5)
  case kA => exact rfl
  case cK => assumption
  case k6 => k_is
  case k7 => k_is
  case k8 => ktr_room
  case k9 => first | exact BindsTo.of_eq rfl | exact binds_K (Frag.In.keeps X F.keep) rfl (by k_is) rfl rfl rfl
  case kB => exact locs rfl
  case c2 => exact rfl
  case c3 => exact rfl
  case c4 => exact rfl
  case c5 => decide
  clear B F X T
  intro h₁ F N B X T
  (try k_fold)
  k_steps
  refine Hold.of ?_
  with_unfolding_all refine' For_invVF (by assumption) ?k1 ?k2 ?_
  case k1 => exact rfl
  case k2 => exact rfl
  k_steps
  refine Hold.of ?_
  rename_i r₂ hx₂ l₂ h₂ F₂ N₂
  clear l₂
  with_unfolding_all refine' nats_list (σ := List Value × Nat) (fun c => [(r₂, listOf c.1.toArray c.2)]) (fun _ => []) [] (fun pre c => IntsAre c.1 ((putIn k pre).map fun (n : Nat) => (n : Int))) ([], 0) rfl hl hi F₂ N₂ ?hk ?hp ?_ ?_
  case hk => kst_all
  case hp => exact .nil
  · refine all2 ?_
    intro ws n pre post a t u h tk own e ho hP F N
    clear F₂ N₂
    try dsimp only at N hP
    dsimp only [kstB] at F
    simp only [List.cons_append, List.nil_append] at N
    simp only [List.map_cons, List.map_nil] at ho
    have hw : ws.length ≤ 5000 := by
      have h1 := hP.length
      have h2 := putIn_length k pre
      have h3 := congrArg List.length e
      simp at h1 h3
      have h4 : (4 * k + 1) * pre.length ≤ 13 * 100 := Nat.mul_le_mul (by lia) (by lia)
      lia
    (try k_fold)
    k_steps
    · rename_i hc l' h₃ N₃ l₃ D h₄ F₄ N₄ i₄ n₄ s₄ e₄ e₅ e₆ l₄
      simp only [List.push_toArray] at N₄
      refine extend_in (own := [_, _]) F₄ N₄ ?_ ?_ (N₄ _ List.mem_cons_self).1 ?_ ?_
      · simp only [List.forall_mem_cons, List.not_mem_nil, false_implies, implies_true, and_true]
        exact ⟨Nat.ne_of_gt l₄.2.1, Nat.ne_of_gt l₃.1⟩
      · exact OwnOff.ne ho List.mem_cons_self
      · intro h₅ n₅ F₅ N₅
        try dsimp only
        k_steps
        refine turn_end (_, _) F₅ N₅ (mem_one (List.mem_cons_of_mem _ (List.mem_cons_of_mem _ List.mem_cons_self))) (by intro p hp; simp [hp]) rfl (by kst_all) (by kst_same) ?_
        have ha : a = 62 := by lia
        subst ha
        have := (hP.append (.cons ((62 : Nat) : Int) t .nil)).append i₄
        rw [putIn_snoc, if_pos rfl]
        simpa [List.map_flatten] using this
      · simp [sizeLine_eq]
        lia
    · rename_i h₅ F₅ N₅ tk₅ hc
      simp only [List.push_toArray] at N₅
      refine turn_end (_, _) F₅ N₅ (mem_one List.mem_cons_self) (by intro p hp; simp [hp]) rfl (by kst_all) (by kst_same) ?_
      have ha : ¬ a = 62 := by lia
      have := hP.append (.cons (a : Int) t .nil)
      rw [putIn_snoc, if_neg ha]
      simpa using this
  · refine all2 ?_
    intro ws n u h tk hP F N
    clear F₂ N₂
    try dsimp only at N hP
    dsimp only [kstB] at F
    (try k_fold)
    k_steps
    exact hret _ h _ (Fr.keep F) ⟨r₂, ws, n, rfl, (N _ List.mem_cons_self).2.2, (N _ List.mem_cons_self).1, hP⟩
end
end Mine
end M4part
section M5part
namespace Mine
noncomputable def tx (cs : List Nat) : Str := ⟨cs.toArray⟩
noncomputable def alph : List Nat := [65, 66, 67, 68, 69, 70, 71, 72, 73, 74, 75, 76, 77, 78, 79, 80, 81, 82, 83, 84, 85, 86, 87, 88, 89, 90, 97, 98, 99, 100, 101, 102, 103, 104, 105, 106, 107, 108, 109, 110, 111, 112, 113, 114, 115, 116, 117, 118, 119, 120, 121, 122, 48, 49, 50, 51, 52, 53, 54, 55, 56, 57, 38, 59, 60, 62]
/-- the sign of a figure (62 is &, 63 is ;, 64 is <, 65 is >) -/
noncomputable def sign (f : Nat) : Nat := alph.getD f 0
theorem item_sign : ∀ k < 66, Txt.item (Str.ofString "ABCDEFGHIJKLMNOPQRSTUVWXYZabcdefghijklmnopqrstuvwxyz0123456789&;<>") ((k : Nat) : Int) = tx [sign k] := by decide +kernel
theorem join_signs (xs : List Nat) : Txt.join (Str.ofString "") (xs.map fun k => tx [sign k]) = tx (xs.map sign) := by
  rw [show Txt.join (Str.ofString "") (xs.map fun k => tx [sign k]) = Str.join (Str.ofString "") (xs.map fun k => tx [sign k]) from StrLaws.glued_eq_join _ _]
  rw [show Str.ofString "" = (⟨#[]⟩ : Str) by decide +kernel]
  induction xs with
  | nil => rfl
  | cons a r ih =>
    cases r with
    | nil => rfl
    | cons b r =>
      rw [List.map_cons, List.map_cons]
      show tx [sign a] ++ ⟨#[]⟩ ++ Str.join ⟨#[]⟩ ((b :: r).map fun k => tx [sign k]) = _
      rw [ih]
      apply Str.ext'
      simp [tx, Str.cps_append]
theorem signs_sum (fs : List Nat) : ((fs.map fun k => tx [sign k]).map (·.length)).sum = fs.length := by
  induction fs with
  | nil => rfl
  | cons a r ih => simp only [List.map_cons, List.sum_cons, List.length_cons]; rw [ih]; show 1 + _ = _; lia
section

theorem text_walk {prog : Program} {w : World} (l : Addr) (vs : List Value) (fs : List Nat) (s : Shared)
   (hl : s.heap.IsList l vs.toArray) (hi : IntsAre vs (fs.map fun (n : Nat) => (n : Int))) (hn : fs.length ≤ 5000) (hb : ∀ f ∈ fs, f < 66) :
    Does prog w (top.heap_39 w.params) 1 8 163 [.ref l] [] s (fun v _ => ∃ t, v = .str (tx (fs.map sign)) t) := by
  w_top off
  intro p loose mean mg mb dp un gd cn cs a ccd outer A₀ base h₀ L m Q E B F X T hck hdp hun hret
  refine wpAny_call ?_
  k_dflt (refine' code_pure (binds := [(Str.ofString "figures", .ref l)]) B F X T ?kA ?k6 ?k7 ?k8 ?k9 ?kB ?_ ?cK ?c2 ?c3 ?c4 ?c5)
  case kA => exact rfl
  case cK => assumption
  case k6 => k_is
  case k7 => k_is
  case k8 => ktr_room
  case k9 => first | exact BindsTo.of_eq rfl | exact binds_K (Frag.In.keeps X F.keep) rfl (by k_is) rfl rfl rfl
  case kB => exact locs rfl
  case c2 => exact rfl
  case c3 => exact rfl
  case c4 => exact rfl
  case c5 => decide
  clear B F X T
  intro h₁ F N B X T
  (try k_fold)
  k_steps
  refine Hold.of ?_
  k_dflt (refine' LCg.ListComp_U F ?c1 ?c2 ?c3 ?c4 ?c5 ?_)
  case c1 => with_unfolding_all rfl
  case c2 => decide
  case c3 => rfl
  case c4 => decide
  case c5 => rfl
  k_steps
  refine LCg.CompSrc.base rfl F N hl ?_ ?_
  · have := hi.length
    simp at this
    rw [sizeLine_eq]; simp; lia
  intro g
  refine comp_rest fs (fun k t => Value.int (k : Nat) t) (fun k y => ∃ t, y = Value.str (tx [sign k]) t) (by simpa using hi.length.symm) (fun i v hv => IntsAre.nats hi (by simpa using hv)) (.inl hl) ?_ ?_
  · intro k t I oI C oC D m₂ ys h tk E' hk hC hx F N
    have hk' : k < 66 := hb k hk
    k_steps
    refine ElEnd.mk ⟨_, congrArg (fun z => Value.str z _) (item_sign k hk')⟩
  · intro ys hys
    intro D h tk F N off
    k_steps
    refine join_listW (ys := fs.map fun k => tx [sign k]) (News.isList N List.mem_cons_self) hys.strs (by decide +kernel) ?_ ?_
    · rw [signs_sum]; simp; lia
    · intro t' k
      rw [join_signs]
      exact hret _ h _ (Fr.keep F) ⟨_, rfl⟩
end
end Mine
end M5part
section M6part
namespace Mine
noncomputable def piece (x : Nat) : List Nat := match x % 8 with
  | 0 => [62]
  | 1 => [63]
  | 2 => [62, 26, 38, 41, 63]
  | 3 => [62, 37, 45, 63]
  | 4 => [62, 32, 45, 63]
  | _ => [x / 8 % 64]
noncomputable def drawn (xs : List Nat) : List Nat := [62, 26, 38, 41, 63, 37, 45, 63] ++ xs.flatMap piece
theorem piece_length (a : Nat) : (piece a).length ≤ 5 := by
  unfold piece
  split <;> simp
theorem drawn_length (xs : List Nat) : (drawn xs).length ≤ 8 + 5 * xs.length := by
  induction xs with
  | nil => simp [drawn]
  | cons a r ih =>
    have := piece_length a
    simp [drawn] at ih ⊢
    lia
theorem mod8 (a : Nat) : a % 8 = 0 ∨ a % 8 = 1 ∨ a % 8 = 2 ∨ a % 8 = 3 ∨ a % 8 = 4 ∨ a % 8 = 5 ∨ a % 8 = 6 ∨ a % 8 = 7 :=
  (by decide : ∀ m < 8, m = 0 ∨ m = 1 ∨ m = 2 ∨ m = 3 ∨ m = 4 ∨ m = 5 ∨ m = 6 ∨ m = 7) _ (Nat.mod_lt _ (by decide))
section
local macro_rules | `(tactic| walk_at "subscriptTail") => `(tactic| refine Mine.hold ?_)
local macro_rules | `(tactic| walk_at "InvPostG") => `(tactic| dsimp only [InvPostG])
theorem drawn_walk {prog : Program} {w : World} (l : Addr) (vs : List Value) (xs : List Nat) (s : Shared)
   (hl : s.heap.IsList l vs.toArray) (hi : IntsAre vs (xs.map fun (n : Nat) => (n : Int))) (hn : xs.length ≤ 10) :
    Does prog w (top.heap_39 w.params) 1 8 134 [.ref l] [] s (fun v h' => NewNats s.heap h' v (drawn xs)) := by
  w_top off
  intro p loose mean mg mb dp un gd cn cs a ccd outer A₀ base h₀ L m Q E B F X T hck hdp hun hret
  refine wpAny_call ?_
  k_dflt (refine' code_pure (binds := [(Str.ofString "numbers", .ref l)]) B F X T ?kA ?k6 ?k7 ?k8 ?k9 ?kB ?_ ?cK ?c2 ?c3 ?c4 ?c5)
  case kA => exact rfl
  case cK => assumption
  case k6 => k_is
  case k7 => k_is
  case k8 => ktr_room
  case k9 => first | exact BindsTo.of_eq rfl | exact binds_K (Frag.In.keeps X F.keep) rfl (by k_is) rfl rfl rfl
  case kB => exact locs rfl
  case c2 => exact rfl
  case c3 => exact rfl
  case c4 => exact rfl
  case c5 => decide
  clear B F X T
  intro h₁ F N B X T
  (try k_fold)
  k_steps
  refine Hold.of ?_
  with_unfolding_all refine' For_invVF (by assumption) ?k1 ?k2 ?_
  case k1 => exact rfl
  case k2 => exact rfl
  k_steps
  refine Hold.of ?_
  rename_i r₂ hx₂ l₂ h₂ F₂ N₂
  clear l₂
  with_unfolding_all refine' nats_listG (σ := Addr × List Value × Nat) (fun c => [(c.1, listOf c.2.1.toArray c.2.2)]) (fun c => [(Str.ofString "figures", .ref c.1)]) [] (fun pre c => IntsAre c.2.1 ((drawn pre).map fun (n : Nat) => (n : Int))) (r₂, _, 0) rfl hl hi F₂ N₂ ?hk ?hp ?_ ?_
  case hk => kst_all
  case hp => exact .cons 62 _ (.cons 26 _ (.cons 38 _ (.cons 41 _ (.cons 63 _ (.cons 37 _ (.cons 45 _ (.cons 63 _ .nil)))))))
  · refine all3 ?_
    intro r₃ ws n pre post a t u h tk own e ho hP F N
    clear F₂ N₂
    try dsimp only at N hP
    dsimp only [kstB] at F
    simp only [List.cons_append, List.nil_append] at N
    simp only [List.map_cons, List.map_nil] at ho
    have hw : ws.length ≤ 5000 := by
      have h1 := hP.length
      have h2 := drawn_length pre
      have h3 := congrArg List.length e
      simp only [List.length_map, List.length_append, List.length_cons] at h1 h3
      lia
    (try k_fold)
    k_steps
    rename Fr _ _ _ _ => F9
    rename News _ _ _ _ => N9
    have hm : (a : Int).fmod 8 = ((a % 8 : Nat) : Int) := fmod_nat a 8
    have hv : (((a : Int).fdiv 8).fmod 64) = ((a / 8 % 64 : Nat) : Int) := by
      rw [show (a : Int).fdiv 8 = ((a / 8 : Nat) : Int) from fdiv_nat a 8]
      exact fmod_nat (a / 8) 64
    have h8 := mod8 a
    rw [hm]
    rw [hv] at N9
    refine Hold.of (pick_ints N9 List.mem_cons_self ?_ ?_ ((piece a).map fun (n : Nat) => (n : Int)) ?_ ?_)
    · lia
    · lia
    · rw [Int.toNat_natCast]
      rcases h8 with h8 | h8 | h8 | h8 | h8 | h8 | h8 | h8 <;> rw [h8] <;>
        refine ⟨_, _, _, rfl, (by repeat (first | exact List.Mem.head _ | refine List.Mem.tail _ ?_)), ?_⟩ <;>
        unfold piece <;> rw [h8] <;> dsimp only [List.map] <;>
        repeat (first | exact IntsAre.nil | refine IntsAre.cons _ _ ?_)
    intro d ws' n' hd hi'
    refine add_lists_ints (vs := ws) (ws := ws'.toList) F9 N9 (Mine.News.lst (n := n) N9 ?_) (Mine.News.lst (n := n') N9 ?_) hP hi' ?_ ?_
    · repeat (first | exact List.Mem.head _ | refine List.Mem.tail _ ?_)
    · simpa using hd
    · intro h₅ F₅ N₅ i₅
      k_steps
      rename Fr _ _ _ _ => F8
      rename PyProof.Rows.News _ _ _ _ => N8
      refine turn_endG (_, _, _) F8 N8 (mem_one List.mem_cons_self) (by intro p hp; simp [hp]) ?_ (by kst_all) (by kst_same) ?_
      · intro p hp q hq
        rw [List.mem_singleton.mp hp]
        exact Nat.ne_of_gt (Heap.lt_size (N9 q (by simp [hq])).1)
      · have : drawn (pre ++ [a]) = drawn pre ++ piece a := by simp [drawn]
        rw [this, List.map_append]
        exact i₅
    · have h1 := hP.length
      have h2 : (piece a).length ≤ 5 := piece_length a
      rw [List.length_map, sizeLine_eq]
      rw [List.length_map] at h1
      rw [List.length_map]
      lia
  · refine all3 ?_
    intro r₃ ws n u h tk hP F N
    clear F₂ N₂
    try dsimp only at N hP
    dsimp only [kstB] at F
    (try k_fold)
    k_steps
    exact hret _ h _ (Fr.keep F) ⟨r₃, ws, n, rfl, (N _ List.mem_cons_self).2.2, (N _ List.mem_cons_self).1, hP⟩
end
end Mine
end M6part
section M7part
namespace Mine
noncomputable def takeN : Nat → List Nat → List Nat × List Nat
  | 0, _ => ([], [])
  | n + 1, fs =>
    if fs.length = 0 then ([], [])
    else if fs.take 5 = [62, 26, 38, 41, 63] then (62 :: (takeN n (fs.drop 5)).1, 62 :: (takeN n (fs.drop 5)).2)
    else if fs.take 4 = [62, 37, 45, 63] ∨ fs.take 4 = [62, 32, 45, 63] then ((takeN n (fs.drop 4)).1, (if fs.getD 1 0 = 37 then 64 else 65) :: (takeN n (fs.drop 4)).2)
    else (fs.getD 0 0 :: (takeN n (fs.drop 1)).1, fs.getD 0 0 :: (takeN n (fs.drop 1)).2)
noncomputable def takeOut (fs : List Nat) : List Nat × List Nat := takeN fs.length fs
theorem takeN_succ (n : Nat) (fs : List Nat) : takeN (n + 1) fs = if fs.length = 0 then ([], []) else if fs.take 5 = [62, 26, 38, 41, 63] then (62 :: (takeN n (fs.drop 5)).1, 62 :: (takeN n (fs.drop 5)).2)
    else if fs.take 4 = [62, 37, 45, 63] ∨ fs.take 4 = [62, 32, 45, 63] then ((takeN n (fs.drop 4)).1, (if fs.getD 1 0 = 37 then 64 else 65) :: (takeN n (fs.drop 4)).2)
    else (fs.getD 0 0 :: (takeN n (fs.drop 1)).1, fs.getD 0 0 :: (takeN n (fs.drop 1)).2) := rfl
theorem drop_less {fs : List Nat} {n j : Nat} (h : fs.length ≤ n + 1) : (fs.drop (j + 1)).length ≤ n := by
  rw [List.length_drop]; exact Nat.le_trans (Nat.sub_le_sub_right h _) (Nat.le_trans (Nat.sub_le_sub_left (Nat.le_add_left 1 j) _) (Nat.le_refl n))
theorem takeN_nil (n : Nat) {fs : List Nat} (h : fs.length = 0) : takeN n fs = ([], []) := by
  cases n with
  | zero => rfl
  | succ n => rw [takeN_succ, if_pos h]
theorem takeN_more : ∀ (n m : Nat) (fs : List Nat), fs.length ≤ n → fs.length ≤ m → takeN n fs = takeN m fs
  | 0, m, fs, hn, _ => by rw [takeN_nil 0 (Nat.le_zero.mp hn), takeN_nil m (Nat.le_zero.mp hn)]
  | n + 1, 0, fs, _, hm => by rw [takeN_nil _ (Nat.le_zero.mp hm), takeN_nil _ (Nat.le_zero.mp hm)]
  | n + 1, m + 1, fs, hn, hm => by
    rw [takeN_succ, takeN_succ, takeN_more n m (fs.drop 5) (drop_less hn) (drop_less hm), takeN_more n m (fs.drop 4) (drop_less hn) (drop_less hm), takeN_more n m (fs.drop 1) (drop_less hn) (drop_less hm)]
theorem takeOut_step {fs : List Nat} (h0 : ¬ fs.length = 0) : takeOut fs = if fs.take 5 = [62, 26, 38, 41, 63] then (62 :: (takeOut (fs.drop 5)).1, 62 :: (takeOut (fs.drop 5)).2)
    else if fs.take 4 = [62, 37, 45, 63] ∨ fs.take 4 = [62, 32, 45, 63] then ((takeOut (fs.drop 4)).1, (if fs.getD 1 0 = 37 then 64 else 65) :: (takeOut (fs.drop 4)).2)
    else (fs.getD 0 0 :: (takeOut (fs.drop 1)).1, fs.getD 0 0 :: (takeOut (fs.drop 1)).2) := by
  obtain ⟨n, hn⟩ := Nat.exists_eq_succ_of_ne_zero h0
  have hle : fs.length ≤ n + 1 := Nat.le_of_eq hn
  unfold takeOut
  rw [hn, takeN_succ, if_neg h0, takeN_more n _ (fs.drop 5) (drop_less hle) (Nat.le_refl _), takeN_more n _ (fs.drop 4) (drop_less hle) (Nat.le_refl _), takeN_more n _ (fs.drop 1) (drop_less hle) (Nat.le_refl _)]
theorem takeOut_amp {fs : List Nat} (h : fs.take 5 = [62, 26, 38, 41, 63]) : takeOut fs = (62 :: (takeOut (fs.drop 5)).1, 62 :: (takeOut (fs.drop 5)).2) := by
  have h0 : ¬ fs.length = 0 := by intro e; rw [List.length_eq_zero_iff.mp e] at h; cases h
  rw [takeOut_step h0, if_pos h]
theorem takeOut_ref {fs : List Nat} (h : ¬ fs.take 5 = [62, 26, 38, 41, 63]) (h' : fs.take 4 = [62, 37, 45, 63] ∨ fs.take 4 = [62, 32, 45, 63]) :
    takeOut fs = ((takeOut (fs.drop 4)).1, (if fs.getD 1 0 = 37 then 64 else 65) :: (takeOut (fs.drop 4)).2) := by
  have h0 : ¬ fs.length = 0 := by intro e; rw [List.length_eq_zero_iff.mp e] at h'; rcases h' with h' | h' <;> cases h'
  rw [takeOut_step h0, if_neg h, if_pos h']
theorem takeOut_one {fs : List Nat} (h0 : fs.length ≠ 0) (h : ¬ fs.take 5 = [62, 26, 38, 41, 63]) (h' : ¬ (fs.take 4 = [62, 37, 45, 63] ∨ fs.take 4 = [62, 32, 45, 63])) :
    takeOut fs = (fs.getD 0 0 :: (takeOut (fs.drop 1)).1, fs.getD 0 0 :: (takeOut (fs.drop 1)).2) := by
  rw [takeOut_step h0, if_neg h, if_neg h']
/-- two lists in a list, made between h and h' -/
noncomputable def NewPair (h h' : Heap) (v : Value) (xs ys : List Nat) : Prop := ∃ l a b n vs us i j, v = .ref l ∧ h.get? l = none ∧ h'.get? l = some (listOf [.ref a, .ref b].toArray n) ∧
  h.get? a = none ∧ h'.get? a = some (listOf vs.toArray i) ∧ IntsAre vs (xs.map fun (n : Nat) => (n : Int)) ∧ h.get? b = none ∧ h'.get? b = some (listOf us.toArray j) ∧ IntsAre us (ys.map fun (n : Nat) => (n : Int))
theorem takeOut_nil : takeOut [] = ([], []) := rfl
/-- what the loop keeps -/
noncomputable def TInv (fs : List Nat) (c : List Value × Nat × List Value × Nat × Nat × Tok) : Prop :=
  c.2.2.2.2.1 ≤ fs.length ∧ c.1.length ≤ c.2.2.2.2.1 ∧ c.2.2.1.length ≤ c.2.2.2.2.1 ∧ ∃ R S, IntsAre c.1 (R.map fun (n : Nat) => (n : Int)) ∧ IntsAre c.2.2.1 (S.map fun (n : Nat) => (n : Int)) ∧ takeOut fs = (R ++ (takeOut (fs.drop c.2.2.2.2.1)).1, S ++ (takeOut (fs.drop c.2.2.2.2.1)).2)
section
variable {fs : List Nat} {ws zs : List Value} {n m k n' m' : Nat} {t t' ta tb : Tok}
theorem TInv.start : TInv fs ([], n, [], m, 0, t) := ⟨Nat.zero_le _, Nat.le_refl _, Nat.le_refl _, [], [], .nil, .nil, rfl⟩
theorem less {n k j : Nat} (h : k + j ≤ n) (hj : 0 < j) : n - (k + j) < n - k :=
  Nat.sub_lt_sub_left (Nat.lt_of_lt_of_le (Nat.lt_add_of_pos_right hj) h) (Nat.lt_add_of_pos_right hj)
theorem take_len {c : List Nat} {j : Nat} (hc : (fs.drop k).take j = c) (hj : c.length = j) (h0 : 0 < j) : j ≤ fs.length - k ∧ k + j ≤ fs.length := by
  have h1 := congrArg List.length hc
  rw [List.length_take, List.length_drop, hj] at h1
  have h2 : j ≤ fs.length - k := by rw [← h1]; exact Nat.min_le_right _ _
  exact ⟨h2, by lia⟩
theorem TInv.amp (h : TInv fs (ws, n, zs, m, k, t)) (hc : (fs.drop k).take 5 = [62, 26, 38, 41, 63]) : TInv fs (ws ++ [.int 62 ta], n', zs ++ [.int 62 tb], m', k + 5, t') ∧ fs.length - (k + 5) < fs.length - k := by
  obtain ⟨hk, hw, hz, R, S, hR, hS, hT⟩ := h
  have hlen := take_len hc rfl (by decide)
  refine ⟨⟨hlen.2, ?_, ?_, R ++ [62], S ++ [62], ?_, ?_, ?_⟩, less hlen.2 (by decide)⟩
  · show (ws ++ _).length ≤ k + 5
    rw [List.length_append]; exact Nat.add_le_add hw (Nat.le_add_left 1 _)
  · show (zs ++ _).length ≤ k + 5
    rw [List.length_append]; exact Nat.add_le_add hz (Nat.le_add_left 1 _)
  · rw [List.map_append]; exact hR.append (.cons _ _ .nil)
  · rw [List.map_append]; exact hS.append (.cons _ _ .nil)
  · rw [hT, takeOut_amp hc, List.drop_drop, List.append_assoc, List.append_assoc]; rfl
theorem TInv.ref (h : TInv fs (ws, n, zs, m, k, t)) (h5 : ¬ (fs.drop k).take 5 = [62, 26, 38, 41, 63]) (h4 : (fs.drop k).take 4 = [62, 37, 45, 63] ∨ (fs.drop k).take 4 = [62, 32, 45, 63]) {x y : Nat} (hx : fs[k + 1]? = some x) (hy : (if x = 37 then 64 else 65) = y) :
    TInv fs (ws, n', zs ++ [.int (y : Nat) tb], m', k + 4, t') ∧ fs.length - (k + 4) < fs.length - k := by
  obtain ⟨hk, hw, hz, R, S, hR, hS, hT⟩ := h
  have hlen : 4 ≤ fs.length - k ∧ k + 4 ≤ fs.length := h4.elim (fun h => take_len h rfl (by decide)) (fun h => take_len h rfl (by decide))
  refine ⟨⟨hlen.2, Nat.le_trans hw (Nat.le_add_right _ _), ?_, R, S ++ [y], hR, ?_, ?_⟩, less hlen.2 (by decide)⟩
  · show (zs ++ _).length ≤ k + 4
    rw [List.length_append]; exact Nat.add_le_add hz (Nat.le_add_left 1 _)
  · rw [List.map_append]; exact hS.append (.cons _ _ .nil)
  · have e : (List.drop k fs).getD 1 0 = x := by rw [List.getD_eq_getElem?_getD, List.getElem?_drop, hx]; rfl
    rw [hT, takeOut_ref h5 h4, List.drop_drop, e, hy, List.append_assoc]; rfl
theorem TInv.one (h : TInv fs (ws, n, zs, m, k, t)) (h5 : ¬ (fs.drop k).take 5 = [62, 26, 38, 41, 63]) (h4 : ¬ (fs.drop k).take 4 = [62, 37, 45, 63]) (h4' : ¬ (fs.drop k).take 4 = [62, 32, 45, 63]) (hk' : k < fs.length) {x : Nat} (hx : fs[k]? = some x) :
    TInv fs (ws ++ [.int (x : Nat) ta], n', zs ++ [.int (x : Nat) tb], m', k + 1, t') ∧ fs.length - (k + 1) < fs.length - k := by
  obtain ⟨hk, hw, hz, R, S, hR, hS, hT⟩ := h
  refine ⟨⟨hk', ?_, ?_, R ++ [x], S ++ [x], ?_, ?_, ?_⟩, less hk' (by decide)⟩
  · show (ws ++ _).length ≤ k + 1
    rw [List.length_append]; exact Nat.add_le_add hw (Nat.le_add_left 1 _)
  · show (zs ++ _).length ≤ k + 1
    rw [List.length_append]; exact Nat.add_le_add hz (Nat.le_add_left 1 _)
  · rw [List.map_append]; exact hR.append (.cons _ _ .nil)
  · rw [List.map_append]; exact hS.append (.cons _ _ .nil)
  · have e : (List.drop k fs).getD 0 0 = x := by rw [List.getD_eq_getElem?_getD, List.getElem?_drop, Nat.add_zero, hx]; rfl
    rw [hT, takeOut_one (by rw [List.length_drop]; exact Nat.ne_of_gt (Nat.sub_pos_of_lt hk')) h5 (fun h => h.elim h4 h4'), List.drop_drop, e, List.append_assoc, List.append_assoc]; rfl
theorem TInv.done (h : TInv fs (ws, n, zs, m, k, t)) (hk' : ¬ (k : Int) < ((fs.map fun (n : Nat) => (n : Int)).length : Int)) : IntsAre ws ((takeOut fs).1.map fun (n : Nat) => (n : Int)) ∧ IntsAre zs ((takeOut fs).2.map fun (n : Nat) => (n : Int)) := by
  obtain ⟨hk, hw, hz, R, S, hR, hS, hT⟩ := h
  have hk2 : fs.drop k = [] := by
    rw [List.drop_eq_nil_iff]
    rw [List.length_map] at hk'
    lia
  dsimp only at hT
  rw [hk2, takeOut_nil, List.append_nil, List.append_nil] at hT
  rw [hT]; exact ⟨hR, hS⟩
end
section
local macro_rules | `(tactic| walk_at "subscriptTail Name BinOp ref int") => `(tactic| refine Mine.hold ?_)
local macro_rules | `(tactic| walk_at "subscriptTail Name Name ref int") => `(tactic| refine Mine.hold ?_)
local macro_rules | `(tactic| walk_at "compareOp Eq ref ref") => `(tactic| refine Mine.hold ?_)
theorem taken_walk {prog : Program} {w : World} (l : Addr) (vs : List Value) (fs : List Nat) (s : Shared)
   (hl : s.heap.IsList l vs.toArray) (hi : IntsAre vs (fs.map fun (n : Nat) => (n : Int))) (hn : fs.length ≤ 100) :
    Does prog w (top.heap_39 w.params) 1 100 158 [.ref l] [] s (fun v h' => NewPair s.heap h' v (takeOut fs).1 (takeOut fs).2) := by
  w_top off
  intro p loose mean mg mb dp un gd cn cs a ccd outer A₀ base h₀ L m Q E B F X T hck hdp hun hret
  refine wpAny_call ?_
  k_dflt (refine' code_pure (binds := [(Str.ofString "figures", .ref l)]) B F X T ?kA ?k6 ?k7 ?k8 ?k9 ?kB ?_ ?cK ?c2 ?c3 ?c4 ?c5)
  case kA => exact rfl
  case cK => assumption
  case k6 => k_is
  case k7 => k_is
  case k8 => ktr_room
  case k9 => first | exact BindsTo.of_eq rfl | exact binds_K (Frag.In.keeps X F.keep) rfl (by k_is) rfl rfl rfl
  case kB => exact locs rfl
  case c2 => exact rfl
  case c3 => exact rfl
  case c4 => exact rfl
  case c5 => decide
  clear B F X T
  intro h₁ F N B X T
  (try k_fold)
  k_steps
  refine Hold.of ?_
  rename_i tk1 ra hA l1 hB tk2 sa hC l2 hD h3 F2 N2
  with_unfolding_all refine' ksw_while (σ := List Value × Nat × List Value × Nat × Nat × Tok) (fun c => [(sa, listOf c.2.2.1.toArray c.2.2.2.1), (ra, listOf c.1.toArray c.2.1)]) (fun c => [(Str.ofString "k", .int (c.2.2.2.2.1 : Nat) c.2.2.2.2.2)]) (fun _ => True) [] (TInv fs) (fun c => fs.length - c.2.2.2.2.1) ([], 0, [], 0, 0, _) F2 N2 trivial ?hk TInv.start ?_
  case hk => kst_all
  refine all6 ?_
  intro ws n zs m k tk u h tk' _ H F N
  have hk : k ≤ fs.length := H.1
  have hw : ws.length ≤ k := H.2.1
  have hz : zs.length ≤ k := H.2.2.1
  dsimp only at N
  dsimp only [kstB] at F
  clear F2 N2
  have hroom : un + 3 + 64 < cLine := room3 hun (by decide)
  (try k_fold)
  k_steps
  · rename_i hkl D5 ws5 hC5 hI5 hJ5 hL5 l5 E5 h5 F5 N5 l6
    refine Hold.of (eq_nats (ns := (fs.drop k).take 5) (ms := [62, 26, 38, 41, 63]) (Mine.News.lst N5 (.tail _ (.head _))) (slice_nats fs k 5 ▸ hI5) (Mine.News.lst N5 (.head _)) (.cons _ _ (.cons _ _ (.cons _ _ (.cons _ _ (.cons _ _ .nil))))) hroom ?_)
    clear hI5 hJ5 hL5
    k_steps
    · rename Fr _ _ _ _ => F6
      rename PyProof.Rows.News _ _ _ _ => N6
      rename List.take 5 _ = _ => hc
      simp only [List.push_toArray] at N6
      have HT := fun n' m' ta tb t' => H.amp (n' := n') (m' := m') (ta := ta) (tb := tb) (t' := t') hc
      exact ksw_end (_, _, _, _, k + 5, _) F6 N6 (mem_two (.tail _ (.tail _ (.head _))) (.tail _ (.tail _ (.tail _ (.head _))))) trivial (by kst_all) (by intro z h1 h2; simp at h1; simp [h1]) (HT _ _ _ _ _).1 (HT 0 0 0 0 0).2
    · rename_i hna D6 ws6 hC6 hI6 hJ6 hL6 l7 E6 h6 F6 N6 l8
      refine Hold.of (eq_nats (ns := (fs.drop k).take 4) (ms := [62, 37, 45, 63]) (Mine.News.lst N6 (.tail _ (.head _))) (slice_nats fs k 4 ▸ hI6) (Mine.News.lst N6 (.head _)) (.cons _ _ (.cons _ _ (.cons _ _ (.cons _ _ .nil)))) hroom ?_)
      clear hI6 hJ6 hL6
      k_steps
      · rename ¬ List.take 5 _ = _ => hn5
        rename Fr _ _ _ _ => F7
        rename List.take 4 _ = [62, 37, 45, 63] => hc
        have hv : fs[k + 1]? = some 37 := take_item hc (by decide)
        refine Hold.of (item_nat (Fr.lst F7 hl) hi (j := k + 1) (v := 37) rfl (by lia) hv ?_)
        intro t9
        k_steps
        rename Fr _ _ _ _ => F8
        rename PyProof.Rows.News _ _ _ _ => N8
        simp only [List.push_toArray] at N8
        have HT := fun n' m' tb t' => H.ref (n' := n') (m' := m') (tb := tb) (t' := t') (y := 64) hn5 (.inl hc) hv rfl
        exact ksw_end (_, _, _, _, k + 4, _) F8 N8 (mem_two (by repeat (first | exact List.Mem.head _ | refine List.Mem.tail _ ?_)) (by repeat (first | exact List.Mem.head _ | refine List.Mem.tail _ ?_))) trivial (by kst_all) (by intro z h1 h2; simp at h1; simp [h1]) (HT _ _ _ _).1 (HT 0 0 0 0).2
      · rename_i hnb D7 ws7 hC7 hI7 hJ7 hL7 l9 E7 h7 F7 N7 l10
        rename ¬ List.take 5 _ = _ => hn5
        rename ¬ List.take 4 _ = _ => hn4
        refine Hold.of (eq_nats (ns := (fs.drop k).take 4) (ms := [62, 32, 45, 63]) (Mine.News.lst N7 (.tail _ (.head _))) (slice_nats fs k 4 ▸ hI7) (Mine.News.lst N7 (.head _)) (.cons _ _ (.cons _ _ (.cons _ _ (.cons _ _ .nil)))) hroom ?_)
        clear hI7 hJ7 hL7
        k_steps
        · rename Fr _ _ _ _ => F7
          rename List.take 4 _ = [62, 32, 45, 63] => hc
          have hv : fs[k + 1]? = some 32 := take_item hc (by decide)
          refine Hold.of (item_nat (Fr.lst F7 hl) hi (j := k + 1) (v := 32) rfl (by lia) hv ?_)
          intro t9
          k_steps
          rename Fr _ _ _ _ => F8
          rename PyProof.Rows.News _ _ _ _ => N8
          simp only [List.push_toArray] at N8
          have HT := fun n' m' tb t' => H.ref (n' := n') (m' := m') (tb := tb) (t' := t') (y := 65) hn5 (.inr hc) hv rfl
          exact ksw_end (_, _, _, _, k + 4, _) F8 N8 (mem_two (by repeat (first | exact List.Mem.head _ | refine List.Mem.tail _ ?_)) (by repeat (first | exact List.Mem.head _ | refine List.Mem.tail _ ?_))) trivial (by kst_all) (by intro z h1 h2; simp at h1; simp [h1]) (HT _ _ _ _).1 (HT 0 0 0 0).2
        · rename Fr _ _ _ _ => F8
          rename ¬ List.take 4 _ = [62, 32, 45, 63] => hn4'
          have hkl' : k < fs.length := by rw [List.length_map] at hkl; lia
          have hv : fs[k]? = some fs[k] := List.getElem?_eq_getElem hkl'
          refine Hold.of (item_nat (Fr.lst F8 hl) hi (j := k) (v := fs[k]) rfl (by lia) hv ?_)
          intro t9
          k_steps
          rename Fr _ _ _ _ => F9
          refine Hold.of (item_nat (Fr.lst F9 hl) hi (j := k) (v := fs[k]) rfl (by lia) hv ?_)
          intro t10
          k_steps
          rename Fr _ _ _ _ => F10
          rename PyProof.Rows.News _ _ _ _ => N10
          simp only [List.push_toArray] at N10
          have HT := fun n' m' ta tb t' => H.one (n' := n') (m' := m') (ta := ta) (tb := tb) (t' := t') hn5 hn4 hn4' hkl' hv
          exact ksw_end (_, _, _, _, k + 1, _) F10 N10 (mem_two (by repeat (first | exact List.Mem.head _ | refine List.Mem.tail _ ?_)) (by repeat (first | exact List.Mem.head _ | refine List.Mem.tail _ ?_))) trivial (by kst_all) (by intro z h1 h2; simp at h1; simp [h1]) (HT _ _ _ _ _).1 (HT 0 0 0 0 0).2
  · rename Fr _ _ _ _ => F4
    rename PyProof.Rows.News _ _ _ _ => N4
    have HD := H.done (by assumption)
    exact hret _ _ _ (Fr.keep F4) ⟨_, ra, sa, _, ws, zs, n, m, rfl, (N4 _ (.head _)).2.2, (N4 _ (.head _)).1, (N4 _ (.tail _ (.tail _ (.head _)))).2.2, (N4 _ (.tail _ (.tail _ (.head _)))).1, HD.1, (N4 _ (.tail _ (.head _))).2.2, (N4 _ (.tail _ (.head _))).1, HD.2⟩
end
end Mine
end M7part
end WalksA
section MTpart
namespace Mine
open Builtin
theorem slot_tr : Slot "bytes" "translate" "bytes.translate" :=
  .of (owner := "bytes") (n := "translate") (by rw [typeLookup_type, builtinLookup_eq_fast]; kernel_rfl) (by decide +kernel) (by decide +kernel) (by decide +kernel)
    (by first | exact .inl (by decide +kernel) | exact .inr (by decide +kernel)) (by rw [isSubtype_type]; kernel_rfl)
theorem type_tr : typeOf (.builtin "bytes.translate") = pure (.type "method_descriptor") := by show builtinType _ = _; rw [builtinType_eq_fast]; kernel_rfl
theorem entry_tr : entryFor table "bytes.translate" = some Builtin.«bytes.translate» := entryFor_of_tree (by kernel_rfl)
theorem args_tr (a b : Value) : argsOk "bytes.translate" ⟨[a, b], []⟩ := by
  unfold argsOk; kernel_rfl
theorem args_dec (a b : Value) : argsOk "bytes.decode" ⟨[a, b], []⟩ := by
  unfold argsOk; kernel_rfl
theorem args_mt (a b : Value) : argsOk "bytes.maketrans" ⟨[a, b], []⟩ := by
  unfold argsOk; kernel_rfl
theorem entry_mt : entryFor table "bytes.maketrans" = some Builtin.«bytes.maketrans» := entryFor_of_tree (by kernel_rfl)

theorem meets_tr {b tab : Array UInt8} {t u : Tok} (htab : tab.size = 256) :
    Meets («bytes.translate» ⟨[.bytes b t, .bytes tab u], []⟩) (fun _ R s => b.size ≤ sizeLine ∧ ∀ t' k, R (.ok (.ret (.bytes (b.map fun c => tab.getD c.toNat c) t'))) { s with toks := k }) := by
  refine .of_wp fun prog w A R s hS => ?_
  obtain ⟨hsz, h⟩ := hS
  show wpAny _ _ (Bytes.bytesLike _ (.bytes tab u) >>= _) _ _ s
  refine wpAny_bind (wpAny_of_eq KBd.like_eq ?_)
  have h256 : ¬ ((tab.size != 256) = true) := by simp [htab]
  rw [if_neg h256]
  have e : (b.filter fun x => !(#[] : Array UInt8).contains x) = b := by simp
  refine wpAny_bind (wpAny_pure ?_)
  show wpAny _ _ (pure (#[] : Array UInt8) >>= _) _ _ s
  refine wpAny_bind (wpAny_pure ?_)
  show wpAny _ _ (pure b >>= _) _ _ s
  refine wpAny_bind (wpAny_pure ?_)
  dsimp only
  rw [e]
  split
  · rename_i hb
    have hb' := eq_of_beq hb
    refine wpAny_bind (wpAny_rule ?_)
    refine wpAny_bind (wpAny_of_eq (a := Value.bytes b t) rfl ?_)
    exact wpAny_pure ⟨_, rfl, hb' ▸ h t s.toks⟩
  · refine wpAny_bind (wpAny_mkBytes ?_ (by simpa using hsz))
    exact wpAny_pure ⟨_, rfl, h _ _⟩

theorem translate {prog : Program} {w : World} {A : Around} {E : Value → Shared → Prop} {s : Shared} {b tab : Array UInt8} {t u : Tok} {Q : Value → Shared → Prop} (htab : tab.size = 256) (hsz : b.size ≤ sizeLine)
    (h : ∀ t' k, Q (.bytes (b.map fun c => tab.getD c.toNat c) t') { s with toks := k }) : wpAny (model prog w) A (call (.builtin "bytes.translate") [.bytes b t, .bytes tab u]) Q E s :=
  call_meets slot_tr (typeIs_bytes _ _ _) entry_tr (args_tr _ _) (meets_tr htab) ⟨hsz, h⟩

noncomputable def tabOf (frm to : Array UInt8) : Array UInt8 := (frm.toList.zip to.toList).foldl (fun t (f, x) => t.setIfInBounds f.toNat x) ((Array.range 256).map (·.toUInt8))
theorem meets_mt {frm to : Array UInt8} {t u : Tok} (hs : frm.size = to.size) (h256 : (tabOf frm to).size = 256) :
    Meets («bytes.maketrans» ⟨[.bytes frm t, .bytes to u], []⟩) (fun _ R s => ∀ t' k, R (.ok (.ret (.bytes (tabOf frm to) t'))) { s with toks := k }) := by
  refine .of_wp fun prog w A R s h => ?_
  show wpAny _ _ (Bytes.bytesLike _ (.bytes frm t) >>= _) _ _ s
  refine wpAny_bind (wpAny_of_eq KBd.like_eq ?_)
  show wpAny _ _ (Bytes.bytesLike _ (.bytes to u) >>= _) _ _ s
  refine wpAny_bind (wpAny_of_eq KBd.like_eq ?_)
  have hn : ¬ ((frm.size != to.size) = true) := by simp [hs]
  rw [if_neg hn]
  refine wpAny_bind (wpAny_mkBytes ?_ (by show (tabOf frm to).size ≤ _; rw [h256, sizeLine_eq]; decide))
  exact wpAny_pure ⟨_, rfl, h _ _⟩
theorem check_mt (a b : Value) : checkBuiltinCall "bytes.maketrans" ⟨[a, b], []⟩ = pure () := by kernel_rfl
theorem plain_mt : plainId "bytes.maketrans" = true := by decide +kernel
theorem maketrans {prog : Program} {w : World} {A : Around} {E : Value → Shared → Prop} {s : Shared} {frm to : Array UInt8} {t u : Tok} {Q : Value → Shared → Prop} (hs : frm.size = to.size) (h256 : (tabOf frm to).size = 256)
    (h : ∀ t' k, Q (.bytes (tabOf frm to) t') { s with toks := k }) : wpAny (model prog w) A (call (.builtin "bytes.maketrans") [.bytes frm t, .bytes to u]) Q E s := by
  refine wpAny_call (codeAny_call_builtin plain_mt entry_mt ?_)
  rw [check_mt]
  exact wpAny_pure (meets_mt hs h256 prog w A (wants Q E) s h)

theorem forIn_list_run {β : Type} (f : Nat → β → Sem (ForInStep β)) (st : Nat → β) : ∀ (k j : Nat), (∀ i, j ≤ i → i < j + k → ∀ x, f x (st i) = pure (.yield (st (i + 1)))) → ∀ l : List Nat, l.length = k → forIn l (st j) f = (pure (st (j + k)) : Sem β)
  | 0, j, _, l, hl => by rw [List.length_eq_zero_iff.mp hl]; rfl
  | k + 1, j, h, l, hl => by
    cases l with
    | nil => cases hl
    | cons a r =>
      rw [List.forIn_cons, h j (Nat.le_refl _) (by lia) a]
      show forIn r (st (j + 1)) f = _
      rw [forIn_list_run f st k (j + 1) (fun i h1 h2 => h i (by lia) (by lia)) r (by simpa using hl)]
      rw [show j + 1 + k = j + (k + 1) by lia]
theorem forIn_range_list {β : Type} (f : Nat → β → Sem (ForInStep β)) (b : β) (n : Nat) : forIn [:n] b f = forIn (List.range' 0 n) b f := by
  first | (rw [Std.Legacy.Range.forIn_eq_forIn_range']; simp [Std.Legacy.Range.size]) | (rw [Std.Range.forIn_eq_forIn_range']; simp [Std.Range.size])
theorem bind_run {β γ : Type} {f : Nat → β → Sem (ForInStep β)} {k : β → Sem γ} {r : Sem γ} {b₀ : β} {n : Nat} (st : Nat → β) (h0 : st 0 = b₀) (h : ∀ i < n, ∀ x, f x (st i) = pure (.yield (st (i + 1)))) (hr : k (st n) = r) :
    (forIn [:n] b₀ f >>= k) = r := by
  subst h0
  rw [forIn_range_list, forIn_list_run f st n 0 (fun i _ h2 => h i (by lia)) _ (by simp), Nat.zero_add]
  exact hr
theorem run_ascii (id : String) (b : Array UInt8) (hb : ∀ c ∈ b.toList, c.toNat < 128) (hs : b.size ≤ sizeLine) :
    _codecs.runDecoder id _codecs.asciiDecoder none true b 0 [] = pure ((b.toList.map fun c => c.toNat).toArray, b.size) := by
  unfold _codecs.runDecoder
  dsimp only
  refine bind_run (fun i => (i, ((b.toList.take i).map fun c => c.toNat).toArray, ({} : _codecs.Faults))) rfl ?_ ?_
  · intro i hi x
    dsimp only
    have h1 : ¬ (((b.toList.take i).map fun c => c.toNat).toArray.size > sizeLine) := by simp; lia
    rw [if_neg h1, if_neg (by lia)]
    have h2 : _codecs.asciiDecoder.find true b i = .text [(b.getD i 0).toNat] (i + 1) := by
      have hc : (b.getD i 0).toNat < 128 := by
        apply hb
        rw [Array.getD_eq_getD_getElem?]
        simp [hi]
      show (if (b.getD i 0).toNat < 128 then _ else _) = _
      rw [if_pos hc]; rfl
    rw [h2]
    dsimp only
    congr 3
    have h3 : b.toList.take (i + 1) = b.toList.take i ++ [b.getD i 0] := by
      rw [List.take_add_one, Array.getD_eq_getD_getElem?]
      simp [hi]
    rw [h3]
    simp
  · dsimp only
    rw [List.take_of_length_le (by simp)]
theorem bind_once {β γ : Type} {f : Nat → β → Sem (ForInStep β)} {k : β → Sem γ} {r : Sem γ} {b₀ : β} {n : Nat} (b₁ : β) (h0 : n = 0 → b₀ = b₁) (h1 : n ≠ 0 → ∀ x, f x b₀ = pure (.yield b₁)) (h2 : ∀ x, f x b₁ = pure (.done b₁)) (hr : k b₁ = r) :
    (forIn [:n] b₀ f >>= k) = r := by
  rw [forIn_range_list]
  have e : forIn (List.range' 0 n) b₀ f = (pure b₁ : Sem β) := by
    cases n with
    | zero => rw [h0 rfl]; rfl
    | succ n =>
      rw [List.range'_succ, List.forIn_cons, h1 (Nat.succ_ne_zero _)]
      show forIn (List.range' (0 + 1) n) b₁ f = _
      cases n with
      | zero => rfl
      | succ n => rw [List.range'_succ, List.forIn_cons, h2]; rfl
  rw [e]
  exact hr
theorem foldl_bytes (xs : List Nat) (acc : Array UInt8) : xs.foldl (fun acc y => acc ++ (_codecs.asciiCodec.bytesOf y).toArray) acc = acc ++ (xs.map fun c => c.toUInt8).toArray := by
  induction xs generalizing acc with
  | nil => simp
  | cons a r ih =>
    rw [List.foldl_cons, ih]
    show acc ++ #[a.toUInt8] ++ _ = _
    simp
theorem narrow_ascii (id : String) (v : Value) (x : PySem.Str) (hx : ∀ c ∈ x.cps.toList, c < 128) (hs : x.length ≤ sizeLine) :
    _codecs.encodeNarrow id _codecs.asciiCodec none v x = pure ((x.cps.toList.map fun c => c.toUInt8).toArray) := by
  unfold _codecs.encodeNarrow
  dsimp only
  have hlen : x.length = x.cps.size := rfl
  have hnone : Array.findIdx? _codecs.asciiCodec.bad (x.cps.extract 0) = none := by
    rw [Array.findIdx?_eq_none_iff]
    intro c hc
    have : c ∈ x.cps.toList := by simpa using hc
    have := hx c this
    show decide (c ≥ 128) = false
    simp; lia
  refine bind_once (x.cps.size, (x.cps.toList.map fun c => c.toUInt8).toArray, ({} : _codecs.Faults)) ?_ ?_ ?_ rfl
  · intro h
    have : x.cps = #[] := Array.eq_empty_of_size_eq_zero h
    rw [this]; rfl
  · intro h y
    have h0 : 0 < x.cps.size := by lia
    have e0 : x.cps[0]? = some x.cps[0] := by simp [h0]
    dsimp only
    rw [if_neg (by show ¬ (0 > sizeLine); lia), e0]
    dsimp only
    rw [hnone]
    have hb : (!_codecs.asciiCodec.bad x.cps[0]) = true := by
      have := hx x.cps[0] (by simp)
      show (!decide (x.cps[0] ≥ 128)) = true
      simp; lia
    rw [if_pos hb]
    congr 3
    · simp
    · congr 1
      rw [← Array.foldl_toList]
      rw [foldl_bytes]
      simp
  · intro y
    dsimp only
    have hn : x.cps[x.cps.size]? = none := by simp
    rw [if_neg (by simp; rw [← hlen]; lia), hn]

/-! ## decode and encode by ascii -/
theorem road_dec (id : String) (b : Array UInt8) : _codecs.decodeRoad id b (PySem.Str.ofString "ascii") none [] = (_codecs.runDecoder id _codecs.asciiDecoder none true b 0 [] >>= fun r => mkStr ⟨r.1⟩) := by kernel_rfl
theorem road_enc (id : String) (v : Value) (x : PySem.Str) : _codecs.encodeRoad id v x (PySem.Str.ofString "ascii") none = (_codecs.encodeNarrow id _codecs.asciiCodec none v x >>= fun r => mkBytes r) := by kernel_rfl
theorem dec_tree (c : UInt8) (cs : List UInt8) (t u : Tok) : «bytes.decode» ⟨[.bytes (c :: cs).toArray t, .str (PySem.Str.ofString "ascii") u], []⟩ =
    (mkStr (PySem.Str.ofString "utf-8") >>= fun _ => mkStr (PySem.Str.ofString "ascii") >>= fun e => mkStr (PySem.Str.ofString "bytes.decode") >>= fun d =>
    call (.builtin "_codecs.decode.text") [.bytes (c :: cs).toArray t, e, .none, d] >>= fun v => ret v) := by kernel_rfl
theorem enc_tree (x : PySem.Str) (t u : Tok) : «str.encode» ⟨[.str x t, .str (PySem.Str.ofString "ascii") u], []⟩ = (_codecs.encodeRoad "str.encode" (.str x t) x (PySem.Str.ofString "ascii") none >>= fun v => ret v) := by kernel_rfl
theorem meets_text_ascii {b : Array UInt8} {t t1 t2 : Tok} {d : PySem.Str} (hb : ∀ c ∈ b.toList, c.toNat < 128) (hs : b.size ≤ sizeLine) :
    Meets («_codecs.decode.text» ⟨[.bytes b t, .str (PySem.Str.ofString "ascii") t1, .none, .str d t2], []⟩) (fun _ R s => R (.ok (.ret (.str ⟨(b.toList.map fun c => c.toNat).toArray⟩ s.toks))) { s with toks := s.toks + 1 }) := by
  refine .of_wp fun prog w A R s h => ?_
  show wpAny _ _ (Bytes.bytesLike _ (.bytes b t) >>= fun r => _) _ _ s
  refine wpAny_bind (wpAny_of_eq KBd.like_eq ?_)
  refine wpAny_bind (wpAny_of_eq KBd.held_eq ?_)
  show wpAny _ _ (_codecs.decodeRoad _ b (PySem.Str.ofString "ascii") none [] >>= fun v => _) _ _ s
  rw [road_dec, run_ascii _ _ hb hs]
  refine wpAny_bind (wpAny_bind (wpAny_pure ?_))
  exact wpAny_mkStr (wpAny_pure ⟨_, rfl, h⟩) (by show (List.toArray _).size ≤ _; simpa using hs)
theorem meets_dec {c : UInt8} {cs : List UInt8} {t u : Tok} (hb : ∀ z ∈ c :: cs, z.toNat < 128) (hs : (c :: cs).length ≤ sizeLine) :
    Meets («bytes.decode» ⟨[.bytes (c :: cs).toArray t, .str (PySem.Str.ofString "ascii") u], []⟩) (fun _ R s => ∀ t' k, R (.ok (.ret (.str ⟨((c :: cs).map fun c => c.toNat).toArray⟩ t'))) { s with toks := k }) := by
  refine .of_wp fun prog w A R s h => ?_
  rw [dec_tree]
  refine wpAny_bind (wpAny_mkStr ?_ (by decide))
  refine wpAny_bind (wpAny_mkStr ?_ (by decide))
  refine wpAny_bind (wpAny_mkStr ?_ (by decide))
  have hb' : ∀ z ∈ ((c :: cs).toArray).toList, z.toNat < 128 := hb
  have hs' : ((c :: cs).toArray).size ≤ sizeLine := by rw [List.size_toArray]; exact hs
  refine wpAny_bind (call_function_meets KBd.kind_text KBd.plain_text KBd.entry_text (KBd.args_text _ _ _ _) (meets_text_ascii hb' hs') ?_)
  show wpAny _ _ (ret _) _ _ _
  exact wpAny_pure ⟨_, rfl, h _ _⟩
theorem meets_enc {x : PySem.Str} {t u : Tok} (hx : ∀ c ∈ x.cps.toList, c < 128) (hs : x.length ≤ sizeLine) :
    Meets («str.encode» ⟨[.str x t, .str (PySem.Str.ofString "ascii") u], []⟩) (fun _ R s => ∀ t' k, R (.ok (.ret (.bytes (x.cps.toList.map fun c => c.toUInt8).toArray t'))) { s with toks := k }) := by
  refine .of_wp fun prog w A R s h => ?_
  rw [enc_tree, road_enc, narrow_ascii _ _ _ hx hs]
  refine wpAny_bind (wpAny_bind (wpAny_pure ?_))
  exact wpAny_mkBytes (wpAny_pure ⟨_, rfl, h _ _⟩) (by simpa [PySem.Str.length] using hs)
section
variable {prog : Program} {w : World} {A : Around} {E : Value → Shared → Prop} {s : Shared} {t u : Tok} {Q : Value → Shared → Prop}
/-- bytes of numbers below 128, decoded -/
theorem decode_ascii {xs : List Nat} (h0 : xs ≠ []) (hx : ∀ c ∈ xs, c < 128) (hs : xs.length ≤ sizeLine) (h : ∀ t' k, Q (.str (tx xs) t') { s with toks := k }) :
    wpAny (model prog w) A (call (.builtin "bytes.decode") [.bytes (bsA xs) t, .str (PySem.Str.ofString "ascii") u]) Q E s := by
  cases xs with
  | nil => exact absurd rfl h0
  | cons a r =>
    have e : ((a :: r).map fun n => n.toUInt8).map (fun c => c.toNat) = a :: r := by
      have := bsA_nats (os := a :: r) fun o ho => Nat.lt_trans (hx o ho) (by decide)
      simpa [bsA] using this
    have e0 : bsA (a :: r) = (a.toUInt8 :: r.map fun n => n.toUInt8).toArray := rfl
    have e' : ((a.toUInt8 :: r.map fun n => n.toUInt8).map fun c => c.toNat) = a :: r := e
    have hb : ∀ z ∈ a.toUInt8 :: (r.map fun n => n.toUInt8), z.toNat < 128 := by
      intro z hz
      have hz' : z ∈ (a :: r).map fun n => n.toUInt8 := hz
      obtain ⟨n, hn, rfl⟩ := List.mem_map.mp hz'
      have := hx n hn
      show n % 256 < 128
      lia
    have hl : (a.toUInt8 :: r.map fun n => n.toUInt8).length ≤ sizeLine := by simpa using hs
    rw [e0]
    generalize a.toUInt8 = c0 at *
    generalize (r.map fun n => n.toUInt8) = cs0 at *
    have hm := meets_dec (t := t) (u := u) hb hl
    rw [e'] at hm
    exact call_meets FB.slot_bytes_decode (typeIs_bytes _ _ _) FB.entry_bytes_decode (args_dec _ _) hm h
theorem encode_ascii {xs : List Nat} (hx : ∀ c ∈ xs, c < 128) (hs : xs.length ≤ sizeLine) (h : ∀ t' k, Q (.bytes (bsA xs) t') { s with toks := k }) :
    wpAny (model prog w) A (call (.builtin "str.encode") [.str (tx xs) t, .str (PySem.Str.ofString "ascii") u]) Q E s :=
  call_meets PySem.F.slot_str_encode (typeIs_str _ _ _) PySem.F.entry_str_encode (PySem.F.args_str_encode_2 _ _) (meets_enc (x := tx xs) (by simpa [tx] using hx) (by simpa [tx, PySem.Str.length] using hs)) fun t' k => by
    have : ((tx xs).cps.toList.map fun c => c.toUInt8).toArray = bsA xs := by simp [tx, bsA]
    rw [this]; exact h t' k
end
theorem meta_bytes : typeOf (.type "bytes") = pure (.type "type") := by first | rfl | kernel_rfl
section
variable {M : Model} {A : Around} {E : Value → Shared → Prop} {s : Shared} {x : PySem.Str} {b : Array UInt8} {t : Tok} {pl : Sem Bool} {Q : Value × List Value → Shared → Prop}
theorem gm_encode (h : Q (.builtin "str.encode", [.str x t]) s) : wpAny M A (getMethod (.str x t) "encode" pl) Q E s := by
  with_reducible exact GM.of (.str x t) (typeIs_str _ _ _) PySem.F.slot_str_encode PySem.F.type_str_encode GM.noRef h
theorem gm_replace (h : Q (.builtin "str.replace", [.str x t]) s) : wpAny M A (getMethod (.str x t) "replace" pl) Q E s := by
  with_reducible exact GM.of (.str x t) (typeIs_str _ _ _) PySem.F.slot_str_replace PySem.F.type_str_replace GM.noRef h
theorem gm_translate (h : Q (.builtin "bytes.translate", [.bytes b t]) s) : wpAny M A (getMethod (.bytes b t) "translate" pl) Q E s := by
  with_reducible exact KBd.method_of (.bytes b t) (typeIs_bytes _ _ _) slot_tr type_tr KBd.noRef h
end
/-! ## replace, the tokens kept in view -/
theorem replaceT {prog : Program} {w : World} {A : Around} {E : Value → Shared → Prop} {s : Shared} {x y z : PySem.Str} {t u v : Tok} {Q : Value → Shared → Prop}
    (hu : u ≠ 0) (hv : v ≠ 0) (huv : u ≠ v) (hyz : (y == z) = false) (hb : x.length + (x.length + 1) * z.length ≤ 16777216)
    (hq : ∀ t' k, s.toks ≤ k → Q (.str (Txt.replace x y z) t') { s with toks := k }) : wpAny (model prog w) A (call (.builtin "str.replace") [.str x t, .str y u, .str z v]) Q E s := by
  have e : (2 : Nat) ^ 24 = 16777216 := by decide
  have hl : Builtin.Str.tooLong (x.length + (Builtin.Str.occurrences x y 0 x.length (x.length + 1)).length * z.length) = false := by
    have h1 := StrLaws.occ_length_le x y 0 x.length (x.length + 1)
    have h2 : (Builtin.Str.occurrences x y 0 x.length (x.length + 1)).length * z.length ≤ (x.length + 1) * z.length := Nat.mul_le_mul_right _ h1
    unfold Builtin.Str.tooLong sizeLine
    exact decide_eq_false (by lia)
  refine call_gives PySem.F.slot_str_replace (typeIs_str _ _ _) PySem.F.entry_str_replace (PySem.F.args_str_replace_3 _ _ _)
    (gives_str_replace x y z t u v fun _ => ⟨by simp [hu, hv], by simp [huv], hyz, hl⟩) ?_
  have hq' := hq
  unfold Txt.replace at hq'
  cases hc : ((Builtin.Str.occurrences x y 0 x.length (x.length + 1)).isEmpty || (y.length == 0 && z.length == 0))
  · rw [hc] at hq'
    simp only [Bool.false_eq_true, if_false] at hq' ⊢
    exact ⟨fits_replaced y hb, hq' _ _ (Nat.le_succ _)⟩
  · rw [hc] at hq'
    simp only [if_true] at hq' ⊢
    exact hq' t s.toks (Nat.le_refl _)
end Mine
end MTpart
section MUpart
namespace Mine
section
variable {prog : Program} {w : World} {K : Frag} {p : Program} {loose : List Str} {mean : ExcName → Option Value} {mg mb : Str → Option Value} {A₀ : Around} {base h₀ : Heap} {outer : List Env} {m : Str → Option Value}
  {dp un d u : Nat} {gd : Option (List Code)} {cn qual : Str} {cs sc : Scope} {L L' a f' f : Addr} {ccd cdv : Value} {vals : List Value} {kw : List (Str × Value)} {s : Shared} {R : Value → Heap → Prop} {Q E : Value → Shared → Prop} {news : List (Addr × Obj)}

/-- a contract at a call within a def without cells -/
theorem Does.use (D : Does prog w K d u f vals kw s R) (B : Below A₀ base (envOf cn cs L a ccd :: outer) h₀) (F : Fr h₀ L' s.heap m) (N : News h₀ L' s.heap news) (X : K.In h₀) (T : Top p loose mean mg mb h₀)
    (hck : sc.kind = .function) (hd : dp + 1 + d < recursionLimit) (hu : un + 3 + u < cLine)
    (hQ : ∀ v h' tk', Fr h₀ L' s.heap m → Kp s.heap h' → R v h' → Fr h₀ L' h' m → News h₀ L' h' news → Q v { s with heap := h', toks := tk' }) :
    wpAny (model prog w) ((ktrTop dp un gd cn cs L a ccd [] outer).deeper (envOf qual sc L' f' cdv)) (call (.ref f) vals kw) Q E s :=
  D p loose mean mg mb (dp + 1) (un + 3) gd qual sc f' cdv (envOf cn cs L a ccd :: outer) A₀ base h₀ L' m Q E B F X T hck hd hu fun v h' tk' hk hr => hQ v h' tk' F hk hr (F.kept hk) (N.keepsAll hk)

/-- the same, where a value with a token comes back -/
theorem Does.useT {g : Tok → Value} (D : Does prog w K d u f vals kw s (fun v _ => ∃ t', v = g t')) (B : Below A₀ base (envOf cn cs L a ccd :: outer) h₀) (F : Fr h₀ L' s.heap m) (N : News h₀ L' s.heap news) (X : K.In h₀) (T : Top p loose mean mg mb h₀)
    (hck : sc.kind = .function) (hd : dp + 1 + d < recursionLimit) (hu : un + 3 + u < cLine)
    (hQ : ∀ t' h' tk', Fr h₀ L' h' m → News h₀ L' h' news → Q (g t') { s with heap := h', toks := tk' }) :
    wpAny (model prog w) ((ktrTop dp un gd cn cs L a ccd [] outer).deeper (envOf qual sc L' f' cdv)) (call (.ref f) vals kw) Q E s :=
  D.use B F N X T hck hd hu fun v h' tk' _ _ hr F' N' => by
    obtain ⟨t', rfl⟩ := hr
    exact hQ t' h' tk' F' N'
/-- a value without a token -/
theorem Does.useV {v₀ : Value} (D : Does prog w K d u f vals kw s (fun v _ => v = v₀)) (B : Below A₀ base (envOf cn cs L a ccd :: outer) h₀) (F : Fr h₀ L' s.heap m) (N : News h₀ L' s.heap news) (X : K.In h₀) (T : Top p loose mean mg mb h₀)
    (hck : sc.kind = .function) (hd : dp + 1 + d < recursionLimit) (hu : un + 3 + u < cLine)
    (hQ : ∀ h' tk', Fr h₀ L' h' m → News h₀ L' h' news → Q v₀ { s with heap := h', toks := tk' }) :
    wpAny (model prog w) ((ktrTop dp un gd cn cs L a ccd [] outer).deeper (envOf qual sc L' f' cdv)) (call (.ref f) vals kw) Q E s :=
  D.use B F N X T hck hd hu fun v h' tk' _ _ hr F' N' => by
    subst hr
    exact hQ h' tk' F' N'
/-- a text, a row of octets by another name -/
theorem Does.castS {xs ys : List Nat} (D : Does prog w K d u f vals kw s (fun v _ => ∃ t', v = .str (tx xs) t')) (e : xs = ys) : Does prog w K d u f vals kw s (fun v _ => ∃ t', v = .str (tx ys) t') := e ▸ D
theorem Does.castB {xs ys : List Nat} (D : Does prog w K d u f vals kw s (fun v _ => ∃ t', v = .bytes (bsA xs) t')) (e : xs = ys) : Does prog w K d u f vals kw s (fun v _ => ∃ t', v = .bytes (bsA ys) t') := e ▸ D
theorem Does.weak {R' : Value → Heap → Prop} (D : Does prog w K d u f vals kw s R) (h : ∀ v h', R v h' → R' v h') : Does prog w K d u f vals kw s R' :=
  fun p loose mean mg mb dp un gd cn cs a ccd outer A₀ base h₀ L m Q E B F X T hck hd hu hret => D p loose mean mg mb dp un gd cn cs a ccd outer A₀ base h₀ L m Q E B F X T hck hd hu fun v h' tk' hk hr => hret v h' tk' hk (h v h' hr)

theorem News.add {h h' : Heap} {l : Addr} {o : Obj} (F : Fr h₀ L h m) (N : PyProof.Rows.News h₀ L h' news) (hn : h.get? l = none) (ho : h'.get? l = some o) : PyProof.Rows.News h₀ L h' ((l, o) :: news) := by
  obtain ⟨oL, _, _, hL, _⟩ := F.ns
  intro p hp
  rcases List.mem_cons.mp hp with rfl | hp
  · refine ⟨ho, ?_, ?_⟩
    · intro e
      rw [show l = L from e] at hn
      rw [hL] at hn
      cases hn
    · cases e : h₀.get? l with
      | none => rfl
      | some o' =>
        rw [F.keep _ _ e] at hn
        cases hn
  · exact N p hp
/-- a new list of numbers comes back -/
theorem Does.useN {xs : List Nat} (D : Does prog w K d u f vals kw s (fun v h' => NewNats s.heap h' v xs)) (B : Below A₀ base (envOf cn cs L a ccd :: outer) h₀) (F : Fr h₀ L' s.heap m) (N : PyProof.Rows.News h₀ L' s.heap news) (X : K.In h₀) (T : Top p loose mean mg mb h₀)
    (hck : sc.kind = .function) (hd : dp + 1 + d < recursionLimit) (hu : un + 3 + u < cLine)
    (hQ : ∀ l ws n h' tk', IntsAre ws (xs.map fun (n : Nat) => (n : Int)) → Fr h₀ L' h' m → PyProof.Rows.News h₀ L' h' ((l, listOf ws.toArray n) :: news) → Q (.ref l) { s with heap := h', toks := tk' }) :
    wpAny (model prog w) ((ktrTop dp un gd cn cs L a ccd [] outer).deeper (envOf qual sc L' f' cdv)) (call (.ref f) vals kw) Q E s :=
  D.use B F N X T hck hd hu fun v h' tk' F0 _ hr F' N' => by
    obtain ⟨l, ws, n, rfl, h0, h1, hi⟩ := hr
    exact hQ l ws n h' tk' hi F' (News.add F0 N' h0 h1)
end

/-! ## bits of natural numbers -/
theorem bitAnd_nat (a b : Nat) : Builtin.bitAnd (a : Int) (b : Int) = ((a &&& b : Nat) : Int) := by
  unfold Builtin.bitAnd
  rw [decide_eq_true (Int.natCast_nonneg a), decide_eq_true (Int.natCast_nonneg b)]
  rfl
theorem bitOr_nat (a b : Nat) : Builtin.bitOr (a : Int) (b : Int) = ((a ||| b : Nat) : Int) := by
  unfold Builtin.bitOr Builtin.bitAnd
  have ha : decide ((0 : Int) ≤ Builtin.bitNot (a : Int)) = false := by
    unfold Builtin.bitNot; exact decide_eq_false (by lia)
  have hb : decide ((0 : Int) ≤ Builtin.bitNot (b : Int)) = false := by
    unfold Builtin.bitNot; exact decide_eq_false (by lia)
  rw [ha, hb]
  dsimp only
  have e : ∀ x : Int, Builtin.bitNot (Builtin.bitNot x) = x := fun x => by unfold Builtin.bitNot; lia
  rw [e, e, e]
  rfl
section
variable {prog : Program} {w : World} {A : Around} {E : Value → Shared → Prop} {hp : Heap} {tk : Nat} {s : Shared} {Q : Value → Shared → Prop} {x y : Int} {t u : Tok}
theorem bAnd (a b r : Nat) (hx : x = (a : Int)) (hy : y = (b : Int)) (hr : a &&& b = r) (h : ∀ t' k, Q (.int (r : Nat) t') { heap := hp, gens := s.gens, drawn := s.drawn, toks := k, os := s.os }) :
    wpAny (model prog w) A (binaryOp .BitAnd (.int x t) (.int y u)) Q E { heap := hp, gens := s.gens, drawn := s.drawn, toks := tk, os := s.os } := by
  subst hx; subst hy; subst hr
  refine PyProof.Rows.and_int ?_
  rw [bitAnd_nat]; exact h _ _
theorem bOr (a b r : Nat) (hx : x = (a : Int)) (hy : y = (b : Int)) (hr : a ||| b = r) (h : ∀ t' k, Q (.int (r : Nat) t') { heap := hp, gens := s.gens, drawn := s.drawn, toks := k, os := s.os }) :
    wpAny (model prog w) A (binaryOp .BitOr (.int x t) (.int y u)) Q E { heap := hp, gens := s.gens, drawn := s.drawn, toks := tk, os := s.os } := by
  subst hx; subst hy; subst hr
  refine PyProof.Rows.or_int ?_
  rw [bitOr_nat]; exact h _ _
theorem bLsh (a k r : Nat) (hx : x = (a : Int)) (hy : y = (k : Int)) (ha : a < 2 ^ 64) (hk : k ≤ 1000000) (hr : a * 2 ^ k = r) (h : ∀ t' k, Q (.int (r : Nat) t') { heap := hp, gens := s.gens, drawn := s.drawn, toks := k, os := s.os }) :
    wpAny (model prog w) A (binaryOp .LShift (.int x t) (.int y u)) Q E { heap := hp, gens := s.gens, drawn := s.drawn, toks := tk, os := s.os } := by
  subst hx; subst hy; subst hr
  refine lshift_int_small (by lia) (by lia) (by simpa using ha) ?_
  have e : (a : Int) * 2 ^ (k : Int).toNat = ((a * 2 ^ k : Nat) : Int) := by rw [Int.toNat_natCast]; push_cast; rfl
  rw [e]; exact h _ _
theorem bRsh (a k r : Nat) (hx : x = (a : Int)) (hy : y = (k : Int)) (hr : a / 2 ^ k = r) (h : ∀ t' k, Q (.int (r : Nat) t') { heap := hp, gens := s.gens, drawn := s.drawn, toks := k, os := s.os }) :
    wpAny (model prog w) A (binaryOp .RShift (.int x t) (.int y u)) Q E { heap := hp, gens := s.gens, drawn := s.drawn, toks := tk, os := s.os } := by
  subst hx; subst hy; subst hr
  refine rshift_int (by lia) ?_
  have e : (a : Int).fdiv (2 ^ (k : Int).toNat) = ((a / 2 ^ k : Nat) : Int) := by
    rw [Int.toNat_natCast, show ((2 : Int) ^ k) = ((2 ^ k : Nat) : Int) by push_cast; rfl, fdiv_nat]
  rw [e]; exact h _ _
theorem bSub (a b r : Nat) (hx : x = (a : Int)) (hy : y = (b : Int)) (hr : r + b = a) (h : ∀ t' k, Q (.int (r : Nat) t') { heap := hp, gens := s.gens, drawn := s.drawn, toks := k, os := s.os }) :
    wpAny (model prog w) A (binaryOp .Sub (.int x t) (.int y u)) Q E { heap := hp, gens := s.gens, drawn := s.drawn, toks := tk, os := s.os } := by
  subst hx; subst hy
  refine PyProof.Rows.sub_int' ?_
  have e : (a : Int) - (b : Int) = ((r : Nat) : Int) := by lia
  rw [e]; exact h _ _
theorem bAdd (a b r : Nat) (hx : x = (a : Int)) (hy : y = (b : Int)) (hr : a + b = r) (h : ∀ t' k, Q (.int (r : Nat) t') { heap := hp, gens := s.gens, drawn := s.drawn, toks := k, os := s.os }) :
    wpAny (model prog w) A (binaryOp .Add (.int x t) (.int y u)) Q E { heap := hp, gens := s.gens, drawn := s.drawn, toks := tk, os := s.os } := by
  subst hx; subst hy
  refine PyProof.Rows.add_int ?_
  have e : (a : Int) + (b : Int) = ((r : Nat) : Int) := by lia
  rw [e]; exact h _ _
end
theorem or_shift {a k b : Nat} (hb : b < 2 ^ k) : a * 2 ^ k ||| b = a * 2 ^ k + b := by
  rw [Nat.mul_comm, Nat.two_pow_add_eq_or_of_lt hb]
theorem and_mask (a k m : Nat) (hm : m = 2 ^ k - 1) : a &&& m = a % 2 ^ k := by
  subst hm; exact Nat.and_two_pow_sub_one_eq_mod a k
end Mine
namespace Mine
/-- a call that comes back, or raises the program's own error (the class at 39) where X -/
noncomputable def DoesX (prog : Program) (w : World) (K : Frag) (d u : Nat) (f : Addr) (vals : List Value) (kw : List (Str × Value)) (s : Shared) (R : Value → Heap → Prop) (X : Prop) : Prop :=
  ∀ (p : Program) (loose : List Str) (mean : ExcName → Option Value) (mg mb : Str → Option Value) (dp un : Nat) (gd : Option (List Code)) (cn : Str) (cs : Scope) (a : Addr) (ccd : Value) (outer : List Env) (A₀ : Around) (base h₀ : Heap) (L : Addr) (m : Str → Option Value) (Q E : Value → Shared → Prop),
    Below A₀ base outer h₀ → Fr h₀ L s.heap m → K.In h₀ → Top p loose mean mg mb h₀ → cs.kind = .function → dp + d < recursionLimit → un + u < cLine →
    (∀ v h' tk', Kp s.heap h' → R v h' → Q v { s with heap := h', toks := tk' }) →
    (∀ e t vs h' tk', X → RaisedS base s.heap (envOf cn cs L a ccd :: outer) e (.ref 39) t vs [] h' → s.heap.UpToSlots h' → E (.ref e) { s with heap := h', toks := tk' }) →
    wpAny (model prog w) (ktrTop dp un gd cn cs L a ccd [] outer) (call (.ref f) vals kw) Q E s
section
variable {prog : Program} {w : World} {K : Frag} {p : Program} {loose : List Str} {mean : ExcName → Option Value} {mg mb : Str → Option Value} {A₀ : Around} {base h₀ : Heap} {outer : List Env} {m : Str → Option Value}
  {dp un d u : Nat} {gd : Option (List Code)} {cn qual : Str} {cs sc : Scope} {L L' a f' f : Addr} {ccd cdv : Value} {vals : List Value} {kw : List (Str × Value)} {s : Shared} {R : Value → Heap → Prop} {XP : Prop} {Q E : Value → Shared → Prop} {news : List (Addr × Obj)}
theorem DoesX.does (D : DoesX prog w K d u f vals kw s R XP) (hx : ¬ XP) : Does prog w K d u f vals kw s R :=
  fun p loose mean mg mb dp un gd cn cs a ccd outer A₀ base h₀ L m Q E B F X T hck hd hu hret => D p loose mean mg mb dp un gd cn cs a ccd outer A₀ base h₀ L m Q E B F X T hck hd hu hret fun _ _ _ _ _ x => absurd x hx
theorem DoesX.use (D : DoesX prog w K d u f vals kw s R XP) (B : Below A₀ base (envOf cn cs L a ccd :: outer) h₀) (F : Fr h₀ L' s.heap m) (N : News h₀ L' s.heap news) (X : K.In h₀) (T : Top p loose mean mg mb h₀)
    (hck : sc.kind = .function) (hd : dp + 1 + d < recursionLimit) (hu : un + 3 + u < cLine)
    (hQ : ∀ v h' tk', Fr h₀ L' s.heap m → Kp s.heap h' → R v h' → Fr h₀ L' h' m → News h₀ L' h' news → Q v { s with heap := h', toks := tk' })
    (hE : ∀ e t vs h' tk', XP → RaisedS base s.heap (envOf qual sc L' f' cdv :: envOf cn cs L a ccd :: outer) e (.ref 39) t vs [] h' → s.heap.UpToSlots h' → E (.ref e) { s with heap := h', toks := tk' }) :
    wpAny (model prog w) ((ktrTop dp un gd cn cs L a ccd [] outer).deeper (envOf qual sc L' f' cdv)) (call (.ref f) vals kw) Q E s :=
  D p loose mean mg mb (dp + 1) (un + 3) gd qual sc f' cdv (envOf cn cs L a ccd :: outer) A₀ base h₀ L' m Q E B F X T hck hd hu (fun v h' tk' hk hr => hQ v h' tk' F hk hr (F.kept hk) (N.keepsAll hk)) hE
end
theorem RaisedS.less {base G : Heap} {l : List Env} {e t : Addr} {cls : Value} {vs : List Value} {news : List (Addr × Obj)} {h : Heap} (R : RaisedS base G l e cls t vs news h) : RaisedS base G l e cls t vs [] h := by
  obtain ⟨⟨B, hB, hG, _, hfl, hnew⟩, htup⟩ := R
  exact ⟨⟨B, hB, hG, (fun q hq => absurd hq List.not_mem_nil), hfl, hnew⟩, htup⟩
end Mine
end MUpart
section L1part
namespace Mine
open PySem.StrLaws PySem.Builtin PySem.Builtin.Str
/-- each y, read once from the left, becomes z; the first number tells how many signs are still of the last y -/
noncomputable def rep (y z : List Nat) : Nat → List Nat → List Nat
  | _, [] => []
  | 0, c :: r => if y.isPrefixOf (c :: r) then z ++ rep y z (y.length - 1) r else c :: rep y z 0 r
  | k + 1, _ :: r => rep y z k r
noncomputable def cutsL (y : List Nat) : Nat → Nat → List Nat → List Nat
  | _, _, [] => []
  | 0, i, c :: r => if y.isPrefixOf (c :: r) then i :: cutsL y (y.length - 1) (i + 1) r else cutsL y 0 (i + 1) r
  | k + 1, i, _ :: r => cutsL y k (i + 1) r
noncomputable def gluedL (xs : List Nat) (w : Nat) (z : List Nat) : Nat → List Nat → List Nat
  | a, [] => xs.drop a
  | a, c :: r => (xs.drop a).take (c - a) ++ z ++ gluedL xs w z (c + w) r
theorem pre_iff (y l : List Nat) : y.isPrefixOf l = true ↔ l.take y.length = y := by
  rw [List.isPrefixOf_iff_prefix, List.prefix_iff_eq_take]
  exact ⟨fun h => h.symm, fun h => h.symm⟩
theorem tx_list (xs : List Nat) : (tx xs).cps.toList = xs := rfl
theorem tx_len (xs : List Nat) : (tx xs).length = xs.length := rfl
theorem occ_scan {xs ys : List Nat} (hy : ys ≠ []) : ∀ (rest : List Nat) (i k : Nat) (found : Array Nat) (free : Nat), rest = xs.drop i → i ≤ xs.length → found.size ≤ i → ((k = 0 ∧ free ≤ i) ∨ free = i + k) →
    (forIn (List.range' i (xs.length + 1 - i)) (found, free) (occBody (tx xs) (tx ys) xs.length (xs.length + 1))).run.fst.toList = found.toList ++ cutsL ys k i rest := by
  have hw : 0 < ys.length := List.length_pos_iff.mpr hy
  intro rest
  induction rest with
  | nil =>
    intro i k found free hr hi hf hk
    have hi' : i = xs.length := by
      have := congrArg List.length hr
      simp at this
      lia
    subst hi'
    rw [show xs.length + 1 - xs.length = 1 by lia]
    rw [show List.range' xs.length 1 = [xs.length] from rfl]
    rw [List.forIn_cons]
    unfold occBody
    rw [if_neg (by rintro ⟨⟨_, h⟩, _⟩; rw [tx_len] at h; lia)]
    unfold cutsL
    simp
  | cons c r ih =>
    intro i k found free hr hi hf hk
    have hlen := congrArg List.length hr
    rw [List.length_cons, List.length_drop] at hlen
    have hr' : r = xs.drop (i + 1) := by
      rw [← List.drop_drop, ← hr]; rfl
    rw [show xs.length + 1 - i = (xs.length + 1 - (i + 1)) + 1 by lia, List.range'_succ, List.forIn_cons]
    have hcond : ((found.size < xs.length + 1 ∧ free ≤ i) ∧ i + (tx ys).length ≤ xs.length) ∧ subAt (tx xs) (tx ys) i = true ↔ free ≤ i ∧ ys.isPrefixOf (c :: r) = true := by
      rw [subAt_eq, tx_list, tx_list, tx_len, ← hr, beq_iff_eq, ← pre_iff]
      constructor
      · rintro ⟨⟨⟨_, h⟩, _⟩, h2⟩; exact ⟨h, h2⟩
      · rintro ⟨h, h2⟩
        refine ⟨⟨⟨by lia, h⟩, ?_⟩, h2⟩
        have := congrArg List.length ((pre_iff _ _).mp h2)
        rw [List.length_take, List.length_cons] at this
        lia
    cases k with
    | zero =>
      have hfree : free ≤ i := by lia
      by_cases hp : ys.isPrefixOf (c :: r) = true
      · unfold occBody
        rw [if_pos (hcond.mpr ⟨hfree, hp⟩)]
        show (Id.run (forIn (List.range' (i + 1) _) (found.push i, i + ys.length) _)).fst.toList = _
        have h3 := ih (i + 1) (ys.length - 1) (found.push i) (i + ys.length) hr' (by lia) (by rw [Array.size_push]; lia) (by lia)
        unfold occBody at h3
        rw [h3]
        rw [show cutsL ys 0 i (c :: r) = i :: cutsL ys (ys.length - 1) (i + 1) r by rw [cutsL, if_pos hp]]
        simp
      · unfold occBody
        rw [if_neg (fun h => hp (hcond.mp h).2)]
        show (Id.run (forIn (List.range' (i + 1) _) (found, free) _)).fst.toList = _
        have h3 := ih (i + 1) 0 found free hr' (by lia) (by lia) (by lia)
        unfold occBody at h3
        rw [h3]
        rw [show cutsL ys 0 i (c :: r) = cutsL ys 0 (i + 1) r by rw [cutsL, if_neg hp]]
    | succ k =>
      have hfree : ¬ free ≤ i := by lia
      unfold occBody
      rw [if_neg (fun h => hfree (hcond.mp h).1)]
      show (Id.run (forIn (List.range' (i + 1) _) (found, free) _)).fst.toList = _
      have h3 := ih (i + 1) k found free hr' (by lia) (by lia) (by lia)
      unfold occBody at h3
      rw [h3]
      rfl
theorem join_parts (xs zs : List Nat) (w : Nat) : ∀ (cuts : List Nat) (a : Nat), (Str.join (tx zs) (partsFrom (tx xs) w a cuts)).cps.toList = gluedL xs w zs a cuts
  | [], a => by
    show (strSub (tx xs) a (tx xs).length).cps.toList = _
    rw [strSub_toList, tx_list, tx_len]
    exact List.take_of_length_le (by simp)
  | c :: r, a => by
    obtain ⟨p, q, e⟩ := partsFrom_ne (tx xs) w (c + w) r
    have ih := join_parts xs zs w r (c + w)
    show (Str.join (tx zs) (strSub (tx xs) a c :: partsFrom (tx xs) w (c + w) r)).cps.toList = _
    rw [e] at ih ⊢
    show (strSub (tx xs) a c ++ tx zs ++ Str.join (tx zs) (p :: q)).cps.toList = _
    rw [Str.cps_append, Str.cps_append, Array.toList_append, Array.toList_append, ih, strSub_toList, tx_list, tx_list]
    rfl
theorem glued_rep {xs ys zs : List Nat} (hy : ys ≠ []) : ∀ (rest : List Nat) (i k : Nat), rest = xs.drop i → i ≤ xs.length →
    (k = 0 → ∀ a ≤ i, gluedL xs ys.length zs a (cutsL ys 0 i rest) = (xs.drop a).take (i - a) ++ rep ys zs 0 rest) ∧ (i + k ≤ xs.length → gluedL xs ys.length zs (i + k) (cutsL ys k i rest) = rep ys zs k rest) := by
  have hw : 0 < ys.length := List.length_pos_iff.mpr hy
  intro rest
  induction rest with
  | nil =>
    intro i k hr hi
    have hi' : i = xs.length := by
      have := congrArg List.length hr
      simp at this
      lia
    refine ⟨fun _ a ha => ?_, fun h => ?_⟩
    · unfold cutsL gluedL rep
      rw [List.append_nil, List.take_of_length_le (by rw [List.length_drop]; lia)]
    · unfold cutsL gluedL rep
      exact List.drop_eq_nil_of_le (by lia)
  | cons c r ih =>
    intro i k hr hi
    have hlen := congrArg List.length hr
    rw [List.length_cons, List.length_drop] at hlen
    have hr' : r = xs.drop (i + 1) := by
      rw [← List.drop_drop, ← hr]; rfl
    have first : ∀ a ≤ i, gluedL xs ys.length zs a (cutsL ys 0 i (c :: r)) = (xs.drop a).take (i - a) ++ rep ys zs 0 (c :: r) := by
      intro a ha
      by_cases hp : ys.isPrefixOf (c :: r) = true
      · rw [cutsL, if_pos hp, rep, if_pos hp]
        have hl : i + ys.length ≤ xs.length := by
          have := congrArg List.length ((pre_iff _ _).mp hp)
          rw [List.length_take, List.length_cons] at this
          lia
        have h3 := (ih (i + 1) (ys.length - 1) hr' (by lia)).2 (by lia)
        rw [show i + 1 + (ys.length - 1) = i + ys.length by lia] at h3
        show (xs.drop a).take (i - a) ++ zs ++ gluedL xs ys.length zs (i + ys.length) _ = _
        rw [h3, List.append_assoc]
      · rw [cutsL, if_neg hp, rep, if_neg hp]
        rw [(ih (i + 1) 0 hr' (by lia)).1 rfl a (by lia)]
        have : (xs.drop a).take (i + 1 - a) = (xs.drop a).take (i - a) ++ [c] := by
          rw [show i + 1 - a = i - a + 1 by lia, List.take_add_one, List.getElem?_drop, show a + (i - a) = i by lia]
          have h4 : xs[i]? = some c := by
            have := congrArg (fun l => l[0]?) hr
            simpa using this.symm
          rw [h4]; rfl
        rw [this]; simp
    refine ⟨fun _ => first, fun h => ?_⟩
    cases k with
    | zero => rw [Nat.add_zero, first i (Nat.le_refl _)]; simp
    | succ k =>
      have h3 := (ih (i + 1) k hr' (by lia)).2 (by lia)
      rw [show i + (k + 1) = i + 1 + k by lia]
      exact h3
theorem replace_rep (xs ys zs : List Nat) (hy : ys ≠ []) : Txt.replace (tx xs) (tx ys) (tx zs) = tx (rep ys zs 0 xs) := by
  have hw : 0 < ys.length := List.length_pos_iff.mpr hy
  have hocc : occurrences (tx xs) (tx ys) 0 (tx xs).length ((tx xs).length + 1) = cutsL ys 0 0 xs := by
    rw [occ_eq, tx_len]
    have := occ_scan hy xs 0 0 #[] 0 rfl (Nat.zero_le _) (Nat.le_refl _) (.inl ⟨rfl, Nat.le_refl _⟩)
    rw [this]; rfl
  have hg := (glued_rep (zs := zs) hy xs 0 0 rfl (Nat.zero_le _)).2 (Nat.zero_le _)
  unfold Txt.replace
  rw [hocc]
  apply Str.ext'
  apply Array.toList_inj.mp
  split
  · rename_i h
    rw [Bool.or_eq_true] at h
    rcases h with h | h
    · rw [List.isEmpty_iff.mp h] at hg
      exact hg
    · simp only [Bool.and_eq_true, beq_iff_eq] at h
      rw [tx_len] at h
      lia
  · rw [glued_eq_join, partsBetween_eq, tx_len, join_parts]
    exact hg
theorem rep_length (ys zs : List Nat) : ∀ (xs : List Nat) (k : Nat), (rep ys zs k xs).length ≤ xs.length * (zs.length + 1)
  | [], _ => by simp [rep]
  | c :: r, 0 => by
    have h1 := rep_length ys zs r (ys.length - 1)
    have h2 := rep_length ys zs r 0
    rw [rep, List.length_cons, Nat.add_mul]
    split
    · rw [List.length_append]; lia
    · rw [List.length_cons]; lia
  | c :: r, k + 1 => by
    have h1 := rep_length ys zs r k
    rw [rep, List.length_cons, Nat.add_mul]
    lia
end Mine
end L1part
section WalksB
local macro_rules | `(tactic| walk_at "getMethod str") => `(tactic| first | with_reducible refine Mine.gm_encode ?_ | with_reducible refine Mine.gm_replace ?_)
local macro_rules | `(tactic| walk_at "getMethod bytes") => `(tactic| with_reducible refine Mine.gm_translate ?_)
local macro_rules | `(tactic| walk_at "getMethod type:bytes") => `(tactic| (refine' method_type ?F ?X ?m (by decide +kernel) ?e ?h ?_; (case F => k_asm); (case X => k_asm); (case m => exact Mine.meta_bytes); (case e => k_dflt k_is); (case h => k_handed)))
local macro_rules | `(tactic| walk_at "call builtin:bytes.translate") => `(tactic| refine Mine.hold ?_)
local macro_rules | `(tactic| walk_at "call builtin:bytes.maketrans") => `(tactic| refine Mine.hold ?_)
local macro_rules | `(tactic| walk_at "call builtin:str.encode") => `(tactic| refine Mine.hold ?_)
local macro_rules | `(tactic| walk_at "call builtin:bytes.decode") => `(tactic| refine Mine.hold ?_)
local macro_rules | `(tactic| walk_at "call builtin:str.replace") => `(tactic| refine Mine.hold ?_)
local macro_rules | `(tactic| walk_at "call ref") => `(tactic| refine Mine.hold ?_)
local macro_rules | `(tactic| walk_at "binaryOp Add str str") => `(tactic| refine Mine.hold ?_)
local macro_rules | `(tactic| walk_at "compareOp NotEq str str") => `(tactic| refine Mine.hold ?_)
local macro_rules | `(tactic| walk_at "compareOp NotEq bytes bytes") => `(tactic| refine Mine.hold ?_)
section WalksC
local macro_rules | `(tactic| walk_at "exec For Name Name cons nil") => `(tactic| refine Mine.hold ?_)
local macro_rules | `(tactic| walk_at "exec For Name Call cons nil") => `(tactic| refine Mine.hold ?_)
local macro_rules | `(tactic| walk_at "pyIter ref") => `(tactic| refine Mine.hold ?_)
local macro_rules | `(tactic| walk_at "pyIter bytes") => `(tactic| refine Mine.hold ?_)
local macro_rules | `(tactic| walk_at "InvEndN") => `(tactic| refine Mine.hold ?_)
local macro_rules | `(tactic| walk_at "eval ListComp") => `(tactic| refine Mine.hold ?_)
local macro_rules | `(tactic| walk_at "call type:bytes") => `(tactic| refine Mine.hold ?_)
local macro_rules | `(tactic| walk_at "exec While Compare cons nil") => `(tactic| refine Mine.hold ?_)
local macro_rules | `(tactic| walk_at "binaryOp LShift int int") => `(tactic| refine Mine.hold ?_)
local macro_rules | `(tactic| walk_at "binaryOp RShift int int") => `(tactic| refine Mine.hold ?_)
local macro_rules | `(tactic| walk_at "binaryOp BitOr int int") => `(tactic| refine Mine.hold ?_)
local macro_rules | `(tactic| walk_at "binaryOp BitAnd int int") => `(tactic| refine Mine.hold ?_)
local macro_rules | `(tactic| walk_at "binaryOp Sub int int") => `(tactic| refine Mine.hold ?_)
section M8part
namespace Mine
noncomputable def b64a (k : Nat) : Nat := [65, 66, 67, 68, 69, 70, 71, 72, 73, 74, 75, 76, 77, 78, 79, 80, 81, 82, 83, 84, 85, 86, 87, 88, 89, 90, 97, 98, 99, 100, 101, 102, 103, 104, 105, 106, 107, 108, 109, 110, 111, 112, 113, 114, 115, 116, 117, 118, 119, 120, 121, 122, 48, 49, 50, 51, 52, 53, 54, 55, 56, 57, 43, 47].getD k 0
noncomputable def D64 (n x : Nat) : List Nat := ((List.range n).map fun i => n - 1 - i).map fun k => x / 64 ^ k % 64
theorem b64a_lt (k : Nat) : b64a k < 128 := by
  unfold b64a
  rw [List.getD_eq_getElem?_getD]
  by_cases h : k < 64
  · have : ∀ k < 64, (([65, 66, 67, 68, 69, 70, 71, 72, 73, 74, 75, 76, 77, 78, 79, 80, 81, 82, 83, 84, 85, 86, 87, 88, 89, 90, 97, 98, 99, 100, 101, 102, 103, 104, 105, 106, 107, 108, 109, 110, 111, 112, 113, 114, 115, 116, 117, 118, 119, 120, 121, 122, 48, 49, 50, 51, 52, 53, 54, 55, 56, 57, 43, 47] : List Nat)[k]?.getD 0) < 128 := by decide +kernel
    exact this k h
  · rw [List.getElem?_eq_none (by simp; lia)]; decide
theorem item_B64 {prog : Program} {w : World} {A : Around} {E : Value → Shared → Prop} {s : Shared} {hp : Heap} {tk : Nat} {value slice : Expr} {x : Int} {t u : Tok} {Q : Value → Shared → Prop} (k : Nat) (hk : k < 64) (hx : x = (k : Int))
    (h : ∀ t' k', Q (.int (b64a k : Nat) t') { heap := hp, gens := s.gens, drawn := s.drawn, toks := k', os := s.os })
    (hs : subscripted slice false (.bytes ([65, 66, 67, 68, 69, 70, 71, 72, 73, 74, 75, 76, 77, 78, 79, 80, 81, 82, 83, 84, 85, 86, 87, 88, 89, 90, 97, 98, 99, 100, 101, 102, 103, 104, 105, 106, 107, 108, 109, 110, 111, 112, 113, 114, 115, 116, 117, 118, 119, 120, 121, 122, 48, 49, 50, 51, 52, 53, 54, 55, 56, 57, 43, 47] : List UInt8).toArray t) (.int x u) = operate [.bytes ([65, 66, 67, 68, 69, 70, 71, 72, 73, 74, 75, 76, 77, 78, 79, 80, 81, 82, 83, 84, 85, 86, 87, 88, 89, 90, 97, 98, 99, 100, 101, 102, 103, 104, 105, 106, 107, 108, 109, 110, 111, 112, 113, 114, 115, 116, 117, 118, 119, 120, 121, 122, 48, 49, 50, 51, 52, 53, 54, 55, 56, 57, 43, 47] : List UInt8).toArray t, .int x u] (getItem (.bytes ([65, 66, 67, 68, 69, 70, 71, 72, 73, 74, 75, 76, 77, 78, 79, 80, 81, 82, 83, 84, 85, 86, 87, 88, 89, 90, 97, 98, 99, 100, 101, 102, 103, 104, 105, 106, 107, 108, 109, 110, 111, 112, 113, 114, 115, 116, 117, 118, 119, 120, 121, 122, 48, 49, 50, 51, 52, 53, 54, 55, 56, 57, 43, 47] : List UInt8).toArray t) (.int x u)) := by with_unfolding_all rfl) :
    wpAny (model prog w) A (subscriptTail value slice (.bytes ([65, 66, 67, 68, 69, 70, 71, 72, 73, 74, 75, 76, 77, 78, 79, 80, 81, 82, 83, 84, 85, 86, 87, 88, 89, 90, 97, 98, 99, 100, 101, 102, 103, 104, 105, 106, 107, 108, 109, 110, 111, 112, 113, 114, 115, 116, 117, 118, 119, 120, 121, 122, 48, 49, 50, 51, 52, 53, 54, 55, 56, 57, 43, 47] : List UInt8).toArray t) (.int x u)) Q E { heap := hp, gens := s.gens, drawn := s.drawn, toks := tk, os := s.os } := by
  subst hx
  refine tail_any (typeIs_bytes _ _ _) FB.slot_bytes_getitem.lookup (PySem.W.getItem_bytes (by decide) (by lia) (by simp; lia) ?_) hs
  have e : ∀ k < 64, (([65, 66, 67, 68, 69, 70, 71, 72, 73, 74, 75, 76, 77, 78, 79, 80, 81, 82, 83, 84, 85, 86, 87, 88, 89, 90, 97, 98, 99, 100, 101, 102, 103, 104, 105, 106, 107, 108, 109, 110, 111, 112, 113, 114, 115, 116, 117, 118, 119, 120, 121, 122, 48, 49, 50, 51, 52, 53, 54, 55, 56, 57, 43, 47] : List UInt8).getD k 0).toNat = b64a k := by decide +kernel
  rw [Int.toNat_natCast, e k hk]
  exact h _ _
theorem D64_succ (n x : Nat) : D64 (n + 1) x = D64 n (x / 64) ++ [x % 64] := by
  unfold D64
  rw [List.range_succ, List.map_append, List.map_append, List.map_map]
  simp only [List.map_cons, List.map_nil]
  congr 1
  · rw [List.map_map]
    apply List.map_congr_left
    intro i hi
    have hi := List.mem_range.mp hi
    show x / 64 ^ (n + 1 - 1 - i) % 64 = x / 64 / 64 ^ (n - 1 - i) % 64
    rw [show n + 1 - 1 - i = (n - 1 - i) + 1 by lia, Nat.pow_succ, Nat.div_div_eq_div_mul, Nat.mul_comm]
  · simp
/-- the figures of the octets that are whole -/
noncomputable def b64F (os : List Nat) : List Nat := D64 (8 * os.length / 6) (W256 os / 2 ^ (8 * os.length % 6))
noncomputable def b64A (os : List Nat) : List Nat := (b64F os).map b64a ++ (if 8 * os.length % 6 = 2 then [b64a (W256 os % 4 * 16), 61, 61] else if 8 * os.length % 6 = 4 then [b64a (W256 os % 16 * 4), 61] else [])
/-- what the loop over the octets keeps -/
noncomputable def BInv (pre : List Nat) (c : List Value × Nat × Nat × Nat × Tok × Tok) : Prop :=
  c.2.2.1 = 8 * pre.length % 6 ∧ c.2.2.2.1 = W256 pre % 65536 ∧ IntsAre c.1 (((b64F pre).map b64a).map fun (n : Nat) => (n : Int))
/-- what the loop over an octet's figures keeps; W: the bits so far, l: their octets -/
noncomputable def BIn (W l : Nat) (c : List Value × Nat × Nat × Tok) : Prop :=
  ∃ j, 6 * j + c.2.2.1 = 8 * l ∧ c.2.2.1 ≤ 13 ∧ IntsAre c.1 (((D64 j (W / 2 ^ c.2.2.1)).map b64a).map fun (n : Nat) => (n : Int))
section
variable {pre : List Nat} {ws : List Value} {n n' lb lc b W l : Nat} {t t5 t6 u5 u6 tv : Tok}
theorem BInv.lt (h : BInv pre (ws, n, lb, lc, t5, t6)) : lc < 2 ^ 64 := by
  rw [show lc = W256 pre % 65536 from h.2.1]
  exact Nat.lt_trans (Nat.mod_lt _ (by decide)) (by decide)
theorem W256_sn (xs : List Nat) (a : Nat) : W256 (xs ++ [a]) = W256 xs * 256 + a := by simp [W256]
theorem BInv.bits (h : BInv pre (ws, n, lb, lc, t5, t6)) : (lc * 2 ^ 8 + b) % 2 ^ 16 = W256 (pre ++ [b]) % 65536 := by
  rw [W256_sn, show lc = W256 pre % 65536 from h.2.1]
  lia
theorem BInv.inner (h : BInv pre (ws, n, lb, lc, t5, t6)) (hb : b < 256) : BIn (W256 (pre ++ [b])) (pre.length + 1) (ws, n, lb + 8, t) := by
  have e : lb = 8 * pre.length % 6 := h.1
  refine ⟨8 * pre.length / 6, ?_, ?_, ?_⟩
  · show 6 * (8 * pre.length / 6) + (lb + 8) = 8 * (pre.length + 1)
    rw [e, ← Nat.add_assoc, Nat.div_add_mod]; rfl
  · show lb + 8 ≤ 13
    rw [e]; exact Nat.add_le_add_right (Nat.le_of_lt_succ (Nat.mod_lt _ (by decide))) 8
  · have : W256 (pre ++ [b]) / 2 ^ (lb + 8) = W256 pre / 2 ^ (8 * pre.length % 6) := by
      rw [Nat.add_comm, Nat.pow_add, ← Nat.div_div_eq_div_mul, W256_sn, ← e, show (2 : Nat) ^ 8 = 256 from rfl, Nat.mul_comm (W256 pre), Nat.mul_add_div (by decide), Nat.div_eq_of_lt hb, Nat.add_zero]
    show IntsAre ws (((D64 (8 * pre.length / 6) (W256 (pre ++ [b]) / 2 ^ (lb + 8))).map b64a).map fun (n : Nat) => (n : Int))
    rw [this]; exact h.2.2
theorem D64_length (n x : Nat) : (D64 n x).length = n := by unfold D64; rw [List.length_map, List.length_map, List.length_range]
theorem BIn.len (h : BIn W l (ws, n, lb, t)) (hl : l ≤ 701) : ws.length ≤ 5000 := by
  obtain ⟨j, hj, _, hi⟩ := h
  have h1 := hi.length
  rw [List.length_map, List.length_map, D64_length] at h1
  dsimp only at hj
  lia
theorem BIn.val (h : BIn W l (ws, n, lb, t)) : W % 65536 / 2 ^ (lb - 6) % 64 = W / 2 ^ (lb - 6) % 64 := by
  obtain ⟨j, _, hb, _⟩ := h
  have hb : lb - 6 ≤ 7 := Nat.sub_le_of_le_add hb
  obtain ⟨d, hd⟩ := Nat.exists_eq_add_of_le hb
  have h1 : (65536 : Nat) = 2 ^ (lb - 6) * (64 * 2 ^ (d + 3)) := by
    rw [show (64 : Nat) = 2 ^ 6 from rfl, ← Nat.pow_add, ← Nat.pow_add, show lb - 6 + (6 + (d + 3)) = 16 by lia]
  rw [h1, Nat.mod_mul_right_div_self, Nat.mod_mul_right_mod]
theorem BIn.step (h : BIn W l (ws, n, lb, t)) (h6 : (6 : Int) ≤ (lb : Nat)) : BIn W l (ws ++ [.int ((b64a (W / 2 ^ (lb - 6) % 64) : Nat) : Int) tv], n', lb - 6, t5) ∧ lb - 6 < lb := by
  obtain ⟨j, hj, hb, hi⟩ := h
  have h6 : 6 ≤ lb := Int.ofNat_le.mp h6
  dsimp only at hj hb
  refine ⟨⟨j + 1, ?_, Nat.le_trans (Nat.sub_le _ _) hb, ?_⟩, Nat.sub_lt (Nat.lt_of_lt_of_le (by decide) h6) (by decide)⟩
  · show 6 * (j + 1) + (lb - 6) = 8 * l
    lia
  · have : W / 2 ^ (lb - 6) / 64 = W / 2 ^ lb := by
      rw [Nat.div_div_eq_div_mul, show (64 : Nat) = 2 ^ 6 from rfl, ← Nat.pow_add, Nat.sub_add_cancel h6]
    show IntsAre (ws ++ _) (((D64 (j + 1) (W / 2 ^ (lb - 6))).map b64a).map fun (n : Nat) => (n : Int))
    rw [D64_succ, List.map_append, List.map_append, this]
    exact hi.append (.cons _ _ .nil)
theorem BIn.outer (h : BIn (W256 (pre ++ [b])) (pre.length + 1) (ws, n, lb, t)) (h6 : ¬ (6 : Int) ≤ (lb : Nat)) : BInv (pre ++ [b]) (ws, n', lb, W256 (pre ++ [b]) % 65536, u5, u6) := by
  obtain ⟨j, hj, hb, hi⟩ := h
  dsimp only at hj hi
  have h6 : lb < 6 := by lia
  have e : 8 * (pre ++ [b]).length / 6 = j ∧ 8 * (pre ++ [b]).length % 6 = lb := by
    rw [List.length_append]
    show 8 * (pre.length + 1) / 6 = j ∧ 8 * (pre.length + 1) % 6 = lb
    rw [← hj]
    exact ⟨by rw [Nat.mul_add_div (by decide), Nat.div_eq_of_lt h6, Nat.add_zero], by rw [Nat.mul_add_mod, Nat.mod_eq_of_lt h6]⟩
  refine ⟨e.2.symm, rfl, ?_⟩
  unfold b64F
  rw [e.1, e.2]; exact hi
theorem b64F_length (os : List Nat) : (b64F os).length = 8 * os.length / 6 := D64_length _ _
theorem nat_lt256 {xs : List Nat} (h : ∀ x ∈ xs, x < 256) : ∀ n ∈ xs.map fun (n : Nat) => (n : Int), 0 ≤ n ∧ n < 256 := by
  intro n hn
  obtain ⟨k, hk, rfl⟩ := List.mem_map.mp hn
  exact ⟨Int.natCast_nonneg k, Int.ofNat_lt.mpr (h k hk)⟩
end
theorem b64A_lt (os : List Nat) : ∀ x ∈ b64A os, x < 128 := by
  intro x hx
  unfold b64A at hx
  rcases List.mem_append.mp hx with h | h
  · obtain ⟨k, _, rfl⟩ := List.mem_map.mp h
    exact b64a_lt _
  · split at h
    · rcases List.mem_cons.mp h with rfl | h
      · exact b64a_lt _
      · exact Nat.lt_of_le_of_lt (Nat.le_of_eq (List.eq_of_mem_replicate (n := 2) h)) (by decide)
    · split at h
      · rcases List.mem_cons.mp h with rfl | h
        · exact b64a_lt _
        · exact Nat.lt_of_le_of_lt (Nat.le_of_eq (List.eq_of_mem_replicate (n := 1) h)) (by decide)
      · cases h
theorem b64A_length (os : List Nat) : (b64A os).length ≤ 8 * os.length / 6 + 3 := by
  unfold b64A
  rw [List.length_append, List.length_map, b64F_length]
  refine Nat.add_le_add_left ?_ _
  split
  · exact Nat.le_refl 3
  · split
    · exact (by decide : 2 ≤ 3)
    · exact Nat.zero_le 3
theorem b64A_2 {os : List Nat} (h : 8 * os.length % 6 = 2) : b64A os = (b64F os).map b64a ++ [b64a (W256 os % 4 * 16), 61, 61] := by unfold b64A; rw [if_pos h]
theorem b64A_4 {os : List Nat} (h : 8 * os.length % 6 = 4) : b64A os = (b64F os).map b64a ++ [b64a (W256 os % 16 * 4), 61] := by unfold b64A; rw [if_neg (by rw [h]; decide), if_pos h]
theorem b64A_0 {os : List Nat} (h : ¬ 8 * os.length % 6 = 2) (h' : ¬ 8 * os.length % 6 = 4) : b64A os = (b64F os).map b64a := by unfold b64A; rw [if_neg h, if_neg h', List.append_nil]
/-- the octets of a list of numbers -/
theorem bytes_of {prog : Program} {w : World} {A : Around} {E : Value → Shared → Prop} {s : Shared} {hp : Heap} {tk : Nat} {ys : List Nat} {l : Addr} {vs : List Value} {Q : Value → Shared → Prop} (os : List Nat) (hos : os.length ≤ 700) (e : b64A os = ys)
    (hl : hp.IsList l vs.toArray) (hi : IntsAre vs (ys.map fun (n : Nat) => (n : Int))) (hh : A.handled = none)
    (h : ∀ h' t k, (∀ b o, hp.get? b = some o → h'.get? b = some o) → Q (.bytes (bsA (b64A os)) t) { heap := h', gens := s.gens, drawn := s.drawn, toks := k, os := s.os }) :
    wpAny (model prog w) A (call (.type "bytes") [.ref l] []) Q E { heap := hp, gens := s.gens, drawn := s.drawn, toks := tk, os := s.os } := by
  have hlen := b64A_length os
  rw [e] at hlen
  refine call_bytes_ints hl hi (nat_lt256 fun x hx => Nat.lt_trans (b64A_lt os x (e ▸ hx)) (by decide)) ?_ hh ?_
  · have := hi.length
    rw [List.length_map] at this
    rw [sizeLine_eq]
    lia
  · intro h' t k hk
    rw [byteArr_nat (fun n => n), List.map_id', ← e]
    exact h h' t k hk
section


local macro_rules | `(tactic| walk_at "call type:type") => `(tactic| (refine call_type_of (typeIs_bytes _ _ _) (by decide +kernel) ?_))
theorem truth_bool {prog : Program} {w : World} (b : Bool) (s : Shared) :
    Does prog w (top.heap_39 w.params) 1 8 63 [.bool b] [] s (fun v _ => v = .bool b) := by
  w_top off
  intro p loose mean mg mb dp un gd cn cs a ccd outer A₀ base h₀ L m Q E B F X T hck hdp hun hret
  refine wpAny_call ?_
  k_dflt (refine' code_pure (binds := [(Str.ofString "x", .bool b)]) B F X T ?kA ?k6 ?k7 ?k8 ?k9 ?kB ?_ ?cK ?c2 ?c3 ?c4 ?c5)
  case kA => exact rfl
  case cK => assumption
  case k6 => k_is
  case k7 => k_is
  case k8 => ktr_room
  case k9 => first | exact BindsTo.of_eq rfl | exact binds_K (Frag.In.keeps X F.keep) rfl (by k_is) rfl rfl rfl
  case kB => exact locs rfl
  case c2 => exact rfl
  case c3 => exact rfl
  case c4 => exact rfl
  case c5 => decide
  clear B F X T
  intro h₁ F N B X T
  (try k_fold)
  k_steps
  all_goals (refine hret _ _ _ (Fr.keep (by assumption)) ?_)
  all_goals simp_all
theorem buffer_bytes {prog : Program} {w : World} (b : Array UInt8) (t : Tok) (s : Shared) :
    Does prog w (top.heap_39 w.params) 1 8 56 [.bytes b t] [] s (fun v _ => ∃ t', v = .bytes b t') := by
  w_top off
  intro p loose mean mg mb dp un gd cn cs a ccd outer A₀ base h₀ L m Q E B F X T hck hdp hun hret
  refine wpAny_call ?_
  k_dflt (refine' code_pure (binds := [(Str.ofString "data", .bytes b t)]) B F X T ?kA ?k6 ?k7 ?k8 ?k9 ?kB ?_ ?cK ?c2 ?c3 ?c4 ?c5)
  case kA => exact rfl
  case cK => assumption
  case k6 => k_is
  case k7 => k_is
  case k8 => ktr_room
  case k9 => first | exact BindsTo.of_eq rfl | exact binds_K (Frag.In.keeps X F.keep) rfl (by k_is) rfl rfl rfl
  case kB => exact locs rfl
  case c2 => exact rfl
  case c3 => exact rfl
  case c4 => exact rfl
  case c5 => decide
  clear B F X T
  intro h₁ F N B X T
  (try k_fold)
  k_steps
  all_goals (refine hret _ _ _ (Fr.keep (by assumption)) ⟨_, rfl⟩)
theorem ascii_buffer_bytes {prog : Program} {w : World} (b : Array UInt8) (t : Tok) (s : Shared) :
    Does prog w (top.heap_39 w.params) 1 8 49 [.bytes b t] [] s (fun v _ => ∃ t', v = .bytes b t') := by
  w_top off
  intro p loose mean mg mb dp un gd cn cs a ccd outer A₀ base h₀ L m Q E B F X T hck hdp hun hret
  refine wpAny_call ?_
  k_dflt (refine' code_pure (binds := [(Str.ofString "data", .bytes b t)]) B F X T ?kA ?k6 ?k7 ?k8 ?k9 ?kB ?_ ?cK ?c2 ?c3 ?c4 ?c5)
  case kA => exact rfl
  case cK => assumption
  case k6 => k_is
  case k7 => k_is
  case k8 => ktr_room
  case k9 => first | exact BindsTo.of_eq rfl | exact binds_K (Frag.In.keeps X F.keep) rfl (by k_is) rfl rfl rfl
  case kB => exact locs rfl
  case c2 => exact rfl
  case c3 => exact rfl
  case c4 => exact rfl
  case c5 => decide
  clear B F X T
  intro h₁ F N B X T
  (try k_fold)
  k_steps
  all_goals (refine hret _ _ _ (Fr.keep (by assumption)) ⟨_, rfl⟩)
theorem decode_data_bytes {prog : Program} {w : World} (b : Array UInt8) (t : Tok) (s : Shared) :
    Does prog w (top.heap_39 w.params) 1 8 29 [.bytes b t] [] s (fun v _ => ∃ t', v = .bytes b t') := by
  w_top off
  intro p loose mean mg mb dp un gd cn cs a ccd outer A₀ base h₀ L m Q E B F X T hck hdp hun hret
  refine wpAny_call ?_
  k_dflt (refine' code_pure (binds := [(Str.ofString "s", .bytes b t)]) B F X T ?kA ?k6 ?k7 ?k8 ?k9 ?kB ?_ ?cK ?c2 ?c3 ?c4 ?c5)
  case kA => exact rfl
  case cK => assumption
  case k6 => k_is
  case k7 => k_is
  case k8 => ktr_room
  case k9 => first | exact BindsTo.of_eq rfl | exact binds_K (Frag.In.keeps X F.keep) rfl (by k_is) rfl rfl rfl
  case kB => exact locs rfl
  case c2 => exact rfl
  case c3 => exact rfl
  case c4 => exact rfl
  case c5 => decide
  clear B F X T
  intro h₁ F N B X T
  (try k_fold)
  k_steps
  all_goals (refine hret _ _ _ (Fr.keep (by assumption)) ⟨_, rfl⟩)
theorem decode_data_str {prog : Program} {w : World} (xs : List Nat) (t : Tok) (s : Shared) (hc : ∀ c ∈ xs, c < 128) (hn : xs.length ≤ 10000) :
    Does prog w (top.heap_39 w.params) 1 8 29 [.str (tx xs) t] [] s (fun v _ => ∃ t', v = .bytes (bsA xs) t') := by
  w_top off
  intro p loose mean mg mb dp un gd cn cs a ccd outer A₀ base h₀ L m Q E B F X T hck hdp hun hret
  refine wpAny_call ?_
  k_dflt (refine' code_pure (binds := [(Str.ofString "s", .str (tx xs) t)]) B F X T ?kA ?k6 ?k7 ?k8 ?k9 ?kB ?_ ?cK ?c2 ?c3 ?c4 ?c5)
  case kA => exact rfl
  case cK => assumption
  case k6 => k_is
  case k7 => k_is
  case k8 => ktr_room
  case k9 => first | exact BindsTo.of_eq rfl | exact binds_K (Frag.In.keeps X F.keep) rfl (by k_is) rfl rfl rfl
  case kB => exact locs rfl
  case c2 => exact rfl
  case c3 => exact rfl
  case c4 => exact rfl
  case c5 => decide
  clear B F X T
  intro h₁ F N B X T
  (try k_fold)
  k_steps
  refine Hold.of (encode_ascii hc (by rw [sizeLine_eq]; lia) ?_)
  intro t' k
  k_steps
  exact hret _ _ _ (Fr.keep (by assumption)) ⟨_, rfl⟩
local macro_rules | `(tactic| walk_at "subscriptTail Name BinOp bytes int") => `(tactic| refine Mine.hold ?_)
theorem b2a_walk {prog : Program} {w : World} (os : List Nat) (t : Tok) (s : Shared) (hos : ∀ o ∈ os, o < 256) (hn : os.length ≤ 700) :
    Does prog w (top.heap_39 w.params) 3 20 86 [.bytes (bsA os) t] [(Str.ofString "newline", .bool false)] s (fun v _ => ∃ t', v = .bytes (bsA (b64A os)) t') := by
  w_top off
  intro p loose mean mg mb dp un gd cn cs a ccd outer A₀ base h₀ L m Q E B F X T hck hdp hun hret
  refine wpAny_call ?_
  k_dflt (refine' code_pure (binds := [(Str.ofString "data", .bytes (bsA os) t), (Str.ofString "newline", .bool false)]) B F X T ?kA ?k6 ?k7 ?k8 ?k9 ?kB ?_ ?cK ?c2 ?c3 ?c4 ?c5)
  case kA => exact rfl
  case cK => assumption
  case k6 => k_is
  case k7 => k_is
  case k8 => ktr_room
  case k9 => first | exact BindsTo.of_eq rfl | exact binds_K (Frag.In.keeps X F.keep) rfl (by k_is) rfl rfl rfl
  case kB => exact locs rfl
  case c2 => exact rfl
  case c3 => exact rfl
  case c4 => exact rfl
  case c5 => decide
  clear B F X T
  intro h₁ F N B X T
  (try k_fold)
  k_steps
  refine Hold.of ((buffer_bytes (bsA os) t _).useT B F N X T rfl (room1 hdp (by decide)) (room3 hun (by decide)) ?_)
  intro t₂ h₂ tk₂ F₂ N₂
  k_steps
  rename Fr _ _ _ _ => F3
  rename PyProof.Rows.News _ _ _ _ => N3
  refine Hold.of ((truth_bool false _).useV B F3 N3 X T rfl (room1 hdp (by decide)) (room3 hun (by decide)) ?_)
  intro h₄ tk₄ F₄ N₄
  k_steps
  refine Hold.of ?_
  with_unfolding_all refine' For_invVF (by assumption) ?k1 ?k2 ?_
  case k1 => exact rfl
  case k2 => exact rfl
  k_steps
  refine Hold.of ?_
  rename Fr _ _ _ _ => F2
  rename PyProof.Rows.News _ _ _ _ => N2
  rename_i la _ _ _ _ _
  with_unfolding_all refine' nats_bytes (σ := List Value × Nat × Nat × Nat × Tok × Tok) (fun c => [(la, listOf c.1.toArray c.2.1)]) (fun c => [(Str.ofString "leftbits", .int (c.2.2.1 : Nat) c.2.2.2.2.1), (Str.ofString "leftchar", .int (c.2.2.2.1 : Nat) c.2.2.2.2.2)]) [] BInv ([], 0, 0, 0, _, _) rfl F2 N2 ?hk ⟨rfl, rfl, .nil⟩ ?_ ?_
  case hk => kst_all
  · refine all6 ?_
    intro ws n lb lc t5 t6 pre post b t7 u h tk own e ho H F N
    clear F2 N2
    dsimp only at N
    dsimp only [kstB] at F
    simp only [List.cons_append, List.nil_append] at N
    rw [bsA_nats hos] at e
    have hb : b < 256 := hos b (e ▸ List.mem_append_right _ (.head _))
    have hpl : pre.length + 1 ≤ 701 := by
      have := congrArg List.length e
      rw [List.length_append, List.length_cons] at this
      lia
    clear e
    (try k_fold)
    k_steps
    refine Hold.of (bLsh lc 8 _ rfl rfl H.lt (by decide) rfl ?_)
    intro t8 k8
    k_steps
    refine Hold.of (bOr _ b _ rfl rfl (or_shift hb) ?_)
    intro t8 k8
    k_steps
    refine Hold.of (bAnd _ 65535 _ rfl rfl ((and_mask _ 16 _ rfl).trans H.bits) ?_)
    intro t8 k8
    k_steps
    refine Hold.of ?_
    rename Fr _ _ _ _ => F3
    rename PyProof.Rows.News _ _ _ _ => N3
    with_unfolding_all refine' ksw_while (σ := List Value × Nat × Nat × Tok) (fun c => (la, listOf c.1.toArray c.2.1) :: own) (fun c => [(Str.ofString "leftbits", .int (c.2.2.1 : Nat) c.2.2.2)]) (fun _ => True) [] (BIn (W256 (pre ++ [b])) (pre.length + 1)) (fun c => c.2.2.1) (ws, n, lb + 8, _) F3 N3 trivial ?hk (H.inner hb) ?_
    case hk => kst_all
    clear H
    refine all4 ?_
    intro ws n lb t5 u h tk _ H F N
    dsimp only at N
    dsimp only [kstB] at F
    clear F3 N3
    have hw : ws.length ≤ 5000 := H.len hpl
    (try k_fold)
    k_steps
    · rename (6 : Int) ≤ _ => h6
      have hsub : lb - 6 + 6 = lb := Nat.sub_add_cancel (Int.ofNat_le.mp h6)
      refine Hold.of (bSub lb 6 (lb - 6) rfl rfl hsub ?_)
      intro t8 k8
      k_steps
      refine Hold.of (bRsh _ (lb - 6) _ rfl rfl rfl ?_)
      intro t9 k9
      k_steps
      refine Hold.of (bAnd _ 63 _ rfl rfl ((and_mask _ 6 _ rfl).trans H.val) ?_)
      intro t10 k10
      k_steps
      refine Hold.of (item_B64 _ (Nat.mod_lt _ (by decide)) rfl ?_)
      intro t11 k11
      k_steps
      refine Hold.of (bSub lb 6 (lb - 6) rfl rfl hsub ?_)
      intro t12 k12
      k_steps
      rename Fr _ _ _ _ => F4
      rename PyProof.Rows.News _ _ _ _ => N4
      simp only [List.push_toArray] at N4
      have HS := fun n' tv t5 => H.step (n' := n') (tv := tv) (t5 := t5) h6
      exact ksw_end (_, _, lb - 6, _) F4 N4 (fun p hp => hp) trivial (by kst_all) (by intro z h1 h2; simp at h1; simp [h1]) (HS _ _ _).1 (HS 0 0 0).2
    · rename Fr _ _ _ _ => F4
      rename PyProof.Rows.News _ _ _ _ => N4
      exact turn_end (_, _, lb, _, _, _) F4 N4 (mem_one List.mem_cons_self) (fun p hp => List.mem_cons_of_mem _ hp) rfl (by kst_all) (by kst_same) (H.outer (by assumption))
  · refine all6 ?_
    intro ws n lb lc t5 t6 u h tk H F N
    clear F2 N2
    rw [bsA_nats hos] at H
    dsimp only at N
    dsimp only [kstB] at F
    have hlb : lb = 8 * os.length % 6 := H.1
    have hlc : lc = W256 os % 65536 := H.2.1
    have hi := H.2.2
    have hlt := H.lt
    have hwl : ws.length ≤ 1000 := by
      have := hi.length
      rw [List.length_map, List.length_map, b64F_length] at this
      dsimp only at this
      lia
    clear H
    (try k_fold)
    k_steps
    · refine Hold.of (bAnd lc 3 (W256 os % 4) rfl rfl (by rw [and_mask _ 2 _ rfl, hlc]; exact Nat.mod_mod_of_dvd _ (by decide)) ?_)
      intro t8 k8
      k_steps
      refine Hold.of (bLsh _ 4 (W256 os % 4 * 16) rfl rfl (Nat.lt_trans (Nat.mod_lt _ (by decide)) (by decide)) (by decide) rfl ?_)
      intro t9 k9
      k_steps
      refine Hold.of (item_B64 _ (Nat.mul_lt_mul_of_pos_right (Nat.mod_lt _ (by decide)) (by decide)) rfl ?_)
      intro t11 k11
      k_steps
      rename Fr _ _ _ _ => F4
      rename PyProof.Rows.News _ _ _ _ => N4
      simp only [List.push_toArray, List.append_assoc, List.cons_append, List.nil_append] at N4
      refine Hold.of (bytes_of os hn (b64A_2 (hlb.symm.trans (Int.ofNat_inj.mp (by assumption)))) (Mine.News.lst N4 List.mem_cons_self) ?_ rfl ?_)
      · rw [List.map_append]; exact hi.append (.cons _ _ (.cons _ _ (.cons _ _ .nil)))
      · intro h' t k hk
        exact hret _ h' k (fun b o e => hk b o (Fr.keep F4 b o e)) ⟨t, rfl⟩
    · refine Hold.of (bAnd lc 15 (W256 os % 16) rfl rfl (by rw [and_mask _ 4 _ rfl, hlc]; exact Nat.mod_mod_of_dvd _ (by decide)) ?_)
      intro t8 k8
      k_steps
      refine Hold.of (bLsh _ 2 (W256 os % 16 * 4) rfl rfl (Nat.lt_trans (Nat.mod_lt _ (by decide)) (by decide)) (by decide) rfl ?_)
      intro t9 k9
      k_steps
      refine Hold.of (item_B64 _ (Nat.mul_lt_mul_of_pos_right (Nat.mod_lt _ (by decide)) (by decide)) rfl ?_)
      intro t11 k11
      k_steps
      rename Fr _ _ _ _ => F4
      rename PyProof.Rows.News _ _ _ _ => N4
      simp only [List.push_toArray, List.append_assoc, List.cons_append, List.nil_append] at N4
      refine Hold.of (bytes_of os hn (b64A_4 (hlb.symm.trans (Int.ofNat_inj.mp (by assumption)))) (Mine.News.lst N4 List.mem_cons_self) ?_ rfl ?_)
      · rw [List.map_append]; exact hi.append (.cons _ _ (.cons _ _ .nil))
      · intro h' t k hk
        exact hret _ h' k (fun b o e => hk b o (Fr.keep F4 b o e)) ⟨t, rfl⟩
    · rename Fr _ _ _ _ => F4
      rename PyProof.Rows.News _ _ _ _ => N4
      refine Hold.of (bytes_of os hn (b64A_0 (fun e => ?_) (fun e => ?_)) (Mine.News.lst N4 List.mem_cons_self) hi rfl ?_)
      · rw [← hlb] at e; lia
      · rw [← hlb] at e; lia
      · intro h' t k hk
        exact hret _ h' k (fun b o e => hk b o (Fr.keep F4 b o e)) ⟨t, rfl⟩
end
end Mine
end M8part
section M9part
namespace Mine
noncomputable def alt (k : Nat) : Nat := if k = 43 then 38 else if k = 47 then 59 else k
noncomputable def tla (k : Nat) : Nat := if k = 38 then 43 else if k = 59 then 47 else k
theorem tab_map {tab : Array UInt8} {f : Nat → Nat} (ht : ∀ k < 256, tab[k]? = some (f k).toUInt8) {xs : List Nat} (hx : ∀ x ∈ xs, x < 256) : (bsA xs).map (fun c => tab.getD c.toNat c) = bsA (xs.map f) := by
  unfold bsA
  rw [List.map_toArray, List.map_map, List.map_map]
  congr 1
  apply List.map_congr_left
  intro x h
  have hx' := hx x h
  show tab.getD (x % 256) _ = (f x).toUInt8
  rw [Nat.mod_eq_of_lt hx', Array.getD_eq_getD_getElem?, ht x hx']
  rfl
theorem translateN {prog : Program} {w : World} {A : Around} {E : Value → Shared → Prop} {s : Shared} {xs : List Nat} {tab : Array UInt8} {f : Nat → Nat} {t u : Tok} {Q : Value → Shared → Prop} (htab : tab.size = 256) (ht : ∀ k < 256, tab[k]? = some (f k).toUInt8) (hx : ∀ x ∈ xs, x < 128) (hl : xs.length ≤ 5000)
    (h : ∀ t' k, Q (.bytes (bsA (xs.map f)) t') { s with toks := k }) : wpAny (model prog w) A (call (.builtin "bytes.translate") [.bytes (bsA xs) t, .bytes tab u]) Q E s :=
  translate htab (by rw [bsA_size, sizeLine_eq]; exact Nat.le_trans hl (by decide)) (by rw [tab_map ht fun x h => Nat.lt_trans (hx x h) (by decide)]; exact h)
theorem tab_fold {a b x y : UInt8} (t : Array UInt8) : ((#[a, b] : Array UInt8).toList.zip (#[x, y] : Array UInt8).toList).foldl (fun t (f, x) => t.setIfInBounds f.toNat x) t = (t.setIfInBounds a.toNat x).setIfInBounds b.toNat y := rfl
theorem tab_is {frm to : Array UInt8} : tabOf frm to = (frm.toList.zip to.toList).foldl (fun t (f, x) => t.setIfInBounds f.toNat x) ((Array.range 256).map (·.toUInt8)) := rfl
theorem tab_two {a b x y : UInt8} : tabOf #[a, b] #[x, y] = (((Array.range 256).map fun n => n.toUInt8).setIfInBounds a.toNat x).setIfInBounds b.toNat y := tab_is.trans (tab_fold _)
theorem tab_get {a b x y : UInt8} {k : Nat} (hk : k < 256) : (tabOf #[a, b] #[x, y])[k]? = some (if b.toNat = k then y else if a.toNat = k then x else k.toUInt8) := by
  rw [tab_two, Array.getElem?_setIfInBounds, Array.getElem?_setIfInBounds, Array.size_setIfInBounds, Array.size_map, Array.size_range, Array.getElem?_map, Array.getElem?_range, if_pos b.toNat_lt, if_pos a.toNat_lt, if_pos hk]
  split
  · rfl
  · split <;> rfl
theorem tab_size {a b x y : UInt8} : (tabOf #[a, b] #[x, y]).size = 256 := by
  rw [tab_two, Array.size_setIfInBounds, Array.size_setIfInBounds, Array.size_map, Array.size_range]
theorem tab_alt : ∀ k < 256, (tabOf #[43, 47] #[38, 59])[k]? = some (alt k).toUInt8 := by
  intro k hk
  rw [tab_get hk]
  unfold alt
  by_cases h1 : k = 43
  · subst h1; rfl
  · by_cases h2 : k = 47
    · subst h2; rfl
    · rw [if_neg fun e => h2 e.symm, if_neg fun e => h1 e.symm, if_neg h1, if_neg h2]
theorem tab_tla : ∀ k < 256, (tabOf #[38, 59] #[43, 47])[k]? = some (tla k).toUInt8 := by
  intro k hk
  rw [tab_get hk]
  unfold tla
  by_cases h1 : k = 38
  · subst h1; rfl
  · by_cases h2 : k = 59
    · subst h2; rfl
    · rw [if_neg fun e => h2 e.symm, if_neg fun e => h1 e.symm, if_neg h1, if_neg h2]
theorem size_alt : (tabOf #[43, 47] #[38, 59]).size = 256 := tab_size
theorem size_tla : (tabOf #[38, 59] #[43, 47]).size = 256 := tab_size
section


theorem b64encode_walk {prog : Program} {w : World} (os : List Nat) (t ta : Tok) (s : Shared) (hos : ∀ o ∈ os, o < 256) (hn : os.length ≤ 700) :
    Does prog w (top.heap_39 w.params) 5 30 94 [.bytes (bsA os) t, .bytes #[38, 59] ta] [] s (fun v _ => ∃ t', v = .bytes (bsA ((b64A os).map alt)) t') := by
  w_top off
  intro p loose mean mg mb dp un gd cn cs a ccd outer A₀ base h₀ L m Q E B F X T hck hdp hun hret
  refine wpAny_call ?_
  k_dflt (refine' code_pure (binds := [(Str.ofString "s", .bytes (bsA os) t), (Str.ofString "altchars", .bytes #[38, 59] ta)]) B F X T ?kA ?k6 ?k7 ?k8 ?k9 ?kB ?_ ?cK ?c2 ?c3 ?c4 ?c5)
  case kA => exact rfl
  case cK => assumption
  case k6 => k_is
  case k7 => k_is
  case k8 => ktr_room
  case k9 => first | exact BindsTo.of_eq rfl | exact binds_K (Frag.In.keeps X F.keep) rfl (by k_is) rfl rfl rfl
  case kB => exact locs rfl
  case c2 => exact rfl
  case c3 => exact rfl
  case c4 => exact rfl
  case c5 => decide
  clear B F X T
  intro h₁ F N B X T
  (try k_fold)
  k_steps
  refine Hold.of ((b2a_walk os t _ hos hn).useT B F N X T rfl (room1 hdp (by decide)) (room3 hun (by decide)) ?_)
  intro t₂ h₂ tk₂ F₂ N₂
  k_steps
  refine Hold.of (maketrans (by decide) size_alt ?_)
  intro t3 k3
  k_steps
  refine Hold.of (translateN size_alt tab_alt (b64A_lt os) (by have := b64A_length os; lia) ?_)
  intro t4 k4
  k_steps
  exact hret _ _ _ (Fr.keep (by assumption)) ⟨_, rfl⟩
end
end Mine
end M9part
section M10part
namespace Mine
noncomputable def vN (c : Nat) : Nat := if 65 ≤ c ∧ c ≤ 90 then c - 65 else if 97 ≤ c ∧ c ≤ 122 then c - 71 else if 48 ≤ c ∧ c ≤ 57 then c + 4 else if c = 43 then 62 else if c = 47 then 63 else 64
theorem b64v_small : ∀ c < 128, b64v ((c : Nat) : Int) = ((vN c : Nat) : Int) := by decide +kernel
theorem vN_le (c : Nat) : vN c ≤ 64 := by
  unfold vN
  (repeat' split) <;> lia
/-- the figures of a text, all else passed over -/
noncomputable def figsOf (xs : List Nat) : List Nat := (xs.map vN).filter fun v => v < 64
/-- the fours' filling at the end -/
noncomputable def padsOf (xs : List Nat) : Nat := xs.foldl (fun p c => if c = 61 then p + 1 else if vN c < 64 then 0 else p) 0
theorem figsOf_snoc (xs : List Nat) (c : Nat) : figsOf (xs ++ [c]) = figsOf xs ++ (if vN c < 64 then [vN c] else []) := by
  unfold figsOf
  rw [List.map_append, List.filter_append]
  congr 1
  by_cases h : vN c < 64 <;> simp [h]
theorem padsOf_snoc (xs : List Nat) (c : Nat) : padsOf (xs ++ [c]) = if c = 61 then padsOf xs + 1 else if vN c < 64 then 0 else padsOf xs := by
  unfold padsOf
  rw [List.foldl_append]; rfl
noncomputable def D256 (n x : Nat) : List Nat := ((List.range n).map fun i => n - 1 - i).map fun k => x / 256 ^ k % 256
theorem D256_succ (n x : Nat) : D256 (n + 1) x = D256 n (x / 256) ++ [x % 256] := by
  unfold D256
  rw [List.range_succ, List.map_append, List.map_append, List.map_map]
  simp only [List.map_cons, List.map_nil]
  congr 1
  · rw [List.map_map]
    apply List.map_congr_left
    intro i hi
    have hi := List.mem_range.mp hi
    show x / 256 ^ (n + 1 - 1 - i) % 256 = x / 256 / 256 ^ (n - 1 - i) % 256
    rw [show n + 1 - 1 - i = (n - 1 - i) + 1 by lia, Nat.pow_succ, Nat.div_div_eq_div_mul, Nat.mul_comm]
  · simp
theorem octs_D (fs : List Nat) : octs fs = D256 (6 * fs.length / 8) (W64 fs / 2 ^ (6 * fs.length % 8)) := by
  unfold octs D256 octW
  rw [show 6 * fs.length - 8 * (6 * fs.length / 8) = 6 * fs.length % 8 by lia]
theorem W64_sn (xs : List Nat) (a : Nat) : W64 (xs ++ [a]) = W64 xs * 64 + a := by simp [W64]
theorem div8 {n a b : Nat} (h : n = 8 * a + b) (hb : b < 8) : n / 8 = a ∧ n % 8 = b := by
  subst h
  exact ⟨by rw [Nat.mul_add_div (by decide), Nat.div_eq_of_lt hb, Nat.add_zero], by rw [Nat.mul_add_mod, Nat.mod_eq_of_lt hb]⟩
/-- one figure more: r bits stood over -/
theorem octs_step {F : List Nat} {v a r a' r' : Nat} (h : 6 * F.length = 8 * a + r) (h' : 6 * (F.length + 1) = 8 * a' + r') (hr : r < 8) (hr' : r' < 8) :
    octs F = D256 a (W64 F / 2 ^ r) ∧ octs (F ++ [v]) = D256 a' ((W64 F * 64 + v) / 2 ^ r') ∧ 2 ^ (6 * F.length % 8) = 2 ^ r ∧ 2 ^ (6 * (F ++ [v]).length % 8) = 2 ^ r' := by
  have e1 := div8 h hr
  have e2 := div8 h' hr'
  rw [octs_D, octs_D, List.length_append, W64_sn, List.length_singleton, e1.1, e1.2, e2.1, e2.2]
  exact ⟨rfl, rfl, rfl, rfl⟩
theorem len4 {n j : Nat} (h : n % 4 = j) : n = 4 * (n / 4) + j := by rw [← h, Nat.div_add_mod]
/-- what changes: the list, its room, quad_pos, leftchar, pads, i; four tokens -/
abbrev AS := List Value × Nat × Nat × Nat × Nat × Nat × Tok × Tok × Tok × Tok
/-- what the loop keeps -/
noncomputable def AInv (b : Bool) (pre : List Nat) (c : AS) : Prop :=
  (b = true → ∀ c ∈ pre, c = 61 ∨ vN c < 64) ∧ c.2.2.1 = (figsOf pre).length % 4 ∧ c.2.2.2.1 = W64 (figsOf pre) % 2 ^ (6 * (figsOf pre).length % 8) ∧ c.2.2.2.2.1 = padsOf pre ∧ IntsAre c.1 ((octs (figsOf pre)).map fun (n : Nat) => (n : Int))
section
variable {b : Bool} {pre : List Nat} {ws : List Value} {n q lc pd ii n' i' : Nat} {t5 t6 t7 t8 u5 u6 u7 u8 : Tok} {c : Nat}
theorem AInv.pad (h : AInv b pre ⟨ws, n, q, lc, pd, ii, t5, t6, t7, t8⟩) (hc : ((c : Nat) : Int) = 61) : AInv b (pre ++ [c]) ⟨ws, n', q, lc, pd + 1, i', u5, u6, u7, u8⟩ := by
  have hc : c = 61 := by lia
  subst hc
  obtain ⟨hg, hqq, hlc, hpd, hi⟩ := h
  have h64 : vN 61 = 64 := by decide
  refine ⟨fun hb d hd => ?_, ?_⟩
  · rcases List.mem_append.mp hd with hd | hd
    · exact hg hb d hd
    · exact .inl (List.mem_singleton.mp hd)
  · rw [figsOf_snoc, padsOf_snoc, h64, if_neg (by decide), if_pos rfl, List.append_nil]
    exact ⟨hqq, hlc, congrArg (· + 1) hpd, hi⟩
theorem AInv.skip (h : AInv b pre ⟨ws, n, q, lc, pd, ii, t5, t6, t7, t8⟩) (hb : b = false) (hc : ¬ ((c : Nat) : Int) = 61) (hv : (64 : Int) ≤ ((vN c : Nat) : Int)) : AInv b (pre ++ [c]) ⟨ws, n', q, lc, pd, i', u5, u6, u7, u8⟩ := by
  obtain ⟨hg, hqq, hlc, hpd, hi⟩ := h
  have hc61 : ¬ c = 61 := fun e => hc (by rw [e]; rfl)
  have hv : ¬ vN c < 64 := by lia
  refine ⟨fun h => absurd (hb.symm.trans h) (by decide), ?_⟩
  rw [figsOf_snoc, padsOf_snoc, if_neg hv, if_neg hc61, if_neg hv, List.append_nil]
  exact ⟨hqq, hlc, hpd, hi⟩
theorem AInv.fig (h : AInv b pre ⟨ws, n, q, lc, pd, ii, t5, t6, t7, t8⟩) (hv : vN c < 64) (hc61 : ¬ c = 61) {q' lc' : Nat} {ws' : List Value} (xs : List Nat) (h1 : q' = ((figsOf pre).length + 1) % 4)
    (h2 : octs (figsOf pre ++ [vN c]) = octs (figsOf pre) ++ xs ∧ lc' = W64 (figsOf pre ++ [vN c]) % 2 ^ (6 * (figsOf pre ++ [vN c]).length % 8)) (hx : IntsAre ws' (xs.map fun (n : Nat) => (n : Int))) : AInv b (pre ++ [c]) ⟨ws ++ ws', n', q', lc', 0, i', u5, u6, u7, u8⟩ := by
  obtain ⟨hg, hqq, hlc, hpd, hi⟩ := h
  refine ⟨fun hb d hd => ?_, ?_⟩
  · rcases List.mem_append.mp hd with hd | hd
    · exact hg hb d hd
    · rw [List.mem_singleton.mp hd]; exact .inr hv
  · rw [figsOf_snoc, padsOf_snoc, if_pos hv, if_neg hc61, if_pos hv]
    refine ⟨by rw [List.length_append]; exact h1, h2.2, rfl, ?_⟩
    rw [h2.1, List.map_append]
    exact hi.append hx
theorem AInv.fig0 (h : AInv b pre ⟨ws, n, q, lc, pd, ii, t5, t6, t7, t8⟩) (hv : vN c < 64) (hc61 : ¬ c = 61) (h0 : ((q : Nat) : Int) = 0) : AInv b (pre ++ [c]) ⟨ws, n', 1, vN c, 0, i', u5, u6, u7, u8⟩ := by
  have h4 := len4 (h.2.1.symm.trans (Int.ofNat_inj.mp h0))
  obtain ⟨e1, e2, e3, e4⟩ := octs_step (F := figsOf pre) (v := vN c) (a := 3 * ((figsOf pre).length / 4)) (r := 0) (a' := 3 * ((figsOf pre).length / 4)) (r' := 6) (by lia) (by lia) (by decide) (by decide)
  have := h.fig (n' := n') (i' := i') (u5 := u5) (u6 := u6) (u7 := u7) (u8 := u8) (ws' := []) (q' := 1) (lc' := vN c) hv hc61 [] (by lia) ⟨?_, ?_⟩ .nil
  · rw [List.append_nil] at this; exact this
  · rw [e1, e2, List.append_nil]; congr 1; lia
  · rw [e4, W64_sn]; lia
theorem AInv.fig1 (h : AInv b pre ⟨ws, n, q, lc, pd, ii, t5, t6, t7, t8⟩) (hv : vN c < 64) (hc61 : ¬ c = 61) (h0 : ((q : Nat) : Int) = 1) (tv : Tok) : AInv b (pre ++ [c]) ⟨ws ++ [.int ((lc * 2 ^ 2 + vN c / 16 : Nat) : Int) tv], n', 2, vN c % 16, 0, i', u5, u6, u7, u8⟩ := by
  have h4 := len4 (h.2.1.symm.trans (Int.ofNat_inj.mp h0))
  obtain ⟨e1, e2, e3, e4⟩ := octs_step (F := figsOf pre) (v := vN c) (a := 3 * ((figsOf pre).length / 4)) (r := 6) (a' := 3 * ((figsOf pre).length / 4) + 1) (r' := 4) (by lia) (by lia) (by decide) (by decide)
  have hl : lc = W64 (figsOf pre) % 2 ^ 6 := by rw [← e3]; exact h.2.2.1
  refine h.fig hv hc61 [lc * 2 ^ 2 + vN c / 16] (by lia) ⟨?_, ?_⟩ (.cons _ _ .nil)
  · rw [e1, e2, D256_succ]; congr 1 <;> congr 1 <;> lia
  · rw [e4, W64_sn]; lia
theorem AInv.fig2 (h : AInv b pre ⟨ws, n, q, lc, pd, ii, t5, t6, t7, t8⟩) (hv : vN c < 64) (hc61 : ¬ c = 61) (h0 : ((q : Nat) : Int) = 2) (tv : Tok) : AInv b (pre ++ [c]) ⟨ws ++ [.int ((lc * 2 ^ 4 + vN c / 4 : Nat) : Int) tv], n', 3, vN c % 4, 0, i', u5, u6, u7, u8⟩ := by
  have h4 := len4 (h.2.1.symm.trans (Int.ofNat_inj.mp h0))
  obtain ⟨e1, e2, e3, e4⟩ := octs_step (F := figsOf pre) (v := vN c) (a := 3 * ((figsOf pre).length / 4) + 1) (r := 4) (a' := 3 * ((figsOf pre).length / 4) + 2) (r' := 2) (by lia) (by lia) (by decide) (by decide)
  have hl : lc = W64 (figsOf pre) % 2 ^ 4 := by rw [← e3]; exact h.2.2.1
  refine h.fig hv hc61 [lc * 2 ^ 4 + vN c / 4] (by lia) ⟨?_, ?_⟩ (.cons _ _ .nil)
  · rw [e1, e2, D256_succ]; congr 1 <;> congr 1 <;> lia
  · rw [e4, W64_sn]; lia
theorem AInv.fig3 (h : AInv b pre ⟨ws, n, q, lc, pd, ii, t5, t6, t7, t8⟩) (hv : vN c < 64) (hc61 : ¬ c = 61) (h0 : ¬ ((q : Nat) : Int) = 0) (h1 : ¬ ((q : Nat) : Int) = 1) (h2 : ¬ ((q : Nat) : Int) = 2) (tv : Tok) : AInv b (pre ++ [c]) ⟨ws ++ [.int ((lc * 2 ^ 6 + vN c : Nat) : Int) tv], n', 0, 0, 0, i', u5, u6, u7, u8⟩ := by
  have h3 : (figsOf pre).length % 4 = 3 := by
    have e : q = (figsOf pre).length % 4 := h.2.1
    lia
  have h4 := len4 h3
  obtain ⟨e1, e2, e3, e4⟩ := octs_step (F := figsOf pre) (v := vN c) (a := 3 * ((figsOf pre).length / 4) + 2) (r := 2) (a' := 3 * ((figsOf pre).length / 4) + 3) (r' := 0) (by lia) (by lia) (by decide) (by decide)
  have hl : lc = W64 (figsOf pre) % 2 ^ 2 := by rw [← e3]; exact h.2.2.1
  refine h.fig hv hc61 [lc * 2 ^ 6 + vN c] (by lia) ⟨?_, ?_⟩ (.cons _ _ .nil)
  · rw [e1, e2, D256_succ]; congr 1 <;> congr 1 <;> lia
  · rw [e4, W64_sn]; lia
theorem AInv.small (h : AInv b pre ⟨ws, n, q, lc, pd, ii, t5, t6, t7, t8⟩) : lc < 2 ^ 64 := by
  rw [show lc = W64 (figsOf pre) % 2 ^ (6 * (figsOf pre).length % 8) from h.2.2.1]
  exact Nat.lt_of_lt_of_le (Nat.mod_lt _ (Nat.pow_pos (by decide))) (Nat.pow_le_pow_right (by decide) (Nat.le_of_lt (Nat.lt_trans (Nat.mod_lt _ (by decide)) (by decide))))
theorem AInv.len (h : AInv b pre ⟨ws, n, q, lc, pd, ii, t5, t6, t7, t8⟩) : ws.length ≤ pre.length := by
  have h1 := h.2.2.2.2.length
  have h3 : (figsOf pre).length ≤ pre.length := by
    unfold figsOf
    exact Nat.le_trans (List.length_filter_le _ _) (by rw [List.length_map]; exact Nat.le_refl _)
  rw [List.length_map] at h1
  unfold octs at h1
  rw [List.length_map, List.length_map, List.length_range] at h1
  rw [h1]
  exact Nat.le_trans (Nat.div_le_of_le_mul (by lia)) h3
end
section

local macro_rules | `(tactic| walk_at "leaving ref") => `(tactic| (k_here; (refine' leave_raiseS ?k1 ?k0 ?k2 ?k3 ?_; (case k0 => assumption); (case k1 => assumption); (case k2 => assumption); (case k3 => k_asm); k_whole; intro h' t' R' RK' U'; (try dsimp only at R' RK' U' ⊢))))

local macro_rules | `(tactic| walk_at "isTrue BoolOp") => `(tactic| ((with_reducible show wpAny _ _ (isTrue (Expr.BoolOp _ [_, _] _) _ _) _ _ _); refine hold ?_))
theorem a2b_walk {prog : Program} {w : World} (b : Bool) (xs : List Nat) (t : Tok) (s : Shared) (XP : Prop) (hxs : ∀ x ∈ xs, x < 128) (hn : xs.length ≤ 2000)
    (hq : (b = true → ∀ c ∈ xs, c = 61 ∨ vN c < 64) → (figsOf xs).length % 4 ≠ 1 ∧ ((figsOf xs).length % 4 ≠ 0 → 4 ≤ (figsOf xs).length % 4 + padsOf xs))
    (hs : b = true → ∀ pre c post, xs = pre ++ c :: post → (∀ c ∈ pre, c = 61 ∨ vN c < 64) → (c = 61 → 2 ≤ (figsOf pre).length % 4 ∧ (figsOf pre).length % 4 + padsOf pre + 1 ≤ 4) ∧ (c ≠ 61 → padsOf pre = 0 ∧ (vN c < 64 ∨ XP))) :
    DoesX prog w (top.heap_39 w.params) 3 30 78 [.bytes (bsA xs) t] [(Str.ofString "strict_mode", .bool b)] s (fun v _ => (b = true → ∀ c ∈ xs, c = 61 ∨ vN c < 64) ∧ ∃ t', v = .bytes (bsA (octs (figsOf xs))) t') XP := by
  w_top off
  intro p loose mean mg mb dp un gd cn cs a ccd outer A₀ base h₀ L m Q E B F X T hck hdp hun hret hexc
  refine wpAny_call ?_
  k_dflt (refine' code_pure (binds := [(Str.ofString "data", .bytes (bsA xs) t), (Str.ofString "strict_mode", .bool b)]) B F X T ?kA ?k6 ?k7 ?k8 ?k9 ?kB ?_ ?cK ?c2 ?c3 ?c4 ?c5)
  case kA => exact rfl
  case cK => assumption
  case k6 => k_is
  case k7 => k_is
  case k8 => ktr_room
  case k9 => first | exact BindsTo.of_eq rfl | exact binds_K (Frag.In.keeps X F.keep) rfl (by k_is) rfl rfl rfl
  case kB => exact locs rfl
  case c2 => exact rfl
  case c3 => exact rfl
  case c4 => exact rfl
  case c5 => decide
  clear B F X T
  intro h₁ F N B X T
  (try k_fold)
  k_steps
  refine Hold.of ((ascii_buffer_bytes (bsA xs) t _).useT B F N X T rfl (room1 hdp (by decide)) (room3 hun (by decide)) ?_)
  intro t₂ h₂ tk₂ F₂ N₂
  k_steps
  rename Fr _ _ _ _ => F3
  rename PyProof.Rows.News _ _ _ _ => N3
  refine Hold.of ((truth_bool b _).useV B F3 N3 X T rfl (room1 hdp (by decide)) (room3 hun (by decide)) ?_)
  intro h₄ tk₄ F₄ N₄
  k_steps
  refine Hold.of ?_
  with_unfolding_all refine' For_invVF (by assumption) ?k1 ?k2 ?_
  case k1 => exact rfl
  case k2 => exact rfl
  k_steps
  refine Hold.of ?_
  rename Fr _ _ _ _ => F2
  rename PyProof.Rows.News _ _ _ _ => N2
  rename_i la _ _ _ _ _ _ _
  with_unfolding_all refine' nats_bytes (σ := AS) (fun c => [(la, listOf c.1.toArray c.2.1)]) (fun c => [(Str.ofString "quad_pos", .int (c.2.2.1 : Nat) c.2.2.2.2.2.2.1), (Str.ofString "leftchar", .int (c.2.2.2.1 : Nat) c.2.2.2.2.2.2.2.1), (Str.ofString "pads", .int (c.2.2.2.2.1 : Nat) c.2.2.2.2.2.2.2.2.1), (Str.ofString "i", .int (c.2.2.2.2.2.1 : Nat) c.2.2.2.2.2.2.2.2.2)]) [] (AInv b) ⟨[], 0, 0, 0, 0, 0, _, _, _, _⟩ rfl F2 N2 ?hk ?hp ?_ ?_
  case hk => kst_all
  case hp => exact ⟨(fun _ _ h => absurd h (List.not_mem_nil)), rfl, rfl, rfl, .nil⟩
  · refine all10 ?_
    intro ws n q lc pd ii t5 t6 t7 t8 pre post c t9 u h tk own e ho H F N
    clear F2 N2
    rw [bsA_nats (fun o ho => Nat.lt_trans (hxs o ho) (by decide))] at e
    dsimp only at N
    dsimp only [kstB] at F
    simp only [List.cons_append, List.nil_append] at N
    have hs' := fun hb => hs hb pre c post e (H.1 hb)
    rw [← show q = (figsOf pre).length % 4 from H.2.1, ← show pd = padsOf pre from H.2.2.2.1] at hs'
    have hc128 : c < 128 := hxs c (by rw [e]; exact List.mem_append_right _ (.head _))
    have hw : ws.length ≤ 5000 := by
      refine Nat.le_trans H.len (Nat.le_trans (Nat.le_of_lt ?_) (Nat.le_trans hn (by decide)))
      rw [e, List.length_append, List.length_cons]; lia
    clear e
    (try k_fold)
    k_steps
    · have hc : c = 61 := by lia
      refine Hold.of (decided ((2 : Int) ≤ (q : Nat) ∧ ((q : Nat) : Int) + (((pd : Nat) : Int) + 1) ≤ 4) ?_ ?_ ?_)
      · with_reducible refine isTrue_and ?_
        k_steps
        all_goals first | exact ⟨and_no (by assumption), _, rfl⟩ | exact ⟨and_no2 (by assumption), _, rfl⟩ | exact ⟨and_yes (by assumption) (by assumption), _, rfl⟩ | exact ⟨and_dec (by assumption), _, rfl⟩
      · intro hp kk
        clear hp
        k_steps
        rename Fr _ _ _ _ => F4
        rename PyProof.Rows.News _ _ _ _ => N4
        exact turn_end ⟨_, _, q, lc, pd + 1, ii + 1, _, _, _, _⟩ F4 N4 (mem_one List.mem_cons_self) (fun p hp => List.mem_cons_of_mem _ hp) rfl (by kst_all) (by kst_same) (H.pad (by assumption))
      · intro hp kk
        have hb : b = false := Bool.eq_false_iff.mpr fun hb => hp (by have hh := (hs' hb).1 hc; lia)
        subst hb
        k_steps
        rename Fr _ _ _ _ => F4
        rename PyProof.Rows.News _ _ _ _ => N4
        exact turn_end ⟨_, _, q, lc, pd + 1, ii + 1, _, _, _, _⟩ F4 N4 (mem_one List.mem_cons_self) (fun p hp => List.mem_cons_of_mem _ hp) rfl (by kst_all) (by kst_same) (H.pad (by assumption))
    rename Fr _ _ _ _ => F5
    rename PyProof.Rows.News _ _ _ _ => N5
    refine Hold.of ((b64v_small c hc128 ▸ b64_value (c : Int) t9 _ : Does prog w (top.heap_39 w.params) 1 8 70 [.int (c : Nat) t9] [] _ (fun v _ => ∃ t', v = .int (vN c : Nat) t')).useT B F5 N5 X T rfl (room1 hdp (by decide)) (room3 hun (by decide)) ?_)
    intro t10 h6 tk6 F6 N6
    clear F5 N5
    have hc61 : ¬ c = 61 := by lia
    k_steps
    · refine hexc _ _ _ _ _ ?_ (Mine.RaisedS.less (by assumption)) (by assumption)
      have hh := (hs' (by assumption)).2 hc61
      rcases hh.2 with hh | hh
      · exfalso; lia
      · exact hh
    · rename Fr _ _ _ _ => F8
      rename PyProof.Rows.News _ _ _ _ => N8
      exact turn_end ⟨_, _, q, lc, pd, ii + 1, _, _, _, _⟩ F8 N8 (mem_one List.mem_cons_self) (fun p hp => List.mem_cons_of_mem _ hp) rfl (by kst_all) (by kst_same) (H.skip (by assumption) (by assumption) (by assumption))
    · have hv : vN c < 64 := by lia
      refine Hold.of (once ?_ ?_)
      · with_reducible refine isTrue_and ?_
        k_steps
        all_goals first
          | exact ⟨rfl, _, rfl⟩
          | (exfalso; have hh := hs' (by assumption); lia)
          | (refine ⟨?_, _, rfl⟩; refine Bool.eq_false_iff.mpr fun hb => ?_; have hh := hs' hb; lia)
      intro kk
      clear hs'
      k_steps
      · rename Fr _ _ _ _ => F8
        rename PyProof.Rows.News _ _ _ _ => N8
        exact turn_end ⟨_, _, 1, vN c, 0, ii + 1, _, _, _, _⟩ F8 N8 (mem_one List.mem_cons_self) (fun p hp => List.mem_cons_of_mem _ hp) rfl (by kst_all) (by kst_same) (H.fig0 hv hc61 (by assumption))
      · refine Hold.of (bLsh lc 2 _ rfl rfl H.small (by decide) rfl ?_)
        intro ta ka
        k_steps
        refine Hold.of (bRsh (vN c) 4 (vN c / 16) rfl rfl rfl ?_)
        intro tb kb
        k_steps
        refine Hold.of (bOr _ (vN c / 16) _ rfl rfl (or_shift (Nat.div_lt_of_lt_mul hv)) ?_)
        intro tc kc
        k_steps
        refine Hold.of (bAnd (vN c) 15 (vN c % 16) rfl rfl (and_mask _ 4 _ rfl) ?_)
        intro td kd
        k_steps
        rename Fr _ _ _ _ => F8
        rename PyProof.Rows.News _ _ _ _ => N8
        simp only [List.push_toArray, List.append_assoc, List.cons_append, List.nil_append] at N8
        exact turn_end ⟨_, _, 2, vN c % 16, 0, ii + 1, _, _, _, _⟩ F8 N8 (mem_one List.mem_cons_self) (fun p hp => List.mem_cons_of_mem _ hp) rfl (by kst_all) (by kst_same) (H.fig1 hv hc61 (by assumption) _)
      · refine Hold.of (bLsh lc 4 _ rfl rfl H.small (by decide) rfl ?_)
        intro ta ka
        k_steps
        refine Hold.of (bRsh (vN c) 2 (vN c / 4) rfl rfl rfl ?_)
        intro tb kb
        k_steps
        refine Hold.of (bOr _ (vN c / 4) _ rfl rfl (or_shift (Nat.div_lt_of_lt_mul hv)) ?_)
        intro tc kc
        k_steps
        refine Hold.of (bAnd (vN c) 3 (vN c % 4) rfl rfl (and_mask _ 2 _ rfl) ?_)
        intro td kd
        k_steps
        rename Fr _ _ _ _ => F8
        rename PyProof.Rows.News _ _ _ _ => N8
        simp only [List.push_toArray, List.append_assoc, List.cons_append, List.nil_append] at N8
        exact turn_end ⟨_, _, 3, vN c % 4, 0, ii + 1, _, _, _, _⟩ F8 N8 (mem_one List.mem_cons_self) (fun p hp => List.mem_cons_of_mem _ hp) rfl (by kst_all) (by kst_same) (H.fig2 hv hc61 (by assumption) _)
      · refine Hold.of (bLsh lc 6 _ rfl rfl H.small (by decide) rfl ?_)
        intro ta ka
        k_steps
        refine Hold.of (bOr _ (vN c) _ rfl rfl (or_shift hv) ?_)
        intro tc kc
        k_steps
        rename Fr _ _ _ _ => F8
        rename PyProof.Rows.News _ _ _ _ => N8
        simp only [List.push_toArray, List.append_assoc, List.cons_append, List.nil_append] at N8
        exact turn_end ⟨_, _, 0, 0, 0, ii + 1, _, _, _, _⟩ F8 N8 (mem_one List.mem_cons_self) (fun p hp => List.mem_cons_of_mem _ hp) rfl (by kst_all) (by kst_same) (H.fig3 hv hc61 (by assumption) (by assumption) (by assumption) _)
  · refine all10 ?_
    intro ws n q lc pd ii t5 t6 t7 t8 u h tk H F N
    clear F2 N2
    rw [bsA_nats (fun o ho => Nat.lt_trans (hxs o ho) (by decide))] at H
    dsimp only at N
    dsimp only [kstB] at F
    have hwl : ws.length ≤ 2000 := Nat.le_trans H.len hn
    have hi := H.2.2.2.2
    have hg := H.1
    have hq' := hq hg
    rw [← show q = (figsOf xs).length % 4 from H.2.1, ← show pd = padsOf xs from H.2.2.2.1] at hq'
    have hq1 : ¬ ((q : Nat) : Int) = 1 := by lia
    have hq1d : (((q : Nat) : Int) == 1) = false := beq_eq_false_iff_ne.mpr hq1
    clear H
    (try k_fold)
    k_steps
    refine Hold.of (once ?_ ?_)
    · with_reducible refine isTrue_and ?_
      k_steps
      all_goals first
        | exact ⟨rfl, _, rfl⟩
        | (refine ⟨?_, _, rfl⟩; refine decide_eq_false ?_; lia)
    intro kk
    k_steps
    rename Fr _ _ _ _ => F4
    rename PyProof.Rows.News _ _ _ _ => N4
    refine Hold.of (call_bytes_ints (Mine.News.lst N4 List.mem_cons_self) hi ?_ ?_ rfl ?_)
    · intro n hn
      obtain ⟨k, hk, rfl⟩ := List.mem_map.mp hn
      have : k < 256 := by
        unfold octs at hk
        obtain ⟨j, _, rfl⟩ := List.mem_map.mp hk
        exact Nat.mod_lt _ (by decide)
      lia
    · rw [sizeLine_eq]; exact Nat.le_trans hwl (by decide)
    · intro h' t k hk
      refine hret _ h' k (fun b o e => hk b o (Fr.keep F4 b o e)) ⟨hg, t, congrArg (fun z => Value.bytes z t) ?_⟩
      rw [byteArr_nat (fun n => n), List.map_id']
end
end Mine
end M10part
section M11part
namespace Mine
theorem tla_lt {xs : List Nat} (hxs : ∀ x ∈ xs, x < 128) : ∀ x ∈ xs.map tla, x < 128 := by
  intro x hx
  obtain ⟨y, hy, rfl⟩ := List.mem_map.mp hx
  have := hxs y hy
  unfold tla
  (repeat' split) <;> first | exact this | decide
section


theorem b64decode_walk {prog : Program} {w : World} (b : Bool) (xs : List Nat) (t ta : Tok) (s : Shared) (XP : Prop) (hxs : ∀ x ∈ xs, x < 128) (hn : xs.length ≤ 2000)
    (hq : (b = true → ∀ c ∈ xs.map tla, c = 61 ∨ vN c < 64) → (figsOf (xs.map tla)).length % 4 ≠ 1 ∧ ((figsOf (xs.map tla)).length % 4 ≠ 0 → 4 ≤ (figsOf (xs.map tla)).length % 4 + padsOf (xs.map tla)))
    (hs : b = true → ∀ pre c post, xs.map tla = pre ++ c :: post → (∀ c ∈ pre, c = 61 ∨ vN c < 64) → (c = 61 → 2 ≤ (figsOf pre).length % 4 ∧ (figsOf pre).length % 4 + padsOf pre + 1 ≤ 4) ∧ (c ≠ 61 → padsOf pre = 0 ∧ (vN c < 64 ∨ XP))) :
    DoesX prog w (top.heap_39 w.params) 5 40 102 [.str (tx xs) t, .bytes #[38, 59] ta, .bool b] [] s (fun v _ => (b = true → ∀ c ∈ xs.map tla, c = 61 ∨ vN c < 64) ∧ ∃ t', v = .bytes (bsA (octs (figsOf (xs.map tla)))) t') XP := by
  w_top off
  intro p loose mean mg mb dp un gd cn cs a ccd outer A₀ base h₀ L m Q E B F X T hck hdp hun hret hexc
  refine wpAny_call ?_
  k_dflt (refine' code_pure (binds := [(Str.ofString "s", .str (tx xs) t), (Str.ofString "altchars", .bytes #[38, 59] ta), (Str.ofString "validate", .bool b)]) B F X T ?kA ?k6 ?k7 ?k8 ?k9 ?kB ?_ ?cK ?c2 ?c3 ?c4 ?c5)
  case kA => exact rfl
  case cK => assumption
  case k6 => k_is
  case k7 => k_is
  case k8 => ktr_room
  case k9 => first | exact BindsTo.of_eq rfl | exact binds_K (Frag.In.keeps X F.keep) rfl (by k_is) rfl rfl rfl
  case kB => exact locs rfl
  case c2 => exact rfl
  case c3 => exact rfl
  case c4 => exact rfl
  case c5 => decide
  clear B F X T
  intro h₁ F N B X T
  (try k_fold)
  k_steps
  refine Hold.of ((decode_data_str xs t _ hxs (Nat.le_trans hn (by decide))).useT B F N X T rfl (room1 hdp (by decide)) (room3 hun (by decide)) ?_)
  intro t₂ h₂ tk₂ F₂ N₂
  k_steps
  rename Fr _ _ _ _ => F3
  rename PyProof.Rows.News _ _ _ _ => N3
  refine Hold.of ((decode_data_bytes #[38, 59] ta _).useT B F3 N3 X T rfl (room1 hdp (by decide)) (room3 hun (by decide)) ?_)
  intro t4 h₄ tk₄ F₄ N₄
  k_steps
  refine Hold.of (maketrans (by decide) size_tla ?_)
  intro t3 k3
  k_steps
  refine Hold.of (translateN size_tla tab_tla hxs (Nat.le_trans hn (by decide)) ?_)
  intro t4 k4
  k_steps
  rename Fr _ _ _ _ => F6
  rename PyProof.Rows.News _ _ _ _ => N6
  refine Hold.of ((a2b_walk b (xs.map tla) t4 _ XP (tla_lt hxs) (by rw [List.length_map]; exact hn) hq hs).use B F6 N6 X T rfl (room1 hdp (by decide)) (room3 hun (by decide)) ?_ ?_)
  · rintro v h₂ tk₂ F0 - ⟨hg, t₂, rfl⟩ F₂ N₂
    exact hret _ _ _ (Fr.keep (by assumption)) ⟨hg, _, rfl⟩
  · intro e t vs h' tk' hx R U
    refine leave_onS B F6 R U ?_
    intro h'' R' RK' U'
    exact hexc _ _ _ _ _ hx R' U'
theorem b64decode_loose {prog : Program} {w : World} (xs : List Nat) (t ta : Tok) (s : Shared) (hxs : ∀ x ∈ xs, x < 128) (hn : xs.length ≤ 2000)
    (hq : (figsOf (xs.map tla)).length % 4 ≠ 1 ∧ ((figsOf (xs.map tla)).length % 4 ≠ 0 → 4 ≤ (figsOf (xs.map tla)).length % 4 + padsOf (xs.map tla))) :
    Does prog w (top.heap_39 w.params) 5 40 102 [.str (tx xs) t, .bytes #[38, 59] ta] [] s (fun v _ => ∃ t', v = .bytes (bsA (octs (figsOf (xs.map tla)))) t') := by
  w_top off
  intro p loose mean mg mb dp un gd cn cs a ccd outer A₀ base h₀ L m Q E B F X T hck hdp hun hret
  refine wpAny_call ?_
  k_dflt (refine' code_pure (binds := [(Str.ofString "s", .str (tx xs) t), (Str.ofString "altchars", .bytes #[38, 59] ta), (Str.ofString "validate", .bool false)]) B F X T ?kA ?k6 ?k7 ?k8 ?k9 ?kB ?_ ?cK ?c2 ?c3 ?c4 ?c5)
  case kA => exact rfl
  case cK => assumption
  case k6 => k_is
  case k7 => k_is
  case k8 => ktr_room
  case k9 => first | exact BindsTo.of_eq rfl | exact binds_K (Frag.In.keeps X F.keep) rfl (by k_is) rfl rfl rfl
  case kB => exact locs rfl
  case c2 => exact rfl
  case c3 => exact rfl
  case c4 => exact rfl
  case c5 => decide
  clear B F X T
  intro h₁ F N B X T
  (try k_fold)
  k_steps
  refine Hold.of ((decode_data_str xs t _ hxs (Nat.le_trans hn (by decide))).useT B F N X T rfl (room1 hdp (by decide)) (room3 hun (by decide)) ?_)
  intro t₂ h₂ tk₂ F₂ N₂
  k_steps
  rename Fr _ _ _ _ => F3
  rename PyProof.Rows.News _ _ _ _ => N3
  refine Hold.of ((decode_data_bytes #[38, 59] ta _).useT B F3 N3 X T rfl (room1 hdp (by decide)) (room3 hun (by decide)) ?_)
  intro t4 h₄ tk₄ F₄ N₄
  k_steps
  refine Hold.of (maketrans (by decide) size_tla ?_)
  intro t3 k3
  k_steps
  refine Hold.of (translateN size_tla tab_tla hxs (Nat.le_trans hn (by decide)) ?_)
  intro t4 k4
  k_steps
  rename Fr _ _ _ _ => F6
  rename PyProof.Rows.News _ _ _ _ => N6
  refine Hold.of (((a2b_walk false (xs.map tla) t4 _ False (tla_lt hxs) (by rw [List.length_map]; exact hn) (fun _ => hq) (fun h => absurd h (by decide))).does id |>.weak fun _ _ h => h.2).useT B F6 N6 X T rfl (room1 hdp (by decide)) (room3 hun (by decide)) ?_)
  intro t₂ h₂ tk₂ F₂ N₂
  exact hret _ _ _ (Fr.keep F₂) ⟨_, rfl⟩
end
end Mine
end M11part
section M12part
namespace Mine
theorem truthy_empty {prog : Program} {w : World} {A : Around} {E : Value → Shared → Prop} {K : Frag} {s : Shared} {hp h₀ : Heap} {tk : Nat} {L d : Addr} {m : Str → Option Value} {od : Option Addr} {osl : Array (Option Value)} {ep : Nat} {Q : Bool → Shared → Prop}
    (X : K.In h₀) (F : Fr h₀ L hp m) (ho : K.lookup d = some ⟨.type "dict", od, .dict #[] ep, osl⟩) (hod : od = none) (hosl : osl = #[]) (hd : (d == sysModules) = false) (h : ∀ k, tk ≤ k → Q false { heap := hp, gens := s.gens, drawn := s.drawn, toks := k, os := s.os }) :
    wpAny (model prog w) A (truthy (.ref d)) Q E { heap := hp, gens := s.gens, drawn := s.drawn, toks := tk, os := s.os } := by
  refine wpAny_truthy_dict (knd := PySem.strKind prog w) (kvs := []) hd ⟨_, _, _, F.keep _ _ (X _ _ ho), ?_, rfl, ?_, ?_, ?_⟩ (by decide) (h _ (by show tk ≤ tk + 1 + 1; lia))
  · exact ⟨rfl, hod, hosl⟩
  · intro e he; simp at he
  · exact .nil
  · exact List.nodup_nil
/-- replace, on lists -/
theorem replaceL {prog : Program} {w : World} {A : Around} {E : Value → Shared → Prop} {s : Shared} {hp : Heap} {tk : Nat} {xs : List Nat} {y z : Str} (ys zs : List Nat) {t u v : Tok} {Q : Value → Shared → Prop}
    (hy : y = tx ys) (hz : z = tx zs) (hu : u ≠ 0) (hv : v ≠ 0) (huv : u ≠ v) (hys : ys ≠ []) (hyz : ys ≠ zs) (hb : xs.length ≤ 1000000) (hzl : zs.length ≤ 10)
    (hq : ∀ t' k, tk ≤ k → Q (.str (tx (rep ys zs 0 xs)) t') { heap := hp, gens := s.gens, drawn := s.drawn, toks := k, os := s.os }) :
    wpAny (model prog w) A (call (.builtin "str.replace") [.str (tx xs) t, .str y u, .str z v]) Q E { heap := hp, gens := s.gens, drawn := s.drawn, toks := tk, os := s.os } := by
  subst hy; subst hz
  refine replaceT hu hv huv ?_ ?_ ?_
  · refine beq_false_of_ne fun e => hyz ?_
    have := congrArg (fun x : Str => x.cps.toList) e
    exact this
  · rw [tx_len, tx_len]
    have : (xs.length + 1) * zs.length ≤ (xs.length + 1) * 10 := Nat.mul_le_mul_left _ hzl
    lia
  · intro t' k hk
    rw [replace_rep xs ys zs hys]
    exact hq t' k hk
section
local macro_rules | `(tactic| walk_at "truthy ref") => `(tactic| refine Mine.hold ?_)

local macro_rules | `(tactic| walk_at "execs cons") => `(tactic| (dsimp only; refine hold ?_))
theorem escape_walk {prog : Program} {w : World} (xs : List Nat) (t : Tok) (s : Shared) (hn : xs.length ≤ 2000) :
    Does prog w (top.heap_39 w.params) 3 20 118 [.str (tx xs) t] [] s (fun v _ => ∃ t', v = .str (tx (rep [60] [38, 108, 116, 59] 0 (rep [62] [38, 103, 116, 59] 0 (rep [38] [38, 97, 109, 112, 59] 0 xs)))) t') := by
  w_top off
  intro p loose mean mg mb dp un gd cn cs a ccd outer A₀ base h₀ L m Q E B F X T hck hdp hun hret
  refine wpAny_call ?_
  k_dflt (refine' code_pure (binds := [(Str.ofString "data", .str (tx xs) t), (Str.ofString "entities", .ref 110)]) B F X T ?kA ?k6 ?k7 ?k8 ?k9 ?kB ?_ ?cK ?c2 ?c3 ?c4 ?c5)
  case kA => exact rfl
  case cK => assumption
  case k6 => k_is
  case k7 => k_is
  case k8 => ktr_room
  case k9 => first | exact BindsTo.of_eq rfl | exact binds_K (Frag.In.keeps X F.keep) rfl (by k_is) rfl rfl rfl
  case kB => exact locs rfl
  case c2 => exact rfl
  case c3 => exact rfl
  case c4 => exact rfl
  case c5 => decide
  clear B F X T
  intro h₁ F N B X T
  (try k_fold)
  generalize htk : s.toks + List.length _ = k0
  have hk0 : 0 < k0 := by rw [← htk]; show 0 < s.toks + 2; lia
  have hl0 : xs.length ≤ 1000000 := by lia
  have hl1 : (rep [38] [38, 97, 109, 112, 59] 0 xs).length ≤ 12000 := by
    have h1 := rep_length [38] [38, 97, 109, 112, 59] xs 0
    rw [show List.length [38, 97, 109, 112, 59] + 1 = 6 from rfl] at h1
    lia
  have hl2 : (rep [62] [38, 103, 116, 59] 0 (rep [38] [38, 97, 109, 112, 59] 0 xs)).length ≤ 60000 := by
    have h1 := rep_length [62] [38, 103, 116, 59] (rep [38] [38, 97, 109, 112, 59] 0 xs) 0
    rw [show List.length [38, 103, 116, 59] + 1 = 5 from rfl] at h1
    lia
  k_steps
  refine Hold.of (replaceL [38] [38, 97, 109, 112, 59] (by decide +kernel) (by decide +kernel) (Nat.ne_of_gt hk0) (Nat.succ_ne_zero _) (Nat.ne_of_lt (Nat.lt_succ_self _)) (by decide) (by decide) hl0 (by decide) ?_)
  intro t1 k1 hk1'
  k_steps
  refine Hold.of ?_
  generalize hj1 : k1 + 1 = j1
  have hk1 : 0 < j1 := by lia
  k_steps
  refine Hold.of (replaceL [62] [38, 103, 116, 59] (by decide +kernel) (by decide +kernel) (Nat.ne_of_gt hk1) (Nat.succ_ne_zero _) (Nat.ne_of_lt (Nat.lt_succ_self _)) (by decide) (by decide) (Nat.le_trans hl1 (by decide)) (by decide) ?_)
  intro t2 k2 hk2'
  k_steps
  refine Hold.of ?_
  generalize hj2 : k2 + 1 = j2
  have hk2 : 0 < j2 := by lia
  k_steps
  refine Hold.of (replaceL [60] [38, 108, 116, 59] (by decide +kernel) (by decide +kernel) (Nat.ne_of_gt hk2) (Nat.succ_ne_zero _) (Nat.ne_of_lt (Nat.lt_succ_self _)) (by decide) (by decide) (Nat.le_trans hl2 (by decide)) (by decide) ?_)
  intro t3 k3 hk3'
  k_steps
  refine Hold.of ?_
  generalize hj3 : k3 + 1 = j3
  have hk3 : 0 < j3 := by lia
  k_steps
  rename Fr _ _ _ _ => F5
  refine Hold.of ?_
  k_dflt (refine' truthy_empty X F5 ?ho rfl rfl (by decide) ?_)
  case ho => k_is
  intro k9 hk9'
  have hk9 : 0 < k9 := by lia
  k_steps
  refine Hold.of ?_
  k_steps
  all_goals exact hret _ _ _ (Fr.keep (by assumption)) ⟨_, rfl⟩
theorem unescape_walk {prog : Program} {w : World} (xs : List Nat) (t : Tok) (s : Shared) (hn : xs.length ≤ 2000) :
    Does prog w (top.heap_39 w.params) 3 20 127 [.str (tx xs) t] [] s (fun v _ => ∃ t', v = .str (tx (rep [38, 97, 109, 112, 59] [38] 0 (rep [38, 103, 116, 59] [62] 0 (rep [38, 108, 116, 59] [60] 0 xs)))) t') := by
  w_top off
  intro p loose mean mg mb dp un gd cn cs a ccd outer A₀ base h₀ L m Q E B F X T hck hdp hun hret
  refine wpAny_call ?_
  k_dflt (refine' code_pure (binds := [(Str.ofString "data", .str (tx xs) t), (Str.ofString "entities", .ref 119)]) B F X T ?kA ?k6 ?k7 ?k8 ?k9 ?kB ?_ ?cK ?c2 ?c3 ?c4 ?c5)
  case kA => exact rfl
  case cK => assumption
  case k6 => k_is
  case k7 => k_is
  case k8 => ktr_room
  case k9 => first | exact BindsTo.of_eq rfl | exact binds_K (Frag.In.keeps X F.keep) rfl (by k_is) rfl rfl rfl
  case kB => exact locs rfl
  case c2 => exact rfl
  case c3 => exact rfl
  case c4 => exact rfl
  case c5 => decide
  clear B F X T
  intro h₁ F N B X T
  (try k_fold)
  generalize htk : s.toks + List.length _ = k0
  have hk0 : 0 < k0 := by rw [← htk]; show 0 < s.toks + 2; lia
  have hl0 : xs.length ≤ 1000000 := by lia
  have hl1 : (rep [38, 108, 116, 59] [60] 0 xs).length ≤ 4000 := by
    have h1 := rep_length [38, 108, 116, 59] [60] xs 0
    rw [show List.length [60] + 1 = 2 from rfl] at h1
    lia
  have hl2 : (rep [38, 103, 116, 59] [62] 0 (rep [38, 108, 116, 59] [60] 0 xs)).length ≤ 8000 := by
    have h1 := rep_length [38, 103, 116, 59] [62] (rep [38, 108, 116, 59] [60] 0 xs) 0
    rw [show List.length [62] + 1 = 2 from rfl] at h1
    lia
  k_steps
  refine Hold.of (replaceL [38, 108, 116, 59] [60] (by decide +kernel) (by decide +kernel) (Nat.ne_of_gt hk0) (Nat.succ_ne_zero _) (Nat.ne_of_lt (Nat.lt_succ_self _)) (by decide) (by decide) hl0 (by decide) ?_)
  intro t1 k1 hk1'
  k_steps
  refine Hold.of ?_
  generalize hj1 : k1 + 1 = j1
  have hk1 : 0 < j1 := by lia
  k_steps
  refine Hold.of (replaceL [38, 103, 116, 59] [62] (by decide +kernel) (by decide +kernel) (Nat.ne_of_gt hk1) (Nat.succ_ne_zero _) (Nat.ne_of_lt (Nat.lt_succ_self _)) (by decide) (by decide) (Nat.le_trans hl1 (by decide)) (by decide) ?_)
  intro t2 k2 hk2'
  k_steps
  refine Hold.of ?_
  generalize hj2 : k2 + 1 = j2
  have hk2 : 0 < j2 := by lia
  k_steps
  rename Fr _ _ _ _ => F5
  refine Hold.of ?_
  k_dflt (refine' truthy_empty X F5 ?ho rfl rfl (by decide) ?_)
  case ho => k_is
  intro k9 hk9'
  have hk9 : 0 < k9 := by lia
  k_steps
  refine Hold.of ?_
  k_steps
  refine Hold.of (replaceL [38, 97, 109, 112, 59] [38] (by decide +kernel) (by decide +kernel) (Nat.ne_of_gt hk9) (Nat.succ_ne_zero _) (Nat.ne_of_lt (Nat.lt_succ_self _)) (by decide) (by decide) (Nat.le_trans hl2 (by decide)) (by decide) ?_)
  intro t3 k3 hk3'
  have hk3 : 0 < k3 := by lia
  k_steps
  all_goals exact hret _ _ _ (Fr.keep (by assumption)) ⟨_, rfl⟩
end
end Mine
end M12part
section M13part
namespace Mine
/-- a call that comes back with None, after a raise that it caught: slots of the frames may have changed -/
noncomputable def DoesN (prog : Program) (w : World) (K : Frag) (d u : Nat) (f : Addr) (vals : List Value) (kw : List (Str × Value)) (s : Shared) : Prop :=
  ∀ (p : Program) (loose : List Str) (mean : ExcName → Option Value) (mg mb : Str → Option Value) (dp un : Nat) (gd : Option (List Code)) (cn : Str) (cs : Scope) (a : Addr) (ccd : Value) (outer : List Env) (A₀ : Around) (base h₀ : Heap) (L : Addr) (m : Str → Option Value) (Q E : Value → Shared → Prop),
    Below A₀ base outer h₀ → Fr h₀ L s.heap m → K.In h₀ → Top p loose mean mg mb h₀ → cs.kind = .function → dp + d < recursionLimit → un + u < cLine →
    K.In base → Top p loose mean mg mb base → KtsDicts (outer.filterMap (·.frame)) h₀ →
    (∀ h' tk' g', KtsTurn ((envOf cn cs L a ccd :: outer).filterMap (·.frame)) s.heap g' → Kp g' h' → Q .none { s with heap := h', toks := tk' }) →
    wpAny (model prog w) (ktrTop dp un gd cn cs L a ccd [] outer) (call (.ref f) vals kw) Q E s
theorem dicts_in {h₀ h : Heap} {L a : Addr} {m : Str → Option Value} {cn : Str} {cs : Scope} {ccd : Value} {outer : List Env} (F : Fr h₀ L h m) (D : KtsDicts (outer.filterMap (·.frame)) h₀) : KtsDicts ((envOf cn cs L a ccd :: outer).filterMap (·.frame)) h := by
  intro b hb
  rcases kts_mem hb with rfl | hb
  · obtain ⟨oL, es, n, hL, hd, _⟩ := F.ns
    exact ⟨oL, es, n, hL, hd⟩
  · obtain ⟨o, es, n, ho, hd⟩ := D b hb
    exact ⟨o, es, n, F.keep _ _ ho, hd⟩
section


theorem strictly_ok {prog : Program} {w : World} (xs : List Nat) (t : Tok) (s : Shared) (hxs : ∀ x ∈ xs, x < 128) (hn : xs.length ≤ 2000)
    (hq : (figsOf (xs.map tla)).length % 4 ≠ 1 ∧ ((figsOf (xs.map tla)).length % 4 ≠ 0 → 4 ≤ (figsOf (xs.map tla)).length % 4 + padsOf (xs.map tla)))
    (hs : ∀ pre c post, xs.map tla = pre ++ c :: post → (∀ c ∈ pre, c = 61 ∨ vN c < 64) → (c = 61 → 2 ≤ (figsOf pre).length % 4 ∧ (figsOf pre).length % 4 + padsOf pre + 1 ≤ 4) ∧ (c ≠ 61 → padsOf pre = 0 ∧ vN c < 64)) :
    Does prog w (top.heap_39 w.params) 8 60 170 [.str (tx xs) t] [] s (fun v _ => ∃ t', v = .bytes (bsA (octs (figsOf (xs.map tla)))) t') := by
  w_top off
  intro p loose mean mg mb dp un gd cn cs a ccd outer A₀ base h₀ L m Q E B F X T hck hdp hun hret
  refine wpAny_call ?_
  k_dflt (refine' code_pure (binds := [(Str.ofString "text", .str (tx xs) t)]) B F X T ?kA ?k6 ?k7 ?k8 ?k9 ?kB ?_ ?cK ?c2 ?c3 ?c4 ?c5)
  case kA => exact rfl
  case cK => assumption
  case k6 => k_is
  case k7 => k_is
  case k8 => ktr_room
  case k9 => first | exact BindsTo.of_eq rfl | exact binds_K (Frag.In.keeps X F.keep) rfl (by k_is) rfl rfl rfl
  case kB => exact locs rfl
  case c2 => exact rfl
  case c3 => exact rfl
  case c4 => exact rfl
  case c5 => decide
  clear B F X T
  intro h₁ F N B X T
  (try k_fold)
  k_steps
  refine Hold.of (((b64decode_walk true xs t _ _ False hxs hn (fun _ => hq) (fun _ pre c post e g => ⟨((hs pre c post e g).1), fun hc => ⟨((hs pre c post e g).2 hc).1, .inl ((hs pre c post e g).2 hc).2⟩⟩)).does id |>.weak fun _ _ h => h.2).useT B F N X T rfl (room1 hdp (by decide)) (room3 hun (by decide)) ?_)
  intro t₂ h₂ tk₂ F₂ N₂
  exact hret _ _ _ (Fr.keep F₂) ⟨_, rfl⟩
theorem strictly_none {prog : Program} {w : World} (xs : List Nat) (t : Tok) (s : Shared) (hxs : ∀ x ∈ xs, x < 128) (hn : xs.length ≤ 2000)
    (hq : ¬ ∀ c ∈ xs.map tla, c = 61 ∨ vN c < 64)
    (hs : ∀ pre c post, xs.map tla = pre ++ c :: post → (∀ c ∈ pre, c = 61 ∨ vN c < 64) → (c = 61 → 2 ≤ (figsOf pre).length % 4 ∧ (figsOf pre).length % 4 + padsOf pre + 1 ≤ 4) ∧ (c ≠ 61 → padsOf pre = 0)) :
    DoesN prog w (top.heap_39 w.params) 8 60 170 [.str (tx xs) t] [] s := by
  w_top off
  intro p loose mean mg mb dp un gd cn cs a ccd outer A₀ base h₀ L m Q E B F X T hck hdp hun XB TB D0 hret
  have F0 := F
  refine wpAny_call ?_
  k_dflt (refine' code_pure (binds := [(Str.ofString "text", .str (tx xs) t)]) B F X T ?kA ?k6 ?k7 ?k8 ?k9 ?kB ?_ ?cK ?c2 ?c3 ?c4 ?c5)
  case kA => exact rfl
  case cK => assumption
  case k6 => k_is
  case k7 => k_is
  case k8 => ktr_room
  case k9 => first | exact BindsTo.of_eq rfl | exact binds_K (Frag.In.keeps X F.keep) rfl (by k_is) rfl rfl rfl
  case kB => exact locs rfl
  case c2 => exact rfl
  case c3 => exact rfl
  case c4 => exact rfl
  case c5 => decide
  clear B F X T
  intro h₁ F N B X T
  (try k_fold)
  k_steps
  have D := dicts_in (a := a) (cn := cn) (cs := cs) (ccd := ccd) F0 D0
  refine Hold.of ((b64decode_walk true xs t _ _ True hxs hn (fun h => absurd (h rfl) hq) (fun _ pre c post e g => ⟨((hs pre c post e g).1), fun hc => ⟨((hs pre c post e g).2 hc), .inr trivial⟩⟩)).use B F N X T rfl (room1 hdp (by decide)) (room3 hun (by decide)) ?_ ?_)
  · rintro v h₂ tk₂ F0 hkp ⟨hg, t₂, rfl⟩ F₂ N₂
    exact absurd (hg rfl) hq
  · rintro e t' vs h' tk' - R U
    refine' caught_ST0 (T' := "ValueError") R F B U XB TB D KtsTurn.refl ?q ?ex PyProof.Rows.Boot.«ValueError» ?hn PySem.F.isExc_ValueError PySem.F.notTuple_ValueError ?_
    case q => kts_isx
    case ex => k_is
    case hn => decide
    intro h'' g' n₂ T' F' N₂ G' N' K' X' P' D'
    k_steps
    exact hret _ _ g' T' (Fr.keep F')
end
end Mine
end M13part
section L2part
namespace Mine
/-- no sign of the text is c -/
theorem rep_one (c : Nat) (z : List Nat) : ∀ xs : List Nat, rep [c] z 0 xs = xs.flatMap fun d => if d = c then z else [d]
  | [] => rfl
  | d :: r => by
    have ih := rep_one c z r
    rw [rep, List.flatMap_cons, ← ih]
    by_cases h : d = c
    · subst h; simp [List.isPrefixOf]
    · have : ¬ c = d := fun e => h e.symm
      simp [List.isPrefixOf, h, this]
theorem rep_id {c : Nat} {z : List Nat} {xs : List Nat} (h : ∀ x ∈ xs, x ≠ c) : rep [c] z 0 xs = xs := by
  rw [rep_one]
  induction xs with
  | nil => rfl
  | cons d r ih =>
    rw [List.flatMap_cons, ih fun x hx => h x (.tail _ hx), if_neg (h d (.head _))]
    rfl
theorem sign_facts : ∀ f < 64, sign f ≠ 60 ∧ sign f ≠ 62 ∧ (sign f = 38 → f = 62) ∧ sign f < 128 ∧ sign f ≠ 61 ∧ vN (tla (sign f)) = f ∧ tla (sign f) ≠ 61 ∧ alt (b64a f) = sign f := by decide +kernel
theorem sign_facts66 : ∀ f < 66, sign f < 128 ∧ sign f ≠ 61 ∧ vN (tla (sign f)) = (if f < 64 then f else 64) ∧ tla (sign f) ≠ 61 := by decide +kernel
theorem sign_inj : ∀ a < 64, ∀ b < 64, sign a = sign b → a = b := by decide +kernel
/-! ## escape -/
theorem putIn_lt {k : Nat} {fs : List Nat} (h : ∀ f ∈ fs, f < 64) : ∀ f ∈ putIn k fs, f < 64 := by
  intro f hf
  obtain ⟨g, hg, hfg⟩ := List.mem_flatMap.mp hf
  rcases List.mem_cons.mp hfg with rfl | hfg
  · exact h _ hg
  · split at hfg
    · obtain ⟨l, hl, hfl⟩ := List.mem_flatten.mp hfg
      rw [(List.mem_replicate.mp hl).2] at hfl
      simp at hfl
      lia
    · cases hfg
theorem putIn_zero (fs : List Nat) : putIn 0 fs = fs := by
  induction fs with
  | nil => rfl
  | cons f r ih =>
    have e : putIn 0 (f :: r) = f :: putIn 0 r := by simp [putIn]
    rw [e, ih]
theorem esc_amp {fs : List Nat} (h : ∀ f ∈ fs, f < 64) (k p : Nat) : rep [38] [38, 97, 109, 112, 59] 0 ((putIn k fs).map sign ++ List.replicate p 61) = (putIn (k + 1) fs).map sign ++ List.replicate p 61 := by
  rw [rep_one, List.flatMap_append]
  congr 1
  · induction fs with
    | nil => rfl
    | cons f r ih =>
      have e : ∀ k, putIn k (f :: r) = (f :: (if f = 62 then (List.replicate k [26, 38, 41, 63]).flatten else [])) ++ putIn k r := by intro k; simp [putIn]
      rw [e, e, List.map_append, List.map_append, List.flatMap_append, ih fun g hg => h g (.tail _ hg)]
      congr 1
      have hf := h f (.head _)
      by_cases h62 : f = 62
      · subst h62
        rw [if_pos rfl, if_pos rfl, List.map_cons, List.flatMap_cons]
        have hblk : ∀ k : Nat, (((List.replicate k [26, 38, 41, 63]).flatten.map sign).flatMap fun d => if d = 38 then [38, 97, 109, 112, 59] else [d]) = (List.replicate k [26, 38, 41, 63]).flatten.map sign := by
          intro k
          induction k with
          | zero => rfl
          | succ k ihk =>
            rw [List.replicate_succ, List.flatten_cons, List.map_append, List.flatMap_append, ihk]
            congr 1
        rw [hblk k, List.replicate_succ, List.flatten_cons, List.map_cons, List.map_append]
        rfl
      · rw [if_neg h62, if_neg h62]
        have : ¬ sign f = 38 := fun e => h62 ((sign_facts f hf).2.2.1 e)
        simp [this]
  · induction p with
    | zero => rfl
    | succ p ih => rw [List.replicate_succ, List.flatMap_cons, ih]; rfl
theorem esc_step {fs : List Nat} (h : ∀ f ∈ fs, f < 64) (k p : Nat) : rep [60] [38, 108, 116, 59] 0 (rep [62] [38, 103, 116, 59] 0 (rep [38] [38, 97, 109, 112, 59] 0 ((putIn k fs).map sign ++ List.replicate p 61))) = (putIn (k + 1) fs).map sign ++ List.replicate p 61 := by
  rw [esc_amp h]
  have hno : ∀ c, (c = 60 ∨ c = 62) → ∀ x ∈ (putIn (k + 1) fs).map sign ++ List.replicate p 61, x ≠ c := by
    intro c hc x hx e
    rcases List.mem_append.mp hx with hx | hx
    · obtain ⟨f, hf, rfl⟩ := List.mem_map.mp hx
      have := sign_facts f (putIn_lt h f hf)
      lia
    · have := (List.mem_replicate.mp hx).2
      lia
  rw [rep_id (hno 62 (.inr rfl)), rep_id (hno 60 (.inl rfl))]
/-! ## what decode reads -/
theorem tla61 : tla 61 = 61 := by decide
theorem text_lt {S : List Nat} (h : ∀ f ∈ S, f < 66) (p : Nat) : ∀ x ∈ S.map sign ++ List.replicate p 61, x < 128 := by
  intro x hx
  rcases List.mem_append.mp hx with hx | hx
  · obtain ⟨f, hf, rfl⟩ := List.mem_map.mp hx
    exact (sign_facts66 f (h f hf)).1
  · rw [(List.mem_replicate.mp hx).2]; decide
theorem figs_text {S : List Nat} (h : ∀ f ∈ S, f < 66) (p : Nat) : figsOf ((S.map sign ++ List.replicate p 61).map tla) = S.filter fun v => v < 64 := by
  unfold figsOf
  rw [List.map_append, List.map_append, List.filter_append]
  have h2 : (((List.replicate p 61).map tla).map vN).filter (fun v => decide (v < 64)) = [] := by
    rw [List.filter_eq_nil_iff]
    intro a ha
    obtain ⟨b, hb, rfl⟩ := List.mem_map.mp ha
    obtain ⟨c, hc, rfl⟩ := List.mem_map.mp hb
    rw [(List.mem_replicate.mp hc).2]
    decide
  rw [h2, List.append_nil]
  induction S with
  | nil => rfl
  | cons f r ih =>
    have ih := ih fun g hg => h g (.tail _ hg)
    have hf := (sign_facts66 f (h f (.head _))).2.2.1
    simp only [List.map_cons]
    rw [hf]
    by_cases h64 : f < 64
    · rw [if_pos h64, List.filter_cons_of_pos (by simpa using h64), List.filter_cons_of_pos (by simpa using h64), ih]
    · rw [if_neg h64, List.filter_cons_of_neg (by decide), List.filter_cons_of_neg (by simpa using h64), ih]
theorem pads_zero : ∀ U : List Nat, (∀ u ∈ U, u ≠ 61) → padsOf U = 0 := by
  intro U
  unfold padsOf
  induction U with
  | nil => intro _; rfl
  | cons u r ih =>
    intro h
    rw [List.foldl_cons, if_neg (h u (.head _))]
    have : (if vN u < 64 then 0 else 0) = 0 := by split <;> rfl
    rw [this]
    exact ih fun x hx => h x (.tail _ hx)
theorem pads_ends (U : List Nat) (h : ∀ u ∈ U, u ≠ 61) : ∀ j, padsOf (U ++ List.replicate j 61) = j
  | 0 => by rw [List.replicate_zero, List.append_nil]; exact pads_zero U h
  | j + 1 => by
    rw [show List.replicate (j + 1) 61 = List.replicate j 61 ++ [61] from List.replicate_succ', ← List.append_assoc, padsOf_snoc, if_pos rfl, pads_ends U h j]
theorem text_tla (S : List Nat) (p : Nat) : (S.map sign ++ List.replicate p 61).map tla = (S.map sign).map tla ++ List.replicate p 61 := by
  rw [List.map_append, List.map_replicate, tla61]
theorem signs_no61 {S : List Nat} (h : ∀ f ∈ S, f < 66) : ∀ u ∈ (S.map sign).map tla, u ≠ 61 := by
  intro u hu
  obtain ⟨b, hb, rfl⟩ := List.mem_map.mp hu
  obtain ⟨f, hf, rfl⟩ := List.mem_map.mp hb
  exact (sign_facts66 f (h f hf)).2.2.2
theorem pads_text {S : List Nat} (h : ∀ f ∈ S, f < 66) (p : Nat) : padsOf ((S.map sign ++ List.replicate p 61).map tla) = p := by
  rw [text_tla]
  exact pads_ends _ (signs_no61 h) p
theorem split_at {U pre post : List Nat} {c p : Nat} (e : U ++ List.replicate p 61 = pre ++ c :: post) : ((∀ x ∈ pre, x ∈ U) ∧ c ∈ U) ∨ ∃ j, j < p ∧ pre = U ++ List.replicate j 61 ∧ c = 61 := by
  rcases List.append_eq_append_iff.mp e with ⟨a, h1, h2⟩ | ⟨a, h1, h2⟩
  · right
    have hl := congrArg List.length h2
    rw [List.length_replicate, List.length_append, List.length_cons] at hl
    refine ⟨a.length, by lia, ?_, ?_⟩
    · rw [h1]
      congr 1
      refine List.eq_replicate_iff.mpr ⟨rfl, fun b hb => ?_⟩
      have : b ∈ List.replicate p 61 := by rw [h2]; exact List.mem_append_left _ hb
      exact (List.mem_replicate.mp this).2
    · have : c ∈ List.replicate p 61 := by rw [h2]; exact List.mem_append_right _ (.head _)
      exact (List.mem_replicate.mp this).2
  · cases a with
    | nil =>
      right
      rw [List.nil_append] at h2
      rw [List.append_nil] at h1
      have hl := congrArg List.length h2
      rw [List.length_replicate, List.length_cons] at hl
      refine ⟨0, by lia, by rw [h1]; simp, ?_⟩
      have : c ∈ List.replicate p 61 := by rw [← h2]; exact .head _
      exact (List.mem_replicate.mp this).2
    | cons d a =>
      left
      rw [List.cons_append] at h2
      injection h2 with h3 h4
      subst h3
      rw [h1]
      exact ⟨fun x hx => List.mem_append_left _ hx, List.mem_append_right _ (.head _)⟩
/-- how many fours' signs a row of n figures has -/
noncomputable def EndsOk (n p : Nat) : Prop := (n % 4 = 0 ∧ p = 0) ∨ (2 ≤ n % 4 ∧ n % 4 + p = 4)
theorem figs_le {S : List Nat} (h : ∀ f ∈ S, f < 64) : S.filter (fun v => decide (v < 64)) = S := List.filter_eq_self.mpr fun f hf => by simpa using h f hf
theorem loose_cond {S : List Nat} (h : ∀ f ∈ S, f < 66) {p : Nat} (hp : EndsOk (S.filter fun v => v < 64).length p) :
    (figsOf ((S.map sign ++ List.replicate p 61).map tla)).length % 4 ≠ 1 ∧ ((figsOf ((S.map sign ++ List.replicate p 61).map tla)).length % 4 ≠ 0 → 4 ≤ (figsOf ((S.map sign ++ List.replicate p 61).map tla)).length % 4 + padsOf ((S.map sign ++ List.replicate p 61).map tla)) := by
  rw [figs_text h, pads_text h]
  unfold EndsOk at hp
  lia
theorem strict_cond {S : List Nat} (h : ∀ f ∈ S, f < 64) {p : Nat} (hp : EndsOk S.length p) : ∀ pre c post, (S.map sign ++ List.replicate p 61).map tla = pre ++ c :: post → (∀ c ∈ pre, c = 61 ∨ vN c < 64) →
    (c = 61 → 2 ≤ (figsOf pre).length % 4 ∧ (figsOf pre).length % 4 + padsOf pre + 1 ≤ 4) ∧ (c ≠ 61 → padsOf pre = 0 ∧ vN c < 64) := by
  intro pre c post e _
  have h66 : ∀ f ∈ S, f < 66 := fun f hf => Nat.lt_trans (h f hf) (by decide)
  rw [text_tla] at e
  rcases split_at e with ⟨h1, h2⟩ | ⟨j, hj, rfl, rfl⟩
  · have hc := signs_no61 h66 c h2
    refine ⟨fun x => absurd x hc, fun _ => ⟨pads_zero _ fun u hu => signs_no61 h66 u (h1 u hu), ?_⟩⟩
    obtain ⟨b, hb, rfl⟩ := List.mem_map.mp h2
    obtain ⟨f, hf, rfl⟩ := List.mem_map.mp hb
    rw [(sign_facts f (h f hf)).2.2.2.2.2.1]
    exact h f hf
  · refine ⟨fun _ => ?_, fun x => absurd rfl x⟩
    have h3 := figs_text h66 j
    rw [text_tla, figs_le h] at h3
    rw [h3, pads_ends _ (signs_no61 h66)]
    unfold EndsOk at hp
    lia
theorem none_cond {S : List Nat} (h : ∀ f ∈ S, f < 66) (hb : ∃ f ∈ S, 64 ≤ f) {p : Nat} : ∀ pre c post, (S.map sign ++ List.replicate p 61).map tla = pre ++ c :: post → (∀ c ∈ pre, c = 61 ∨ vN c < 64) →
    (c = 61 → 2 ≤ (figsOf pre).length % 4 ∧ (figsOf pre).length % 4 + padsOf pre + 1 ≤ 4) ∧ (c ≠ 61 → padsOf pre = 0) := by
  intro pre c post e hg
  rw [text_tla] at e
  rcases split_at e with ⟨h1, h2⟩ | ⟨j, hj, rfl, rfl⟩
  · have hc := signs_no61 h c h2
    exact ⟨fun x => absurd x hc, fun _ => pads_zero _ fun u hu => signs_no61 h u (h1 u hu)⟩
  · exfalso
    obtain ⟨f, hf, h64⟩ := hb
    have hm : tla (sign f) ∈ (S.map sign).map tla := List.mem_map_of_mem (List.mem_map_of_mem hf)
    have hs := sign_facts66 f (h f hf)
    rcases hg _ (List.mem_append_left _ hm) with x | x
    · exact hs.2.2.2 x
    · rw [hs.2.2.1, if_neg (by lia)] at x
      lia
theorem none_bad {S : List Nat} (h : ∀ f ∈ S, f < 66) (hb : ∃ f ∈ S, 64 ≤ f) {p : Nat} : ¬ ∀ c ∈ (S.map sign ++ List.replicate p 61).map tla, c = 61 ∨ vN c < 64 := by
  intro hg
  obtain ⟨f, hf, h64⟩ := hb
  have hm : tla (sign f) ∈ (S.map sign ++ List.replicate p 61).map tla := List.mem_map_of_mem (List.mem_append_left _ (List.mem_map_of_mem hf))
  have hs := sign_facts66 f (h f hf)
  rcases hg _ hm with x | x
  · exact hs.2.2.2 x
  · rw [hs.2.2.1, if_neg (by lia)] at x
    lia
/-! ## encode -/
theorem D64_lt (n x : Nat) : ∀ f ∈ D64 n x, f < 64 := by
  intro f hf
  obtain ⟨k, _, rfl⟩ := List.mem_map.mp hf
  exact Nat.mod_lt _ (by decide)
theorem figs_D (os : List Nat) : figs os = D64 ((8 * os.length + 5) / 6) (W256 os * 2 ^ (6 * ((8 * os.length + 5) / 6) - 8 * os.length)) := rfl
theorem figs_length (os : List Nat) : (figs os).length = (8 * os.length + 5) / 6 := D64_length _ _
theorem figs_lt (os : List Nat) : ∀ f ∈ figs os, f < 64 := D64_lt _ _
noncomputable def endsOf (n : Nat) : Nat := (4 - n % 4) % 4
theorem ends_ok (os : List Nat) : EndsOk (figs os).length (endsOf (figs os).length) := by
  rw [figs_length]
  unfold EndsOk endsOf
  obtain ⟨q, hq⟩ : ∃ q, os.length = 3 * q ∨ os.length = 3 * q + 1 ∨ os.length = 3 * q + 2 := ⟨os.length / 3, by lia⟩
  rcases hq with hq | hq | hq <;> rw [hq]
  · rw [show (8 * (3 * q) + 5) / 6 = 4 * q by lia, show 4 * q % 4 = 0 by lia]; exact .inl ⟨rfl, rfl⟩
  · rw [show (8 * (3 * q + 1) + 5) / 6 = 4 * q + 2 by lia, show (4 * q + 2) % 4 = 2 by lia]; exact .inr ⟨by decide, rfl⟩
  · rw [show (8 * (3 * q + 2) + 5) / 6 = 4 * q + 3 by lia, show (4 * q + 3) % 4 = 3 by lia]; exact .inr ⟨by decide, rfl⟩
theorem map_alt {fs : List Nat} (h : ∀ f ∈ fs, f < 64) : (fs.map b64a).map alt = fs.map sign := by
  rw [List.map_map]
  exact List.map_congr_left fun f hf => (sign_facts f (h f hf)).2.2.2.2.2.2.2
theorem encode_text (os : List Nat) : (b64A os).map alt = (figs os).map sign ++ List.replicate (endsOf (figs os).length) 61 := by
  rw [figs_length, figs_D]
  unfold b64A b64F
  rw [List.map_append, map_alt (D64_lt _ _)]
  have hr : 8 * os.length % 6 = 0 ∨ 8 * os.length % 6 = 2 ∨ 8 * os.length % 6 = 4 := by lia
  rcases hr with hr | hr | hr
  · rw [hr, if_neg (by decide), if_neg (by decide)]
    rw [show (8 * os.length + 5) / 6 = 8 * os.length / 6 by lia, show 6 * (8 * os.length / 6) - 8 * os.length = 0 by lia, show endsOf (8 * os.length / 6) = 0 by unfold endsOf; lia]
    simp
  · rw [hr, if_pos rfl]
    rw [show (8 * os.length + 5) / 6 = 8 * os.length / 6 + 1 by lia, show 6 * (8 * os.length / 6 + 1) - 8 * os.length = 4 by lia, show endsOf (8 * os.length / 6 + 1) = 2 by unfold endsOf; lia, D64_succ, List.map_append, List.append_assoc]
    congr 1
    · congr 1; congr 1; lia
    · have := (sign_facts (W256 os % 4 * 16) (by lia)).2.2.2.2.2.2.2
      rw [show W256 os * 2 ^ 4 % 64 = W256 os % 4 * 16 by lia]
      show [alt (b64a (W256 os % 4 * 16)), alt 61, alt 61] = [sign (W256 os % 4 * 16), 61, 61]
      rw [this]; rfl
  · rw [hr, if_neg (by decide), if_pos rfl]
    rw [show (8 * os.length + 5) / 6 = 8 * os.length / 6 + 1 by lia, show 6 * (8 * os.length / 6 + 1) - 8 * os.length = 2 by lia, show endsOf (8 * os.length / 6 + 1) = 1 by unfold endsOf; lia, D64_succ, List.map_append, List.append_assoc]
    congr 1
    · congr 1; congr 1; lia
    · have := (sign_facts (W256 os % 16 * 4) (by lia)).2.2.2.2.2.2.2
      rw [show W256 os * 2 ^ 2 % 64 = W256 os % 16 * 4 by lia]
      show [alt (b64a (W256 os % 16 * 4)), alt 61] = [sign (W256 os % 16 * 4), 61]
      rw [this]; rfl
theorem octs_lt (fs : List Nat) : ∀ o ∈ octs fs, o < 256 := by
  intro o ho
  obtain ⟨k, _, rfl⟩ := List.mem_map.mp ho
  exact Nat.mod_lt _ (by decide)
theorem octs_length (fs : List Nat) : (octs fs).length = 6 * fs.length / 8 := by simp [octs]
theorem putIn_mod (k : Nat) (fs : List Nat) : (putIn k fs).length % 4 = fs.length % 4 := by
  induction fs with
  | nil => rfl
  | cons f r ih =>
    have e : putIn k (f :: r) = (f :: (if f = 62 then (List.replicate k [26, 38, 41, 63]).flatten else [])) ++ putIn k r := by simp [putIn]
    rw [e, List.length_append, List.length_cons, List.length_cons]
    have : (if f = 62 then (List.replicate k [26, 38, 41, 63]).flatten else []).length % 4 = 0 := by
      split
      · simp
      · rfl
    lia
end Mine
end L2part
section L3part
namespace Mine
theorem rep_pass {c : Nat} {y z r : List Nat} (h : c ≠ 38) : rep (38 :: y) z 0 (c :: r) = c :: rep (38 :: y) z 0 r := by
  have : ¬ 38 = c := fun e => h e.symm
  rw [rep, if_neg (by simp [List.isPrefixOf, this])]
theorem rep_at {y z r : List Nat} (h : ¬ y <+: r) : rep (38 :: y) z 0 (38 :: r) = 38 :: rep (38 :: y) z 0 r := by
  rw [rep, if_neg (by simpa [List.isPrefixOf] using h)]
theorem rep_no {y z : List Nat} : ∀ {T : List Nat}, (∀ x ∈ T, x ≠ 38) → rep (38 :: y) z 0 T = T
  | [], _ => rfl
  | c :: r, h => by rw [rep_pass (h c (.head _)), rep_no fun x hx => h x (.tail _ hx)]
theorem pre_rep {y : List Nat} {d : Nat} : ∀ {q T : List Nat}, d ∉ q → q <+: rep (38 :: y) [d] 0 T → q <+: T
  | [], _, _, _ => List.nil_prefix
  | a :: q, [], _, h => by simp [rep] at h
  | a :: q, c :: r, hd, h => by
    by_cases hp : (38 :: y).isPrefixOf (c :: r) = true
    · rw [rep, if_pos hp] at h
      have := (List.cons_prefix_cons.mp h).1
      exact absurd (this ▸ List.Mem.head _) hd
    · rw [rep, if_neg hp] at h
      have h2 := List.cons_prefix_cons.mp h
      exact List.cons_prefix_cons.mpr ⟨h2.1, pre_rep (fun x => hd (.tail _ x)) h2.2⟩
theorem pre_signs {p : Nat} : ∀ {q r : List Nat}, (∀ f ∈ q, f < 64) → (∀ f ∈ r, f < 64) → q.map sign <+: r.map sign ++ List.replicate p 61 → q <+: r
  | [], _, _, _, _ => List.nil_prefix
  | a :: q, [], hq, _, h => by
    exfalso
    have h1 := (sign_facts a (hq a (.head _))).2.2.2.2.1
    cases p with
    | zero => simp at h
    | succ p =>
      rw [List.map_nil, List.nil_append, List.replicate_succ, List.map_cons] at h
      exact h1 (List.cons_prefix_cons.mp h).1
  | a :: q, b :: r, hq, hr, h => by
    rw [List.map_cons, List.map_cons, List.cons_append] at h
    obtain ⟨h1, h2⟩ := List.cons_prefix_cons.mp h
    have := sign_inj a (hq a (.head _)) b (hr b (.head _)) h1
    exact List.cons_prefix_cons.mpr ⟨this, pre_signs (fun f hf => hq f (.tail _ hf)) (fun f hf => hr f (.tail _ hf)) h2⟩
noncomputable def unesc (T : List Nat) : List Nat := rep [38, 97, 109, 112, 59] [38] 0 (rep [38, 103, 116, 59] [62] 0 (rep [38, 108, 116, 59] [60] 0 T))
theorem unesc_amp (T : List Nat) : unesc (38 :: 97 :: 109 :: 112 :: 59 :: T) = 38 :: unesc T := by
  simp [unesc, rep, List.isPrefixOf]
theorem unesc_lt (T : List Nat) : unesc (38 :: 108 :: 116 :: 59 :: T) = 60 :: unesc T := by
  simp [unesc, rep, List.isPrefixOf]
theorem unesc_gt (T : List Nat) : unesc (38 :: 103 :: 116 :: 59 :: T) = 62 :: unesc T := by
  simp [unesc, rep, List.isPrefixOf]
theorem unesc_pass {c : Nat} {T : List Nat} (h : c ≠ 38) : unesc (c :: T) = c :: unesc T := by
  unfold unesc
  rw [rep_pass h, rep_pass h, rep_pass h]
theorem unesc_at {T : List Nat} (h1 : ¬ [108, 116, 59] <+: T) (h2 : ¬ [103, 116, 59] <+: T) (h3 : ¬ [97, 109, 112, 59] <+: T) : unesc (38 :: T) = 38 :: unesc T := by
  unfold unesc
  rw [rep_at h1, rep_at (fun h => h2 (pre_rep (by decide) h)), rep_at (fun h => h3 (pre_rep (by decide) (pre_rep (by decide) h)))]
theorem take_pre {q r : List Nat} (h : q <+: r) : r.take q.length = q := (List.prefix_iff_eq_take.mp h).symm
theorem unesc_text : ∀ (n : Nat) (fs : List Nat) (p : Nat), fs.length ≤ n → (∀ f ∈ fs, f < 64) → unesc (fs.map sign ++ List.replicate p 61) = (takeOut fs).2.map sign ++ List.replicate p 61
  | n, [], p, _, _ => by
    rw [takeOut_nil, List.map_nil, List.nil_append]
    have h : ∀ x ∈ List.replicate p 61, x ≠ 38 := fun x hx => by rw [(List.mem_replicate.mp hx).2]; decide
    unfold unesc
    rw [rep_no h, rep_no h, rep_no h]
  | 0, f :: r, p, h, _ => by simp at h
  | n + 1, f :: r, p, hn, hlt => by
    have hn' : (f :: r).length ≤ n + 1 := hn
    by_cases h5 : (f :: r).take 5 = [62, 26, 38, 41, 63]
    · have e : f :: r = [62, 26, 38, 41, 63] ++ (f :: r).drop 5 := by rw [← h5, List.take_append_drop]
      have ih := unesc_text n ((f :: r).drop 5) p (by rw [List.length_drop]; omega) fun g hg => hlt g (List.mem_of_mem_drop hg)
      rw [takeOut_amp h5]
      conv => lhs; rw [e]
      rw [List.map_append, List.append_assoc]
      show unesc (38 :: 97 :: 109 :: 112 :: 59 :: (((f :: r).drop 5).map sign ++ List.replicate p 61)) = 38 :: _
      rw [unesc_amp, ih]; rfl
    · by_cases h4 : (f :: r).take 4 = [62, 37, 45, 63] ∨ (f :: r).take 4 = [62, 32, 45, 63]
      · have ih := unesc_text n ((f :: r).drop 4) p (by rw [List.length_drop]; omega) fun g hg => hlt g (List.mem_of_mem_drop hg)
        rw [takeOut_ref h5 h4]
        rcases h4 with h4 | h4
        · have e : f :: r = [62, 37, 45, 63] ++ (f :: r).drop 4 := by rw [← h4, List.take_append_drop]
          have hg : (f :: r).getD 1 0 = 37 := by rw [e]; rfl
          rw [hg]
          conv => lhs; rw [e]
          rw [List.map_append, List.append_assoc]
          show unesc (38 :: 108 :: 116 :: 59 :: (((f :: r).drop 4).map sign ++ List.replicate p 61)) = 60 :: _
          rw [unesc_lt, ih]; rfl
        · have e : f :: r = [62, 32, 45, 63] ++ (f :: r).drop 4 := by rw [← h4, List.take_append_drop]
          have hg : (f :: r).getD 1 0 = 32 := by rw [e]; rfl
          rw [hg]
          conv => lhs; rw [e]
          rw [List.map_append, List.append_assoc]
          show unesc (38 :: 103 :: 116 :: 59 :: (((f :: r).drop 4).map sign ++ List.replicate p 61)) = 62 :: _
          rw [unesc_gt, ih]; rfl
      · have ih := unesc_text n r p (by simpa using hn) fun g hg => hlt g (.tail _ hg)
        rw [takeOut_one (by simp) h5 h4]
        show unesc (sign f :: (r.map sign ++ List.replicate p 61)) = sign f :: ((takeOut r).2.map sign ++ List.replicate p 61)
        rw [← ih]
        by_cases h38 : sign f = 38
        · have hf := (sign_facts f (hlt f (.head _))).2.2.1 h38
          have hr : ∀ g ∈ r, g < 64 := fun g hg => hlt g (.tail _ hg)
          subst hf
          rw [h38]
          refine unesc_at (fun h => ?_) (fun h => ?_) (fun h => ?_)
          · have h' : [37, 45, 63].map sign <+: r.map sign ++ List.replicate p 61 := h
            exact h4 (.inl (congrArg (62 :: ·) (take_pre (pre_signs (by decide) hr h'))))
          · have h' : [32, 45, 63].map sign <+: r.map sign ++ List.replicate p 61 := h
            exact h4 (.inr (congrArg (62 :: ·) (take_pre (pre_signs (by decide) hr h'))))
          · have h' : [26, 38, 41, 63].map sign <+: r.map sign ++ List.replicate p 61 := h
            exact h5 (congrArg (62 :: ·) (take_pre (pre_signs (by decide) hr h')))
        · exact unesc_pass h38
theorem takeOut_facts : ∀ (n : Nat) (fs : List Nat), fs.length ≤ n → (∀ f ∈ fs, f < 64) → (takeOut fs).1 = (takeOut fs).2.filter (fun v => decide (v < 64)) ∧ (∀ f ∈ (takeOut fs).2, f < 66) ∧ (takeOut fs).1.length % 4 = fs.length % 4 ∧ (takeOut fs).2.length ≤ fs.length ∧ (takeOut fs).1.length ≤ fs.length
  | n, [], _, _ => by rw [takeOut_nil]; simp
  | 0, f :: r, h, _ => by simp at h
  | n + 1, f :: r, hn, hlt => by
    by_cases h5 : (f :: r).take 5 = [62, 26, 38, 41, 63]
    · have hl : 5 ≤ (f :: r).length := by
        have := congrArg List.length h5
        rw [List.length_take] at this
        simp only [List.length_cons, List.length_nil] at this ⊢
        omega
      obtain ⟨a1, a2, a3, a4, a5⟩ := takeOut_facts n ((f :: r).drop 5) (by rw [List.length_drop]; omega) fun g hg => hlt g (List.mem_of_mem_drop hg)
      rw [takeOut_amp h5]
      rw [List.length_drop] at a3 a4 a5
      refine ⟨?_, ?_, ?_, ?_, ?_⟩
      · rw [List.filter_cons_of_pos (by decide), ← a1]
      · intro g hg
        rcases List.mem_cons.mp hg with rfl | hg
        · decide
        · exact a2 g hg
      · rw [List.length_cons]; omega
      · rw [List.length_cons]; omega
      · rw [List.length_cons]; omega
    · by_cases h4 : (f :: r).take 4 = [62, 37, 45, 63] ∨ (f :: r).take 4 = [62, 32, 45, 63]
      · have hl : 4 ≤ (f :: r).length := by
          rcases h4 with h4 | h4 <;>
          · have := congrArg List.length h4
            rw [List.length_take] at this
            simp only [List.length_cons, List.length_nil] at this ⊢
            omega
        obtain ⟨a1, a2, a3, a4, a5⟩ := takeOut_facts n ((f :: r).drop 4) (by rw [List.length_drop]; omega) fun g hg => hlt g (List.mem_of_mem_drop hg)
        rw [takeOut_ref h5 h4]
        rw [List.length_drop] at a3 a4 a5
        refine ⟨?_, ?_, ?_, ?_, ?_⟩
        · rw [List.filter_cons_of_neg (by split <;> decide), ← a1]
        · intro g hg
          rcases List.mem_cons.mp hg with rfl | hg
          · split <;> decide
          · exact a2 g hg
        · show (takeOut ((f :: r).drop 4)).1.length % 4 = _
          omega
        · rw [List.length_cons]; omega
        · show (takeOut ((f :: r).drop 4)).1.length ≤ _
          omega
      · obtain ⟨a1, a2, a3, a4, a5⟩ := takeOut_facts n r (by simpa using hn) fun g hg => hlt g (.tail _ hg)
        rw [takeOut_one (by simp) h5 h4]
        show f :: (takeOut r).1 = _ ∧ (∀ g ∈ f :: (takeOut r).2, g < 66) ∧ (f :: (takeOut r).1).length % 4 = _ ∧ (f :: (takeOut r).2).length ≤ _ ∧ (f :: (takeOut r).1).length ≤ _
        refine ⟨?_, ?_, ?_, ?_, ?_⟩
        · show _ = List.filter _ (f :: (takeOut r).2)
          rw [List.filter_cons_of_pos (by simpa using hlt f (.head _)), ← a1]
        · intro g hg
          rcases List.mem_cons.mp hg with rfl | hg
          · exact Nat.lt_trans (hlt g (.head _)) (by decide)
          · exact a2 g hg
        · rw [List.length_cons, List.length_cons]; omega
        · rw [List.length_cons, List.length_cons]; omega
        · rw [List.length_cons, List.length_cons]; omega
end Mine
end L3part
section M14part
namespace Mine
theorem range_split {n a : Nat} {pre post : List Nat} (e : List.range n = pre ++ a :: post) : a = pre.length ∧ pre.length < n := by
  have hl := congrArg List.length e
  rw [List.length_range, List.length_append, List.length_cons] at hl
  have hlt : pre.length < n := by lia
  have h1 : (List.range n)[pre.length]? = some a := by rw [e]; simp
  rw [List.getElem?_range hlt] at h1
  exact ⟨(Option.some.inj h1).symm, hlt⟩
theorem rangeSize_up (n : Nat) : Builtin.Range.rangeSize 1 ((n : Int) + 1) 1 = (n : Int) := by
  unfold Builtin.Range.rangeSize
  rw [if_pos (by decide)]
  simp only [Int.ediv_one]
  split <;> lia
theorem small_up {n : Nat} (h : n ≤ 16777216) : Builtin.Range.small 1 ((n : Int) + 1) 1 = true := by
  unfold Builtin.Range.small
  rw [rangeSize_up]
  simp [Builtin.Range.rangeFitsLong]
  lia
theorem add_tx {prog : Program} {w : World} {A : Around} {E : Value → Shared → Prop} {s : Shared} {hp : Heap} {tk : Nat} {xs ys : List Nat} {t u : Tok} {Q : Value → Shared → Prop} (hsz : xs.length + ys.length ≤ 10000)
    (h : ∀ t' k, Q (.str (tx (xs ++ ys)) t') { heap := hp, gens := s.gens, drawn := s.drawn, toks := k, os := s.os }) :
    wpAny (model prog w) A (binaryOp .Add (.str (tx xs) t) (.str (tx ys) u)) Q E { heap := hp, gens := s.gens, drawn := s.drawn, toks := tk, os := s.os } := by
  refine PyProof.Rows.add_str (fun t' k => ?_) (by rw [tx_len, tx_len, sizeLine_eq]; lia)
  have : tx xs ++ tx ys = tx (xs ++ ys) := by
    apply Str.ext'
    simp [tx, Str.cps_append]
  rw [this]
  exact h t' k
theorem ne_same_str {prog : Program} {w : World} {A : Around} {E : Value → Shared → Prop} {s : Shared} {x y : Str} {t u : Tok} {Q : Value → Shared → Prop} (e : x = y) (h : Q (.bool false) s) : wpAny (model prog w) A (compareOp .NotEq (.str x t) (.str y u)) Q E s := by
  subst e
  refine PyProof.Rows.ne_str ?_
  rw [bne_self_eq_false]; exact h
theorem ne_same_bytes {prog : Program} {w : World} {A : Around} {E : Value → Shared → Prop} {s : Shared} {x y : Array UInt8} {t u : Tok} {Q : Value → Shared → Prop} (e : x = y) (h : Q (.bool false) s) : wpAny (model prog w) A (compareOp .NotEq (.bytes x t) (.bytes y u)) Q E s := by
  subst e
  refine PySem.W.ne_bytes ?_
  rw [bne_self_eq_false]; exact h
theorem eq_same_bytes {prog : Program} {w : World} {A : Around} {E : Value → Shared → Prop} {s : Shared} {x y : Array UInt8} {t u : Tok} {Q : Value → Shared → Prop} (e : x = y) (h : Q (.bool true) s) : wpAny (model prog w) A (compareOp .Eq (.bytes x t) (.bytes y u)) Q E s := by
  subst e
  refine PySem.W.eq_bytes ?_
  rw [beq_self_eq_true]; exact h
section


theorem rounds_walk {prog : Program} {w : World} (l : Addr) (vs : List Value) (fs : List Nat) (np nT : Nat) (t te tt : Tok) (s : Shared)
    (hl : s.heap.IsList l vs.toArray) (hi : IntsAre vs (fs.map fun (n : Nat) => (n : Int))) (hn : fs.length ≤ 60) (hlt : ∀ f ∈ fs, f < 64) (hp : EndsOk fs.length np) (hp4 : np ≤ 3) (hT : nT ≤ 3) :
    Does prog w (top.heap_39 w.params) 12 80 177 [.str (tx (fs.map sign ++ List.replicate np 61)) t, .ref l, .str (tx (List.replicate np 61)) te, .int (nT : Nat) tt] [] s (fun v _ => v = .bool true) := by
  w_top off
  intro p loose mean mg mb dp un gd cn cs a ccd outer A₀ base h₀ L m Q E B F X T hck hdp hun hret
  refine wpAny_call ?_
  k_dflt (refine' code_pure (binds := [(Str.ofString "text", .str (tx (fs.map sign ++ List.replicate np 61)) t), (Str.ofString "figures", .ref l), (Str.ofString "ends", .str (tx (List.replicate np 61)) te), (Str.ofString "times", .int (nT : Nat) tt)]) B F X T ?kA ?k6 ?k7 ?k8 ?k9 ?kB ?_ ?cK ?c2 ?c3 ?c4 ?c5)
  case kA => exact rfl
  case cK => assumption
  case k6 => k_is
  case k7 => k_is
  case k8 => ktr_room
  case k9 => first | exact BindsTo.of_eq rfl | exact binds_K (Frag.In.keeps X F.keep) rfl (by k_is) rfl rfl rfl
  case kB => exact locs rfl
  case c2 => exact rfl
  case c3 => exact rfl
  case c4 => exact rfl
  case c5 => decide
  clear B F X T
  intro h₁ F N B X T
  (try k_fold)
  k_steps
  refine Hold.of ?_
  with_unfolding_all refine' For_invVF (by assumption) ?k1 ?k2 ?_
  case k1 => exact rfl
  case k2 => exact rfl
  k_steps
  refine Hold.of ?_
  rename IsRange _ _ _ _ _ _ _ _ => R2
  rename Fr _ _ _ _ => F2
  rename PyProof.Rows.News _ _ _ _ => N2
  with_unfolding_all refine' nats_range (σ := Nat × Tok) (fun _ => []) (fun c => [(Str.ofString "text", .str (tx ((putIn c.1 fs).map sign ++ List.replicate np 61)) c.2)]) [Str.ofString "row"] (fun pre c => c.1 = pre.length) (0, t) rfl R2 (small_up (by lia)) (rangeSize_up nT) F2 N2 ?hk ?hp ?_ ?_
  case hk => rw [putIn_zero]; kst_all
  case hp => rfl
  · refine all2 ?_
    intro kk t3 pre post a t7 u h tk own e ho hP F N
    clear F2 N2
    obtain ⟨rfl, hlt2⟩ := range_split e
    dsimp only at hP N
    subst hP
    dsimp only [kstB] at F
    simp only [List.cons_append, List.nil_append] at N
    rw [show (1 : Int) + (pre.length : Int) = ((pre.length + 1 : Nat) : Int) by lia] at F
    have hpl := putIn_length pre.length fs
    have hpl1 := putIn_length (pre.length + 1) fs
    have hm3 : (4 * pre.length + 1) * fs.length ≤ 13 * 60 := Nat.mul_le_mul (by lia) hn
    have hm4 : (4 * (pre.length + 1) + 1) * fs.length ≤ 13 * 60 := Nat.mul_le_mul (by lia) hn
    have htl : ((putIn pre.length fs).map sign ++ List.replicate np 61).length ≤ 2000 := by
      rw [List.length_append, List.length_map, List.length_replicate]; lia
    (try k_fold)
    k_steps
    refine Hold.of (((escape_walk _ t3 _ htl).castS (esc_step hlt pre.length np)).useT B F N X T rfl (room1 hdp (by decide)) (room3 hun (by decide)) ?_)
    intro t4 h3 tk3 F3 N3
    clear F
    k_steps
    rename Fr _ _ _ _ => F4
    rename PyProof.Rows.News _ _ _ _ => N4
    refine Hold.of ((put_walk l vs fs (pre.length + 1) t7 _ (Fr.lst F4 hl) hi (by lia) (by lia)).useN B F4 N4 X T rfl (room1 hdp (by decide)) (room3 hun (by decide)) ?_)
    intro lr ws n h5 tk5 hiw F6 N7
    clear F4 N4
    have hrlt := putIn_lt (k := pre.length + 1) hlt
    have hrlt6 : ∀ f ∈ putIn (pre.length + 1) fs, f < 66 := fun f hf => Nat.lt_trans (hrlt f hf) (by decide)
    k_steps
    rename Fr _ _ _ _ => F8
    rename PyProof.Rows.News _ _ _ _ => N8
    refine Hold.of ((text_walk lr ws (putIn (pre.length + 1) fs) _ (Mine.News.lst N8 List.mem_cons_self) hiw (by lia) hrlt6).useT B F8 N8 X T rfl (room1 hdp (by decide)) (room3 hun (by decide)) ?_)
    intro t9 h9 tk9 F9 N9
    clear F8 N8
    k_steps
    refine Hold.of (add_tx (by rw [List.length_map, List.length_replicate]; lia) ?_)
    intro t10 k10
    k_steps
    refine Hold.of (ne_same_str rfl ?_)
    k_steps
    rename Fr _ _ _ _ => F8
    rename PyProof.Rows.News _ _ _ _ => N8
    have hrow : figsOf (((putIn (pre.length + 1) fs).map sign ++ List.replicate np 61).map tla) = putIn (pre.length + 1) fs := by
      rw [figs_text hrlt6, figs_le hrlt]
    have hpe : EndsOk (putIn (pre.length + 1) fs).length np := by
      unfold EndsOk at hp ⊢
      rw [putIn_mod]; exact hp
    have hrl : ((putIn (pre.length + 1) fs).map sign ++ List.replicate np 61).length ≤ 2000 := by
      rw [List.length_append, List.length_map, List.length_replicate]; lia
    refine Hold.of (((strictly_ok _ t4 _ (text_lt hrlt6 np) hrl (loose_cond hrlt6 (by rw [figs_le hrlt]; exact hpe)) (strict_cond hrlt hpe)).castB (congrArg octs hrow)).useT B F8 N8 X T rfl (room1 hdp (by decide)) (room3 hun (by decide)) ?_)
    intro t11 h11 tk11 F11 N11
    clear F8 N8
    k_steps
    rename Fr _ _ _ _ => F8
    rename PyProof.Rows.News _ _ _ _ => N8
    refine Hold.of ((octets_walk lr ws (putIn (pre.length + 1) fs) _ (Mine.News.lst N8 List.mem_cons_self) hiw (by lia)).useT B F8 N8 X T rfl (room1 hdp (by decide)) (room3 hun (by decide)) ?_)
    intro t12 h12 tk12 F13 N13
    clear F8 N8
    k_steps
    refine Hold.of (ne_same_bytes rfl ?_)
    k_steps
    refine turn_end (pre.length + 1, _) F13 N13 (fun p hp => absurd hp List.not_mem_nil) (fun p hp => List.mem_cons_of_mem _ hp) rfl (by kst_all) ?_ (by dsimp only; rw [List.length_append]; rfl)
    intro z h1 h2 h3
    simp at h1 h2 h3
    simp [h1, h2, h3]
  · refine all2 ?_
    intro kk t3 u h tk hP F N
    clear F2 N2
    dsimp only at hP N
    dsimp only [kstB] at F
    (try k_fold)
    k_steps
    exact hret _ _ _ (Fr.keep F) rfl
end
end Mine
end M14part
end WalksC
section M15part
namespace Mine
section
variable {prog : Program} {w : World} {K : Frag} {p : Program} {loose : List Str} {mean : ExcName → Option Value} {mg mb : Str → Option Value} {h₀ : Heap} {m : Str → Option Value}
  {d u : Nat} {qual : Str} {sc : Scope} {L f' f : Addr} {cdv : Value} {vals : List Value} {kw : List (Str × Value)} {s : Shared} {R : Value → Heap → Prop} {Q E : Value → Shared → Prop} {news : List (Addr × Obj)}
theorem Does.law (D : Does prog w K d u f vals kw s R) (F : Fr h₀ L s.heap m) (N : News h₀ L s.heap news) (X : K.In h₀) (T : Top p loose mean mg mb h₀)
    (hck : sc.kind = .function) (hd : callerA.depth + 1 + d < recursionLimit) (hu : callerA.units + 3 + u < cLine)
    (hQ : ∀ v h' tk', Fr h₀ L s.heap m → Kp s.heap h' → R v h' → Fr h₀ L h' m → News h₀ L h' news → Q v { s with heap := h', toks := tk' }) :
    wpAny (model prog w) (callerA.deeper (envOf qual sc L f' cdv)) (call (.ref f) vals kw) Q E s :=
  D p loose mean mg mb (callerA.depth + 1) (callerA.units + 3) callerA.guards qual sc f' cdv [] callerA h₀ h₀ L m Q E (below_caller h₀) F X T hck hd hu fun v h' tk' hk hr => hQ v h' tk' F hk hr (F.kept hk) (N.keepsAll hk)
theorem Does.lawT {g : Tok → Value} (D : Does prog w K d u f vals kw s (fun v _ => ∃ t', v = g t')) (F : Fr h₀ L s.heap m) (N : News h₀ L s.heap news) (X : K.In h₀) (T : Top p loose mean mg mb h₀)
    (hck : sc.kind = .function) (hd : callerA.depth + 1 + d < recursionLimit) (hu : callerA.units + 3 + u < cLine)
    (hQ : ∀ t' h' tk', Fr h₀ L h' m → News h₀ L h' news → Q (g t') { s with heap := h', toks := tk' }) :
    wpAny (model prog w) (callerA.deeper (envOf qual sc L f' cdv)) (call (.ref f) vals kw) Q E s :=
  D.law F N X T hck hd hu fun v h' tk' _ _ hr F' N' => by
    obtain ⟨t', rfl⟩ := hr
    exact hQ t' h' tk' F' N'
theorem Does.lawV {v₀ : Value} (D : Does prog w K d u f vals kw s (fun v _ => v = v₀)) (F : Fr h₀ L s.heap m) (N : News h₀ L s.heap news) (X : K.In h₀) (T : Top p loose mean mg mb h₀)
    (hck : sc.kind = .function) (hd : callerA.depth + 1 + d < recursionLimit) (hu : callerA.units + 3 + u < cLine)
    (hQ : ∀ h' tk', Fr h₀ L h' m → News h₀ L h' news → Q v₀ { s with heap := h', toks := tk' }) :
    wpAny (model prog w) (callerA.deeper (envOf qual sc L f' cdv)) (call (.ref f) vals kw) Q E s :=
  D.law F N X T hck hd hu fun v h' tk' _ _ hr F' N' => by
    subst hr
    exact hQ h' tk' F' N'
theorem Does.lawN {xs : List Nat} (D : Does prog w K d u f vals kw s (fun v h' => NewNats s.heap h' v xs)) (F : Fr h₀ L s.heap m) (N : News h₀ L s.heap news) (X : K.In h₀) (T : Top p loose mean mg mb h₀)
    (hck : sc.kind = .function) (hd : callerA.depth + 1 + d < recursionLimit) (hu : callerA.units + 3 + u < cLine)
    (hQ : ∀ l ws n h' tk', IntsAre ws (xs.map fun (n : Nat) => (n : Int)) → Fr h₀ L h' m → News h₀ L h' ((l, listOf ws.toArray n) :: news) → Q (.ref l) { s with heap := h', toks := tk' }) :
    wpAny (model prog w) (callerA.deeper (envOf qual sc L f' cdv)) (call (.ref f) vals kw) Q E s :=
  D.law F N X T hck hd hu fun v h' tk' F0 _ hr F' N' => by
    obtain ⟨l, ws, n, rfl, h0, h1, hi⟩ := hr
    exact hQ l ws n h' tk' hi F' (Mine.News.add F0 N' h0 h1)
theorem Does.lawP {xs ys : List Nat} (D : Does prog w K d u f vals kw s (fun v h' => NewPair s.heap h' v xs ys)) (F : Fr h₀ L s.heap m) (N : News h₀ L s.heap news) (X : K.In h₀) (T : Top p loose mean mg mb h₀)
    (hck : sc.kind = .function) (hd : callerA.depth + 1 + d < recursionLimit) (hu : callerA.units + 3 + u < cLine)
    (hQ : ∀ l la lb no wa wb na nb h' tk', IntsAre wa (xs.map fun (n : Nat) => (n : Int)) → IntsAre wb (ys.map fun (n : Nat) => (n : Int)) → Fr h₀ L h' m → News h₀ L h' ((l, listOf [.ref la, .ref lb].toArray no) :: (la, listOf wa.toArray na) :: (lb, listOf wb.toArray nb) :: news) → Q (.ref l) { s with heap := h', toks := tk' }) :
    wpAny (model prog w) (callerA.deeper (envOf qual sc L f' cdv)) (call (.ref f) vals kw) Q E s :=
  D.law F N X T hck hd hu fun v h' tk' F0 _ hr F' N' => by
    obtain ⟨lo, la, lb, no, wa, wb, na, nb, rfl, ho0, ho1, ha0, ha1, hia, hb0, hb1, hib⟩ := hr
    exact hQ lo la lb no wa wb na nb h' tk' hia hib F' (Mine.News.add F0 (Mine.News.add F0 (Mine.News.add F0 N' hb0 hb1) ha0 ha1) ho0 ho1)
theorem DoesN.law (D : DoesN prog w K d u f vals kw s) (F : Fr h₀ L s.heap m) (N : News h₀ L s.heap news) (X : K.In h₀) (T : Top p loose mean mg mb h₀)
    (hck : sc.kind = .function) (hd : callerA.depth + 1 + d < recursionLimit) (hu : callerA.units + 3 + u < cLine)
    (hQ : ∀ h' tk', Fr h₀ L h' m → News h₀ L h' news → Q .none { s with heap := h', toks := tk' }) :
    wpAny (model prog w) (callerA.deeper (envOf qual sc L f' cdv)) (call (.ref f) vals kw) Q E s := by
  refine D p loose mean mg mb (callerA.depth + 1) (callerA.units + 3) callerA.guards qual sc f' cdv [] callerA h₀ h₀ L m Q E (below_caller h₀) F X T hck hd hu X T ktsDicts_nil fun h' tk' g' hT hk => ?_
  have hmem : ∀ b, b ∈ (([envOf qual sc L f' cdv] : List Env).filterMap (·.frame)) → b = L := fun b hb => by
    rcases kts_mem hb with z | z
    · exact z
    · simp at z
  obtain ⟨oL, es, n, hL, hd', hl1, hl2⟩ := F.ns
  obtain ⟨sl, hs⟩ := hT.up hL
  refine hQ h' tk' ⟨⟨_, es, n, hk _ _ hs, hd', hl1, hl2⟩, fun b o e => ?_, F.above⟩ fun q hq => ⟨?_, (N q hq).2⟩
  · refine hk _ _ (hT.other b o (F.keep b o e) fun hm => ?_)
    rw [hmem b hm, kts_self F] at e
    cases e
  · refine hk _ _ (hT.other _ _ (N q hq).1 fun hm => ?_)
    exact (N q hq).2.1 (hmem _ hm)
end
theorem nats_of_ints {ns : List Int} (h : ∀ n ∈ ns, 0 ≤ n) : ∃ xs : List Nat, ns = xs.map fun (n : Nat) => (n : Int) := by
  induction ns with
  | nil => exact ⟨[], rfl⟩
  | cons n r ih =>
    obtain ⟨xs, rfl⟩ := ih fun x hx => h x (.tail _ hx)
    exact ⟨n.toNat :: xs, by rw [List.map_cons, Int.toNat_of_nonneg (h n (.head _))]⟩
theorem ends_text (n : Nat) : Txt.mul (Str.ofString "=") ((-((n : Nat) : Int)).fmod 4) = tx (List.replicate (endsOf n) 61) := by
  have h4 : (-((n : Nat) : Int)).fmod 4 = ((endsOf n : Nat) : Int) := by
    rw [Int.fmod_eq_emod_of_nonneg _ (by decide)]
    unfold endsOf
    lia
  have hj : ∀ j < 4, Txt.mul (Str.ofString "=") ((j : Nat) : Int) = tx (List.replicate j 61) := by decide +kernel
  rw [h4]
  exact hj _ (by unfold endsOf; lia)
theorem drawn_min (xs : List Nat) : 8 ≤ (drawn xs).length := by simp [drawn]
section


theorem law_holds : PySem.Challenge.rw_il0035_01.Holds := top (by
  k_go0
  all_goals (try k_fold)
  k_steps
  rename IntsAre _ (List.take 10 (List.map _ (List.take 63 _))) => hi10
  rename IntsAre _ (List.map _ (List.take 63 _)) => hiN
  rename Frag.In _ _ => X
  rename Top _ _ _ _ _ _ => T
  generalize hns : List.map (fun k' => Int.fmod k' 1000000) (List.take 63 _) = ns at *
  have hns0 : ∀ n ∈ ns, 0 ≤ n := by
    intro n hn
    rw [← hns] at hn
    obtain ⟨k, _, rfl⟩ := List.mem_map.mp hn
    exact Int.fmod_nonneg_of_pos _ (by decide)
  have hnsl : ns.length ≤ 63 := by
    rw [← hns, List.length_map, List.length_take]; lia
  obtain ⟨xs, rfl⟩ := nats_of_ints hns0
  rw [← List.map_take] at hi10
  rename Fr _ _ _ _ => F0
  rename PyProof.Rows.News _ _ _ _ => N0
  refine Hold.of ((drawn_walk _ _ (xs.take 10) _ (Mine.News.lst N0 List.mem_cons_self) hi10 (by rw [List.length_take]; exact Nat.min_le_left _ _)).lawN F0 N0 X T rfl (by decide) (by decide) ?_)
  intro l1 ws1 n1 h1 tk1 hiw1 F2 N3
  clear F0 N0
  k_steps
  generalize hdr : drawn (xs.take 10) = dr at *
  have hdrm : 8 ≤ dr.length := by
    rw [← hdr]; exact drawn_min _
  have hdrl : dr.length ≤ 58 := by
    rw [← hdr]
    have h1 := drawn_length (xs.take 10)
    rw [List.length_take] at h1
    lia
  rename Fr _ _ _ _ => F4
  rename PyProof.Rows.News _ _ _ _ => N4
  refine Hold.of ((octets_walk l1 ws1 dr _ (Mine.News.lst N4 List.mem_cons_self) hiw1 (by lia)).lawT F4 N4 X T rfl (by decide) (by decide) ?_)
  intro t2 h2 tk2 F6 N6
  clear F4 N4
  generalize hos : octs dr = os at *
  have hosl : os.length ≤ 43 := by rw [← hos, octs_length]; lia
  have hosm : 6 ≤ os.length := by rw [← hos, octs_length]; lia
  have hos6 : ∀ o ∈ os, o < 256 := by rw [← hos]; exact octs_lt dr
  k_steps
  rename Fr _ _ _ _ => F4
  rename PyProof.Rows.News _ _ _ _ => N4
  refine Hold.of ((figures_walk os t2 _ hos6 (by lia)).lawN F4 N4 X T rfl (by decide) (by decide) ?_)
  intro lf wf nf h3 tk3 hif F7 N8
  clear F4 N4
  have hfl := figs_length os
  have hflt := figs_lt os
  have hend := ends_ok os
  have henc := encode_text os
  generalize hfs : figs os = fs at *
  have hnp : endsOf fs.length ≤ 3 := by unfold endsOf; lia
  have het := ends_text fs.length
  generalize endsOf fs.length = np at *
  k_steps
  rename Fr _ _ _ _ => F4
  rename PyProof.Rows.News _ _ _ _ => N4
  rw [List.length_map, het] at F4
  refine Hold.of (((b64encode_walk os t2 _ _ hos6 (by lia)).castB henc).lawT F4 N4 X T rfl (by decide) (by decide) ?_)
  intro t5 h5 tk5 F7 N7
  clear F4 N4
  k_steps
  have htxl : (fs.map sign ++ List.replicate np 61).length ≤ 2000 := by
    rw [List.length_append, List.length_map, List.length_replicate]; lia
  have hf66 : ∀ f ∈ fs, f < 66 := fun f hf => Nat.lt_trans (hflt f hf) (by decide)
  refine Hold.of (decode_ascii (by intro e; have := congrArg List.length e; rw [List.length_append, List.length_map, List.length_nil] at this; lia) (text_lt hf66 np) (by rw [sizeLine_eq]; lia) ?_)
  intro t6 k6
  k_steps
  rename Fr _ _ _ _ => F4
  rename PyProof.Rows.News _ _ _ _ => N4
  refine Hold.of ((text_walk lf wf fs _ (Mine.News.lst N4 List.mem_cons_self) hif (by lia) hf66).lawT F4 N4 X T rfl (by decide) (by decide) ?_)
  intro t7 h7 tk7 F7 N7
  clear F4 N4
  k_steps
  refine Hold.of (add_tx (by rw [List.length_map, List.length_replicate]; lia) ?_)
  intro t8 k8
  k_steps
  refine Hold.of (ne_same_str rfl ?_)
  k_steps
  obtain ⟨nT, hnT, heT⟩ : ∃ nT : Nat, nT ≤ 3 ∧ (List.map (fun (n : Nat) => (n : Int)) xs).sum.fmod 3 + 1 = (nT : Int) := by
    have h1 := Int.fmod_nonneg_of_pos (List.map (fun (n : Nat) => (n : Int)) xs).sum (show (0 : Int) < 3 by decide)
    have h2 := Int.fmod_lt_of_pos (List.map (fun (n : Nat) => (n : Int)) xs).sum (show (0 : Int) < 3 by decide)
    refine ⟨((List.map (fun (n : Nat) => (n : Int)) xs).sum.fmod 3 + 1).toNat, ?_, ?_⟩
    · lia
    · rw [Int.toNat_of_nonneg (by lia)]
  rw [heT]
  rename Fr _ _ _ _ => F4
  rename PyProof.Rows.News _ _ _ _ => N4
  refine Hold.of ((rounds_walk lf wf fs np nT _ _ _ _ (Mine.News.lst N4 List.mem_cons_self) hif (by lia) hflt hend hnp hnT).lawV F4 N4 X T rfl (by decide) (by decide) ?_)
  intro h9 tk9 F7 N7
  clear F4 N4
  k_steps
  rename Fr _ _ _ _ => F4
  rename PyProof.Rows.News _ _ _ _ => N4
  refine Hold.of ((taken_walk lf wf fs _ (Mine.News.lst N4 List.mem_cons_self) hif (by lia)).lawP F4 N4 X T rfl (by decide) (by decide) ?_)
  intro lo la lb no wa wb na nb h10 tk10 hia hib F7 N8
  clear F4 N4
  have hTF := takeOut_facts fs.length fs (Nat.le_refl _) hflt
  have ht1 := hTF.1
  have ht2 := hTF.2.1
  have ht3 := hTF.2.2.1
  have ht4 := hTF.2.2.2.1
  have ht5 := hTF.2.2.2.2
  clear hTF
  have hun := unesc_text fs.length fs np (Nat.le_refl _) hflt
  generalize hta : (takeOut fs).1 = ra at *
  generalize htb : (takeOut fs).2 = rb at *
  unfold unesc at hun
  k_steps
  rename Fr _ _ _ _ => F4
  rename PyProof.Rows.News _ _ _ _ => N4
  refine Hold.of (((unescape_walk _ t6 _ htxl).castS hun).lawT F4 N4 X T rfl (by decide) (by decide) ?_)
  intro t11 h11 tk11 F7 N7
  clear F4 N4
  k_steps
  rename Fr _ _ _ _ => F4
  rename PyProof.Rows.News _ _ _ _ => N4
  refine Hold.of ((octets_walk la wa ra _ (Mine.News.lst N4 (.tail _ (.head _))) hia (by lia)).lawT F4 N4 X T rfl (by decide) (by decide) ?_)
  intro t12 h12 tk12 F7 N7
  clear F4 N4
  k_steps
  rename Fr _ _ _ _ => F4
  rename PyProof.Rows.News _ _ _ _ => N4
  refine Hold.of ((text_walk lb wb rb _ (Mine.News.lst N4 (.tail _ (.tail _ (.head _)))) hib (by lia) ht2).lawT F4 N4 X T rfl (by decide) (by decide) ?_)
  intro t13 h13 tk13 F7 N7
  clear F4 N4
  k_steps
  refine Hold.of (add_tx (by rw [List.length_map, List.length_replicate]; lia) ?_)
  intro t14 k14
  k_steps
  refine Hold.of (ne_same_str rfl ?_)
  k_steps
  have hrbl : (rb.map sign ++ List.replicate np 61).length ≤ 2000 := by
    rw [List.length_append, List.length_map, List.length_replicate]; lia
  have hfig : figsOf ((rb.map sign ++ List.replicate np 61).map tla) = ra := by rw [figs_text ht2, ht1]
  have hra : EndsOk (rb.filter fun v => decide (v < 64)).length np := by
    rw [← ht1]
    unfold EndsOk at hend ⊢
    rw [ht3]; exact hend
  rename Fr _ _ _ _ => F4
  rename PyProof.Rows.News _ _ _ _ => N4
  refine Hold.of (((b64decode_loose _ t11 _ _ (text_lt ht2 np) hrbl (loose_cond ht2 hra)).castB (congrArg octs hfig)).lawT F4 N4 X T rfl (by decide) (by decide) ?_)
  intro t15 h15 tk15 F7 N7
  clear F4 N4
  k_steps
  refine Hold.of (ne_same_bytes rfl ?_)
  k_steps
  rename Fr _ _ _ _ => F4
  rename PyProof.Rows.News _ _ _ _ => N4
  by_cases hbad : ∃ f ∈ rb, 64 ≤ f
  · refine Hold.of ((strictly_none _ t11 _ (text_lt ht2 np) hrbl (none_bad ht2 hbad) (none_cond ht2 hbad)).law F4 N4 X T rfl (by decide) (by decide) ?_)
    rintro h16 tk16 F8 N8
    clear F4 N4
    k_steps
    exfalso
    rename_i q64 q65
    obtain ⟨f, hf, h64⟩ := hbad
    have h66 := ht2 f hf
    have hm : ((f : Nat) : Int) ∈ rb.map fun (n : Nat) => (n : Int) := List.mem_map_of_mem hf
    have e64 := List.any_eq_false.mp q64 _ hm
    have e65 := List.any_eq_false.mp q65 _ hm
    simp only [beq_iff_eq] at e64 e65
    lia
  · have hgood : ∀ f ∈ rb, f < 64 := fun f hf => by
      have : ¬ 64 ≤ f := fun h => hbad ⟨f, hf, h⟩
      lia
    have hrab : ra = rb := by rw [ht1, figs_le hgood]
    refine Hold.of (((strictly_ok _ t11 _ (text_lt ht2 np) hrbl (loose_cond ht2 hra) (strict_cond hgood (by rw [← figs_le hgood]; exact hra))).castB (congrArg octs hfig)).lawT F4 N4 X T rfl (by decide) (by decide) ?_)
    intro t16 h16 tk16 F8 N8
    clear F4 N4
    k_steps
    all_goals
      exfalso
      rename List.any _ _ = true => q
      obtain ⟨x, hx, hx2⟩ := List.any_eq_true.mp q
      obtain ⟨f, hf, rfl⟩ := List.mem_map.mp hx
      have := hgood f hf
      simp only [beq_iff_eq] at hx2
      lia)
end
end Mine
end M15part
end WalksB
theorem PySem.Challenge.cw_il0035_01_holds : PySem.Challenge.rw_il0035_01.Holds := by
  exact Mine.law_holds
