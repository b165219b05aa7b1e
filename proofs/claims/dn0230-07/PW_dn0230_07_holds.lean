import PyProof.Rows.All
import Wide.All
import OpenK.AllK
import Wide.FinOn
import PySem.Challenge.RW_dn0230_07
set_option Elab.async false
set_option maxRecDepth 100000
section
open PySem PySem.W PyProof.Rows
set_option maxHeartbeats 8000000
namespace Mine
open_top hd07 for PySem.Challenge.rw_dn0230_07
end Mine
end
section
open PySem PySem.W PyProof.Rows PySem.Calls
set_option Elab.async false
set_option maxRecDepth 100000
namespace Mine
section
variable {prog : Program} {w : World} {A : Around} {E : Value → Shared → Prop} {s : Shared} {env : Env} {h₀ : Heap} {body : List Stmt} {Q : Flow → Shared → Prop}

/-- what a turn of the loop must end in -/
def TPost (h₀ : Heap) (L : Addr) (its : List (Addr × Obj)) (e it : Addr) (Jn : (Str → Option Value) → List (Addr × Obj) → Prop) (s₁ : Shared) (Q : Flow → Shared → Prop) (f : Flow) (s₂ : Shared) : Prop :=
  match f with
  | .ret v => Q (.ret v) s₂
  | .brk => Q .next s₂
  | _ => ∃ h' tk m' news', s₂ = { s₁ with heap := h', toks := tk } ∧ Fr h₀ L h' m' ∧ News h₀ L h' (its ++ news') ∧ (∀ p ∈ news', p.1 ≠ e ∧ p.1 ≠ it) ∧ Jn m' news'

theorem enum_inv {xi xc : Str} {pi pc : Pos} {k : Nat} {pos : Pos} {l : Addr} {lo : Obj} {vs : List Value} {ns : List Int} {nn : Nat} {m₀ : Str → Option Value} {news : List (Addr × Obj)}
    (J : Nat → (Str → Option Value) → List (Addr × Obj) → Prop)
    (hh : A.handled = none) (hxi : env.kindOf xi = some .local) (hxc : env.kindOf xc = some .local)
    (hp : (env.scope.kind == .class || (env.scope.kind == .module && env.locals != env.globals)) = false)
    (F : Fr h₀ env.locals s.heap m₀) (N : News h₀ env.locals s.heap ((l, lo) :: news)) (hc : lo.cls = .type "list") (hd : lo.data = .seq vs.toArray nn) (hi : IntsAre vs ns) (hj : J 0 m₀ news)
    (turn : ∀ (i : Nat) (n : Int) t ti m₁ news₁ h tk e it oe oi ol, oe.cls = .type "enumerate" → oi.cls = .type "list_iterator" → ol.cls = .type "list" → ns[i]? = some n → i < ns.length → J i m₁ news₁ →
      (∀ p ∈ news₁, p.1 ≠ e ∧ p.1 ≠ it) →
      Fr h₀ env.locals h (fun y => if y = xc then some (.int n t) else if y = xi then some (.int i ti) else m₁ y) → News h₀ env.locals h ([(e, oe), (it, oi), (l, ol)] ++ news₁) →
      wpAny (model prog w) A (execs body env) (TPost h₀ env.locals [(e, oe), (it, oi), (l, ol)] e it (J (i + 1)) { s with heap := h, toks := tk } Q) E { s with heap := h, toks := tk })
    (done : ∀ m₁ news₁ h tk, J ns.length m₁ news₁ → Fr h₀ env.locals h m₁ → News h₀ env.locals h news₁ → Q .next { s with heap := h, toks := tk }) :
    wpAny (model prog w) A (call (.type "enumerate") [.ref l]) (fun xv s₁ => wpAny (model prog w) A (pyIter xv) (fun it s₂ => TurnsAt prog w A h₀ env (.Tuple [.Name xi pi, .Name xc pc] k pos) body Q E it s₂) E s₁) E s := by
  have hax := N _ (.head _)
  have hl : s.heap.IsList l vs.toArray := ⟨lo, hax.1, hc, nn, hd⟩
  have hlt : l < s.heap.objs.size := Heap.lt_size hax.1
  have hLs : env.locals < s.heap.objs.size := F.ns.lt
  have N' : News h₀ env.locals s.heap news := fun p hp => N p (.tail _ hp)
  refine call_enumerate_list hl fun h' hE hI hsz hk => ?_
  refine wpAny_pyIter_enum hE ?_
  have hlen : vs.toArray.size = ns.length := by simp [hi.length]
  have W := (KTurns.ofWalksU (elts := [.Name xi pi, .Name xc pc]) (k := k) (pos := pos) (WalksT.enumerate (prog := prog) (w := w) hh (s.heap.objs.size + 1) s.heap.objs.size l (Nat.succ_ne_self _) (ktu_ne 1 hlt) (Nat.ne_of_lt hlt) vs.toArray).toU)
  rw [hlen] at W
  refine ⟨s.heap.objs.size + 1, _, _, ns.length, _, _, _, m₀, news, fun i m₁ news₁ => J i m₁ news₁, rfl, W, ?_, ?_, ?_, ?_, F.keeps hk, N'.grown hk, hj, ?_, ?_⟩
  · intro hm
    rcases List.mem_cons.mp hm with e | hm
    · exact Nat.ne_of_lt (Nat.lt_succ_of_lt hLs) e
    · rcases List.mem_cons.mp hm with e | hm
      · exact Nat.ne_of_lt hLs e
      · exact hax.2.1 (List.mem_singleton.mp hm).symm
  · intro b hb
    rcases List.mem_cons.mp hb with rfl | hb
    · exact ktu_new F (Nat.le_add_right _ _)
    · rw [List.mem_singleton.mp hb]; exact ktu_new F (Nat.le_refl _)
  · intro p hp hb
    have hlt' := Heap.lt_size (N' p hp).1
    rcases List.mem_cons.mp hb with e | hb
    · exact Nat.ne_of_lt (Nat.lt_succ_of_lt hlt') e
    · exact Nat.ne_of_lt hlt' (List.mem_singleton.mp hb)
  · refine ⟨⟨_, by simpa using hE⟩, hI, hl.at fun o x => hk _ o x⟩
  · rintro i v m₁ news₁ h₁ tk₁ own hlt' ⟨T, vals, rfl, ⟨ti, x, hx, rfl⟩, hT⟩ hJ hnw hsub hown hall ⟨⟨old, he⟩, hit, hl₁⟩ F₁ N₁
    obtain ⟨t, hxi'⟩ := hi.get i ns[i] (by simp [hlt'])
    have hxv : x = .int ns[i] t := by
      have hx' : vs[i]? = some x := by simpa using hx
      rw [hxi'] at hx'; exact (Option.some.inj hx').symm
    subst hxv
    obtain ⟨oi, hoi, hoic, hoid⟩ := id hit
    have he' : ∃ oe : Obj, h₁.get? (s.heap.objs.size + 1) = some oe ∧ oe.cls = .type "enumerate" := ⟨_, he, rfl⟩
    obtain ⟨oe, hoe, hoec⟩ := he'
    obtain ⟨ol, hol, holc, hold⟩ := id hl₁
    have hne : h₀.get? (s.heap.objs.size + 1) = none := ktu_new F (Nat.le_add_right _ _)
    have hni : h₀.get? s.heap.objs.size = none := ktu_new F (Nat.le_refl _)
    have m1 := hall (s.heap.objs.size + 1) (by simp) hne oe hoe
    have m2 := hall s.heap.objs.size (by simp) hni oi hoi
    have m3 := hall l (by simp) hax.2.2 ol hol
    have same : ∀ p ∈ own, p ∈ [(s.heap.objs.size + 1, oe), (s.heap.objs.size, oi), (l, ol)] := by
      rintro ⟨a, o⟩ hp
      have h1 := hsub _ hp
      have h2 := hown _ hp
      dsimp only at h1 h2
      rcases List.mem_cons.mp h1 with rfl | h1
      · rw [hoe] at h2; cases h2; exact .head _
      · rcases List.mem_cons.mp h1 with rfl | h1
        · rw [hoi] at h2; cases h2; exact .tail _ (.head _)
        · have := List.mem_singleton.mp h1
          subst this
          rw [hol] at h2; cases h2; exact .tail _ (.tail _ (.head _))
    have N₂ : News h₀ env.locals h₁ ([(s.heap.objs.size + 1, oe), (s.heap.objs.size, oi), (l, ol)] ++ news₁) := by
      intro p hp
      rcases List.mem_append.mp hp with hp | hp
      · refine N₁ p (List.mem_append_left _ ?_)
        rcases List.mem_cons.mp hp with rfl | hp
        · exact m1
        · rcases List.mem_cons.mp hp with rfl | hp
          · exact m2
          · rw [List.mem_singleton.mp hp]; exact m3
      · exact N₁ p (List.mem_append_right _ hp)
    refine wpAny_assign_Tuple hh hT rfl rfl fun h₃ hx₃ => ?_
    replace hx₃ : Heap.ExtBut h₁.objs.size h₁ h₃ := hx₃
    have up₃ : ∀ b o, h₁.get? b = some o → h₃.get? b = some o := fun b o x => hx₃ b o (Nat.ne_of_lt (Heap.lt_size x)) x
    have F₃ := F₁.keeps up₃
    have N₃ := N₂.grown up₃
    show wpAny _ A (do holding [Value.int ns[i] t] (assign (.Name xi pi) env (Value.int i ti)); do holding [] (assign (.Name xc pc) env (Value.int ns[i] t)); pure ()) _ _ _
    refine wpAny_bind (wpAny_holding (wpAny_assign_Name (wpAny_storeName_local hxi F₃.ns (fun h₄ hn₄ hs₄ => ?_) hp)))
    replace hs₄ : Heap.SameBut env.locals h₃ h₄ := hs₄
    have F₄ := F₃.set hn₄ hs₄
    refine wpAny_bind (wpAny_holding (wpAny_assign_Name (wpAny_storeName_local hxc F₄.ns (fun h₅ hn₅ hs₅ => wpAny_pure ?_) hp)))
    replace hs₅ : Heap.SameBut env.locals h₄ h₅ := hs₅
    have F₅ := F₄.set hn₅ hs₅
    have N₅ := (N₃.set hs₄).set hs₅
    have hnw' : ∀ p ∈ news₁, p.1 ≠ s.heap.objs.size + 1 ∧ p.1 ≠ s.heap.objs.size := fun p hp => ⟨fun e => hnw p hp (by simp [e]), fun e => hnw p hp (by simp [e])⟩
    refine wpAny_mono (turn i ns[i] t ti m₁ news₁ h₅ _ _ _ oe oi ol hoec hoic holc (by simp [hlt']) hlt' hJ hnw' F₅ N₅) (fun f s₂ p => ?_) fun _ _ e => e
    have fin : (∃ h' tk m' news', s₂ = { s with heap := h', toks := tk } ∧ Fr h₀ env.locals h' m' ∧ News h₀ env.locals h' ([(s.heap.objs.size + 1, oe), (s.heap.objs.size, oi), (l, ol)] ++ news') ∧ (∀ p ∈ news', p.1 ≠ s.heap.objs.size + 1 ∧ p.1 ≠ s.heap.objs.size) ∧ J (i + 1) m' news') →
        LoopStepU h₀ env.locals [s.heap.objs.size + 1, s.heap.objs.size] own (J (i + 1)) { s with heap := h₁, toks := tk₁ } .next s₂ := by
      rintro ⟨h', tk, m', news', rfl, F', N', ha, hJ'⟩
      refine ⟨rfl, h', tk, m', news', rfl, F', fun p hp => ?_, fun p hp hb => ?_, hJ'⟩
      · rcases List.mem_append.mp hp with hp | hp
        · exact N' p (List.mem_append_left _ (same p hp))
        · exact N' p (List.mem_append_right _ hp)
      · rcases List.mem_cons.mp hb with e | hb
        · exact (ha p hp).1 e
        · exact (ha p hp).2 (List.mem_singleton.mp hb)
    cases f with
    | ret v => exact p
    | brk => exact p
    | next => exact fin p
    | cont => exact fin p
  · intro h' tk m' news' F' N' _ hJ
    exact done m' news' h' tk hJ F' N'

/-- a turn's end where the ledger stays as it was -/
def CEnd (h₀ : Heap) (L : Addr) (led : List (Addr × Obj)) (xi xc : Str) (stored : List Str) (m₀ : Str → Option Value) (s₁ s₂ : Shared) : Prop :=
  ∃ h' tk m', s₂ = { s₁ with heap := h', toks := tk } ∧ Fr h₀ L h' m' ∧ News h₀ L h' led ∧ ∀ z, z ≠ xi → z ≠ xc → stored.contains z = false → m' z = m₀ z
def CPost (h₀ : Heap) (L : Addr) (led : List (Addr × Obj)) (xi xc : Str) (stored : List Str) (m₀ : Str → Option Value) (s₁ : Shared) (Q : Flow → Shared → Prop) (f : Flow) (s₂ : Shared) : Prop :=
  match f with
  | .ret v => Q (.ret v) s₂
  | .brk => Q .next s₂
  | _ => CEnd h₀ L led xi xc stored m₀ s₁ s₂
theorem CEnd.intro {L : Addr} {led all : List (Addr × Obj)} {xi xc : Str} {stored : List Str} {m₀ m' : Str → Option Value} {s₁ : Shared} {h' : Heap} {tk : Nat}
    (F : Fr h₀ L h' m') (N : News h₀ L h' all) (hs : ∀ p ∈ led, p ∈ all) (hm : ∀ z, z ≠ xi → z ≠ xc → stored.contains z = false → m' z = m₀ z) : CEnd h₀ L led xi xc stored m₀ s₁ { s₁ with heap := h', toks := tk } :=
  ⟨h', tk, m', rfl, F, fun p hp => N p (hs p hp), hm⟩

theorem enum_const {xi xc : Str} {pi pc : Pos} {k : Nat} {pos : Pos} {l : Addr} {lo : Obj} {vs : List Value} {ns : List Int} {nn : Nat} {m₀ : Str → Option Value} {news : List (Addr × Obj)}
    (stored : List Str)
    (hh : A.handled = none) (hxi : env.kindOf xi = some .local) (hxc : env.kindOf xc = some .local)
    (hp : (env.scope.kind == .class || (env.scope.kind == .module && env.locals != env.globals)) = false)
    (F : Fr h₀ env.locals s.heap m₀) (N : News h₀ env.locals s.heap ((l, lo) :: news)) (hc : lo.cls = .type "list") (hd : lo.data = .seq vs.toArray nn) (hi : IntsAre vs ns)
    (turn : ∀ (i : Nat) (n : Int) t ti (u : Str → Option Value) h tk e it oe oi ol, oe.cls = .type "enumerate" → oi.cls = .type "list_iterator" → ol.cls = .type "list" → ns[i]? = some n → i < ns.length →
      (∀ p ∈ news, p.1 ≠ e ∧ p.1 ≠ it) →
      Fr h₀ env.locals h (fun y => if y = xc then some (.int n t) else if y = xi then some (.int i ti) else if stored.contains y then u y else m₀ y) → News h₀ env.locals h ([(e, oe), (it, oi), (l, ol)] ++ news) →
      wpAny (model prog w) A (execs body env) (CPost h₀ env.locals ([(e, oe), (it, oi), (l, ol)] ++ news) xi xc stored m₀ { s with heap := h, toks := tk } Q) E { s with heap := h, toks := tk })
    (done : ∀ (u : Str → Option Value) h tk, Fr h₀ env.locals h (fun y => if y = xc then u y else if y = xi then u y else if stored.contains y then u y else m₀ y) → News h₀ env.locals h news → Q .next { s with heap := h, toks := tk }) :
    wpAny (model prog w) A (call (.type "enumerate") [.ref l]) (fun xv s₁ => wpAny (model prog w) A (pyIter xv) (fun it s₂ => TurnsAt prog w A h₀ env (.Tuple [.Name xi pi, .Name xc pc] k pos) body Q E it s₂) E s₁) E s := by
  refine enum_inv (fun _ m₁ news₁ => news₁ = news ∧ ∀ z, z ≠ xi → z ≠ xc → stored.contains z = false → m₁ z = m₀ z) hh hxi hxc hp F N hc hd hi ⟨rfl, fun _ _ _ _ => rfl⟩ ?_ ?_
  · rintro i n t ti m₁ news₁ h tk e it oe oi ol h1 h2 h3 hn hlt ⟨rfl, hm⟩ ha F₁ N₁
    have em : (fun y => if y = xc then some (Value.int n t) else if y = xi then some (Value.int i ti) else m₁ y) = (fun y => if y = xc then some (Value.int n t) else if y = xi then some (Value.int i ti) else if stored.contains y then m₁ y else m₀ y) := by
      funext y
      by_cases hy : y = xc
      · simp [hy]
      · by_cases hy' : y = xi
        · simp [hy']
        · simp only [hy, hy', if_false]
          cases hz : stored.contains y with
          | true => simp
          | false => simp only [Bool.false_eq_true, if_false]; exact hm y hy' hy hz
    rw [em] at F₁
    refine wpAny_mono (turn i n t ti m₁ h tk e it oe oi ol h1 h2 h3 hn hlt ha F₁ N₁) (fun f s₂ p => ?_) fun _ _ x => x
    have fin : CEnd h₀ env.locals ([(e, oe), (it, oi), (l, ol)] ++ news₁) xi xc stored m₀ { s with heap := h, toks := tk } s₂ → TPost h₀ env.locals [(e, oe), (it, oi), (l, ol)] e it (fun m₁ news₁' => news₁' = news₁ ∧ ∀ z, z ≠ xi → z ≠ xc → stored.contains z = false → m₁ z = m₀ z) { s with heap := h, toks := tk } Q .next s₂ := by
      rintro ⟨h', tk', m', rfl, F', N', hm'⟩
      exact ⟨h', tk', m', news₁, rfl, F', N', ha, rfl, hm'⟩
    cases f with
    | ret v => exact p
    | brk => exact p
    | next => exact fin p
    | cont => exact fin p
  · rintro m₁ news₁ h tk ⟨rfl, hm⟩ F₁ N₁
    refine done m₁ h tk ?_ N₁
    have em : (fun y => if y = xc then m₁ y else if y = xi then m₁ y else if stored.contains y then m₁ y else m₀ y) = m₁ := by
      funext y
      by_cases hy : y = xc
      · simp [hy]
      · by_cases hy' : y = xi
        · simp [hy']
        · simp only [hy, hy', if_false]
          cases hz : stored.contains y with
          | true => simp
          | false => simp only [Bool.false_eq_true, if_false]; exact (hm y hy' hy hz).symm
    rw [em]; exact F₁
end
section
variable {prog : Program} {w : World} {A₀ : Around} {E : Value → Shared → Prop} {s : Shared} {h₀ base : Heap} {outer : List Env} {K : Frag} {p : Program} {loose : List Str} {mean : ExcName → Option Value} {mg mb : Str → Option Value}
/-- a def called, all that stands taken as the callee's base -/
theorem call_pure {R : Result → Shared → Prop} {cn : Str} {cs : Scope} {L a : Addr} {ccd : Value} {m : Str → Option Value} {name qual : Str} {params : Arguments} {body : List Stmt} {scope : Scope} {dV kV doc pm cdv ct oc : Value} {an od : Option Addr} {osl : Array (Option Value)} {f : Addr} {args : Args} {binds : List (Str × Value)}
    (B : Below A₀ base outer h₀) (F : Fr h₀ L s.heap m) (X₀ : K.In h₀) (T : Top p loose mean mg mb h₀) (hke : cs.kind = .function)
    (ho : K.lookup f = some ⟨oc, od, .func (fnOf name qual params body scope dV kV doc pm an cdv ct), osl⟩) (hcd : codeIn K cdv qual = true) (hroom : (A₀.deeper (envOf cn cs L a ccd)).depth < recursionLimit)
    (hbind : BindsTo s (fnOf name qual params body scope dV kV doc pm an cdv ct) args binds) (hloc : ∀ y ∈ binds, scope.names.lookup y.1 = some .local)
    (h : ∀ L' h₁, Fr s.heap L' h₁ (fun y => binds.reverse.lookup y) → News s.heap L' h₁ [] → Below (A₀.deeper (envOf cn cs L a ccd)) base (envOf cn cs L a ccd :: outer) s.heap → K.In s.heap → Top p loose mean mg mb s.heap →
      wpAny (model prog w) ((A₀.deeper (envOf cn cs L a ccd)).deeper (envOf qual scope L' f cdv)) (execs body (envOf qual scope L' f cdv))
        (fun fl s' => R (.ok (.ret (match fl with | .ret v => v | _ => .none))) s')
        (fun e s' => wpAny (model prog w) ((A₀.deeper (envOf cn cs L a ccd)).deeper (envOf qual scope L' f cdv)) (leaving (envOf qual scope L' f cdv) e) (fun _ s'' => R (.error e) s'') (fun e' s'' => R (.error e') s'') s')
        { s with heap := h₁, toks := s.toks + binds.length })
    (hco : scope.isCoroutine = false) (hgen : scope.isGenerator = false) (hk : scope.kind = .function)
    (hcell : ∀ x ∈ scope.names, x.2 ≠ .cell) : codeAny (model prog w) (A₀.deeper (envOf cn cs L a ccd)) (.call (.ref f) args) R s := by
  have X := X₀.keeps F.keep
  have T' := T.keeps F.keep
  refine codeAny_call_def (fd := fnOf name qual params body scope dV kV doc pm an cdv ct) (body := body) (binds := binds) hroom (X _ _ ho) rfl T'.nolimit (codeRec_of X hcd) rfl hbind hcell hloc (fun h₁ hns hk₁ => ?_) hco hgen hk
  exact h s.heap.objs.size h₁ ⟨hns, hk₁, Nat.le_refl _⟩ (fun _ hp => nomatch hp) (B.push F hke) X T'
/-- the same for a def that captures names -/
theorem call_pureC {R : Result → Shared → Prop} {cn : Str} {cs : Scope} {L a : Addr} {ccd : Value} {m : Str → Option Value} {name qual : Str} {params : Arguments} {body : List Stmt} {scope : Scope} {dV kV doc pm cdv ct oc : Value} {an od : Option Addr} {osl : Array (Option Value)} {f : Addr} {args : Args} {binds : List (Str × Value)}
    (B : Below A₀ base outer h₀) (F : Fr h₀ L s.heap m) (X₀ : K.In h₀) (T : Top p loose mean mg mb h₀) (hke : cs.kind = .function)
    (ho : K.lookup f = some ⟨oc, od, .func (fnOf name qual params body scope dV kV doc pm an cdv ct), osl⟩) (hcd : codeIn K cdv qual = true) (hroom : (A₀.deeper (envOf cn cs L a ccd)).depth < recursionLimit)
    (hbind : BindsTo s (fnOf name qual params body scope dV kV doc pm an cdv ct) args binds) (hkind : (binds.all fun y => scope.names.lookup y.1 == some .local || scope.names.lookup y.1 == some .cell) = true)
    (hnd : ((cellsFrom 0 scope.names []).map (·.1)).Nodup)
    (h : ∀ L' h₁ tk cells, Fr s.heap L' h₁ (bindL (envOfC qual scope L' f cdv).kindOf binds fun _ => none) → News s.heap L' h₁ cells →
      CellsAre (bindC (envOfC qual scope L' f cdv).kindOf binds fun _ => none) (cellsFrom (L' + 1) scope.names []) cells →
      Below (A₀.deeper (envOf cn cs L a ccd)) base (envOf cn cs L a ccd :: outer) s.heap → K.In s.heap → Top p loose mean mg mb s.heap →
      wpAny (model prog w) ((A₀.deeper (envOf cn cs L a ccd)).deeper (envOfC qual scope L' f cdv)) (execs body (envOfC qual scope L' f cdv))
        (fun fl s' => R (.ok (.ret (match fl with | .ret v => v | _ => .none))) s')
        (fun e s' => wpAny (model prog w) ((A₀.deeper (envOf cn cs L a ccd)).deeper (envOfC qual scope L' f cdv)) (leaving (envOfC qual scope L' f cdv) e) (fun _ s'' => R (.error e) s'') (fun e' s'' => R (.error e') s'') s')
        { s with heap := h₁, toks := tk })
    (hco : scope.isCoroutine = false) (hgen : scope.isGenerator = false) (hk : scope.kind = .function) : codeAny (model prog w) (A₀.deeper (envOf cn cs L a ccd)) (.call (.ref f) args) R s := by
  have X := X₀.keeps F.keep
  have T' := T.keeps F.keep
  refine codeAny_call_function hroom (X _ _ ho) rfl hco hgen rfl (codeRec_of X hcd) (hbind _ _ _ _ ?_)
  refine wpAny_newFunctionEnv_cells hk (kindsX hkind _) fun env' he s' x => ?_
  subst he
  refine ⟨T'.nolimit.keeps x.toInCall.keep, codeAny_func ?_⟩
  obtain ⟨h₁, tk, rfl, _⟩ := x.done
  have hk₁ := x.toInCall.keep
  obtain ⟨cells, NC, Y⟩ := Cl.news (h₀ := s.heap) (Nat.le_refl _) fun n c hm => ⟨x.cell n c (lookup_of_mem_nodup (cellsFrom_names scope.names 0 (s.heap.objs.size + 1) [] [] rfl ▸ hnd) hm), x.above n c hm⟩
  exact h s.heap.objs.size h₁ tk cells ⟨x.toInCall.ns, hk₁, Nat.le_refl _⟩ NC Y (B.push F hke) X T'
end
section
variable {M : Model} {A : Around} {E : Value → Shared → Prop} {s : Shared} {env : Env} {h₀ : Heap} {L : Addr} {m : Str → Option Value} {news : List (Addr × Obj)}
/-- an int stored under a letter of its own -/
theorem stG {x : Str} {e : Int} {t : Tok} {Q : Unit → Shared → Prop} (F : Fr h₀ L s.heap m) (N : News h₀ L s.heap news) (hL : env.locals = L) (hl : env.kindOf x = some .local)
    (hp : (env.scope.kind == .class || (env.scope.kind == .module && env.locals != env.globals)) = false)
    (h : ∀ r h', r = e → Fr h₀ L h' (fun y => if y = x then some (.int r t) else m y) → News h₀ L h' news → Q () { s with heap := h', toks := s.toks + 1 }) :
    wpAny M A (storeName env x (.int e t)) Q E s := by
  subst hL
  exact wpAny_storeName_local hl F.ns (fun h' hn hs => h e h' rfl (F.set hn hs) (N.set hs)) hp
end
section
variable {prog : Program} {w : World} {A : Around} {E : Value → Shared → Prop} {s : Shared} {Q : Value → Shared → Prop} {a b n : Int} {t u : Tok}
theorem fdiv_facts (a : Int) {b : Int} (hb : 0 < b) : b * a.fdiv b ≤ a ∧ a < b * a.fdiv b + b := by
  have h1 := Int.mul_fdiv_add_fmod a b
  have h2 := Int.fmod_nonneg_of_pos a hb
  have h3 := Int.fmod_lt_of_pos a hb
  omega
theorem fdiv_le {a b : Int} (ha : 0 ≤ a) (hb : 0 < b) : a.fdiv b ≤ a := by
  have h0 := Int.fdiv_nonneg ha (Int.le_of_lt hb)
  have h1 := (fdiv_facts a hb).1
  have h2 : a.fdiv b * 1 ≤ a.fdiv b * b := Int.mul_le_mul_of_nonneg_left (by omega) h0
  rw [Int.mul_comm] at h1
  omega
theorem fdiv_lit (hb : 0 < b) (hp : b.natAbs.log2 < 9000) (ha : 0 ≤ a) (h : ∀ q, 0 ≤ q → q ≤ a → b * q ≤ a → a < b * q + b → Q (.int q s.toks) { s with toks := s.toks + 1 }) :
    wpAny (model prog w) A (binaryOp .FloorDiv (.int a t) (.int b u)) Q E s :=
  floordiv_int (by omega) (h _ (Int.fdiv_nonneg ha (by omega)) (fdiv_le ha hb) (fdiv_facts a hb).1 (fdiv_facts a hb).2) (Or.inl (PyProof.noPylong_of_log2 hp))
theorem fmod_lit (hb : 0 < b) (h : ∀ q r, a = b * q + r → 0 ≤ r → r < b → Q (.int r s.toks) { s with toks := s.toks + 1 }) :
    wpAny (model prog w) A (binaryOp .Mod (.int a t) (.int b u)) Q E s :=
  mod_int' (by omega) (h (a.fdiv b) _ (Int.mul_fdiv_add_fmod a b).symm (Int.fmod_nonneg_of_pos a hb) (Int.fmod_lt_of_pos a hb))
theorem pow_lit (hn : 0 ≤ b) (hn2 : b ≤ 1000000) (ha : a.natAbs < 2 ^ 64) (h : ∀ r, r = a ^ b.toNat → Q (.int r s.toks) { s with toks := s.toks + 1 }) :
    wpAny (model prog w) A (binaryOp .Pow (.int a t) (.int b u)) Q E s := pow_int_small hn hn2 ha (h _ rfl)
theorem str_lit (h0 : 0 ≤ n) (h1 : n < 2 ^ 200) (h : Q (.str (Str.ofString (toString n)) s.toks) { s with toks := s.toks + 1 }) :
    wpAny (model prog w) A (call (.type "str") [.int n t]) Q E s :=
  P.str_of_int (shown (N := 2 ^ 1920) (Int.lt_of_lt_of_le (by decide +kernel) h0) (Int.lt_trans h1 (by decide +kernel)) (Int.le_refl _)) h
end
theorem isLit {r : Int} {n : Nat} [OfNat Int n] (_h : r = (no_index (OfNat.ofNat n) : Int)) : True := trivial
end Mine
end
section
set_option maxRecDepth 100000
namespace Mine
open PySem PySem.W PyProof.Rows PySem.Calls
section
variable {prog : Program} {w : World} {A₀ A : Around} {s : Shared} {base h₀ : Heap} {L a : Addr} {m : Str → Option Value} {cn : Str} {cs : Scope} {ccd : Value} {K : Frag} {p : Program} {loose : List Str} {mean : ExcName → Option Value} {mg mb : Str → Option Value}
    {R : Result → Shared → Prop} {name qual : Str} {params : Arguments} {body : List Stmt} {scope : Scope} {dV kV doc pm cdv ct oc : Value} {an od : Option Addr} {osl : Array (Option Value)} {f : Addr} {args : Args} {binds : List (Str × Value)}
/-- a def with a try called, all that stands taken as the callee's base -/
theorem call_try (B : Below A₀ base [] h₀) (F : Fr h₀ L s.heap m) (X₀ : K.In h₀) (T : Top p loose mean mg mb h₀) (hA : A.frames = some [envOf cn cs L a ccd])
    (ho : K.lookup f = some ⟨oc, od, .func (fnOf name qual params body scope dV kV doc pm an cdv ct), osl⟩) (hcd : codeIn K cdv qual = true) (hroom : A.depth < recursionLimit)
    (hbind : BindsTo s (fnOf name qual params body scope dV kV doc pm an cdv ct) args binds) (hloc : ∀ y ∈ binds, scope.names.lookup y.1 = some .local)
    (h : ∀ L' h₁, Fr s.heap L' h₁ (fun y => binds.reverse.lookup y) → News s.heap L' h₁ [] → Below A base [envOf cn cs L a ccd] s.heap → K.In s.heap → Top p loose mean mg mb s.heap → KtsDicts ([envOf cn cs L a ccd].filterMap (·.frame)) s.heap →
      wpAny (model prog w) (A.deeper (envOf qual scope L' f cdv)) (execs body (envOf qual scope L' f cdv))
        (fun fl s' => R (.ok (.ret (match fl with | .ret v => v | _ => .none))) s')
        (fun e s' => wpAny (model prog w) (A.deeper (envOf qual scope L' f cdv)) (leaving (envOf qual scope L' f cdv) e) (fun _ s'' => R (.error e) s'') (fun e' s'' => R (.error e') s'') s')
        { s with heap := h₁, toks := s.toks + binds.length })
    (hck : cs.kind = .function) (hco : scope.isCoroutine = false) (hgen : scope.isGenerator = false) (hk : scope.kind = .function)
    (hcell : ∀ x ∈ scope.names, x.2 ≠ .cell) : codeAny (model prog w) A (.call (.ref f) args) R s := by
  have X := X₀.keeps F.keep
  have T' := T.keeps F.keep
  have N0 : News h₀ L s.heap [] := fun _ hp => nomatch hp
  refine codeAny_call_def (fd := fnOf name qual params body scope dV kV doc pm an cdv ct) (body := body) (binds := binds) hroom (X _ _ ho) rfl T'.nolimit (codeRec_of X hcd) rfl hbind hcell hloc (fun h₁ hns hk₁ => ?_) hco hgen hk
  obtain ⟨oL, es, ep, hLg, hLd, hN, hNs, st, B₂⟩ := kts_enter B F N0 hA hck
  have e0 : hideAll s.heap (([] : List (Addr × Obj)).map (·.1)) = s.heap := rfl
  rw [e0] at hLg st B₂
  refine h s.heap.objs.size h₁ ⟨hns, hk₁, Nat.le_refl _⟩ (fun _ hp => nomatch hp) B₂ X T' (fun b hb => ?_)
  rcases List.mem_filterMap.mp hb with ⟨env, he, hf⟩
  rcases List.mem_singleton.mp he with rfl
  obtain rfl : L = b := Option.some.inj hf
  exact ⟨oL, es, ep, hLg, hLd⟩
end
section
variable {h₀ g : Heap} {s : Shared} {L L' : Addr} {m m' : Str → Option Value} {news : List (Addr × Obj)} {h' : Heap} {fs : List Addr}
theorem news_nil {h₀ : Heap} {L : Addr} {h : Heap} : News h₀ L h [] := fun _ hp => nomatch hp
/-- the caller's frame and ledger behind a call in which something was caught -/
theorem turn_back (F : Fr h₀ L s.heap m) (N : News h₀ L s.heap news) (T : KtsTurn fs s.heap g) (F' : Fr g L' h' m') (hfs : fs = [L]) : Fr h₀ L h' m ∧ News h₀ L h' news := by
  subst hfs
  obtain ⟨oL, es, ep, hL, hLd, hLk, hLf⟩ := id F.ns
  obtain ⟨sl, hs⟩ := T.frame L oL hL (List.mem_singleton.mpr rfl)
  have nL₀ : h₀.get? L = none := kts_self F
  refine ⟨⟨⟨_, es, ep, F'.keep _ _ hs, hLd, hLk, hLf⟩, fun b o e => F'.keep b o (T.other b o (F.keep b o e) fun q => ?_), F.above⟩, fun p hp => ⟨F'.keep _ _ (T.other _ _ (N p hp).1 fun q => ?_), (N p hp).2⟩⟩
  · rw [List.mem_singleton.mp q, nL₀] at e; cases e
  · exact (N p hp).2.1 (List.mem_singleton.mp q)
theorem plain_back (F : Fr h₀ L s.heap m) (N : News h₀ L s.heap news) (F' : Fr s.heap L' h' m') : Fr h₀ L h' m ∧ News h₀ L h' news := ⟨F.keeps F'.keep, N.grown F'.keep⟩
theorem fin_try {Q : Value → Shared → Prop} {X X' : Str} {t : Tok} {k : Nat} (hret : ∀ t' h' tk', Fr h₀ L h' m → News h₀ L h' news → Q (.str X t') { s with heap := h', toks := tk' }) (hb : Fr h₀ L h' m ∧ News h₀ L h' news) (e : X' = X) : Q (.str X' t) { s with heap := h', toks := k } := by
  subst e; exact hret _ _ _ hb.1 hb.2
end
end Mine
end
section
set_option maxRecDepth 100000
namespace Mine
open PySem PySem.W PyProof.Rows PySem.Calls PySem.Builtin PySem.Builtin.Property
/-- an AttributeError that was raised without a name -/
structure NewA (h h' : Heap) (e : Addr) : Prop where
  keeps : ∀ b o, h.get? b = some o → h'.get? b = some o
  new : h.get? e = none
  there : ∃ ob t, h'.get? e = some ob ∧ ob.cls = .type "AttributeError" ∧ ob.data = .fields #[t, .none, .none, .none, .bool false, .none, unsetMember, unsetMember]
section
variable {α : Type} {M : Model} {A : Around} {E : Value → Shared → Prop} {s : Shared}
theorem raise_attr {msg : String} {Q : α → Shared → Prop} (hh : A.handled = none) (h : ∀ h' tk e, NewA s.heap h' e → E (.ref e) { s with heap := h', toks := tk }) (hm : (msg : Str).length ≤ sizeLine) :
    wpAny M A (raiseErrorMade "AttributeError" msg : Sem α) Q E s := by
  unfold raiseErrorMade
  refine wpAny_bind (wpAny_mkStr (wpAny_bind ?_) hm)
  unfold newExc newTuple
  refine wpAny_bind (wpAny_newObj_type ?_)
  refine wpAny_bind (m := firstArgMember _ _) (wpAny_of_eq (a := Value.none) (by simp only [firstArgMember, attrError_no_first]; rfl) ?_)
  rw [ownMembersOf_AttributeError]
  refine wpAny_newObj_type ?_
  unfold raiseNew
  refine wpAny_bind (wpAny_handled ?_)
  rw [hh]
  first
    | refine wpAny_throw ?_
    | refine wpAny_bind (wpAny_pure (wpAny_throw ?_))
  exact h _ _ _ ⟨fun b o hb => Heap.get?_push_of_some _ (Heap.get?_push_of_some _ hb), Heap.get?_none_of_le (by simp), _, .ref s.heap.objs.size, Heap.get?_push_size _ rfl, rfl, by simp⟩
end
section
variable {prog : Program} {w : World} {A : Around} {s : Shared} {R : Result → Shared → Prop} {K : Frag} {x C : Addr} {v : Value}
theorem entry_qual : entryFor table "type.__qualname__" = some Builtin.«type.__qualname__» := entryFor_of_tree (by kernel_rfl)
/-- the name of a class, where it is kept -/
theorem qual_kept {oc : Obj} {q : Value} {Q : Value → Shared → Prop} {E : Value → Shared → Prop} (ho : s.heap.get? C = some oc) (hs : (oc.slots[3]?).join = some q) (h : Q q s) :
    wpAny (model prog w) A (runValue (.builtin "type.__qualname__" ⟨[.ref C], []⟩)) Q E s := by
  refine wpAny_runValue (codeAny_builtin entry_qual ?_)
  unfold Builtin.«type.__qualname__»
  show wpAny _ _ (keptObject (.ref C) 3 "__qualname__" _) _ _ _
  unfold keptObject slotAt
  refine wpAny_bind (wpAny_bind (wpAny_loadPart ho (wpAny_pure ?_)))
  rw [hs]
  exact wpAny_pure h
/-- storing to a property that has no setter -/
theorem prop_noset {p fget : Addr} {ox oc : Obj} {od : Option Obj} {nm qn : Str} {tn tq : Tok} {dd bb : Value} (hA : A.handled = none) (X : K.In s.heap) (I : InstAt s.heap x ox C od)
    (hp : recIn K p "property" = some [.ref fget, .none, .none, dd, .str nm tn, bb]) (ho : s.heap.get? C = some oc) (hs : (oc.slots[3]?).join = some (.str qn tq))
    (h1 : (reprText nm).length ≤ sizeLine) (h2 : (reprText qn).length ≤ sizeLine)
    (hm : ∀ m : String, m = toString (toString "property " ++ toString (reprText nm).toString) ++ toString " of " ++ toString (reprText qn).toString ++ toString " object has no " ++ toString "setter" → (Str.ofString m).length ≤ sizeLine)
    (h : ∀ h' tk e, NewA s.heap h' e → R (.error (.ref e)) { s with heap := h', toks := tk }) :
    codeAny (model prog w) A (.call (.builtin "property.__set__") ⟨[.ref p, .ref x, v], []⟩) R s := by
  obtain ⟨d, sl, hpo⟩ := rec_of X hp
  refine codeAny_call_builtin KF.slot_pset.plain KF.entry_pset (KF.slot_pset.check _ _ _ _ _ _ _ _ ⟨_, hpo, rfl⟩ (KF.args_pset _ _ _) ?_)
  refine wpAny_bind ((looks_field hpo 1 (v := .none) rfl).here ?_)
  show wpAny _ _ (propLacks (.ref p) (.ref x) "setter" >>= _) _ _ _
  refine wpAny_bind ?_
  unfold propLacks
  refine wpAny_bind (wpAny_rule ?_)
  unfold propName?
  refine wpAny_bind (wpAny_bind ((looks_field hpo 4 (v := .str nm tn) rfl).here ?_))
  show wpAny _ _ (pure (some (Value.str nm tn)) : Sem (Option Value)) _ _ _
  refine wpAny_pure ?_
  dsimp only
  refine wpAny_bind (wpAny_pyRepr_str ?_ h1)
  refine wpAny_bind (wpAny_pure ?_)
  refine wpAny_bind (I.type _ _ _ _ (fun _ _ e => e) ?_)
  refine wpAny_bind (qual_kept (s := { s with toks := s.toks + 1 }) ho hs ?_)
  refine wpAny_bind (wpAny_pyRepr_str ?_ h2)
  with_reducible refine raise_attr ?_ ?_ ?_
  · exact hA
  · intro h' tk e hx
    exact h h' tk e hx
  · exact hm _ rfl
end
end Mine
end
section
set_option maxRecDepth 100000
namespace Mine
open PySem PySem.W PyProof.Rows PySem.Calls
section
variable {prog : Program} {w : World} {A₀ : Around} {E : Value → Shared → Prop} {s' : Shared} {h₀ h : Heap} {L L' a e : Addr} {m : Str → Option Value} {oL : Obj} {name : Str} {scope : Scope} {cd : Value} {Q : Unit → Shared → Prop} {env : Env} {new : List (Addr × Obj)}
open TLg TI in
/-- a nameless AttributeError seen by the try of the helper in which it came up -/
theorem noted_attr (hfr : A₀.frames = some [env]) (Fs : TI.Frs [env] [(L, oL)]) (hx : NewA h s'.heap e) (F : Fr h₀ L' h m) (N : News h₀ L' h (new ++ [(L, oL)])) (hne : ∀ p ∈ new, p.1 ≠ L)
    (k : ∀ h' sl, TI.Frs [env] [(L, { oL with slots := sl })] → TT.HeldN h₀ L' h' m e "AttributeError" (new ++ [(L, { oL with slots := sl })]) → Q () { s' with heap := h' }) (hk : scope.kind = .function) :
    wpAny (model prog w) (A₀.deeper (envOf name scope L' a cd)) (noteFrame (.ref e) (envOf name scope L' a cd)) Q E s' := by
  obtain ⟨ob, tp, he, hcls, hd⟩ := hx.there
  obtain ⟨hff, hNs, frs₁, SU, ht⟩ := frames_at (name := name) (a := a) (cd := cd) (h' := s'.heap) (base := gone h (L' :: [(L, oL)].map (·.1))) hk Fs F N tail_sub (fun b o hb' => ⟨o.slots, hx.keeps b o hb'⟩) fun b hm => gone_none hm
  unfold noteFrame
  simp only [show (envOf name scope L' a cd).frame = some L' from rfl]
  refine wpAny_bind (wpAny_field he hd (x := .none) rfl ?_)
  rw [if_neg (by decide)]
  refine wpAny_entryW (a0 := tp) (Around.frames_deeper hfr) hff rfl he (fun b o eb => hx.keeps b o (gone_some eb).2) (none_of (fun b o eb => (gone_some eb).2) hx.new) hd (by show 1 < 8; decide) rfl fun h' hN => ?_
  obtain ⟨frs₂, SU₂, Fs₂, H⟩ := held_of_notedA (X := "AttributeError") Fs F N (fun p hp hm => by
    rcases List.mem_cons.mp hm with q | hm
    · exact (N p (List.mem_append_left _ hp)).2.1 q
    · exact hne p hp (List.mem_singleton.mp hm)) hNs SU ht hx.new (by rw [← hcls]; exact hN)
  obtain ⟨sl, rfl⟩ := one_up SU₂
  exact k h' sl Fs₂ H
end
section
variable {prog : Program} {w : World} {A : Around} {E : Value → Shared → Prop} {s : Shared} {K : Frag} {x C : Addr} {v : Value} {h₀ : Heap} {L : Addr} {m : Str → Option Value} {name : Str}
theorem set_noset {Q : Unit → Shared → Prop} {p fget : Addr} {ox oc od : Obj} {nm qn : Str} {tn tq : Tok} {dd bb : Value} (hA : A.handled = none) (F : Fr h₀ L s.heap m) (X₀ : K.In h₀) (I : InstAt s.heap x ox C (some od))
    (hs : findIn K (.ref C) "__setattr__" = some (some (.builtin "object.__setattr__"))) (hp : plainOver K C = true) (ht : takerIn K C name = some (some (.ref p))) (hT : typeIn K (.ref p) = some (.type "property"))
    (hr : recIn K p "property" = some [.ref fget, .none, .none, dd, .str nm tn, bb]) (ho : K.lookup C = some oc) (hsl : (oc.slots[3]?).join = some (.str qn tq))
    (h1 : (reprText nm).length ≤ sizeLine) (h2 : (reprText qn).length ≤ sizeLine)
    (hm : ∀ m : String, m = toString (toString "property " ++ toString (reprText nm).toString) ++ toString " of " ++ toString (reprText qn).toString ++ toString " object has no " ++ toString "setter" → (Str.ofString m).length ≤ sizeLine)
    (h : ∀ h' tk e, NewA s.heap h' e → E (.ref e) { s with heap := h', toks := tk }) : wpAny (model prog w) A (setAttr (.ref x) name v) Q E s := by
  have X := X₀.keeps F.keep
  refine set_plain X I hs (osa_descr (s := { s with toks := s.toks + 1 }) KF.slot_pset X I hp ht hT (prop_noset (s := { s with toks := s.toks + 1 }) hA X I hr (X _ _ ho) hsl h1 h2 hm fun h' tk e hx => ?_))
  exact h h' tk e hx
end
end Mine
namespace Mine
open PySem PySem.W PyProof.Rows PySem.Calls
theorem inst_of {h₀ h : Heap} {L x dx C : Addr} {ox od : Obj} {led : List (Addr × Obj)} (N : News h₀ L h led) (hx : (x, ox) ∈ led) (hdx : (dx, od) ∈ led) (hcl : ox.cls = .ref C) (hno : notCls ox = true) (hdi : ox.dict = some dx) : InstAt h x ox C (some od) :=
  ⟨(N _ hx).1, hcl, hno, by rw [hdi]; exact (N _ hdx).1⟩
end Mine
end
section
set_option maxRecDepth 100000
namespace Mine
open PySem PySem.W PyProof.Rows PySem.Calls
/-- what is put in as a domain, and what it reads as -/
def IsDom (v : Value) (d : PyData) (r : Int) (ta la : Addr) : Prop :=
  (∃ n t, v = .int n t ∧ d = .int n) ∨ (∃ b, v = .bool b ∧ d = .bool b) ∨ (∃ x t, v = .str x t ∧ d = .str x ∧ PyData.strOk x = true) ∨
  (v = .ref ta ∧ d = .tuple [.int r]) ∨ (v = .ref la ∧ d = .list [.int r]) ∨ (v = .none ∧ d = .none)
abbrev tupO (r : Int) (t : Tok) : Obj := { cls := .type "tuple", data := .seq [Value.int r t].toArray }
abbrev lstO (r : Int) (t : Tok) (n : Nat) : Obj := { cls := .type "list", data := .seq [Value.int r t].toArray n }
theorem IsDom.reads {v : Value} {d : PyData} {r : Int} {ta la : Addr} {t1 t2 : Tok} {n : Nat} {h : Heap} (D : IsDom v d r ta la) (h1 : h.get? ta = some (tupO r t1)) (h2 : h.get? la = some (lstO r t2 n)) : ∃ as, Reads h v d as := by
  rcases D with ⟨n, t, rfl, rfl⟩ | ⟨b, rfl, rfl⟩ | ⟨x, t, rfl, rfl, _⟩ | ⟨rfl, rfl⟩ | ⟨rfl, rfl⟩ | ⟨rfl, rfl⟩
  · exact ⟨_, .int _ _⟩
  · exact ⟨_, .bool _⟩
  · exact ⟨_, .str _ _⟩
  · exact ⟨_, .tuple h1 rfl rfl (.cons (.int _ _) .nil)⟩
  · exact ⟨_, .list h2 rfl rfl (.cons (.int _ _) .nil)⟩
  · exact ⟨_, .none⟩
theorem IsDom.shaped {v : Value} {d : PyData} {r : Int} {ta la : Addr} (D : IsDom v d r ta la) : PySem.SeqAt.shaped d = true := by
  rcases D with ⟨n, t, rfl, rfl⟩ | ⟨b, rfl, rfl⟩ | ⟨x, t, rfl, rfl, h⟩ | ⟨rfl, rfl⟩ | ⟨rfl, rfl⟩ | ⟨rfl, rfl⟩
  · rfl
  · rfl
  · show (PyData.canLay0 (.str x) && _) = true
    simp only [PyData.canLay0, h]; rfl
  · rfl
  · rfl
  · rfl
theorem IsDom.refl {v : Value} {d : PyData} {r : Int} {ta la : Addr} (D : IsDom v d r ta la) : PyData.eqv d d = true := by
  rcases D with ⟨n, t, rfl, rfl⟩ | ⟨b, rfl, rfl⟩ | ⟨x, t, rfl, rfl, h⟩ | ⟨rfl, rfl⟩ | ⟨rfl, rfl⟩ | ⟨rfl, rfl⟩ <;> simp [PyData.eqv, PyData.eqvAll]
theorem IsDom.symm {v v' : Value} {d d' : PyData} {r r' : Int} {ta la ta' la' : Addr} (D : IsDom v d r ta la) (D' : IsDom v' d' r' ta' la') : PyData.eqv d d' = PyData.eqv d' d := by
  rcases D with ⟨n, t, rfl, rfl⟩ | ⟨b, rfl, rfl⟩ | ⟨x, t, rfl, rfl, h⟩ | ⟨rfl, rfl⟩ | ⟨rfl, rfl⟩ | ⟨rfl, rfl⟩ <;>
  rcases D' with ⟨n', t', rfl, rfl⟩ | ⟨b', rfl, rfl⟩ | ⟨x', t', rfl, rfl, h'⟩ | ⟨rfl, rfl⟩ | ⟨rfl, rfl⟩ | ⟨rfl, rfl⟩ <;>
  simp only [PyData.eqv, PyData.eqvAll, Bool.and_true] <;> exact Bool.beq_comm
/-- whether it is a truth -/
def isB : PyData → Bool
  | .bool _ => true
  | _ => false
section
variable {prog : Program} {w : World} {A : Around} {E : Value → Shared → Prop} {s : Shared} {Q : Value → Shared → Prop} {h₀ : Heap} {L : Addr} {led : List (Addr × Obj)} {v v' : Value} {d d' : PyData} {r r' : Int} {ta la ta' la' : Addr} {t1 t2 t3 t4 : Tok} {n n' : Nat}
theorem eq_dom (D : IsDom v d r ta la) (D' : IsDom v' d' r' ta' la') (N : News h₀ L s.heap led) (m1 : (ta, tupO r t1) ∈ led) (m2 : (la, lstO r t2 n) ∈ led) (m3 : (ta', tupO r' t3) ∈ led) (m4 : (la', lstO r' t4 n') ∈ led) (hu : A.units + 64 < cLine)
    (h : Q (.bool (PyData.eqv d d')) s) : wpAny (model prog w) A (compareOp .Eq v v') Q E s := by
  obtain ⟨as, R⟩ := D.reads (N _ m1).1 (N _ m2).1
  obtain ⟨as', R'⟩ := D'.reads (N _ m3).1 (N _ m4).1
  exact eq_dataH R R' D.shaped D'.shaped hu h
theorem eq_self (D : IsDom v d r ta la) (N : News h₀ L s.heap led) (m1 : (ta, tupO r t1) ∈ led) (m2 : (la, lstO r t2 n) ∈ led) (hu : A.units + 64 < cLine)
    (h : Q (.bool true) s) : wpAny (model prog w) A (compareOp .Eq v v) Q E s := eq_dom D D N m1 m2 m1 m2 hu (by rw [D.refl]; exact h)
theorem ne_self (D : IsDom v d r ta la) (N : News h₀ L s.heap led) (m1 : (ta, tupO r t1) ∈ led) (m2 : (la, lstO r t2 n) ∈ led) (hu : A.units + 64 < cLine)
    (h : Q (.bool false) s) : wpAny (model prog w) A (compareOp .NotEq v v) Q E s := by
  obtain ⟨as, R⟩ := D.reads (N _ m1).1 (N _ m2).1
  exact ne_dataH R R D.shaped D.shaped hu (by rw [D.refl]; exact h)
theorem isi_dom (D : IsDom v d r ta la) (N : News h₀ L s.heap led) (m1 : (ta, tupO r t1) ∈ led) (m2 : (la, lstO r t2 n) ∈ led)
    (h : ∀ k, Q (.bool (isB d)) { s with toks := k }) : wpAny (model prog w) A (call (.builtin "isinstance") [v, .type "bool"]) Q E s := by
  rcases D with ⟨n, t, rfl, rfl⟩ | ⟨b, rfl, rfl⟩ | ⟨x, t, rfl, rfl, _⟩ | ⟨rfl, rfl⟩ | ⟨rfl, rfl⟩ | ⟨rfl, rfl⟩
  · exact IsiPair.int_bool (h _)
  · exact IsiPair.bool_bool (h s.toks)
  · exact IsiPair.str_bool (h _)
  · exact call_isinstance (isinstance_false_tuple (by decide +kernel) F.isi_meta_bool F.sub_tuple_bool) ⟨⟨_, (N _ m1).1, rfl⟩, h _⟩
  · exact call_isinstance (isinstance_false_list (by decide +kernel) F.isi_meta_bool F.sub_list_bool) ⟨⟨_, (N _ m2).1, rfl⟩, h _⟩
  · exact call_isinstance (isinstance_false_none (by decide +kernel) F.isi_meta_bool F.sub_NoneType_bool) (h _)
end
/-- the ledger with two more objects -/
theorem news_two {h₀ h h' : Heap} {L ta la : Addr} {o1 o2 : Obj} {news : List (Addr × Obj)} {m : Str → Option Value} (F : Fr h₀ L h m) (N : News h₀ L h news) (hk : ∀ b o, h.get? b = some o → h'.get? b = some o)
    (h1 : h'.get? ta = some o1) (n1 : h.get? ta = none) (h2 : h'.get? la = some o2) (n2 : h.get? la = none) : News h₀ L h' ((ta, o1) :: (la, o2) :: news) := by
  have fr : ∀ b, h.get? b = none → b ≠ L ∧ h₀.get? b = none := by
    intro b hb
    refine ⟨fun e => ?_, ?_⟩
    · obtain ⟨o, _, _, hL, _⟩ := F.ns
      rw [e, hL] at hb; cases hb
    · cases q : h₀.get? b with
      | none => rfl
      | some o => rw [F.keep b o q] at hb; cases hb
  intro p hp
  rcases List.mem_cons.mp hp with rfl | hp
  · exact ⟨h1, fr _ n1⟩
  · rcases List.mem_cons.mp hp with rfl | hp
    · exact ⟨h2, fr _ n2⟩
    · exact N.grown hk p hp
end Mine
namespace Mine
open PySem PySem.W PyProof.Rows PySem.Calls
section
variable {prog : Program} {w : World} {A : Around} {E : Value → Shared → Prop} {s : Shared} {Q : Value → Shared → Prop} {a b : Int} {t u : Tok}
theorem fdiv_any (hb : 0 < b) (hp : b.natAbs.log2 < 9000) (h : ∀ q, Q (.int q s.toks) { s with toks := s.toks + 1 }) :
    wpAny (model prog w) A (binaryOp .FloorDiv (.int a t) (.int b u)) Q E s :=
  floordiv_int (by omega) (h _) (Or.inl (PyProof.noPylong_of_log2 hp))
theorem fmod_any (hb : 0 < b) (h : ∀ r, 0 ≤ r → r < b → Q (.int r s.toks) { s with toks := s.toks + 1 }) :
    wpAny (model prog w) A (binaryOp .Mod (.int a t) (.int b u)) Q E s :=
  mod_int' (by omega) (h _ (Int.fmod_nonneg_of_pos a hb) (Int.fmod_lt_of_pos a hb))
theorem str_03 {n : Int} (h0 : 0 ≤ n) (h1 : n < 3) (h : ∀ x, PyData.strOk x = true → Q (.str x s.toks) { s with toks := s.toks + 1 }) :
    wpAny (model prog w) A (call (.type "str") [.int n t]) Q E s := by
  have hc : n = 0 ∨ n = 1 ∨ n = 2 := by omega
  refine str_lit h0 (Int.lt_trans h1 (by decide +kernel)) (h _ ?_)
  rcases hc with rfl | rfl | rfl <;> decide +kernel
end
end Mine
namespace Mine
open PySem PySem.W PyProof.Rows PySem.Calls
theorem fin_dom {s : Shared} {Q : Value → Shared → Prop} {v : Value} {d : PyData} {r : Int} {ta la a0 L' : Addr} {o0 o1 o2 : Obj} {t1 t2 : Tok} {n2 k : Nat} {h' : Heap} {m' : Str → Option Value}
    (hret : ∀ v d r ta la t1 t2 n2 h' tk', (∀ b o, s.heap.get? b = some o → h'.get? b = some o) → IsDom v d r ta la → h'.get? ta = some (tupO r t1) → s.heap.get? ta = none → h'.get? la = some (lstO r t2 n2) → s.heap.get? la = none → (ta : Nat) ≠ la → Q v { s with heap := h', toks := tk' })
    (F : Fr s.heap L' h' m') (N : News s.heap L' h' [(a0, o0), (la, o2), (ta, o1)]) (e1 : o1 = tupO r t1) (e2 : o2 = lstO r t2 n2) (hne : ta < la) (D : IsDom v d r ta la) : Q v { s with heap := h', toks := k } := by
  subst e1 e2
  have n1 := N (ta, tupO r t1) (by simp)
  have n2' := N (la, lstO r t2 n2) (by simp)
  exact hret v d r ta la t1 t2 n2 h' k F.keep D n1.1 n1.2.2 n2'.1 n2'.2.2 (Nat.ne_of_lt hne)
end Mine
namespace Mine
open PySem PySem.W PyProof.Rows PySem.Calls
theorem IsDom.handed {v : Value} {d : PyData} {r : Int} {ta la : Addr} (D : IsDom v d r ta la) : handedIn v = true := by
  rcases D with ⟨n, t, rfl, rfl⟩ | ⟨b, rfl, rfl⟩ | ⟨x, t, rfl, rfl, h⟩ | ⟨rfl, rfl⟩ | ⟨rfl, rfl⟩ | ⟨rfl, rfl⟩ <;> rfl
theorem handed_dom {prog : Program} {w : World} {A : Around} {E : Value → Shared → Prop} {s : Shared} {Q : Value → Shared → Prop} {v : Value} {d : PyData} {r : Int} {ta la : Addr} (D : IsDom v d r ta la) (h : Q v s) : wpAny (model prog w) A (handedOut v) Q E s := by
  rw [handedOut_of D.handed]; exact wpAny_pure h
end Mine
end
section
set_option maxRecDepth 100000
namespace Mine
open PySem PySem.W PyProof.Rows PySem.Calls
section
variable {prog : Program} {w : World} {A : Around} {E : Value → Shared → Prop} {s : Shared} {env : Env} {h₀ : Heap} {body : List Stmt} {Q : Flow → Shared → Prop}
/-- a turn's end: the row is another one -/
def REnd (h₀ : Heap) (L : Addr) (its : List (Addr × Obj)) (e it : Addr) (xi xc row : Str) (stored : List Str) (m₀ : Str → Option Value) (Sh : Addr → List (Addr × Obj) → Prop) (s₁ s₂ : Shared) : Prop :=
  ∃ h' tk m' news' r', s₂ = { s₁ with heap := h', toks := tk } ∧ Fr h₀ L h' m' ∧ News h₀ L h' (its ++ news') ∧ (∀ p ∈ news', p.1 ≠ e ∧ p.1 ≠ it) ∧ m' row = some (.ref r') ∧ (∀ z, z ≠ xi → z ≠ xc → z ≠ row → stored.contains z = false → m' z = m₀ z) ∧ Sh r' news'
def RPost (h₀ : Heap) (L : Addr) (its : List (Addr × Obj)) (e it : Addr) (xi xc row : Str) (stored : List Str) (m₀ : Str → Option Value) (Sh : Addr → List (Addr × Obj) → Prop) (s₁ : Shared) (Q : Flow → Shared → Prop) (f : Flow) (s₂ : Shared) : Prop :=
  match f with
  | .ret v => Q (.ret v) s₂
  | .brk => Q .next s₂
  | _ => REnd h₀ L its e it xi xc row stored m₀ Sh s₁ s₂
theorem enum_row {xi xc : Str} {pi pc : Pos} {k : Nat} {pos : Pos} {l r0 : Addr} {lo : Obj} {vs : List Value} {ns : List Int} {nn : Nat} {m₀ : Str → Option Value} {news : List (Addr × Obj)}
    (row : Str) (stored : List Str) (Sh : Nat → Addr → List (Addr × Obj) → Prop)
    (hh : A.handled = none) (hxi : env.kindOf xi = some .local) (hxc : env.kindOf xc = some .local)
    (hp : (env.scope.kind == .class || (env.scope.kind == .module && env.locals != env.globals)) = false)
    (F : Fr h₀ env.locals s.heap m₀) (N : News h₀ env.locals s.heap ((l, lo) :: news)) (hc : lo.cls = .type "list") (hd : lo.data = .seq vs.toArray nn) (hi : IntsAre vs ns) (hrow : m₀ row = some (.ref r0)) (hj : Sh 0 r0 news) (hrx : row ≠ xi ∧ row ≠ xc)
    (turn : ∀ (i : Nat) (n : Int) t ti (u : Str → Option Value) r news₁ h tk e it oe oi ol, oe.cls = .type "enumerate" → oi.cls = .type "list_iterator" → ol.cls = .type "list" → ns[i]? = some n → i < ns.length → Sh i r news₁ →
      (∀ p ∈ news₁, p.1 ≠ e ∧ p.1 ≠ it) →
      Fr h₀ env.locals h (fun y => if y = xc then some (.int n t) else if y = xi then some (.int i ti) else if y = row then some (.ref r) else if stored.contains y then u y else m₀ y) → News h₀ env.locals h ([(e, oe), (it, oi), (l, ol)] ++ news₁) →
      wpAny (model prog w) A (execs body env) (RPost h₀ env.locals [(e, oe), (it, oi), (l, ol)] e it xi xc row stored m₀ (Sh (i + 1)) { s with heap := h, toks := tk } Q) E { s with heap := h, toks := tk })
    (done : ∀ m₁ news₁ h tk, Fr h₀ env.locals h m₁ → News h₀ env.locals h news₁ → Q .next { s with heap := h, toks := tk }) :
    wpAny (model prog w) A (call (.type "enumerate") [.ref l]) (fun xv s₁ => wpAny (model prog w) A (pyIter xv) (fun it s₂ => TurnsAt prog w A h₀ env (.Tuple [.Name xi pi, .Name xc pc] k pos) body Q E it s₂) E s₁) E s := by
  refine enum_inv (fun i m₁ news₁ => ∃ r, m₁ row = some (.ref r) ∧ (∀ z, z ≠ xi → z ≠ xc → z ≠ row → stored.contains z = false → m₁ z = m₀ z) ∧ Sh i r news₁) hh hxi hxc hp F N hc hd hi ⟨r0, hrow, fun _ _ _ _ _ => rfl, hj⟩ ?_ ?_
  · rintro i n t ti m₁ news₁ h tk e it oe oi ol h1 h2 h3 hn hlt ⟨r, hr, hm, hS⟩ ha F₁ N₁
    have em : (fun y => if y = xc then some (Value.int n t) else if y = xi then some (Value.int i ti) else m₁ y) = (fun y => if y = xc then some (Value.int n t) else if y = xi then some (Value.int i ti) else if y = row then some (.ref r) else if stored.contains y then m₁ y else m₀ y) := by
      funext y
      by_cases hy : y = xc
      · simp [hy]
      · by_cases hy' : y = xi
        · simp [hy']
        · by_cases hy2 : y = row
          · simp only [hy2, if_true, hrx.1, hrx.2, if_false]; exact hr
          · simp only [hy, hy', hy2, if_false]
            cases hz : stored.contains y with
            | true => simp
            | false => simp only [Bool.false_eq_true, if_false]; exact hm y hy' hy hy2 hz
    rw [em] at F₁
    refine wpAny_mono (turn i n t ti m₁ r news₁ h tk e it oe oi ol h1 h2 h3 hn hlt hS ha F₁ N₁) (fun f s₂ p => ?_) fun _ _ x => x
    have fin : REnd h₀ env.locals [(e, oe), (it, oi), (l, ol)] e it xi xc row stored m₀ (Sh (i + 1)) { s with heap := h, toks := tk } s₂ → TPost h₀ env.locals [(e, oe), (it, oi), (l, ol)] e it (fun m₁ news₁ => ∃ r, m₁ row = some (.ref r) ∧ (∀ z, z ≠ xi → z ≠ xc → z ≠ row → stored.contains z = false → m₁ z = m₀ z) ∧ Sh (i + 1) r news₁) { s with heap := h, toks := tk } Q .next s₂ := by
      rintro ⟨h', tk', m', news', r', rfl, F', N', ha', hr', hm', hS'⟩
      exact ⟨h', tk', m', news', rfl, F', N', ha', r', hr', hm', hS'⟩
    cases f with
    | ret v => exact p
    | brk => exact p
    | next => exact fin p
    | cont => exact fin p
  · rintro m₁ news₁ h tk ⟨r, _, _, _⟩ F₁ N₁
    exact done m₁ news₁ h tk F₁ N₁
end
end Mine
namespace Mine
open PySem PySem.W PyProof.Rows PySem.Calls
abbrev tup3 (x : Addr) (b : Bool) (v : Value) : Obj := { cls := .type "tuple", data := .seq #[.ref x, .bool b, v] }
/-- the row between two turns: empty, or its last item told -/
def Sh07 (_i : Nat) (r : Addr) (news : List (Addr × Obj)) : Prop :=
  (∃ l1 o1, news = [(l1, o1), (r, W.listOf #[] 0)]) ∨
  (∃ (tp x0 d0 ta la : Addr) (b : Bool) (v : Value) (d : PyData) (rr : Int) (t1 t2 : Tok) (n2 : Nat) (e1 e2 : Int) (k1 k2 : Tok) (items : Array Value), IsDom v d rr ta la ∧ (items = #[.ref tp] ∨ ∃ u, items = #[u, .ref tp]) ∧
    news = [(r, W.listOf items 0), (tp, tup3 x0 b v), (x0, instObj 76 d0), (d0, dictOf [⟨e1, .str (Str.ofString "inclusive") k1, .bool b⟩, ⟨e2, .str (Str.ofString "_domain") k2, v⟩] 2), (ta, tupO rr t1), (la, lstO rr t2 n2)])
theorem rend_of {h₀ h' : Heap} {L e it : Addr} {its all : List (Addr × Obj)} {xi xc row : Str} {stored : List Str} {m₀ m' : Str → Option Value} {s₁ : Shared} {tk i : Nat} {r' tp x0 d0 ta la : Addr} {b : Bool} {v : Value} {d : PyData} {rr : Int} {t1 t2 : Tok} {n2 : Nat} {e1 e2 : Int} {k1 k2 : Tok} {items : Array Value}
    (F : Fr h₀ L h' m') (N : News h₀ L h' all) (hr : m' row = some (.ref r')) (m1 : (r', W.listOf items 0) ∈ all) (hi : items = #[.ref tp] ∨ ∃ u, items = #[u, .ref tp]) (m2 : (tp, tup3 x0 b v) ∈ all) (m3 : (x0, instObj 76 d0) ∈ all)
    (m4 : (d0, dictOf [⟨e1, .str (Str.ofString "inclusive") k1, .bool b⟩, ⟨e2, .str (Str.ofString "_domain") k2, v⟩] 2) ∈ all) (D : IsDom v d rr ta la) (m5 : (ta, tupO rr t1) ∈ all) (m6 : (la, lstO rr t2 n2) ∈ all)
    (hs : ∀ p ∈ its, p ∈ all) (f1 : r' ≠ e ∧ r' ≠ it) (f2 : tp ≠ e ∧ tp ≠ it) (f3 : x0 ≠ e ∧ x0 ≠ it) (f4 : d0 ≠ e ∧ d0 ≠ it) (f5 : ta ≠ e ∧ ta ≠ it) (f6 : la ≠ e ∧ la ≠ it)
    (hm : ∀ z, z ≠ xi → z ≠ xc → z ≠ row → stored.contains z = false → m' z = m₀ z) :
    REnd h₀ L its e it xi xc row stored m₀ (Sh07 i) s₁ { s₁ with heap := h', toks := tk } := by
  refine ⟨h', tk, m', _, r', rfl, F, fun p hp => ?_, fun p hp => ?_, hr, hm, Or.inr ⟨tp, x0, d0, ta, la, b, v, d, rr, t1, t2, n2, e1, e2, k1, k2, items, D, hi, rfl⟩⟩
  · rcases List.mem_append.mp hp with hp | hp
    · exact N p (hs p hp)
    · simp only [List.mem_cons, List.not_mem_nil, or_false] at hp
      rcases hp with rfl | rfl | rfl | rfl | rfl | rfl
      · exact N _ m1
      · exact N _ m2
      · exact N _ m3
      · exact N _ m4
      · exact N _ m5
      · exact N _ m6
  · simp only [List.mem_cons, List.not_mem_nil, or_false] at hp
    rcases hp with rfl | rfl | rfl | rfl | rfl | rfl
    · exact f1
    · exact f2
    · exact f3
    · exact f4
    · exact f5
    · exact f6
theorem bx1 (q b : Bool) : (q != !b) = (q == b) := by cases q <;> cases b <;> rfl
section
variable {prog : Program} {w : World} {A : Around} {E : Value → Shared → Prop} {s : Shared} {Q : Value → Shared → Prop} {h₀ : Heap} {L : Addr} {led : List (Addr × Obj)} {v v' : Value} {d d' : PyData} {r r' : Int} {ta la ta' la' : Addr} {t1 t2 t3 t4 : Tok} {n n' : Nat}
theorem isnot_same {a b : Bool} (e : a = b) (h : Q (.bool false) s) : wpAny (model prog w) A (compareOp .IsNot (.bool a) (.bool b)) Q E s := by
  subst e; refine isnot_bool ?_
  have : (a != a) = false := by cases a <;> rfl
  rw [this]; exact h
theorem ne_same_bool {a : Bool} (h : Q (.bool false) s) : wpAny (model prog w) A (compareOp .NotEq (.bool a) (.bool a)) Q E s := by
  refine ne_bool ?_
  have : (a != a) = false := by cases a <;> rfl
  first | (rw [this]; exact h) | (simpa using h)
theorem eq_first (D : IsDom v d r ta la) (D' : IsDom v' d' r' ta' la') (N : News h₀ L s.heap led) (m1 : (ta, tupO r t1) ∈ led) (m2 : (la, lstO r t2 n) ∈ led) (m3 : (ta', tupO r' t3) ∈ led) (m4 : (la', lstO r' t4 n') ∈ led) (hu : A.units + 64 < cLine)
    (h : ∀ q, q = PyData.eqv d d' → q = PyData.eqv d' d → Q (.bool q) s) : wpAny (model prog w) A (compareOp .Eq v v') Q E s :=
  eq_dom D D' N m1 m2 m3 m4 hu (h _ rfl (D.symm D'))
theorem eq_again {q : Bool} (D : IsDom v d r ta la) (D' : IsDom v' d' r' ta' la') (hq : q = PyData.eqv d d') (N : News h₀ L s.heap led) (m1 : (ta, tupO r t1) ∈ led) (m2 : (la, lstO r t2 n) ∈ led) (m3 : (ta', tupO r' t3) ∈ led) (m4 : (la', lstO r' t4 n') ∈ led) (hu : A.units + 64 < cLine)
    (h : Q (.bool q) s) : wpAny (model prog w) A (compareOp .Eq v v') Q E s :=
  eq_dom D D' N m1 m2 m3 m4 hu (by rw [← hq]; exact h)
end
theorem dom_fresh {h₀ h : Heap} {L ta la : Addr} {led : List (Addr × Obj)} (N : News h₀ L h led) (n1 : h.get? ta = none) (n2 : h.get? la = none) : ∀ p ∈ led, ta ≠ p.1 ∧ la ≠ p.1 := by
  intro p hp
  have := (N p hp).1
  exact ⟨fun e => (by rw [e, this] at n1; cases n1), fun e => (by rw [e, this] at n2; cases n2)⟩
end Mine
namespace Mine
open PySem PySem.W PyProof.Rows PySem.Calls
theorem dom_apart {h₀ h : Heap} {L ta la e it : Addr} {oe oi : Obj} {led : List (Addr × Obj)} (N : News h₀ L h ((e, oe) :: (it, oi) :: led)) (n1 : h.get? ta = none) (n2 : h.get? la = none) : (ta ≠ e ∧ ta ≠ it) ∧ (la ≠ e ∧ la ≠ it) := by
  have h1 := dom_fresh N n1 n2 (e, oe) (by simp)
  have h2 := dom_fresh N n1 n2 (it, oi) (by simp)
  exact ⟨⟨h1.1, h2.1⟩, h1.2, h2.2⟩
end Mine
namespace Mine
open PySem PySem.W PyProof.Rows PySem.Calls
theorem fin_make {s : Shared} {Q : Value → Shared → Prop} {h₀ h' : Heap} {L x dx : Addr} {m : Str → Option Value} {b : Bool} {v : Value} {e1 e2 : Int} {k1 k2 : Tok} {k : Nat} {p1 p2 : Addr × Obj} {news : List (Addr × Obj)}
    (hret : ∀ x dx e1 e2 k1 k2 h' tk', Fr h₀ L h' m → News h₀ L h' ((x, instObj 76 dx) :: (dx, dictOf [⟨e1, .str (Str.ofString "inclusive") k1, .bool b⟩, ⟨e2, .str (Str.ofString "_domain") k2, v⟩] 2) :: news) → (∀ p ∈ news, p.1 < dx) → dx < x → Q (.ref x) { s with heap := h', toks := tk' })
    (F : Fr h₀ L h' m) (N : News h₀ L h' (p1 :: p2 :: (x, instObj 76 dx) :: (dx, dictOf [⟨e1, .str (Str.ofString "inclusive") k1, .bool b⟩, ⟨e2, .str (Str.ofString "_domain") k2, v⟩] 2) :: news)) (hl : ∀ p ∈ news, p.1 < dx) (hlt : dx < x) : Q (.ref x) { s with heap := h', toks := k } :=
  hret x dx e1 e2 k1 k2 h' k F (fun p hp => N p (List.mem_cons_of_mem _ (List.mem_cons_of_mem _ hp))) hl hlt
end Mine
namespace Mine
open PySem PySem.W PyProof.Rows PySem.Calls
theorem make_apart {x dx e it : Addr} {p1 p2 : Addr × Obj} {oe oi : Obj} {led : List (Addr × Obj)} (hl : ∀ p ∈ p1 :: p2 :: (e, oe) :: (it, oi) :: led, p.1 < dx) (hlt : dx < x) : (x ≠ e ∧ x ≠ it) ∧ (dx ≠ e ∧ dx ≠ it) := by
  have h1 : e < dx := hl (e, oe) (by simp)
  have h2 : it < dx := hl (it, oi) (by simp)
  exact ⟨⟨Nat.ne_of_gt (Nat.lt_trans h1 hlt), Nat.ne_of_gt (Nat.lt_trans h2 hlt)⟩, Nat.ne_of_gt h1, Nat.ne_of_gt h2⟩
end Mine
end
section
open PySem PySem.W PyProof.Rows
set_option Elab.async false
set_option maxRecDepth 100000
set_option maxHeartbeats 8000000
local macro_rules | `(tactic| walk_at "execs cons") => `(tactic| ((with_reducible refine wpAny_execs_cons ?_); (try dsimp only)))
local macro_rules | `(tactic| walk_at "execs nil") => `(tactic| ((with_reducible refine wpAny_execs_nil ?_); (try dsimp only)))
local macro_rules | `(tactic| walk_at "eval Constant int") => `(tactic| ((with_reducible refine wpAny_Constant_int ?_); (try dsimp only)))
local macro_rules | `(tactic| walk_at "binaryOp Mod int int") => `(tactic| (k_here; (refine' Mine.fmod_any ?hb ?_; (case hb => decide +kernel)); intro r' hq2' hq3'; (try dsimp only)))
local macro_rules | `(tactic| walk_at "binaryOp FloorDiv int int") => `(tactic| (k_here; (refine' Mine.fdiv_any ?hb ?hp ?_; (case hb => decide +kernel); (case hp => decide +kernel)); intro q'; (try dsimp only)))
local macro_rules | `(tactic| walk_at "call type:str") => `(tactic| (k_here; (with_reducible refine' Mine.str_03 ?h0 ?h1 ?_; (case h0 => with_reducible assumption); (case h1 => with_reducible assumption)); intro x' hx'; (try dsimp only)))
theorem Mine.dom_contract {w : World} {s₀ s₁ : Shared} {mg mb : Str → Option Value} {L a : Addr} {m : Str → Option Value} {cn : Str} {cs : Scope} {ccd : Value} {s : Shared} {Q E : Value → Shared → Prop}
   (G : Ground Mine.hd07.view_39 [Str.ofString "DomainFilter"] PySem.Challenge.rw_dn0230_07.row.records (XL Mine.hd07.view_39 []) w s₀ mg mb s₁.heap) (KX : (Mine.hd07.heap_39 w.params).In s₁.heap)
   (n : Int) (t : Tok) (F : Fr s₁.heap L s.heap m) (hcs : cs.kind = .function)
   (hret : ∀ v d r ta la t1 t2 n2 h' tk', (∀ b o, s.heap.get? b = some o → h'.get? b = some o) → Mine.IsDom v d r ta la → h'.get? ta = some (Mine.tupO r t1) → s.heap.get? ta = none → h'.get? la = some (Mine.lstO r t2 n2) → s.heap.get? la = none → (ta : Nat) ≠ la → Q v { s with heap := h', toks := tk' }) :
   wpAny (model PySem.Challenge.rw_dn0230_07.row.prog w) (callerA.deeper (envOf cn cs L a ccd)) (call (.ref 85) [.int n t]) Q E s := by
  revert KX; k_fill; intro KX
  have X := (Ground.X G).1
  have V := (Ground.X G).2
  w_nolog (have GL := glob_more (Ground.glob G (by first | k_qdec | decide +kernel) (by first | k_qdec | decide +kernel)) V)
  refine Ground.open G ?_
  intro T B D TE TW
  try (refine guard_noD D (by decide +kernel) ?_; clear D)
  obtain ⟨_, _, M⟩ := bmod_of_top T
  have K0 := below_caller (Top.heap T)
  refine wpAny_call ?_
  refine' Mine.call_pure K0 F KX T hcs ?k6 ?k7 ?k8 ?k9 ?kB ?_ ?c2 ?c3 ?c4 ?c5
  case k6 => k_is
  case k7 => k_is
  case k8 => k_room
  case k9 => exact BindsTo.of_eq rfl
  case c5 => decide
  case kB => exact locs rfl
  case c2 => exact rfl
  case c3 => exact rfl
  case c4 => exact rfl
  intro L' h₁ F' N' B' X' T'
  (try dsimp only)
  clear F
  k_steps
  all_goals (refine' Mine.fin_dom hret ?eF ?eN ?e1 ?e2 ?ne ?D; (case eF => with_reducible assumption); (case eN => with_reducible assumption); (case ne => with_reducible assumption); (case e1 => rfl); (case e2 => rfl); (case D => first
    | exact Or.inl ⟨_, _, rfl, rfl⟩
    | exact Or.inr (Or.inl ⟨_, rfl, rfl⟩)
    | exact Or.inr (Or.inr (Or.inl ⟨_, _, rfl, rfl, by assumption⟩))
    | exact Or.inr (Or.inr (Or.inr (Or.inl ⟨rfl, rfl⟩)))
    | exact Or.inr (Or.inr (Or.inr (Or.inr (Or.inl ⟨rfl, rfl⟩))))
    | exact Or.inr (Or.inr (Or.inr (Or.inr (Or.inr ⟨rfl, rfl⟩))))))
end
section
open PySem PySem.W PyProof.Rows
set_option Elab.async false
set_option maxRecDepth 100000
set_option maxHeartbeats 8000000
local macro_rules | `(tactic| walk_at "execs cons") => `(tactic| ((with_reducible refine wpAny_execs_cons ?_); (try dsimp only)))
local macro_rules | `(tactic| walk_at "execs nil") => `(tactic| ((with_reducible refine wpAny_execs_nil ?_); (try dsimp only)))
local macro_rules | `(tactic| walk_at "setAttr ref") => `(tactic| (k_here; (rename Fr _ _ _ _ => lF'); (rename News _ _ _ _ => lN'); k_dflt (refine' Mine.set_noset ?hA lF' ?X (Mine.inst_of lN' (List.mem_append_left _ ?m1) (List.mem_append_left _ ?m2) ?m3 ?m4 ?m5) ?k1 ?k2 ?k3 ?k4 ?k5 ?k6 ?k7 ?k8 ?k9 ?k10 ?_; (case hA => with_unfolding_all rfl); (case X => assumption); (case m1 => assumption); (case m2 => assumption); (case m3 => assumption); (case m4 => assumption); (case m5 => assumption); (case k1 => k_is); (case k2 => k_is); (case k3 => k_is); (case k4 => k_is); (case k5 => k_is); (case k6 => k_is); (case k7 => rfl); (case k8 => decide +kernel); (case k9 => decide +kernel); (case k10 => (intro m9 hm9; subst hm9; decide +kernel))); (intro h' tk' e' hx'); (try dsimp only)))
local macro_rules | `(tactic| walk_at "noteFrame ref") => `(tactic| (k_here; (with_reducible rename Mine.NewA _ _ _ => lX'); (rename Fr _ _ _ _ => lF'); (rename News _ _ _ _ => lN'); k_dflt (refine' Mine.noted_attr (by rfl) ?fs lX' lF' lN' ?ne ?_ (by rfl); (case fs => assumption); (case ne => assumption)); clear lX'; intro h' sl' tiF' tiH'; have tiHH' := TT.HeldNA.held tiH'))
theorem Mine.stored_contract {w : World} {s₀ s₁ : Shared} {mg mb : Str → Option Value} {L a : Addr} {m : Str → Option Value} {cn : Str} {cs : Scope} {ccd : Value} {s : Shared} {Q E : Value → Shared → Prop}
   (G : Ground Mine.hd07.view_39 [Str.ofString "DomainFilter"] PySem.Challenge.rw_dn0230_07.row.records (XL Mine.hd07.view_39 []) w s₀ mg mb s₁.heap) (KX : (Mine.hd07.heap_39 w.params).In s₁.heap)
   (x dx : Addr) (ox od : Obj) (dv : Value) {news : List (Addr × Obj)} (hx : (x, ox) ∈ news) (hdx : (dx, od) ∈ news) (hcl : ox.cls = .ref 76) (hno : notCls ox = true) (hdi : ox.dict = some dx) (F : Fr s₁.heap L s.heap m) (N : News s₁.heap L s.heap news) (hcs : cs.kind = .function)
   (hret : ∀ h' tk', Fr s₁.heap L h' m → News s₁.heap L h' news → Q (.bool false) { s with heap := h', toks := tk' }) :
   wpAny (model PySem.Challenge.rw_dn0230_07.row.prog w) (callerA.deeper (envOf cn cs L a ccd)) (call (.ref 92) [.ref x, dv]) Q E s := by
  revert KX; k_fill; intro KX
  have X := (Ground.X G).1
  have V := (Ground.X G).2
  w_nolog (have GL := glob_more (Ground.glob G (by first | k_qdec | decide +kernel) (by first | k_qdec | decide +kernel)) V)
  refine Ground.open G ?_
  intro T B D TE TW
  try (refine guard_noD D (by decide +kernel) ?_; clear D)
  obtain ⟨_, _, M⟩ := bmod_of_top T
  have K0 := below_caller (Top.heap T)
  obtain ⟨ck, cnames, cg, cc⟩ := cs
  obtain rfl : ck = .function := hcs
  refine wpAny_call ?_
  refine' TLgL.code_def F KX N T ?kA ?k6 ?k7 ?k8 ?k9 ?kB ?_ ?cK ?c2 ?c3 ?c4 ?c5
  case kA => exact rfl
  case cK => exact rfl
  case k6 => k_is
  case k7 => k_is
  case k8 => k_room
  case k9 => exact BindsTo.of_eq rfl
  case c5 => decide
  case kB => exact locs rfl
  case c2 => exact rfl
  case c3 => exact rfl
  case c4 => exact rfl
  intro oL' h' tiC' tiF' tiE' F' N'
  (try dsimp only)
  clear F N
  k_steps
  all_goals (try dsimp only)
  all_goals ((rename Fr _ _ _ _ => lF'); (rename News _ _ _ _ => lN'); (refine TLg.leave_back (new := news) (by assumption) lF' lN' (TLgL.allNe_of (by assumption)) ?_); intro F' N'; exact hret _ _ F' N')
end
section
open PySem PySem.W PyProof.Rows
set_option Elab.async false
set_option maxRecDepth 100000
set_option maxHeartbeats 8000000
local macro_rules | `(tactic| walk_at "execs cons") => `(tactic| ((with_reducible refine wpAny_execs_cons ?_); (try dsimp only)))
local macro_rules | `(tactic| walk_at "execs nil") => `(tactic| ((with_reducible refine wpAny_execs_nil ?_); (try dsimp only)))
theorem Mine.make_contract {w : World} {s₀ s₁ : Shared} {mg mb : Str → Option Value} {L a : Addr} {m : Str → Option Value} {cn : Str} {cs : Scope} {ccd : Value} {s : Shared} {Q E : Value → Shared → Prop}
   (G : Ground Mine.hd07.view_39 [Str.ofString "DomainFilter"] PySem.Challenge.rw_dn0230_07.row.records (XL Mine.hd07.view_39 []) w s₀ mg mb s₁.heap) (KX : (Mine.hd07.heap_39 w.params).In s₁.heap)
   (b : Bool) (v : Value) {d : PyData} {r : Int} {ta la : Addr} (hD : Mine.IsDom v d r ta la) {news : List (Addr × Obj)} (F : Fr s₁.heap L s.heap m) (N : News s₁.heap L s.heap news) (hcs : cs.kind = .function)
   (hret : ∀ x dx e1 e2 k1 k2 h' tk', Fr s₁.heap L h' m → News s₁.heap L h' ((x, instObj 76 dx) :: (dx, dictOf [⟨e1, .str (Str.ofString "inclusive") k1, .bool b⟩, ⟨e2, .str (Str.ofString "_domain") k2, v⟩] 2) :: news) → (∀ p ∈ news, p.1 < dx) → dx < x → Q (.ref x) { s with heap := h', toks := tk' }) :
   wpAny (model PySem.Challenge.rw_dn0230_07.row.prog w) (callerA.deeper (envOf cn cs L a ccd)) (call (.ref 76) [.bool b, v]) Q E s := by
  revert KX; k_fill; intro KX
  have X := (Ground.X G).1
  have V := (Ground.X G).2
  w_nolog (have GL := glob_more (Ground.glob G (by first | k_qdec | decide +kernel) (by first | k_qdec | decide +kernel)) V)
  refine Ground.open G ?_
  intro T B D TE TW
  try (refine guard_noD D (by decide +kernel) ?_; clear D)
  obtain ⟨_, _, M⟩ := bmod_of_top T
  have K0 := below_caller (Top.heap T)
  obtain ⟨ck, cnames, cg, cc⟩ := cs
  obtain rfl : ck = .function := hcs
  k_steps
  all_goals (try dsimp only)
  all_goals ((rename Fr _ _ _ _ => lF'); (rename News _ _ _ _ => lN'); (refine Mine.fin_make hret lF' lN' (by assumption) (by assumption)))
end
section
open PySem PySem.W PyProof.Rows
set_option Elab.async false
set_option maxRecDepth 100000
set_option maxHeartbeats 100000000
local macro_rules | `(tactic| walk_at "execs cons") => `(tactic| ((with_reducible refine wpAny_execs_cons ?_); (try dsimp only)))
local macro_rules | `(tactic| walk_at "execs nil") => `(tactic| ((with_reducible refine wpAny_execs_nil ?_); (try dsimp only)))
local macro_rules | `(tactic| walk_at "eval Constant int") => `(tactic| ((with_reducible refine wpAny_Constant_int ?_); (try dsimp only)))
local macro_rules | `(tactic| walk_at "exec For Tuple Call") => `(tactic| (k_here; (rename Fr _ _ _ _ => lF'); (with_unfolding_all refine' For_turns lF' ?_; k_whole)))
local macro_rules | `(tactic| walk_at "exec For Tuple Call cons nil") => `(tactic| (k_here; (rename Fr _ _ _ _ => lF'); (with_unfolding_all refine' For_turns lF' ?_; k_whole)))
local macro_rules | `(tactic| walk_at "RPost") => `(tactic| (dsimp only [Mine.RPost]))
local macro_rules | `(tactic| walk_at "compareOp IsNot bool bool") => `(tactic| (k_here; (with_reducible refine' Mine.isnot_same ?e ?_; (case e => first | (with_reducible rfl) | exact Mine.bx1 _ _)); (try dsimp only)))
local macro_rules | `(tactic| walk_at "compareOp NotEq bool bool") => `(tactic| (k_here; (with_reducible refine Mine.ne_same_bool ?_); (try dsimp only)))
local macro_rules | `(tactic| walk_at "REnd") => `(tactic| ((rename Fr _ _ _ _ => lF'); (rename News _ _ _ _ => lN'); k_dflt (refine' Mine.rend_of lF' lN' ?hr ?m1 ?hi ?m2 ?m3 ?m4 ?D ?m5 ?m6 ?hs ?f1 ?f2 ?f3 ?f4 ?f5 ?f6 ?hm; (case hr => rfl); (case m1 => k_mem); (case hi => first | exact Or.inl rfl | exact Or.inr ⟨_, rfl⟩); (case m2 => k_mem); (case m3 => k_mem); (case m4 => k_mem); (case D => with_reducible assumption); (case m5 => k_mem); (case m6 => k_mem); (case hs => (intro p hp; (simp only [List.mem_cons, List.not_mem_nil, or_false] at hp); rcases hp with rfl | rfl | rfl <;> k_mem)); (case f1 => (constructor <;> exact Nat.ne_of_gt (by omega))); (case f2 => (constructor <;> exact Nat.ne_of_gt (by omega))); (case f3 => (constructor <;> exact Nat.ne_of_gt (by omega))); (case f4 => (constructor <;> exact Nat.ne_of_gt (by omega))); (case f5 => assumption); (case f6 => assumption); (case hm => (intro z h1 h2 h4 h3; (have h3' := h3); (simp only [List.contains_cons, Bool.or_eq_false_iff, beq_eq_false_iff_ne, List.contains_nil] at h3'); (first | (simp only [h1, h2, h3, h3', h4, if_false, Bool.false_eq_true]; done) | (simp [h1, h2, h3, h3', h4]; done) | (simp_all; done) | (trace_state; fail "em")))))))
local macro_rules | `(tactic| walk_at "binaryOp Mod int int") => `(tactic| (k_here; (refine' Mine.fmod_any ?hb ?_; (case hb => decide +kernel)); intro r' hq2' hq3'; (try dsimp only)))
local macro_rules | `(tactic| walk_at "call ref") => `(tactic| (k_here; (with_reducible show wpAny _ _ (call (Value.ref 85) [Value.int _ _]) _ _ _); (rename Fr _ _ _ _ => lF'); (rename News _ _ _ _ => lN'); k_dflt (refine' Mine.dom_contract ?G ?KX _ _ lF' ?cs ?_; (case G => assumption); (case KX => assumption); (case cs => rfl)); intro v' d' r' ta' la' t1' t2' n2' h' tk' hk' hD' hg1' hg2' hg3' hg4' hg5'; (have F' := PyProof.Rows.Fr.keeps lF' hk'); (have N' := Mine.news_two lF' lN' hk' hg1' hg2' hg3' hg4'); (have hap' := Mine.dom_apart lN' hg2' hg4'); (obtain ⟨hap1', hap2'⟩ := hap'); clear lF' lN' hk' hg1' hg2' hg3' hg4'; (try dsimp only)))
local macro_rules | `(tactic| walk_at "call ref") => `(tactic| (k_here; (with_reducible show wpAny _ _ (call (Value.ref 92) [Value.ref _, _]) _ _ _); (rename Fr _ _ _ _ => lF'); (rename News _ _ _ _ => lN'); k_dflt (refine' Mine.stored_contract ?G ?KX _ _ _ _ _ ?m1 ?m2 ?e1 ?e2 ?e3 lF' lN' ?cs ?_; (case G => assumption); (case KX => assumption); (case m1 => k_mem); (case e1 => rfl); (case e2 => rfl); (case e3 => rfl); (case m2 => k_mem); (case cs => rfl)); intro h' tk' F' N'; clear lF' lN'; (try dsimp only)))
local macro_rules | `(tactic| walk_at "getAttr ref") => `(tactic| (k_here; k_dflt (refine' get_own ?k1 ?k2 ?k3 ?k4 ?k5 ?k6 ?k7 ?k8 ?k9 ?_; (case k1 => k_asm); (case k2 => k_asm); (case k3 => k_inst); (case k4 => k_is); (case k5 => k_is); (case k6 => k_is); (case k7 => k_is); (case k8 => k_get); (case k9 => exact Mine.IsDom.handed (by assumption)); k_whole)))
local macro_rules | `(tactic| walk_at "handedOut") => `(tactic| (k_here; (with_reducible refine Mine.handed_dom (by with_reducible assumption) ?_); (try dsimp only)))
local macro_rules | `(tactic| walk_at "compareOp Eq") => `(tactic| (k_here; (rename News _ _ _ _ => lN'); k_dflt (first
  | (refine' Mine.eq_self ?D lN' ?m1 ?m2 ?u ?_; (case D => with_reducible assumption); (case m1 => k_mem); (case m2 => k_mem); (case u => units_room); (try dsimp only))
  | (refine' Mine.eq_again ?D ?D2 ?hq lN' ?m1 ?m2 ?m3 ?m4 ?u ?_; (case D => with_reducible assumption); (case D2 => with_reducible assumption); (case hq => with_reducible assumption); (case m1 => k_mem); (case m2 => k_mem); (case m3 => k_mem); (case m4 => k_mem); (case u => units_room); (try dsimp only))
  | (refine' Mine.eq_first ?D ?D2 lN' ?m1 ?m2 ?m3 ?m4 ?u ?_; (case D => with_reducible assumption); (case D2 => with_reducible assumption); (case m1 => k_mem); (case m2 => k_mem); (case m3 => k_mem); (case m4 => k_mem); (case u => units_room); intro q' hq1' hq2'; (try dsimp only)))))
local macro_rules | `(tactic| walk_at "compareOp NotEq") => `(tactic| (k_here; (rename News _ _ _ _ => lN'); k_dflt (refine' Mine.ne_self ?D lN' ?m1 ?m2 ?u ?_; (case D => with_reducible assumption); (case m1 => k_mem); (case m2 => k_mem); (case u => units_room)); (try dsimp only)))
local macro_rules | `(tactic| walk_at "call builtin:isinstance") => `(tactic| (k_here; (rename News _ _ _ _ => lN'); k_dflt (refine' Mine.isi_dom ?D lN' ?m1 ?m2 ?_; (case D => with_reducible assumption); (case m1 => k_mem); (case m2 => k_mem)); intro k'; (try dsimp only)))
local macro_rules | `(tactic| walk_at "call ref") => `(tactic| (k_here; (with_reducible show wpAny _ _ (call (Value.ref 76) [Value.bool _, _]) _ _ _); (rename Fr _ _ _ _ => lF'); (rename News _ _ _ _ => lN'); k_dflt (refine' Mine.make_contract ?G ?KX _ _ ?D lF' lN' ?cs ?_; (case G => assumption); (case KX => assumption); (case D => with_reducible assumption); (case cs => rfl)); intro x' dx' e1' e2' k1' k2' h' tk' F' N' hl' hlt'; clear lF' lN'; (have hap3' := Mine.make_apart hl' hlt'); (obtain ⟨hap4', hap5'⟩ := hap3'); clear hl'; (try dsimp only)))
theorem PySem.Challenge.cw_dn0230_07_holds : PySem.Challenge.rw_dn0230_07.Holds := by
  refine Mine.hd07 ?_
  w_strict (k_go0; (all_goals try k_fold); k_steps)
  (rename Fr _ _ _ _ => lF'); (rename News _ _ _ _ => lN')
  with_unfolding_all refine' Mine.enum_row (Str.ofString "row") [Str.ofString "domain", Str.ofString "inclusive", Str.ofString "one", Str.ofString "other", Str.ofString "turned", Str.ofString "named"] Mine.Sh07 ?hh ?hxi ?hxc ?hp lF' lN' ?hc ?hd ?hi ?hr ?hj ?hrx ?turn ?fin
  case hh => rfl
  case hxi => rfl
  case hxc => rfl
  case hp => rfl
  case hc => rfl
  case hd => rfl
  case hi => assumption
  case hr => rfl
  case hj => exact Or.inl ⟨_, _, rfl⟩
  case hrx => decide +kernel
  case fin =>
    intro m' news' h' tk' F' N'
    clear lF' lN'
    try dsimp only
    w_strict (k_steps; (all_goals (try k_data)); all_goals w_report)
  case turn =>
    rintro i' n' t' ti' u' r0' news' h' tk' e' it' oe' oi' ol' hoe' hoi' hol' hn' hlt' (⟨l1', o1', rfl⟩ | ⟨tp', x0', d0', ta0', la0', b0', v0', pd0', rr0', t10', t20', n20', e10', e20', k10', k20', items', hD0', (rfl | ⟨w0', rfl⟩), rfl⟩) ha' F' N'
    all_goals (clear lF' lN'; (simp only [List.cons_append, List.nil_append] at N'); (try dsimp only))
    · (k_steps; all_goals ((rename Fr _ _ _ _ => lF'); (rename News _ _ _ _ => lN'); k_dflt (refine' Mine.rend_of lF' lN' ?hr ?m1 ?hi ?m2 ?m3 ?m4 ?D ?m5 ?m6 ?hs ?f1 ?f2 ?f3 ?f4 ?f5 ?f6 ?hm; (case hr => rfl); (case m1 => k_mem); (case hi => first | exact Or.inl rfl | exact Or.inr ⟨_, rfl⟩); (case m2 => k_mem); (case m3 => k_mem); (case m4 => k_mem); (case D => with_reducible assumption); (case m5 => k_mem); (case m6 => k_mem); (case hs => (intro p hp; (simp only [List.mem_cons, List.not_mem_nil, or_false] at hp); rcases hp with rfl | rfl | rfl <;> k_mem)); (case f1 => (constructor <;> exact Nat.ne_of_gt (by omega))); (case f2 => (constructor <;> exact Nat.ne_of_gt (by omega))); (case f3 => assumption); (case f4 => assumption); (case f5 => assumption); (case f6 => assumption); (case hm => (intro z h1 h2 h4 h3; (have h3' := h3); (simp only [List.contains_cons, Bool.or_eq_false_iff, beq_eq_false_iff_ne, List.contains_nil] at h3'); (first | (simp only [h1, h2, h3, h3', h4, if_false, Bool.false_eq_true]; done) | (simp [h1, h2, h3, h3', h4]; done) | (simp_all; done) | (trace_state; fail "em")))))))
    · (k_steps; all_goals ((rename Fr _ _ _ _ => lF'); (rename News _ _ _ _ => lN'); k_dflt (refine' Mine.rend_of lF' lN' ?hr ?m1 ?hi ?m2 ?m3 ?m4 ?D ?m5 ?m6 ?hs ?f1 ?f2 ?f3 ?f4 ?f5 ?f6 ?hm; (case hr => rfl); (case m1 => k_mem); (case hi => first | exact Or.inl rfl | exact Or.inr ⟨_, rfl⟩); (case m2 => k_mem); (case m3 => k_mem); (case m4 => k_mem); (case D => with_reducible assumption); (case m5 => k_mem); (case m6 => k_mem); (case hs => (intro p hp; (simp only [List.mem_cons, List.not_mem_nil, or_false] at hp); rcases hp with rfl | rfl | rfl <;> k_mem)); (case f1 => (constructor <;> exact Nat.ne_of_gt (by omega))); (case f2 => (constructor <;> exact Nat.ne_of_gt (by omega))); (case f3 => assumption); (case f4 => assumption); (case f5 => assumption); (case f6 => assumption); (case hm => (intro z h1 h2 h4 h3; (have h3' := h3); (simp only [List.contains_cons, Bool.or_eq_false_iff, beq_eq_false_iff_ne, List.contains_nil] at h3'); (first | (simp only [h1, h2, h3, h3', h4, if_false, Bool.false_eq_true]; done) | (simp [h1, h2, h3, h3', h4]; done) | (simp_all; done) | (trace_state; fail "em")))))))
    · (k_steps; all_goals ((rename Fr _ _ _ _ => lF'); (rename News _ _ _ _ => lN'); k_dflt (refine' Mine.rend_of lF' lN' ?hr ?m1 ?hi ?m2 ?m3 ?m4 ?D ?m5 ?m6 ?hs ?f1 ?f2 ?f3 ?f4 ?f5 ?f6 ?hm; (case hr => rfl); (case m1 => k_mem); (case hi => first | exact Or.inl rfl | exact Or.inr ⟨_, rfl⟩); (case m2 => k_mem); (case m3 => k_mem); (case m4 => k_mem); (case D => with_reducible assumption); (case m5 => k_mem); (case m6 => k_mem); (case hs => (intro p hp; (simp only [List.mem_cons, List.not_mem_nil, or_false] at hp); rcases hp with rfl | rfl | rfl <;> k_mem)); (case f1 => (constructor <;> exact Nat.ne_of_gt (by omega))); (case f2 => (constructor <;> exact Nat.ne_of_gt (by omega))); (case f3 => assumption); (case f4 => assumption); (case f5 => assumption); (case f6 => assumption); (case hm => (intro z h1 h2 h4 h3; (have h3' := h3); (simp only [List.contains_cons, Bool.or_eq_false_iff, beq_eq_false_iff_ne, List.contains_nil] at h3'); (first | (simp only [h1, h2, h3, h3', h4, if_false, Bool.false_eq_true]; done) | (simp [h1, h2, h3, h3', h4]; done) | (simp_all; done) | (trace_state; fail "em")))))))
end
