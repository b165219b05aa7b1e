import PyProof.Rows.All
import Wide.All
import OpenK.AllK
import Wide.FinOn
import Flt.RightMore
import Flt.RightSqrt
import Flt.Pure
import Flt.Ops
import PySem.Challenge.RW_dn0230_11
set_option Elab.async false
set_option maxRecDepth 100000
section
open PySem PySem.W PyProof.Rows
set_option maxHeartbeats 8000000
namespace Mine
open_top hd11 for PySem.Challenge.rw_dn0230_11
end Mine
end
section
open PySem PySem.W PyProof.Rows PySem.Calls
set_option Elab.async false
set_option maxRecDepth 100000
namespace Mine
section
variable {prog : Program} {w : World} {A : Around} {E : Value → Shared → Prop} {s : Shared} {env : Env} {h₀ : Heap} {body : List Stmt} {Q : Flow → Shared → Prop}

/-- what a turn of the loop must end in -/
def TPost (h₀ : Heap) (L : Addr) (its : List (Addr × Obj)) (e it : Addr) (Jn : (Str → Option Value) → List (Addr × Obj) → Prop) (s₁ : Shared) (Q : Flow → Shared → Prop) (f : Flow) (s₂ : Shared) : Prop :=
  match f with
  | .ret v => Q (.ret v) s₂
  | .brk => Q .next s₂
  | _ => ∃ h' tk m' news', s₂ = { s₁ with heap := h', toks := tk } ∧ Fr h₀ L h' m' ∧ News h₀ L h' (its ++ news') ∧ (∀ p ∈ news', p.1 ≠ e ∧ p.1 ≠ it) ∧ Jn m' news'

theorem enum_inv {xi xc : Str} {pi pc : Pos} {k : Nat} {pos : Pos} {l : Addr} {lo : Obj} {vs : List Value} {ns : List Int} {nn : Nat} {m₀ : Str → Option Value} {news : List (Addr × Obj)}
    (J : Nat → (Str → Option Value) → List (Addr × Obj) → Prop)
    (hh : A.handled = none) (hxi : env.kindOf xi = some .local) (hxc : env.kindOf xc = some .local)
    (hp : (env.scope.kind == .class || (env.scope.kind == .module && env.locals != env.globals)) = false)
    (F : Fr h₀ env.locals s.heap m₀) (N : News h₀ env.locals s.heap ((l, lo) :: news)) (hc : lo.cls = .type "list") (hd : lo.data = .seq vs.toArray nn) (hi : IntsAre vs ns) (hj : J 0 m₀ news)
    (turn : ∀ (i : Nat) (n : Int) t ti m₁ news₁ h tk e it oe oi ol, oe.cls = .type "enumerate" → oi.cls = .type "list_iterator" → ol.cls = .type "list" → ns[i]? = some n → i < ns.length → J i m₁ news₁ →
      (∀ p ∈ news₁, p.1 ≠ e ∧ p.1 ≠ it) →
      Fr h₀ env.locals h (fun y => if y = xc then some (.int n t) else if y = xi then some (.int i ti) else m₁ y) → News h₀ env.locals h ([(e, oe), (it, oi), (l, ol)] ++ news₁) →
      wpAny (model prog w) A (execs body env) (TPost h₀ env.locals [(e, oe), (it, oi), (l, ol)] e it (J (i + 1)) { s with heap := h, toks := tk } Q) E { s with heap := h, toks := tk })
    (done : ∀ m₁ news₁ h tk, J ns.length m₁ news₁ → Fr h₀ env.locals h m₁ → News h₀ env.locals h news₁ → Q .next { s with heap := h, toks := tk }) :
    wpAny (model prog w) A (call (.type "enumerate") [.ref l]) (fun xv s₁ => wpAny (model prog w) A (pyIter xv) (fun it s₂ => TurnsAt prog w A h₀ env (.Tuple [.Name xi pi, .Name xc pc] k pos) body Q E it s₂) E s₁) E s := by
  have hax := N _ (.head _)
  have hl : s.heap.IsList l vs.toArray := ⟨lo, hax.1, hc, nn, hd⟩
  have hlt : l < s.heap.objs.size := Heap.lt_size hax.1
  have hLs : env.locals < s.heap.objs.size := F.ns.lt
  have N' : News h₀ env.locals s.heap news := fun p hp => N p (.tail _ hp)
  refine call_enumerate_list hl fun h' hE hI hsz hk => ?_
  refine wpAny_pyIter_enum hE ?_
  have hlen : vs.toArray.size = ns.length := by simp [hi.length]
  have W := (KTurns.ofWalksU (elts := [.Name xi pi, .Name xc pc]) (k := k) (pos := pos) (WalksT.enumerate (prog := prog) (w := w) hh (s.heap.objs.size + 1) s.heap.objs.size l (Nat.succ_ne_self _) (ktu_ne 1 hlt) (Nat.ne_of_lt hlt) vs.toArray).toU)
  rw [hlen] at W
  refine ⟨s.heap.objs.size + 1, _, _, ns.length, _, _, _, m₀, news, fun i m₁ news₁ => J i m₁ news₁, rfl, W, ?_, ?_, ?_, ?_, F.keeps hk, N'.grown hk, hj, ?_, ?_⟩
  · intro hm
    rcases List.mem_cons.mp hm with e | hm
    · exact Nat.ne_of_lt (Nat.lt_succ_of_lt hLs) e
    · rcases List.mem_cons.mp hm with e | hm
      · exact Nat.ne_of_lt hLs e
      · exact hax.2.1 (List.mem_singleton.mp hm).symm
  · intro b hb
    rcases List.mem_cons.mp hb with rfl | hb
    · exact ktu_new F (Nat.le_add_right _ _)
    · rw [List.mem_singleton.mp hb]; exact ktu_new F (Nat.le_refl _)
  · intro p hp hb
    have hlt' := Heap.lt_size (N' p hp).1
    rcases List.mem_cons.mp hb with e | hb
    · exact Nat.ne_of_lt (Nat.lt_succ_of_lt hlt') e
    · exact Nat.ne_of_lt hlt' (List.mem_singleton.mp hb)
  · refine ⟨⟨_, by simpa using hE⟩, hI, hl.at fun o x => hk _ o x⟩
  · rintro i v m₁ news₁ h₁ tk₁ own hlt' ⟨T, vals, rfl, ⟨ti, x, hx, rfl⟩, hT⟩ hJ hnw hsub hown hall ⟨⟨old, he⟩, hit, hl₁⟩ F₁ N₁
    obtain ⟨t, hxi'⟩ := hi.get i ns[i] (by simp [hlt'])
    have hxv : x = .int ns[i] t := by
      have hx' : vs[i]? = some x := by simpa using hx
      rw [hxi'] at hx'; exact (Option.some.inj hx').symm
    subst hxv
    obtain ⟨oi, hoi, hoic, hoid⟩ := id hit
    have he' : ∃ oe : Obj, h₁.get? (s.heap.objs.size + 1) = some oe ∧ oe.cls = .type "enumerate" := ⟨_, he, rfl⟩
    obtain ⟨oe, hoe, hoec⟩ := he'
    obtain ⟨ol, hol, holc, hold⟩ := id hl₁
    have hne : h₀.get? (s.heap.objs.size + 1) = none := ktu_new F (Nat.le_add_right _ _)
    have hni : h₀.get? s.heap.objs.size = none := ktu_new F (Nat.le_refl _)
    have m1 := hall (s.heap.objs.size + 1) (by simp) hne oe hoe
    have m2 := hall s.heap.objs.size (by simp) hni oi hoi
    have m3 := hall l (by simp) hax.2.2 ol hol
    have same : ∀ p ∈ own, p ∈ [(s.heap.objs.size + 1, oe), (s.heap.objs.size, oi), (l, ol)] := by
      rintro ⟨a, o⟩ hp
      have h1 := hsub _ hp
      have h2 := hown _ hp
      dsimp only at h1 h2
      rcases List.mem_cons.mp h1 with rfl | h1
      · rw [hoe] at h2; cases h2; exact .head _
      · rcases List.mem_cons.mp h1 with rfl | h1
        · rw [hoi] at h2; cases h2; exact .tail _ (.head _)
        · have := List.mem_singleton.mp h1
          subst this
          rw [hol] at h2; cases h2; exact .tail _ (.tail _ (.head _))
    have N₂ : News h₀ env.locals h₁ ([(s.heap.objs.size + 1, oe), (s.heap.objs.size, oi), (l, ol)] ++ news₁) := by
      intro p hp
      rcases List.mem_append.mp hp with hp | hp
      · refine N₁ p (List.mem_append_left _ ?_)
        rcases List.mem_cons.mp hp with rfl | hp
        · exact m1
        · rcases List.mem_cons.mp hp with rfl | hp
          · exact m2
          · rw [List.mem_singleton.mp hp]; exact m3
      · exact N₁ p (List.mem_append_right _ hp)
    refine wpAny_assign_Tuple hh hT rfl rfl fun h₃ hx₃ => ?_
    replace hx₃ : Heap.ExtBut h₁.objs.size h₁ h₃ := hx₃
    have up₃ : ∀ b o, h₁.get? b = some o → h₃.get? b = some o := fun b o x => hx₃ b o (Nat.ne_of_lt (Heap.lt_size x)) x
    have F₃ := F₁.keeps up₃
    have N₃ := N₂.grown up₃
    show wpAny _ A (do holding [Value.int ns[i] t] (assign (.Name xi pi) env (Value.int i ti)); do holding [] (assign (.Name xc pc) env (Value.int ns[i] t)); pure ()) _ _ _
    refine wpAny_bind (wpAny_holding (wpAny_assign_Name (wpAny_storeName_local hxi F₃.ns (fun h₄ hn₄ hs₄ => ?_) hp)))
    replace hs₄ : Heap.SameBut env.locals h₃ h₄ := hs₄
    have F₄ := F₃.set hn₄ hs₄
    refine wpAny_bind (wpAny_holding (wpAny_assign_Name (wpAny_storeName_local hxc F₄.ns (fun h₅ hn₅ hs₅ => wpAny_pure ?_) hp)))
    replace hs₅ : Heap.SameBut env.locals h₄ h₅ := hs₅
    have F₅ := F₄.set hn₅ hs₅
    have N₅ := (N₃.set hs₄).set hs₅
    have hnw' : ∀ p ∈ news₁, p.1 ≠ s.heap.objs.size + 1 ∧ p.1 ≠ s.heap.objs.size := fun p hp => ⟨fun e => hnw p hp (by simp [e]), fun e => hnw p hp (by simp [e])⟩
    refine wpAny_mono (turn i ns[i] t ti m₁ news₁ h₅ _ _ _ oe oi ol hoec hoic holc (by simp [hlt']) hlt' hJ hnw' F₅ N₅) (fun f s₂ p => ?_) fun _ _ e => e
    have fin : (∃ h' tk m' news', s₂ = { s with heap := h', toks := tk } ∧ Fr h₀ env.locals h' m' ∧ News h₀ env.locals h' ([(s.heap.objs.size + 1, oe), (s.heap.objs.size, oi), (l, ol)] ++ news') ∧ (∀ p ∈ news', p.1 ≠ s.heap.objs.size + 1 ∧ p.1 ≠ s.heap.objs.size) ∧ J (i + 1) m' news') →
        LoopStepU h₀ env.locals [s.heap.objs.size + 1, s.heap.objs.size] own (J (i + 1)) { s with heap := h₁, toks := tk₁ } .next s₂ := by
      rintro ⟨h', tk, m', news', rfl, F', N', ha, hJ'⟩
      refine ⟨rfl, h', tk, m', news', rfl, F', fun p hp => ?_, fun p hp hb => ?_, hJ'⟩
      · rcases List.mem_append.mp hp with hp | hp
        · exact N' p (List.mem_append_left _ (same p hp))
        · exact N' p (List.mem_append_right _ hp)
      · rcases List.mem_cons.mp hb with e | hb
        · exact (ha p hp).1 e
        · exact (ha p hp).2 (List.mem_singleton.mp hb)
    cases f with
    | ret v => exact p
    | brk => exact p
    | next => exact fin p
    | cont => exact fin p
  · intro h' tk m' news' F' N' _ hJ
    exact done m' news' h' tk hJ F' N'

/-- a turn's end where the ledger stays as it was -/
def CEnd (h₀ : Heap) (L : Addr) (led : List (Addr × Obj)) (xi xc : Str) (stored : List Str) (m₀ : Str → Option Value) (s₁ s₂ : Shared) : Prop :=
  ∃ h' tk m', s₂ = { s₁ with heap := h', toks := tk } ∧ Fr h₀ L h' m' ∧ News h₀ L h' led ∧ ∀ z, z ≠ xi → z ≠ xc → stored.contains z = false → m' z = m₀ z
def CPost (h₀ : Heap) (L : Addr) (led : List (Addr × Obj)) (xi xc : Str) (stored : List Str) (m₀ : Str → Option Value) (s₁ : Shared) (Q : Flow → Shared → Prop) (f : Flow) (s₂ : Shared) : Prop :=
  match f with
  | .ret v => Q (.ret v) s₂
  | .brk => Q .next s₂
  | _ => CEnd h₀ L led xi xc stored m₀ s₁ s₂
theorem CEnd.intro {L : Addr} {led all : List (Addr × Obj)} {xi xc : Str} {stored : List Str} {m₀ m' : Str → Option Value} {s₁ : Shared} {h' : Heap} {tk : Nat}
    (F : Fr h₀ L h' m') (N : News h₀ L h' all) (hs : ∀ p ∈ led, p ∈ all) (hm : ∀ z, z ≠ xi → z ≠ xc → stored.contains z = false → m' z = m₀ z) : CEnd h₀ L led xi xc stored m₀ s₁ { s₁ with heap := h', toks := tk } :=
  ⟨h', tk, m', rfl, F, fun p hp => N p (hs p hp), hm⟩

theorem enum_const {xi xc : Str} {pi pc : Pos} {k : Nat} {pos : Pos} {l : Addr} {lo : Obj} {vs : List Value} {ns : List Int} {nn : Nat} {m₀ : Str → Option Value} {news : List (Addr × Obj)}
    (stored : List Str)
    (hh : A.handled = none) (hxi : env.kindOf xi = some .local) (hxc : env.kindOf xc = some .local)
    (hp : (env.scope.kind == .class || (env.scope.kind == .module && env.locals != env.globals)) = false)
    (F : Fr h₀ env.locals s.heap m₀) (N : News h₀ env.locals s.heap ((l, lo) :: news)) (hc : lo.cls = .type "list") (hd : lo.data = .seq vs.toArray nn) (hi : IntsAre vs ns)
    (turn : ∀ (i : Nat) (n : Int) t ti (u : Str → Option Value) h tk e it oe oi ol, oe.cls = .type "enumerate" → oi.cls = .type "list_iterator" → ol.cls = .type "list" → ns[i]? = some n → i < ns.length →
      (∀ p ∈ news, p.1 ≠ e ∧ p.1 ≠ it) →
      Fr h₀ env.locals h (fun y => if y = xc then some (.int n t) else if y = xi then some (.int i ti) else if stored.contains y then u y else m₀ y) → News h₀ env.locals h ([(e, oe), (it, oi), (l, ol)] ++ news) →
      wpAny (model prog w) A (execs body env) (CPost h₀ env.locals ([(e, oe), (it, oi), (l, ol)] ++ news) xi xc stored m₀ { s with heap := h, toks := tk } Q) E { s with heap := h, toks := tk })
    (done : ∀ (u : Str → Option Value) h tk, Fr h₀ env.locals h (fun y => if y = xc then u y else if y = xi then u y else if stored.contains y then u y else m₀ y) → News h₀ env.locals h news → Q .next { s with heap := h, toks := tk }) :
    wpAny (model prog w) A (call (.type "enumerate") [.ref l]) (fun xv s₁ => wpAny (model prog w) A (pyIter xv) (fun it s₂ => TurnsAt prog w A h₀ env (.Tuple [.Name xi pi, .Name xc pc] k pos) body Q E it s₂) E s₁) E s := by
  refine enum_inv (fun _ m₁ news₁ => news₁ = news ∧ ∀ z, z ≠ xi → z ≠ xc → stored.contains z = false → m₁ z = m₀ z) hh hxi hxc hp F N hc hd hi ⟨rfl, fun _ _ _ _ => rfl⟩ ?_ ?_
  · rintro i n t ti m₁ news₁ h tk e it oe oi ol h1 h2 h3 hn hlt ⟨rfl, hm⟩ ha F₁ N₁
    have em : (fun y => if y = xc then some (Value.int n t) else if y = xi then some (Value.int i ti) else m₁ y) = (fun y => if y = xc then some (Value.int n t) else if y = xi then some (Value.int i ti) else if stored.contains y then m₁ y else m₀ y) := by
      funext y
      by_cases hy : y = xc
      · simp [hy]
      · by_cases hy' : y = xi
        · simp [hy']
        · simp only [hy, hy', if_false]
          cases hz : stored.contains y with
          | true => simp
          | false => simp only [Bool.false_eq_true, if_false]; exact hm y hy' hy hz
    rw [em] at F₁
    refine wpAny_mono (turn i n t ti m₁ h tk e it oe oi ol h1 h2 h3 hn hlt ha F₁ N₁) (fun f s₂ p => ?_) fun _ _ x => x
    have fin : CEnd h₀ env.locals ([(e, oe), (it, oi), (l, ol)] ++ news₁) xi xc stored m₀ { s with heap := h, toks := tk } s₂ → TPost h₀ env.locals [(e, oe), (it, oi), (l, ol)] e it (fun m₁ news₁' => news₁' = news₁ ∧ ∀ z, z ≠ xi → z ≠ xc → stored.contains z = false → m₁ z = m₀ z) { s with heap := h, toks := tk } Q .next s₂ := by
      rintro ⟨h', tk', m', rfl, F', N', hm'⟩
      exact ⟨h', tk', m', news₁, rfl, F', N', ha, rfl, hm'⟩
    cases f with
    | ret v => exact p
    | brk => exact p
    | next => exact fin p
    | cont => exact fin p
  · rintro m₁ news₁ h tk ⟨rfl, hm⟩ F₁ N₁
    refine done m₁ h tk ?_ N₁
    have em : (fun y => if y = xc then m₁ y else if y = xi then m₁ y else if stored.contains y then m₁ y else m₀ y) = m₁ := by
      funext y
      by_cases hy : y = xc
      · simp [hy]
      · by_cases hy' : y = xi
        · simp [hy']
        · simp only [hy, hy', if_false]
          cases hz : stored.contains y with
          | true => simp
          | false => simp only [Bool.false_eq_true, if_false]; exact (hm y hy' hy hz).symm
    rw [em]; exact F₁
end
section
variable {prog : Program} {w : World} {A₀ : Around} {E : Value → Shared → Prop} {s : Shared} {h₀ base : Heap} {outer : List Env} {K : Frag} {p : Program} {loose : List Str} {mean : ExcName → Option Value} {mg mb : Str → Option Value}
/-- a def called, all that stands taken as the callee's base -/
theorem call_pure {R : Result → Shared → Prop} {cn : Str} {cs : Scope} {L a : Addr} {ccd : Value} {m : Str → Option Value} {name qual : Str} {params : Arguments} {body : List Stmt} {scope : Scope} {dV kV doc pm cdv ct oc : Value} {an od : Option Addr} {osl : Array (Option Value)} {f : Addr} {args : Args} {binds : List (Str × Value)}
    (B : Below A₀ base outer h₀) (F : Fr h₀ L s.heap m) (X₀ : K.In h₀) (T : Top p loose mean mg mb h₀) (hke : cs.kind = .function)
    (ho : K.lookup f = some ⟨oc, od, .func (fnOf name qual params body scope dV kV doc pm an cdv ct), osl⟩) (hcd : codeIn K cdv qual = true) (hroom : (A₀.deeper (envOf cn cs L a ccd)).depth < recursionLimit)
    (hbind : BindsTo s (fnOf name qual params body scope dV kV doc pm an cdv ct) args binds) (hloc : ∀ y ∈ binds, scope.names.lookup y.1 = some .local)
    (h : ∀ L' h₁, Fr s.heap L' h₁ (fun y => binds.reverse.lookup y) → News s.heap L' h₁ [] → Below (A₀.deeper (envOf cn cs L a ccd)) base (envOf cn cs L a ccd :: outer) s.heap → K.In s.heap → Top p loose mean mg mb s.heap →
      wpAny (model prog w) ((A₀.deeper (envOf cn cs L a ccd)).deeper (envOf qual scope L' f cdv)) (execs body (envOf qual scope L' f cdv))
        (fun fl s' => R (.ok (.ret (match fl with | .ret v => v | _ => .none))) s')
        (fun e s' => wpAny (model prog w) ((A₀.deeper (envOf cn cs L a ccd)).deeper (envOf qual scope L' f cdv)) (leaving (envOf qual scope L' f cdv) e) (fun _ s'' => R (.error e) s'') (fun e' s'' => R (.error e') s'') s')
        { s with heap := h₁, toks := s.toks + binds.length })
    (hco : scope.isCoroutine = false) (hgen : scope.isGenerator = false) (hk : scope.kind = .function)
    (hcell : ∀ x ∈ scope.names, x.2 ≠ .cell) : codeAny (model prog w) (A₀.deeper (envOf cn cs L a ccd)) (.call (.ref f) args) R s := by
  have X := X₀.keeps F.keep
  have T' := T.keeps F.keep
  refine codeAny_call_def (fd := fnOf name qual params body scope dV kV doc pm an cdv ct) (body := body) (binds := binds) hroom (X _ _ ho) rfl T'.nolimit (codeRec_of X hcd) rfl hbind hcell hloc (fun h₁ hns hk₁ => ?_) hco hgen hk
  exact h s.heap.objs.size h₁ ⟨hns, hk₁, Nat.le_refl _⟩ (fun _ hp => nomatch hp) (B.push F hke) X T'
/-- the same for a def that captures names -/
theorem call_pureC {R : Result → Shared → Prop} {cn : Str} {cs : Scope} {L a : Addr} {ccd : Value} {m : Str → Option Value} {name qual : Str} {params : Arguments} {body : List Stmt} {scope : Scope} {dV kV doc pm cdv ct oc : Value} {an od : Option Addr} {osl : Array (Option Value)} {f : Addr} {args : Args} {binds : List (Str × Value)}
    (B : Below A₀ base outer h₀) (F : Fr h₀ L s.heap m) (X₀ : K.In h₀) (T : Top p loose mean mg mb h₀) (hke : cs.kind = .function)
    (ho : K.lookup f = some ⟨oc, od, .func (fnOf name qual params body scope dV kV doc pm an cdv ct), osl⟩) (hcd : codeIn K cdv qual = true) (hroom : (A₀.deeper (envOf cn cs L a ccd)).depth < recursionLimit)
    (hbind : BindsTo s (fnOf name qual params body scope dV kV doc pm an cdv ct) args binds) (hkind : (binds.all fun y => scope.names.lookup y.1 == some .local || scope.names.lookup y.1 == some .cell) = true)
    (hnd : ((cellsFrom 0 scope.names []).map (·.1)).Nodup)
    (h : ∀ L' h₁ tk cells, Fr s.heap L' h₁ (bindL (envOfC qual scope L' f cdv).kindOf binds fun _ => none) → News s.heap L' h₁ cells →
      CellsAre (bindC (envOfC qual scope L' f cdv).kindOf binds fun _ => none) (cellsFrom (L' + 1) scope.names []) cells →
      Below (A₀.deeper (envOf cn cs L a ccd)) base (envOf cn cs L a ccd :: outer) s.heap → K.In s.heap → Top p loose mean mg mb s.heap →
      wpAny (model prog w) ((A₀.deeper (envOf cn cs L a ccd)).deeper (envOfC qual scope L' f cdv)) (execs body (envOfC qual scope L' f cdv))
        (fun fl s' => R (.ok (.ret (match fl with | .ret v => v | _ => .none))) s')
        (fun e s' => wpAny (model prog w) ((A₀.deeper (envOf cn cs L a ccd)).deeper (envOfC qual scope L' f cdv)) (leaving (envOfC qual scope L' f cdv) e) (fun _ s'' => R (.error e) s'') (fun e' s'' => R (.error e') s'') s')
        { s with heap := h₁, toks := tk })
    (hco : scope.isCoroutine = false) (hgen : scope.isGenerator = false) (hk : scope.kind = .function) : codeAny (model prog w) (A₀.deeper (envOf cn cs L a ccd)) (.call (.ref f) args) R s := by
  have X := X₀.keeps F.keep
  have T' := T.keeps F.keep
  refine codeAny_call_function hroom (X _ _ ho) rfl hco hgen rfl (codeRec_of X hcd) (hbind _ _ _ _ ?_)
  refine wpAny_newFunctionEnv_cells hk (kindsX hkind _) fun env' he s' x => ?_
  subst he
  refine ⟨T'.nolimit.keeps x.toInCall.keep, codeAny_func ?_⟩
  obtain ⟨h₁, tk, rfl, _⟩ := x.done
  have hk₁ := x.toInCall.keep
  obtain ⟨cells, NC, Y⟩ := Cl.news (h₀ := s.heap) (Nat.le_refl _) fun n c hm => ⟨x.cell n c (lookup_of_mem_nodup (cellsFrom_names scope.names 0 (s.heap.objs.size + 1) [] [] rfl ▸ hnd) hm), x.above n c hm⟩
  exact h s.heap.objs.size h₁ tk cells ⟨x.toInCall.ns, hk₁, Nat.le_refl _⟩ NC Y (B.push F hke) X T'
end
section
variable {M : Model} {A : Around} {E : Value → Shared → Prop} {s : Shared} {env : Env} {h₀ : Heap} {L : Addr} {m : Str → Option Value} {news : List (Addr × Obj)}
/-- an int stored under a letter of its own -/
theorem stG {x : Str} {e : Int} {t : Tok} {Q : Unit → Shared → Prop} (F : Fr h₀ L s.heap m) (N : News h₀ L s.heap news) (hL : env.locals = L) (hl : env.kindOf x = some .local)
    (hp : (env.scope.kind == .class || (env.scope.kind == .module && env.locals != env.globals)) = false)
    (h : ∀ r h', r = e → Fr h₀ L h' (fun y => if y = x then some (.int r t) else m y) → News h₀ L h' news → Q () { s with heap := h', toks := s.toks + 1 }) :
    wpAny M A (storeName env x (.int e t)) Q E s := by
  subst hL
  exact wpAny_storeName_local hl F.ns (fun h' hn hs => h e h' rfl (F.set hn hs) (N.set hs)) hp
end
section
variable {prog : Program} {w : World} {A : Around} {E : Value → Shared → Prop} {s : Shared} {Q : Value → Shared → Prop} {a b n : Int} {t u : Tok}
theorem fdiv_facts (a : Int) {b : Int} (hb : 0 < b) : b * a.fdiv b ≤ a ∧ a < b * a.fdiv b + b := by
  have h1 := Int.mul_fdiv_add_fmod a b
  have h2 := Int.fmod_nonneg_of_pos a hb
  have h3 := Int.fmod_lt_of_pos a hb
  omega
theorem fdiv_le {a b : Int} (ha : 0 ≤ a) (hb : 0 < b) : a.fdiv b ≤ a := by
  have h0 := Int.fdiv_nonneg ha (Int.le_of_lt hb)
  have h1 := (fdiv_facts a hb).1
  have h2 : a.fdiv b * 1 ≤ a.fdiv b * b := Int.mul_le_mul_of_nonneg_left (by omega) h0
  rw [Int.mul_comm] at h1
  omega
theorem fdiv_lit (hb : 0 < b) (hp : b.natAbs.log2 < 9000) (ha : 0 ≤ a) (h : ∀ q, 0 ≤ q → q ≤ a → b * q ≤ a → a < b * q + b → Q (.int q s.toks) { s with toks := s.toks + 1 }) :
    wpAny (model prog w) A (binaryOp .FloorDiv (.int a t) (.int b u)) Q E s :=
  floordiv_int (by omega) (h _ (Int.fdiv_nonneg ha (by omega)) (fdiv_le ha hb) (fdiv_facts a hb).1 (fdiv_facts a hb).2) (Or.inl (PyProof.noPylong_of_log2 hp))
theorem fmod_lit (hb : 0 < b) (h : ∀ q r, a = b * q + r → 0 ≤ r → r < b → Q (.int r s.toks) { s with toks := s.toks + 1 }) :
    wpAny (model prog w) A (binaryOp .Mod (.int a t) (.int b u)) Q E s :=
  mod_int' (by omega) (h (a.fdiv b) _ (Int.mul_fdiv_add_fmod a b).symm (Int.fmod_nonneg_of_pos a hb) (Int.fmod_lt_of_pos a hb))
theorem pow_lit (hn : 0 ≤ b) (hn2 : b ≤ 1000000) (ha : a.natAbs < 2 ^ 64) (h : ∀ r, r = a ^ b.toNat → Q (.int r s.toks) { s with toks := s.toks + 1 }) :
    wpAny (model prog w) A (binaryOp .Pow (.int a t) (.int b u)) Q E s := pow_int_small hn hn2 ha (h _ rfl)
theorem str_lit (h0 : 0 ≤ n) (h1 : n < 2 ^ 200) (h : Q (.str (Str.ofString (toString n)) s.toks) { s with toks := s.toks + 1 }) :
    wpAny (model prog w) A (call (.type "str") [.int n t]) Q E s :=
  P.str_of_int (shown (N := 2 ^ 1920) (Int.lt_of_lt_of_le (by decide +kernel) h0) (Int.lt_trans h1 (by decide +kernel)) (Int.le_refl _)) h
end
theorem isLit {r : Int} {n : Nat} [OfNat Int n] (_h : r = (no_index (OfNat.ofNat n) : Int)) : True := trivial
end Mine
end
section
open PySem PySem.W PyProof.Rows PySem.Calls PySem.Builtin PySem.Builtin.Str
set_option Elab.async false
set_option maxRecDepth 100000
namespace Mine
/-- the text that % lays for a float -/
def rawF (x : UInt64) (p : Nat) : List Nat := (if (Float64.text x 'f' p false false false).1 then [45] else []) ++ (Float64.text x 'f' p false false false).2.map Char.toNat
def fldF (sg : Bool) (p : Nat) (x : UInt64) : List Nat :=
  (percentField { sign := sg, prec := some p, type := 102 } true (rawF x p)).getD (rawF x p)
theorem pickF (sg : Bool) (p : Nat) (x : UInt64) (w' : Writer) (pend : List Value) (rest : List Nat) :
    (match percentField { sign := sg, prec := some p, type := 102 } true (rawF x p) with
      | none => (pure (ForInStep.yield (pend, w'.add ⟨(rawF x p).toArray⟩ none, rest)) : Sem (ForInStep (List Value × Writer × List Nat)))
      | some l => pure (ForInStep.yield (pend, w'.add ⟨l.toArray⟩ none, rest))) = pure (ForInStep.yield (pend, w'.add ⟨(fldF sg p x).toArray⟩ none, rest)) := by
  unfold fldF
  cases percentField { sign := sg, prec := some p, type := 102 } true (rawF x p) <;> rfl
theorem meets_p1 (b : Addr) (x : UInt64) (u v t : Tok) (y : PySem.Str) (hy : y.length ≤ 1000) (hx : (fldF true 1 x).length ≤ 1000000) :
    Meets («str.__mod__» ⟨[.str ⟨#[37, 43, 46, 49, 102, 32, 37, 115]⟩ t, .ref b], []⟩) (fun _ R s => IsTup s.heap b #[.float x u, .str y v] ∧ ∀ t' k, R (.ok (.ret (.str (⟨(fldF true 1 x).toArray⟩ ++ PySem.Str.ofString " " ++ y) t'))) { s with toks := k }) := by
  apply KPt.meets_tup
  intro _ _ _ _ _ _ kptH hR
  obtain ⟨kptO, kptG, kptC, kptN, kptD⟩ := kptH
  rw [KPt.entry_is_r]
  unfold Builtin.Str.percentFormat
  refine wpAny_bind (wpAny_isInstance (T := "tuple") ⟨kptO, kptG, kptC⟩ KPt.sub_tt ?_)
  refine wpAny_bind (KPt.asStr_ref kptG kptD ?_)
  refine wpAny_bind (KPt.fills_ref ⟨kptO, kptG, kptC⟩ ?_)
  intro _
  kpc_if
  refine wpAny_bind (wpAny_seqItems kptG kptD ?_)
  refine wpAny_bind (wpAny_pure ?_)
  refine wpAny_bind ?_
  rw [KPc.range_list]
  refine KPc.start ?_
  intro w' g'
  refine KPc.turn ?_; kpc_check; (repeat kpc_if)
  refine wpAny_bind ?_; refine wpAny_holding ?_; (repeat kpc_if)
  refine wpAny_bind (wpAny_of_eq (a := x) rfl ?_)
  refine wpAny_of_eq (a := (rawF x 1, none, true)) (by kernel_rfl) ?_
  refine wpAny_of_eq (Eq.trans (by kernel_rfl) (pickF true 1 x w' [.str y v] [32, 37, 115])) ?_
  refine KPc.after_str0 (y := ⟨(fldF true 1 x).toArray⟩) (K := 1000000) (by assumption) hx (KPc.obj_none rfl) ?_
  intro w2 g2
  kpt_turns
theorem meets_n1 (b : Addr) (x : UInt64) (u v t : Tok) (y : PySem.Str) (hy : y.length ≤ 1000) (hx : (fldF false 1 x).length ≤ 1000000) :
    Meets («str.__mod__» ⟨[.str ⟨#[37, 46, 49, 102, 32, 37, 115]⟩ t, .ref b], []⟩) (fun _ R s => IsTup s.heap b #[.float x u, .str y v] ∧ ∀ t' k, R (.ok (.ret (.str (⟨(fldF false 1 x).toArray⟩ ++ PySem.Str.ofString " " ++ y) t'))) { s with toks := k }) := by
  apply KPt.meets_tup
  intro _ _ _ _ _ _ kptH hR
  obtain ⟨kptO, kptG, kptC, kptN, kptD⟩ := kptH
  rw [KPt.entry_is_r]
  unfold Builtin.Str.percentFormat
  refine wpAny_bind (wpAny_isInstance (T := "tuple") ⟨kptO, kptG, kptC⟩ KPt.sub_tt ?_)
  refine wpAny_bind (KPt.asStr_ref kptG kptD ?_)
  refine wpAny_bind (KPt.fills_ref ⟨kptO, kptG, kptC⟩ ?_)
  intro _
  kpc_if
  refine wpAny_bind (wpAny_seqItems kptG kptD ?_)
  refine wpAny_bind (wpAny_pure ?_)
  refine wpAny_bind ?_
  rw [KPc.range_list]
  refine KPc.start ?_
  intro w' g'
  refine KPc.turn ?_; kpc_check; (repeat kpc_if)
  refine wpAny_bind ?_; refine wpAny_holding ?_; (repeat kpc_if)
  refine wpAny_bind (wpAny_of_eq (a := x) rfl ?_)
  refine wpAny_of_eq (a := (rawF x 1, none, true)) (by kernel_rfl) ?_
  refine wpAny_of_eq (Eq.trans (by kernel_rfl) (pickF false 1 x w' [.str y v] [32, 37, 115])) ?_
  refine KPc.after_str0 (y := ⟨(fldF false 1 x).toArray⟩) (K := 1000000) (by assumption) hx (KPc.obj_none rfl) ?_
  intro w2 g2
  kpt_turns
theorem meets_p0 (b : Addr) (x : UInt64) (u v t : Tok) (y : PySem.Str) (hy : y.length ≤ 1000) (hx : (fldF true 0 x).length ≤ 1000000) :
    Meets («str.__mod__» ⟨[.str ⟨#[37, 43, 46, 48, 102, 32, 37, 115]⟩ t, .ref b], []⟩) (fun _ R s => IsTup s.heap b #[.float x u, .str y v] ∧ ∀ t' k, R (.ok (.ret (.str (⟨(fldF true 0 x).toArray⟩ ++ PySem.Str.ofString " " ++ y) t'))) { s with toks := k }) := by
  apply KPt.meets_tup
  intro _ _ _ _ _ _ kptH hR
  obtain ⟨kptO, kptG, kptC, kptN, kptD⟩ := kptH
  rw [KPt.entry_is_r]
  unfold Builtin.Str.percentFormat
  refine wpAny_bind (wpAny_isInstance (T := "tuple") ⟨kptO, kptG, kptC⟩ KPt.sub_tt ?_)
  refine wpAny_bind (KPt.asStr_ref kptG kptD ?_)
  refine wpAny_bind (KPt.fills_ref ⟨kptO, kptG, kptC⟩ ?_)
  intro _
  kpc_if
  refine wpAny_bind (wpAny_seqItems kptG kptD ?_)
  refine wpAny_bind (wpAny_pure ?_)
  refine wpAny_bind ?_
  rw [KPc.range_list]
  refine KPc.start ?_
  intro w' g'
  refine KPc.turn ?_; kpc_check; (repeat kpc_if)
  refine wpAny_bind ?_; refine wpAny_holding ?_; (repeat kpc_if)
  refine wpAny_bind (wpAny_of_eq (a := x) rfl ?_)
  refine wpAny_of_eq (a := (rawF x 0, none, true)) (by kernel_rfl) ?_
  refine wpAny_of_eq (Eq.trans (by kernel_rfl) (pickF true 0 x w' [.str y v] [32, 37, 115])) ?_
  refine KPc.after_str0 (y := ⟨(fldF true 0 x).toArray⟩) (K := 1000000) (by assumption) hx (KPc.obj_none rfl) ?_
  intro w2 g2
  kpt_turns
theorem meets_n0 (b : Addr) (x : UInt64) (u v t : Tok) (y : PySem.Str) (hy : y.length ≤ 1000) (hx : (fldF false 0 x).length ≤ 1000000) :
    Meets («str.__mod__» ⟨[.str ⟨#[37, 46, 48, 102, 32, 37, 115]⟩ t, .ref b], []⟩) (fun _ R s => IsTup s.heap b #[.float x u, .str y v] ∧ ∀ t' k, R (.ok (.ret (.str (⟨(fldF false 0 x).toArray⟩ ++ PySem.Str.ofString " " ++ y) t'))) { s with toks := k }) := by
  apply KPt.meets_tup
  intro _ _ _ _ _ _ kptH hR
  obtain ⟨kptO, kptG, kptC, kptN, kptD⟩ := kptH
  rw [KPt.entry_is_r]
  unfold Builtin.Str.percentFormat
  refine wpAny_bind (wpAny_isInstance (T := "tuple") ⟨kptO, kptG, kptC⟩ KPt.sub_tt ?_)
  refine wpAny_bind (KPt.asStr_ref kptG kptD ?_)
  refine wpAny_bind (KPt.fills_ref ⟨kptO, kptG, kptC⟩ ?_)
  intro _
  kpc_if
  refine wpAny_bind (wpAny_seqItems kptG kptD ?_)
  refine wpAny_bind (wpAny_pure ?_)
  refine wpAny_bind ?_
  rw [KPc.range_list]
  refine KPc.start ?_
  intro w' g'
  refine KPc.turn ?_; kpc_check; (repeat kpc_if)
  refine wpAny_bind ?_; refine wpAny_holding ?_; (repeat kpc_if)
  refine wpAny_bind (wpAny_of_eq (a := x) rfl ?_)
  refine wpAny_of_eq (a := (rawF x 0, none, true)) (by kernel_rfl) ?_
  refine wpAny_of_eq (Eq.trans (by kernel_rfl) (pickF false 0 x w' [.str y v] [32, 37, 115])) ?_
  refine KPc.after_str0 (y := ⟨(fldF false 0 x).toArray⟩) (K := 1000000) (by assumption) hx (KPc.obj_none rfl) ?_
  intro w2 g2
  kpt_turns
end Mine
end
section
set_option maxRecDepth 100000
namespace Mine
open PySem PySem.Float64

/-- the float x is (-1)^neg * N / D -/
def IsVal (x : UInt64) (neg : Bool) (N D : Nat) : Prop :=
  0 < D ∧ ∃ m e, decode x = .fin neg m e ∧ m * 2 ^ (e + 1074).toNat * D = N * 2 ^ 1074

theorem V_rep : ∀ (j M : Nat), M ≤ 2 ^ 53 → ∃ t, V t = M * 2 ^ j
  | 0, M, h => ⟨0 * 2 ^ 52 + M, V_at h (.inr rfl)⟩
  | j + 1, M, h => by
    by_cases h2 : 2 ^ 52 ≤ M
    · exact ⟨_, V_at h (.inl h2)⟩
    · obtain ⟨t, ht⟩ := V_rep j (2 * M) (by omega)
      exact ⟨t, by rw [ht, Nat.pow_succ]; ac_rfl⟩

theorem dist_zero {a b : Nat} (h : dist a b = 0) : a = b := by unfold dist at h; omega
theorem dist_self (a : Nat) : dist a a = 0 := by unfold dist; omega

theorem right_exact {r : UInt64} {neg : Bool} {W D : Nat} (h : Right r neg W D) (hrep : ∃ M j, M ≤ 2 ^ 53 ∧ W = D * (M * 2 ^ j)) (hov : 2 * W < D * ((2 ^ 54 - 1) * 2 ^ 2045)) :
    ∃ m e, decode r = .fin neg m e ∧ D * (m * 2 ^ (e + 1074).toNat) = W := by
  obtain ⟨t, rfl, hle, hinf, hn⟩ := h
  have hlt : t < infMag := by
    rcases Nat.lt_or_eq_of_le hle with h | h
    · exact h
    · have := hinf.mp h; omega
  obtain ⟨M, j, hM, rfl⟩ := hrep
  obtain ⟨t', ht'⟩ := V_rep j M hM
  have h1 := (hn hlt t').1
  rw [ht', dist_self] at h1
  have h2 := dist_zero (Nat.le_zero.mp h1)
  obtain ⟨m, e, hd, hv⟩ := decode_pack neg hlt
  exact ⟨m, e, hd, by rw [hv, ← h2]⟩

/-- whole numbers over whole numbers, where a float holds the quotient -/
theorem val_ofFrac {neg : Bool} {n d : Nat} (hd : 0 < d) (hrep : ∃ M j, M ≤ 2 ^ 53 ∧ n * 2 ^ 1074 = d * (M * 2 ^ j)) (hov : 2 * (n * 2 ^ 1074) < d * ((2 ^ 54 - 1) * 2 ^ 2045)) : IsVal (ofFrac neg n d) neg n d := by
  have R := ofFrac_right (neg := neg) (n := n) (d := d) (W := n * 2 ^ 1074) (D := d) hd rfl hd
  obtain ⟨m, e, h1, h2⟩ := right_exact R hrep hov
  exact ⟨hd, m, e, h1, by rw [Nat.mul_comm, h2]⟩

theorem decode_1024 : decode (ofInt 1024) = .fin false (2 ^ 52) (-42) := by kernel_rfl
theorem val_1024 : (val (ofInt 1024)).natAbs = 1024 * 2 ^ 1074 := by
  rw [val_natAbs decode_1024]
  have e : (-42 + 1074 : Int).toNat = 1032 := by decide
  rw [e]
  have : (1024 : Nat) = 2 ^ 10 := by decide
  rw [this, ← Nat.pow_add, ← Nat.pow_add]

theorem pow_le_cancel {a b : Nat} (h : (2 : Nat) ^ a < 2 ^ b) : a < b := (Nat.pow_lt_pow_iff_right (by decide)).mp h

/-- a float over 1024 -/
theorem val_div {x : UInt64} {neg : Bool} {N D : Nat} (V : IsVal x neg N D) (hD : D ≤ 2 ^ 500) : IsVal (div x (ofInt 1024)) neg N (D * 1024) := by
  obtain ⟨hD0, m, e, hd, hv⟩ := V
  have hge := decode_ge hd
  have hlt := (decode_le hd).1
  have hle := (decode_le hd).2
  have R := div_right hd decode_1024 (by decide)
  rw [val_1024, val_natAbs hd] at R
  have hb : (neg != false) = neg := by cases neg <;> rfl
  rw [hb] at R
  have key : ∃ M j, M ≤ 2 ^ 53 ∧ m * 2 ^ (e + 1074).toNat = 1024 * (M * 2 ^ j) := by
    by_cases h0 : m = 0
    · exact ⟨0, 0, by decide, by rw [h0]; simp⟩
    · have hN : 1 ≤ N := by
        rcases Nat.eq_zero_or_pos N with h | h
        · rw [h, Nat.zero_mul] at hv
          have : 0 < m * 2 ^ (e + 1074).toNat * D := Nat.mul_pos (Nat.mul_pos (Nat.pos_of_ne_zero h0) (Nat.two_pow_pos _)) hD0
          omega
        · exact h
      have h1 : (2 : Nat) ^ 1074 < 2 ^ (53 + (e + 1074).toNat + 500) := by
        calc (2 : Nat) ^ 1074 ≤ N * 2 ^ 1074 := Nat.le_mul_of_pos_left _ hN
          _ = m * 2 ^ (e + 1074).toNat * D := hv.symm
          _ ≤ m * 2 ^ (e + 1074).toNat * 2 ^ 500 := Nat.mul_le_mul_left _ hD
          _ < 2 ^ 53 * 2 ^ (e + 1074).toNat * 2 ^ 500 := Nat.mul_lt_mul_of_pos_right (Nat.mul_lt_mul_of_pos_right hlt (Nat.two_pow_pos _)) (Nat.two_pow_pos _)
          _ = 2 ^ (53 + (e + 1074).toNat + 500) := by rw [Nat.pow_add, Nat.pow_add]
      have h2 := pow_le_cancel h1
      refine ⟨m, (e + 1074).toNat - 10, Nat.le_of_lt hlt, ?_⟩
      have h3 : (e + 1074).toNat = ((e + 1074).toNat - 10) + 10 := by omega
      generalize hk : (e + 1074).toNat - 10 = k at h3 ⊢
      rw [h3, Nat.pow_add]
      have : (2 : Nat) ^ 10 = 1024 := by decide
      rw [this]; ac_rfl
  obtain ⟨M, j, hM, hMj⟩ := key
  have hrep : ∃ M j, M ≤ 2 ^ 53 ∧ m * 2 ^ (e + 1074).toNat * 2 ^ 1074 = 1024 * 2 ^ 1074 * (M * 2 ^ j) := ⟨M, j, hM, by rw [hMj]; ac_rfl⟩
  have hov : 2 * (m * 2 ^ (e + 1074).toNat * 2 ^ 1074) < 1024 * 2 ^ 1074 * ((2 ^ 54 - 1) * 2 ^ 2045) := by
    have h1 : m * 2 ^ (e + 1074).toNat < 2 ^ 53 * 2 ^ 2045 := by
      calc m * 2 ^ (e + 1074).toNat < 2 ^ 53 * 2 ^ (e + 1074).toNat := Nat.mul_lt_mul_of_pos_right hlt (Nat.two_pow_pos _)
        _ ≤ 2 ^ 53 * 2 ^ 2045 := Nat.mul_le_mul_left _ (Nat.pow_le_pow_right (by decide) (by omega))
    have h2 : 2 * (m * 2 ^ (e + 1074).toNat) < 1024 * ((2 ^ 54 - 1) * 2 ^ 2045) := by
      generalize (2 : Nat) ^ 2045 = K at *
      omega
    calc 2 * (m * 2 ^ (e + 1074).toNat * 2 ^ 1074) = 2 * (m * 2 ^ (e + 1074).toNat) * 2 ^ 1074 := by ac_rfl
      _ < 1024 * ((2 ^ 54 - 1) * 2 ^ 2045) * 2 ^ 1074 := Nat.mul_lt_mul_of_pos_right h2 (Nat.two_pow_pos _)
      _ = 1024 * 2 ^ 1074 * ((2 ^ 54 - 1) * 2 ^ 2045) := by ac_rfl
  obtain ⟨m', e', h1, h2⟩ := right_exact R hrep hov
  refine ⟨by omega, m', e', h1, ?_⟩
  have h3 : 1024 * (m' * 2 ^ (e' + 1074).toNat) = m * 2 ^ (e + 1074).toNat := by
    refine Nat.eq_of_mul_eq_mul_right (Nat.two_pow_pos 1074) ?_
    rw [← h2]; ac_rfl
  calc m' * 2 ^ (e' + 1074).toNat * (D * 1024) = 1024 * (m' * 2 ^ (e' + 1074).toNat) * D := by ac_rfl
    _ = N * 2 ^ 1074 := by rw [h3, hv]

theorem decode_absF {x : UInt64} {a : Bool} {m : Nat} {e : Int} (h : decode x = .fin a m e) : decode (Float64.abs x) = .fin false m e := by
  have hn : isNaN x = false := by unfold isNaN; rw [h]
  unfold Float64.abs
  rw [hn]
  simp only [Bool.false_eq_true, if_false]
  have hx : x.toNat % 2 ^ 63 < 2 ^ 63 := Nat.mod_lt _ (by decide)
  have ht := pack_toNat false hx
  simp only [Bool.false_eq_true, if_false, Nat.zero_add] at ht
  unfold decode at h ⊢
  rw [ht]
  have e1 : x.toNat % 2 ^ 63 / 2 ^ 63 = 0 := by omega
  have e2 : x.toNat % 2 ^ 63 / 2 ^ 52 % 2048 = x.toNat / 2 ^ 52 % 2048 := by omega
  have e3 : x.toNat % 2 ^ 63 % 2 ^ 52 = x.toNat % 2 ^ 52 := by omega
  simp only [e1, e2, e3]
  simp only at h
  split at h
  · split at h <;> cases h
  · rename_i q1
    rw [if_neg q1]
    split at h
    · rename_i q2
      rw [if_pos q2]
      cases h; rfl
    · rename_i q2
      rw [if_neg q2]
      cases h; rfl

theorem cmp_abs {x : UInt64} {neg : Bool} {N D : Nat} (V : IsVal x neg N D) (c : Nat) : (cmpInt (Float64.abs x) (c : Int) == some Ordering.lt) = decide (N < c * D) := by
  obtain ⟨hD0, m, e, hd, hv⟩ := V
  have ha := decode_absF hd
  rw [cmpInt_right ha]
  have hval : val (Float64.abs x) = ((m * 2 ^ (e + 1074).toNat : Nat) : Int) := by rw [val_eq ha]; rfl
  rw [hval]
  have hiff : ((m * 2 ^ (e + 1074).toNat : Nat) : Int) < (c : Int) * 2 ^ 1074 ↔ N < c * D := by
    have h1 : ((c : Int) * 2 ^ 1074) = ((c * 2 ^ 1074 : Nat) : Int) := by rw [Int.natCast_mul, Int.natCast_pow]; rfl
    rw [h1, Int.ofNat_lt]
    constructor
    · intro h
      have h2 : m * 2 ^ (e + 1074).toNat * D < c * 2 ^ 1074 * D := Nat.mul_lt_mul_of_pos_right h hD0
      rw [hv] at h2
      refine Nat.lt_of_mul_lt_mul_right (a := 2 ^ 1074) ?_
      calc N * 2 ^ 1074 < c * 2 ^ 1074 * D := h2
        _ = c * D * 2 ^ 1074 := by ac_rfl
    · intro h
      have h2 : N * 2 ^ 1074 < c * D * 2 ^ 1074 := Nat.mul_lt_mul_of_pos_right h (Nat.two_pow_pos _)
      rw [← hv] at h2
      refine Nat.lt_of_mul_lt_mul_right (a := D) ?_
      calc m * 2 ^ (e + 1074).toNat * D < c * D * 2 ^ 1074 := h2
        _ = c * 2 ^ 1074 * D := by ac_rfl
  have hc : ∀ a b : Int, (some (compare a b) == some Ordering.lt) = decide (a < b) := by
    intro a b
    show (compareOfLessAndEq a b == Ordering.lt) = _
    unfold compareOfLessAndEq
    by_cases h : a < b
    · simp [h]
    · simp only [h, if_false]
      split <;> simp
  rw [hc]
  exact decide_eq_decide.mpr hiff
end Mine
end
section
set_option maxRecDepth 100000
namespace Mine
open PySem PySem.Float64

theorem he_core {a d q : Nat} (hd : 0 < d) (h1 : 2 * d * q ≤ 2 * a + d) (h2 : 2 * a + d < 2 * d * q + 2 * d) :
    (2 * (a % d) < d ∧ q = a / d) ∨ (d ≤ 2 * (a % d) ∧ q = a / d + 1) := by
  have hdiv : d * (a / d) + a % d = a := Nat.div_add_mod a d
  have hlt : a % d < d := Nat.mod_lt _ hd
  generalize a / d = Q at *
  generalize a % d = r at *
  have e1 : 2 * d * q = d * (2 * q) := by ac_rfl
  have e2 : 2 * d * q + 2 * d = d * (2 * q + 2) := by rw [Nat.mul_add, e1]; omega
  have e3 : d * (2 * Q) = 2 * (d * Q) := by ac_rfl
  by_cases h : 2 * r < d
  · refine .inl ⟨h, ?_⟩
    have k1 : d * (2 * q) < d * (2 * Q + 2) := by
      have : d * (2 * Q + 2) = 2 * (d * Q) + 2 * d := by rw [Nat.mul_add, e3]; omega
      rw [this, ← e1]; omega
    have k2 : d * (2 * Q) < d * (2 * q + 2) := by rw [← e2, e3]; omega
    have := Nat.lt_of_mul_lt_mul_left k1
    have := Nat.lt_of_mul_lt_mul_left k2
    omega
  · refine .inr ⟨by omega, ?_⟩
    have k1 : d * (2 * q) < d * (2 * Q + 4) := by
      have : d * (2 * Q + 4) = 2 * (d * Q) + 4 * d := by rw [Nat.mul_add, e3]; omega
      rw [this, ← e1]; omega
    have k2 : d * (2 * Q + 2) < d * (2 * q + 2) + 1 := by
      have : d * (2 * Q + 2) = 2 * (d * Q) + 2 * d := by rw [Nat.mul_add, e3]; omega
      rw [this, ← e2]; omega
    have := Nat.lt_of_mul_lt_mul_left k1
    have k3 : d * (2 * Q + 2) ≤ d * (2 * q + 2) := by omega
    have k4 : 2 * Q + 2 ≤ 2 * q + 2 := Nat.le_of_mul_le_mul_left k3 hd
    rcases Nat.lt_or_eq_of_le k4 with k5 | k5
    · omega
    · exfalso
      have hq : q = Q := by omega
      subst hq
      omega
theorem he_val (a d : Nat) : halfEven a d = if 2 * (a % d) > d ∨ (2 * (a % d) = d ∧ a / d % 2 = 1) then a / d + 1 else a / d := by
  unfold halfEven
  simp only [Bool.or_eq_true, Bool.and_eq_true, decide_eq_true_eq, beq_iff_eq]
theorem tie_mod {a d q : Nat} (hd : 0 < d) (h : 2 * a + d = 2 * d * q) : 2 * (a % d) = d ∧ q = a / d + 1 := by
  rcases he_core (a := a) (q := q) hd (by omega) (by omega) with ⟨h1, h2⟩ | ⟨h1, h2⟩
  · exfalso
    have hdiv : d * (a / d) + a % d = a := Nat.div_add_mod a d
    subst h2
    have e : 2 * d * (a / d) = 2 * (d * (a / d)) := by ac_rfl
    omega
  · refine ⟨?_, h2⟩
    have hdiv : d * (a / d) + a % d = a := Nat.div_add_mod a d
    subst h2
    have e : 2 * d * (a / d + 1) = 2 * (d * (a / d)) + 2 * d := by rw [Nat.mul_add]; congr 1; ac_rfl; omega
    omega
theorem he_no {a d q : Nat} (hd : 0 < d) (h1 : 2 * d * q ≤ 2 * a + d) (h2 : 2 * a + d < 2 * d * q + 2 * d) (h3 : ¬ 2 * a + d = 2 * d * q) : halfEven a d = q := by
  rw [he_val]
  rcases he_core hd h1 h2 with ⟨k1, k2⟩ | ⟨k1, k2⟩
  · rw [if_neg (by omega)]; exact k2.symm
  · rw [if_pos ?_]
    · exact k2.symm
    · rcases Nat.lt_or_eq_of_le k1 with k | k
      · exact .inl k
      · exfalso
        apply h3
        have hdiv : d * (a / d) + a % d = a := Nat.div_add_mod a d
        rw [k2]
        have e : 2 * d * (a / d + 1) = 2 * (d * (a / d)) + 2 * d := by rw [Nat.mul_add]; congr 1; ac_rfl; omega
        omega
theorem he_even {a d q : Nat} (hd : 0 < d) (h : 2 * a + d = 2 * d * q) (he : q % 2 = 0) : halfEven a d = q := by
  obtain ⟨k1, k2⟩ := tie_mod hd h
  rw [he_val, if_pos (.inr ⟨k1, by omega⟩)]; exact k2.symm
theorem he_odd {a d q : Nat} (hd : 0 < d) (h : 2 * a + d = 2 * d * q) (he : q % 2 = 1) : halfEven a d = q - 1 := by
  obtain ⟨k1, k2⟩ := tie_mod hd h
  rw [he_val, if_neg (by omega)]; omega

theorem he_congr {n d n' d' : Nat} (hd : 0 < d) (hd' : 0 < d') (h : n * d' = n' * d) : halfEven n d = halfEven n' d' := by
  -- n' d = n d'
  have key : ∀ q, (2 * d * q ≤ 2 * n + d ↔ 2 * d' * q ≤ 2 * n' + d') ∧ (2 * n + d < 2 * d * q + 2 * d ↔ 2 * n' + d' < 2 * d' * q + 2 * d') ∧ (2 * n + d = 2 * d * q ↔ 2 * n' + d' = 2 * d' * q) := by
    intro q
    have a1 : (2 * d * q) * d' = (2 * d' * q) * d := by ac_rfl
    have a2 : (2 * n + d) * d' = (2 * n' + d') * d := by
      rw [Nat.add_mul, Nat.add_mul, Nat.mul_assoc, Nat.mul_assoc, h, Nat.mul_comm d d']
    have a3 : (2 * d * q + 2 * d) * d' = (2 * d' * q + 2 * d') * d := by
      rw [Nat.add_mul, Nat.add_mul, a1]; congr 1; ac_rfl
    refine ⟨⟨fun k => ?_, fun k => ?_⟩, ⟨fun k => ?_, fun k => ?_⟩, ⟨fun k => ?_, fun k => ?_⟩⟩
    · exact Nat.le_of_mul_le_mul_right (by rw [← a1, ← a2]; exact Nat.mul_le_mul_right _ k) hd
    · exact Nat.le_of_mul_le_mul_right (by rw [a1, a2]; exact Nat.mul_le_mul_right _ k) hd'
    · exact Nat.lt_of_mul_lt_mul_right (a := d) (by rw [← a2, ← a3]; exact Nat.mul_lt_mul_of_pos_right k hd')
    · exact Nat.lt_of_mul_lt_mul_right (a := d') (by rw [a2, a3]; exact Nat.mul_lt_mul_of_pos_right k hd)
    · exact Nat.eq_of_mul_eq_mul_right hd (by rw [← a2, ← a1, k])
    · exact Nat.eq_of_mul_eq_mul_right hd' (by rw [a2, a1, k])
  -- the floor of (2 n + d) / (2 d)
  have hq1 : 2 * d * ((2 * n + d) / (2 * d)) ≤ 2 * n + d := Nat.mul_div_le _ _
  have hq2 : 2 * n + d < 2 * d * ((2 * n + d) / (2 * d)) + 2 * d := by
    have := Nat.lt_mul_div_succ (2 * n + d) (show 0 < 2 * d by omega)
    rw [Nat.mul_add] at this; omega
  generalize (2 * n + d) / (2 * d) = q at hq1 hq2
  by_cases h3 : 2 * n + d = 2 * d * q
  · have h3' := (key q).2.2.mp h3
    rcases Nat.mod_two_eq_zero_or_one q with e | e
    · rw [he_even hd h3 e, he_even hd' h3' e]
    · rw [he_odd hd h3 e, he_odd hd' h3' e]
  · rw [he_no hd hq1 hq2 h3, he_no hd' ((key q).1.mp hq1) ((key q).2.1.mp hq2) (fun e => h3 ((key q).2.2.mpr e))]
end Mine
end
section
set_option maxRecDepth 100000
namespace Mine
open PySem PySem.Float64

theorem takeWhile_rep (l : List Char) : ∃ j, l.takeWhile (· == '0') = List.replicate j '0' := by
  induction l with
  | nil => exact ⟨0, rfl⟩
  | cons c r ih =>
    by_cases h : (c == '0') = true
    · obtain ⟨j, hj⟩ := ih
      refine ⟨j + 1, ?_⟩
      rw [List.takeWhile_cons, if_pos h, hj, List.replicate_succ]
      have : c = '0' := by simpa using h
      rw [this]
    · exact ⟨0, by rw [List.takeWhile_cons, if_neg h]; rfl⟩
theorem strip_spec (l : List Char) : ∃ j, (l.reverse.dropWhile (· == '0')).reverse ++ List.replicate j '0' = l := by
  obtain ⟨j, hj⟩ := takeWhile_rep l.reverse
  refine ⟨j, ?_⟩
  have h := List.takeWhile_append_dropWhile (p := (· == '0')) (l := l.reverse)
  have h2 := congrArg List.reverse h
  rw [List.reverse_append, List.reverse_reverse, hj, List.reverse_replicate] at h2
  exact h2
theorem pad_take (st : List Char) (j k : Nat) (hk : k ≤ st.length + j) : padRight (st.take k) k = (st ++ List.replicate j '0').take k := by
  unfold padRight zeros
  rw [List.take_append, List.take_replicate, List.length_take]
  congr 2
  omega
theorem pad_drop (st : List Char) (j k p : Nat) (hk : k + p = st.length + j) : padRight (st.drop k) p = (st ++ List.replicate j '0').drop k := by
  unfold padRight zeros
  rw [List.drop_append, List.drop_replicate, List.length_drop]
  congr 2
  omega
def digs (c : Nat) : List Char := (Nat.repr c).toList
theorem pointed_fixed (c p : Nat) (hp : p < (digs c).length) :
    pointed (Digits.of c (-(p : Int))) p false = if p = 0 then digs c else (digs c).take ((digs c).length - p) ++ '.' :: (digs c).drop ((digs c).length - p) := by
  unfold Digits.of pointed
  obtain ⟨j, hj⟩ := strip_spec (digs c)
  have hlen : (digs c).length = ((digs c).reverse.dropWhile (· == '0')).reverse.length + j := by
    conv => lhs; rw [← hj]
    simp
  have hdg : (Nat.repr c).toList = digs c := rfl
  simp only [hdg]
  generalize hst : ((digs c).reverse.dropWhile (· == '0')).reverse = st at hj hlen ⊢
  have hpt : (-(p : Int) + ((digs c).length : Int)).toNat = (digs c).length - p := by omega
  have hneg : (-(-(p : Int) + ((digs c).length : Int))).toNat = 0 := by omega
  have hpos : ¬ (-(p : Int) + ((digs c).length : Int) ≤ 0) := by omega
  simp only [hpt, hneg, if_neg hpos, Bool.or_false, decide_eq_true_eq]
  have hz : zeros 0 = [] := rfl
  rw [hz, List.nil_append, pad_take st j _ (by omega), pad_drop st j _ p (by omega), hj]
  by_cases h0 : p = 0
  · subst h0
    simp
  · rw [if_pos (by omega), if_neg h0]

theorem shift_ratio {m : Nat} {e : Int} {N D : Nat} (hge : -1074 ≤ e) (hv : m * 2 ^ (e + 1074).toNat * D = N * 2 ^ 1074) : (shift m 1 e).1 * D = N * (shift m 1 e).2 := by
  have h := shift_one m e 1074 (by simpa using hge)
  refine Nat.eq_of_mul_eq_mul_right (Nat.two_pow_pos 1074) ?_
  have e1 : (e + ((1074 : Nat) : Int)).toNat = (e + 1074).toNat := rfl
  rw [e1] at h
  calc (shift m 1 e).1 * D * 2 ^ 1074 = ((shift m 1 e).1 * 2 ^ 1074) * D := by ac_rfl
    _ = (m * 2 ^ (e + 1074).toNat * (shift m 1 e).2) * D := by rw [h]
    _ = (m * 2 ^ (e + 1074).toNat * D) * (shift m 1 e).2 := by ac_rfl
    _ = N * (shift m 1 e).2 * 2 ^ 1074 := by rw [hv]; ac_rfl
theorem he_zero (D : Nat) : halfEven 0 D = 0 := by
  rw [he_val]; simp
theorem text_val {x : UInt64} {neg : Bool} {N D : Nat} (V : IsVal x neg N D) (p : Nat) (hz : p = 0 ∨ N ≠ 0) :
    text x 'f' p false false false = (neg, pointed (Digits.of (halfEven (N * 10 ^ p) D) (-(p : Int))) p false) := by
  obtain ⟨hD, m, e, hd, hv⟩ := V
  have hge := decode_ge hd
  unfold text
  rw [hd]
  by_cases hm : m = 0
  · have hN : N = 0 := by
      rw [hm, Nat.zero_mul, Nat.zero_mul] at hv
      rcases Nat.mul_eq_zero.mp hv.symm with h | h
      · exact h
      · exact absurd h (Nat.ne_of_gt (Nat.two_pow_pos 1074))
    rcases hz with h | h
    · subst h hN hm
      simp [he_zero]
      decide
    · exact absurd hN h
  · have hb : (m == 0) = false := by simpa using hm
    have hs := shift_ratio hge hv
    have hpos := shift_pos m 1 e (by decide)
    have hfix : fixed (shift m 1 e).1 (shift m 1 e).2 p = Digits.of (halfEven (N * 10 ^ p) D) (-(p : Int)) := by
      unfold fixed shift10
      simp only [Int.natCast_nonneg, ge_iff_le, if_true, Int.toNat_natCast]
      congr 1
      refine he_congr hpos hD ?_
      calc (shift m 1 e).1 * 10 ^ p * D = (shift m 1 e).1 * D * 10 ^ p := by ac_rfl
        _ = N * 10 ^ p * (shift m 1 e).2 := by rw [hs]; ac_rfl
    simp only [hb, Bool.false_eq_true, if_false]
    rw [hfix]
    simp
end Mine
end
section
set_option maxRecDepth 100000
namespace Mine
open PySem PySem.Float64 PySem.Builtin.Str PyProof.Rows

def tx (l : List Nat) : Str := ⟨l.toArray⟩
def digN (c : Nat) : List Nat := (digs c).map Char.toNat
def numText (p c : Nat) : List Nat := if p = 0 then digN c else (digN c).take ((digN c).length - p) ++ 46 :: (digN c).drop ((digN c).length - p)

theorem tx_append (a b : List Nat) : tx a ++ tx b = tx (a ++ b) := by
  have : (tx a ++ tx b).cps = (tx (a ++ b)).cps := by rw [PySem.Str.cps_append]; simp [tx]
  exact congrArg PySem.Str.mk this
theorem tx_str (x : Str) : tx x.cps.toList = x := congrArg PySem.Str.mk (Array.toArray_toList ..)
theorem tx_ofString (s : String) : Str.ofString s = tx (s.toList.map Char.toNat) := PySem.Str.ofString_eq_toList s
theorem tx_len (l : List Nat) : (tx l).length = l.length := by simp [tx, PySem.Str.length]

theorem digs_pos (c : Nat) : 1 ≤ (digs c).length := by
  unfold digs; rw [Nat.toList_repr]; exact toDigits_len_ge 10 c
theorem digs_ge {k c : Nat} (h : 10 ^ k ≤ c) : k + 1 ≤ (digs c).length := by
  unfold digs; rw [Nat.toList_repr]; exact digits10_ge h
theorem digs_le {k c : Nat} (hk : 1 ≤ k) (h : c < 10 ^ k) : (digs c).length ≤ k := by
  unfold digs; rw [Nat.toList_repr]; exact digits10_le hk h
theorem digN_len (c : Nat) : (digN c).length = (digs c).length := by simp [digN]
theorem digN_mem {c v : Nat} (h : v ∈ digN c) : 48 ≤ v ∧ v ≤ 57 := by
  unfold digN digs at h
  obtain ⟨ch, hc, rfl⟩ := List.mem_map.mp h
  rw [Nat.toList_repr] at hc
  exact digit_range (Nat.isDigit_of_mem_toDigits (by decide) (by decide) hc)
theorem int_text (c : Nat) : Str.ofString (toString ((c : Nat) : Int)) = tx (digN c) := by
  rw [tx_ofString]
  rfl

theorem map_pointed {p c : Nat} (hp : p < (digs c).length) : (pointed (Digits.of c (-(p : Int))) p false).map Char.toNat = numText p c := by
  rw [pointed_fixed c p hp]
  unfold numText
  split
  · rfl
  · rw [List.map_append, List.map_cons, digN_len]
    unfold digN
    rw [List.map_take, List.map_drop]
    rfl
theorem numText_head {p c : Nat} (hp : p < (digs c).length) : ∃ v r, numText p c = v :: r ∧ 48 ≤ v ∧ v ≤ 57 := by
  have hlen := digN_len c
  obtain ⟨v, r, hd⟩ : ∃ v r, digN c = v :: r := by
    cases h : digN c with
    | nil => rw [h] at hlen; simp at hlen; omega
    | cons v r => exact ⟨v, r, rfl⟩
  have hv := digN_mem (c := c) (v := v) (by rw [hd]; exact List.mem_cons_self ..)
  unfold numText
  split
  · exact ⟨v, r, hd, hv⟩
  · have : (digN c).length - p = ((digN c).length - p - 1) + 1 := by omega
    rw [this, hd]
    exact ⟨v, _, rfl, hv⟩
def markN (neg sg : Bool) : List Nat := if neg then [45] else if sg then [43] else []

/-- what % lays for a float that is N / D -/
theorem fld_val {x : UInt64} {neg : Bool} {N D : Nat} (V : IsVal x neg N D) (sg : Bool) (p : Nat) (hz : p = 0 ∨ N ≠ 0) (hp : p < (digs (halfEven (N * 10 ^ p) D)).length) :
    fldF sg p x = markN neg sg ++ numText p (halfEven (N * 10 ^ p) D) := by
  have ht := text_val V p hz
  have hraw : rawF x p = (if neg then [45] else []) ++ numText p (halfEven (N * 10 ^ p) D) := by
    unfold rawF
    rw [ht, map_pointed hp]
  obtain ⟨v, r, hh, hv1, hv2⟩ := numText_head hp
  unfold fldF
  rw [hraw, hh]
  unfold percentField markN
  have n1 : ¬ v = 45 := by omega
  have n2 : ¬ v = 43 := by omega
  cases neg <;> cases sg <;> simp [n1, n2]
  all_goals (split <;> simp_all)
end Mine
end
section
set_option maxRecDepth 100000
namespace Mine
open PySem PySem.Float64 PySem.Builtin.Str PyProof.Rows PySem.Calls PySem.W

theorem slice_m1 (l : List Nat) (hl : 1 ≤ l.length) : Txt.slice (tx l) none (some (-1)) = tx (l.take (l.length - 1)) := by
  unfold Txt.slice
  have hlen : (tx l).length = l.length := tx_len l
  have hidx : strSliceIndices none (some (-1)) 1 (tx l).length = List.range (l.length - 1) := by
    unfold strSliceIndices sliceRange
    rw [hlen]
    simp only [show (1 : Int) > 0 by decide, show (-1 : Int) < 0 by decide, if_true]
    have e1 : max 0 (min (-1 + (l.length : Int)) (l.length : Int)) = (l.length : Int) - 1 := by omega
    rw [e1]
    by_cases h : l.length = 1
    · simp [h]
    · rw [if_pos (by omega)]
      have e2 : (((l.length : Int) - 1 - 0 + 1 - 1) / 1).toNat = l.length - 1 := by omega
      rw [e2]
      conv => rhs; rw [← List.map_id (List.range (l.length - 1))]
      apply List.map_congr_left
      intro k _
      simp
  rw [hidx, hlen]
  rw [if_neg (by simp; omega)]
  unfold tx
  congr 2
  apply List.ext_getElem?
  intro i
  simp only [List.getElem?_take]
  have hf : ∀ (n : Nat), n ≤ l.length → (List.range n).filterMap (fun j => l.toArray[j]?) = l.take n := by
    intro n
    induction n with
    | zero => intro _; rfl
    | succ k ih =>
      intro hk
      have hk' : k < l.length := by omega
      rw [List.range_succ, List.filterMap_append, ih (by omega), List.take_add_one]
      simp [hk']
  rw [hf (l.length - 1) (by omega), List.getElem?_take]
theorem item_m1 (l : List Nat) (hl : 1 ≤ l.length) : Txt.item (tx l) (-1) = tx (l.drop (l.length - 1)) := by
  unfold Txt.item Txt.charAt
  have hlen : (tx l).length = l.length := tx_len l
  have hs : seqIndex? (-1) (tx l).length = some (l.length - 1) := by
    unfold seqIndex?
    rw [hlen]
    simp only [show (-1 : Int) < 0 by decide, if_true]
    have e : (-1 + (l.length : Int)).toNat = l.length - 1 := by omega
    first
      | (simp only [e]; split <;> first | rfl | omega | (simp_all; omega))
      | (split <;> simp_all <;> omega)
  rw [hs]
  have hg : (tx l).cps[l.length - 1]? = some (l[l.length - 1]'(by omega)) := by simp [tx]
  simp only [Option.bind_some, hg, Option.getD_some]
  unfold tx
  congr 1
  have hd : l.drop (l.length - 1) = [l[l.length - 1]'(by omega)] := by
    have := List.drop_eq_getElem_cons (l := l) (i := l.length - 1) (by omega)
    rw [this]
    congr 1
    apply List.drop_eq_nil_of_le; omega
  rw [hd]

/-- the unit's name -/
def unitS (k : Nat) : String := match k with | 0 => "B" | 1 => "KiB" | 2 => "MiB" | 3 => "GiB" | _ => "TiB"
/-- the greatest unit of which N / D has ten -/
def lev (N D : Nat) : Nat := if N < 10 * (1024 * D) then 0 else if N < 10 * (1048576 * D) then 1 else if N < 10 * (1073741824 * D) then 2 else if N < 10 * (1099511627776 * D) then 3 else 4
def figs (N U k : Nat) : Nat := if k ≠ 0 ∧ N < 100 * U then 1 else 0
/-- the text for the amount N / D -/
def textN (N D : Nat) : Str :=
  tx (numText (figs N (1024 ^ lev N D * D) (lev N D)) (halfEven (N * 10 ^ figs N (1024 ^ lev N D * D) (lev N D)) (1024 ^ lev N D * D))) ++ Str.ofString " " ++ Str.ofString (unitS (lev N D))
theorem textN_is {N D k U p c : Nat} (hk : lev N D = k) (hU : 1024 ^ k * D = U) (hp : figs N U k = p) (hc : halfEven (N * 10 ^ p) U = c) : textN N D = tx (numText p c) ++ Str.ofString " " ++ Str.ofString (unitS k) := by
  subst hk hU hp hc
  rfl
end Mine
namespace Mine
open PySem PySem.Float64 PySem.Builtin.Str PyProof.Rows PySem.Calls PySem.W
theorem heI_toNat {n P U q : Int} (hP : 0 ≤ P) (hn : 0 ≤ n) (hU : 0 < U) (h0 : 0 ≤ q) :
    ((2 * U * q ≤ 2 * P * n + U) ↔ 2 * U.toNat * q.toNat ≤ 2 * (n.toNat * P.toNat) + U.toNat) ∧ ((2 * P * n + U < 2 * U * q + 2 * U) ↔ 2 * (n.toNat * P.toNat) + U.toNat < 2 * U.toNat * q.toNat + 2 * U.toNat) ∧ ((2 * P * n + U = 2 * U * q) ↔ 2 * (n.toNat * P.toNat) + U.toNat = 2 * U.toNat * q.toNat) := by
  obtain ⟨n', rfl⟩ := Int.eq_ofNat_of_zero_le hn
  obtain ⟨P', rfl⟩ := Int.eq_ofNat_of_zero_le hP
  obtain ⟨U', rfl⟩ := Int.eq_ofNat_of_zero_le (Int.le_of_lt hU)
  obtain ⟨q', rfl⟩ := Int.eq_ofNat_of_zero_le h0
  simp only [Int.toNat_natCast]
  have e1 : (2 * (U' : Int) * (q' : Int)) = ((2 * U' * q' : Nat) : Int) := by simp
  have e2 : (2 * (P' : Int) * (n' : Int) + (U' : Int)) = ((2 * (n' * P') + U' : Nat) : Int) := by simp only [Int.natCast_add, Int.natCast_mul]; rw [Int.mul_comm (n' : Int), Int.mul_assoc]; rfl
  have e3 : (2 * (U' : Int) * (q' : Int) + 2 * (U' : Int)) = ((2 * U' * q' + 2 * U' : Nat) : Int) := by simp
  rw [e3, e1, e2]
  refine ⟨Int.ofNat_le, Int.ofNat_lt, Int.ofNat_inj⟩
theorem heI_no {n P U q : Int} (hP : 0 ≤ P) (hn : 0 ≤ n) (hU : 0 < U) (h0 : 0 ≤ q) (h1 : 2 * U * q ≤ 2 * P * n + U) (h2 : 2 * P * n + U < 2 * U * q + 2 * U) (h3 : ¬ 2 * P * n + U = 2 * U * q) :
    halfEven (n.toNat * P.toNat) U.toNat = q.toNat := by
  obtain ⟨k1, k2, k3⟩ := heI_toNat (n := n) (q := q) hP hn hU h0
  exact he_no (by omega) (k1.mp h1) (k2.mp h2) (fun e => h3 (k3.mpr e))
theorem heI_even {n P U q k r : Int} (hP : 0 ≤ P) (hn : 0 ≤ n) (hU : 0 < U) (h0 : 0 ≤ q) (h3 : 2 * P * n + U = 2 * U * q) (hm : q = 2 * k + r) (hr0 : 0 ≤ r) (hr2 : r < 2) (hr : ¬ r = 1) :
    halfEven (n.toNat * P.toNat) U.toNat = q.toNat := by
  obtain ⟨k1, k2, k3⟩ := heI_toNat (n := n) (q := q) hP hn hU h0
  exact he_even (by omega) (k3.mp h3) (by omega)
theorem heI_odd {n P U q k r r' : Int} (hP : 0 ≤ P) (hn : 0 ≤ n) (hU : 0 < U) (h0 : 0 ≤ q) (h3 : 2 * P * n + U = 2 * U * q) (hm : q = 2 * k + r) (hr : r = 1) (hr' : r' = q - 1) :
    halfEven (n.toNat * P.toNat) U.toNat = r'.toNat := by
  obtain ⟨k1, k2, k3⟩ := heI_toNat (n := n) (q := q) hP hn hU h0
  rw [he_odd (by omega) (k3.mp h3) (by omega)]; omega
theorem heP_no {n P U q : Int} (h3 : ¬ 2 * P * n + U = 2 * U * q) (h1 : 2 * U * q ≤ 2 * P * n + U) (h2 : 2 * P * n + U < 2 * U * q + 2 * U) (h0 : 0 ≤ q) (hn : 0 ≤ n) (hP : 0 ≤ P) (hU : 0 < U) :
    0 ≤ q ∧ halfEven (n.toNat * P.toNat) U.toNat = q.toNat := ⟨h0, heI_no hP hn hU h0 h1 h2 h3⟩
theorem heP_even {n P U q k r : Int} (h3 : 2 * P * n + U = 2 * U * q) (hm : q = 2 * k + r) (hr0 : 0 ≤ r) (hr2 : r < 2) (hr : ¬ r = 1) (h0 : 0 ≤ q) (hn : 0 ≤ n) (hP : 0 ≤ P) (hU : 0 < U) :
    0 ≤ q ∧ halfEven (n.toNat * P.toNat) U.toNat = q.toNat := ⟨h0, heI_even hP hn hU h0 h3 hm hr0 hr2 hr⟩
theorem heP_odd {n P U q k r r' : Int} (hr' : r' = q - 1) (h3 : 2 * P * n + U = 2 * U * q) (hm : q = 2 * k + r) (hr : r = 1) (h0 : 0 ≤ q) (hn : 0 ≤ n) (hP : 0 ≤ P) (hU : 0 < U) :
    0 ≤ r' ∧ halfEven (n.toNat * P.toNat) U.toNat = r'.toNat := ⟨by omega, heI_odd hP hn hU h0 h3 hm hr hr'⟩
theorem prod_lt {n P : Int} (hn : n < 2 ^ 100) (hP : P ≤ 10) : n.toNat * P.toNat < 10 ^ 59 := by
  have h1 : n.toNat ≤ 2 ^ 100 := by omega
  have h2 : P.toNat ≤ 10 := by omega
  calc n.toNat * P.toNat ≤ 2 ^ 100 * 10 := Nat.mul_le_mul h1 h2
    _ < 10 ^ 59 := by decide
theorem he_le (a d : Nat) : halfEven a d ≤ a + 1 := by
  rw [he_val]
  have := Nat.div_le_self a d
  split <;> omega
section
variable {prog : Program} {w : World} {A : Around} {E : Value → Shared → Prop} {s : Shared} {Q : Value → Shared → Prop} {t : Tok}
/-- str(count) where count is the rounded figure -/
theorem str_he {n P U r : Int} (hh : 0 ≤ r ∧ halfEven (n.toNat * P.toNat) U.toNat = r.toNat) (hb : n.toNat * P.toNat < 10 ^ 59)
    (h : ∀ c, halfEven (n.toNat * P.toNat) U.toNat = c → (digN c).length ≤ 60 → 1 ≤ (digN c).length → Q (.str (tx (digN c)) s.toks) { s with toks := s.toks + 1 }) :
    wpAny (model prog w) A (call (.type "str") [.int r t]) Q E s := by
  obtain ⟨hr, he⟩ := hh
  obtain ⟨c, rfl⟩ := Int.eq_ofNat_of_zero_le hr
  rw [Int.toNat_natCast] at he
  have hle := he_le (n.toNat * P.toNat) U.toNat
  have hc : c < 10 ^ 60 := by
    have : (10 : Nat) ^ 59 + 1 ≤ 10 ^ 60 := by decide
    omega
  refine str_lit (by omega) ?_ ?_
  · have e : ((10 : Nat) ^ 60 : Int) ≤ 2 ^ 200 := by decide +kernel
    have : ((c : Nat) : Int) < (((10 : Nat) ^ 60 : Nat) : Int) := Int.ofNat_lt.mpr hc
    exact Int.lt_of_lt_of_le this (by decide +kernel)
  · have h' := h c he (by rw [digN_len]; exact digs_le (by decide) hc) (by rw [digN_len]; exact digs_pos c)
    rw [← int_text c] at h'
    exact h'
end
theorem l_dot : (Str.ofString ".").length = 1 := by decide +kernel
theorem l_sp : (Str.ofString " ").length = 1 := by decide +kernel
theorem l_B : (Str.ofString "B").length = 1 := by decide +kernel
theorem l_K : (Str.ofString "KiB").length = 3 := by decide +kernel
theorem l_M : (Str.ofString "MiB").length = 3 := by decide +kernel
theorem l_G : (Str.ofString "GiB").length = 3 := by decide +kernel
theorem l_T : (Str.ofString "TiB").length = 3 := by decide +kernel
section
variable {M : Model} {A : Around} {E : Value → Shared → Prop} {s : Shared} {env : Env} {h₀ : Heap} {L : Addr} {m : Str → Option Value} {news : List (Addr × Obj)}
/-- a known int stored as it stands -/
theorem stV {x : Str} {e : Int} {t : Tok} {Q : Unit → Shared → Prop} (F : Fr h₀ L s.heap m) (N : News h₀ L s.heap news) (_h0 : 0 ≤ e) (hL : env.locals = L) (hl : env.kindOf x = some .local)
    (hp : (env.scope.kind == .class || (env.scope.kind == .module && env.locals != env.globals)) = false)
    (h : ∀ h', Fr h₀ L h' (fun y => if y = x then some (.int e t) else m y) → News h₀ L h' news → Q () { s with heap := h', toks := s.toks + 1 }) :
    wpAny M A (storeName env x (.int e t)) Q E s := by
  subst hL
  exact wpAny_storeName_local hl F.ns (fun h' hn hs => h h' (F.set hn hs) (N.set hs)) hp
end
end Mine
end
section
set_option maxRecDepth 100000
namespace Mine
open PySem PySem.Float64 PySem.Builtin.Str PyProof.Rows PySem.Calls PySem.W
theorem lev4 {N D : Nat} (h : 10 * (1099511627776 * D) ≤ N) : lev N D = 4 := by
  unfold lev; rw [if_neg (by omega), if_neg (by omega), if_neg (by omega), if_neg (by omega)]
theorem lev3 {N D : Nat} (h : 10 * (1073741824 * D) ≤ N) (h2 : N < 10 * (1099511627776 * D)) : lev N D = 3 := by
  unfold lev; rw [if_neg (by omega), if_neg (by omega), if_neg (by omega), if_pos (by omega)]
theorem lev2 {N D : Nat} (h : 10 * (1048576 * D) ≤ N) (h2 : N < 10 * (1073741824 * D)) : lev N D = 2 := by
  unfold lev; rw [if_neg (by omega), if_neg (by omega), if_pos (by omega)]
theorem lev1 {N D : Nat} (h : 10 * (1024 * D) ≤ N) (h2 : N < 10 * (1048576 * D)) : lev N D = 1 := by
  unfold lev; rw [if_neg (by omega), if_pos (by omega)]
theorem lev0 {N D : Nat} (h2 : N < 10 * (1024 * D)) : lev N D = 0 := by
  unfold lev; rw [if_pos (by omega)]
theorem endP0 {N D k U c : Nat} (hk : lev N D = k) (hU : 1024 ^ k * D = U) (hf : k = 0 ∨ 100 * U ≤ N) (hc : halfEven (N * 1) U = c) {us : String} (hus : unitS k = us) :
    tx (digN c) ++ Str.ofString " " ++ Str.ofString us = textN N D := by
  subst hus
  have hp : figs N U k = 0 := by unfold figs; rw [if_neg (by omega)]
  rw [textN_is hk hU hp (c := c) (by simpa using hc)]
  rfl
theorem endP1 {N D k U c : Nat} (hk : lev N D = k) (hU : 1024 ^ k * D = U) (hk0 : k ≠ 0) (hf : N < 100 * U) (hc : halfEven (N * 10) U = c) {us : String} (hus : unitS k = us) :
    tx ((digN c).take ((digN c).length - 1)) ++ Str.ofString "." ++ tx ((digN c).drop ((digN c).length - 1)) ++ Str.ofString " " ++ Str.ofString us = textN N D := by
  subst hus
  have hp : figs N U k = 1 := by unfold figs; rw [if_pos ⟨hk0, hf⟩]
  rw [textN_is hk hU hp (c := c) (by simpa using hc)]
  congr 2
  have e : Str.ofString "." = tx [46] := by decide +kernel
  rw [e, tx_append, tx_append]
  unfold numText
  simp
theorem fin_ret {s : Shared} {Q : Value → Shared → Prop} {X T : Str} {L' : Addr} {h' : Heap} {m : Str → Option Value} {t : Tok} {k : Nat}
    (hret : ∀ t' h' tk', (∀ b o, s.heap.get? b = some o → h'.get? b = some o) → Q (.str X t') { s with heap := h', toks := tk' }) (F : Fr s.heap L' h' m) (e : T = X) : Q (.str T t) { s with heap := h', toks := k } := by
  subst e
  exact hret t h' k F.keep
end Mine
end
section
set_option maxRecDepth 100000
namespace Mine
open PySem PySem.Float64 PySem.Builtin.Str PyProof.Rows PySem.Calls PySem.W
section
variable {prog : Program} {w : World} {A : Around} {E : Value → Shared → Prop} {s : Shared} {Q : Value → Shared → Prop} {t u : Tok}
/-- abs of an exact float, against a whole number -/
theorem lt_absF {x : UInt64} {neg : Bool} {N D : Nat} (V : IsVal x neg N D) (c : Nat) (h : Q (.bool (decide (N < c * D))) s) :
    wpAny (model prog w) A (compareOp .Lt (.float (Float64.abs x) t) (.int (c : Int) u)) Q E s :=
  lt_fi (by rw [cmp_abs V c]; exact h)
/-- a whole number over 1024 -/
theorem idiv_1024 {n : Int} (hA : A.handled = none) (hrep : ∃ M j, M ≤ 2 ^ 53 ∧ n.natAbs * 2 ^ 1074 = 1024 * (M * 2 ^ j)) (hov : n.natAbs < 2 ^ 1023)
    (h : ∀ x, IsVal x (decide (n < 0)) n.natAbs 1024 → Q (.float x s.toks) { s with toks := s.toks + 1 }) :
    wpAny (model prog w) A (inplaceOp .Div (.int n t) (.int 1024 u)) Q E s := by
  refine PySem.Flt.idiv_ii_fits hA hov (fun h0 => absurd h0 (by decide)) (fun _ _ => ?_)
  have e : (decide (n < 0) != decide ((1024 : Int) < 0)) = decide (n < 0) := by
    have : decide ((1024 : Int) < 0) = false := by decide
    rw [this]; cases decide (n < 0) <;> rfl
  rw [e]
  refine h _ ?_
  have e2 : (1024 : Int).natAbs = 1024 := rfl
  rw [e2]
  refine val_ofFrac (by decide) hrep ?_
  have h1 : n.natAbs * 2 ^ 1074 < 2 ^ 1023 * 2 ^ 1074 := Nat.mul_lt_mul_of_pos_right hov (Nat.two_pow_pos _)
  have h2 : (2 : Nat) ^ 1023 * 2 ^ 1074 = 4503599627370496 * 2 ^ 2045 := by
    rw [← Nat.pow_add, show (4503599627370496 : Nat) = 2 ^ 52 by decide, ← Nat.pow_add]
  rw [h2] at h1
  generalize (2 : Nat) ^ 2045 = K at h1 ⊢
  generalize n.natAbs * 2 ^ 1074 = W at h1 ⊢
  omega
/-- an exact float over 1024 -/
theorem fdiv_1024 {x : UInt64} {neg : Bool} {N D : Nat} (V : IsVal x neg N D) (hA : A.handled = none) (hD : D ≤ 2 ^ 500)
    (h : ∀ y, IsVal y neg N (D * 1024) → Q (.float y s.toks) { s with toks := s.toks + 1 }) :
    wpAny (model prog w) A (inplaceOp .Div (.float x t) (.int 1024 u)) Q E s := by
  have hnot : ¬ PySem.Flt.Over 1024 := by
    intro ho
    have := PySem.Flt.inf_of_over ho
    have h2 : Float64.isInf (Float64.ofInt 1024) = false := by unfold Float64.isInf; rw [decode_1024]
    rw [h2] at this; cases this
  exact PySem.Flt.itruediv_fi hA (fun ho => absurd ho hnot) (fun h0 => absurd h0 (by decide)) (fun _ _ => h _ (val_div V hD))
end
end Mine
end
section
open PySem PySem.W PyProof.Rows PySem.Calls PySem.Builtin PySem.Builtin.Str
set_option Elab.async false
set_option maxRecDepth 100000
namespace Mine
section
variable {prog : Program} {w : World} {A : Around} {E : Value → Shared → Prop} {s : Shared} {u : Tok}
theorem pfo_int {n : Int} {Q : UInt64 → Shared → Prop} (hinf : ¬ Float64.isInf (Float64.ofInt n) = true) (h : Q (Float64.ofInt n) { s with toks := s.toks + 1 }) : wpAny (model prog w) A (percentFloatOf (.int n u)) Q E s := by
  unfold percentFloatOf
  refine wpAny_bind (wpAny_of_eq (a := none) rfl ?_)
  refine wpAny_bind (wpAny_callSpecial?_slot (name := Str.ofString "__float__") (typeIs_int s n u) F.slot_int_float (call_gives F.slot_int_float (typeIs_int s n u) F.entry_int_float (F.args_int_float_1 _) (AutoIntG0.int___float___int_1 n u hinf) ?_))
  show wpAny _ _ _ _ _ _
  refine wpAny_bind (wpAny_of_eq (a := some (Float64.ofInt n)) rfl ?_)
  exact wpAny_pure h
end
end Mine
end
section
open PySem PySem.W PyProof.Rows PySem.Calls PySem.Builtin PySem.Builtin.Str
set_option Elab.async false
set_option maxRecDepth 100000
namespace Mine
theorem meets_ip0 (b : Addr) (i : Int) (u v t : Tok) (y : PySem.Str) (hy : y.length ≤ 1000) (hi : ¬ Float64.isInf (Float64.ofInt i) = true) (hx : (fldF true 0 (Float64.ofInt i)).length ≤ 1000000) :
    Meets («str.__mod__» ⟨[.str ⟨#[37, 43, 46, 48, 102, 32, 37, 115]⟩ t, .ref b], []⟩) (fun _ R s => IsTup s.heap b #[.int i u, .str y v] ∧ ∀ t' k, R (.ok (.ret (.str (⟨(fldF true 0 (Float64.ofInt i)).toArray⟩ ++ PySem.Str.ofString " " ++ y) t'))) { s with toks := k }) := by
  apply KPt.meets_tup
  intro _ _ _ _ _ _ kptH hR
  obtain ⟨kptO, kptG, kptC, kptN, kptD⟩ := kptH
  rw [KPt.entry_is_r]
  unfold Builtin.Str.percentFormat
  refine wpAny_bind (wpAny_isInstance (T := "tuple") ⟨kptO, kptG, kptC⟩ KPt.sub_tt ?_)
  refine wpAny_bind (KPt.asStr_ref kptG kptD ?_)
  refine wpAny_bind (KPt.fills_ref ⟨kptO, kptG, kptC⟩ ?_)
  intro _
  kpc_if
  refine wpAny_bind (wpAny_seqItems kptG kptD ?_)
  refine wpAny_bind (wpAny_pure ?_)
  refine wpAny_bind ?_
  rw [KPc.range_list]
  refine KPc.start ?_
  intro w' g'
  refine KPc.turn ?_; kpc_check; (repeat kpc_if)
  refine wpAny_bind ?_; refine wpAny_holding ?_; (repeat kpc_if)
  refine wpAny_bind (pfo_int hi ?_)
  refine wpAny_of_eq (a := (rawF (Float64.ofInt i) 0, none, true)) (by kernel_rfl) ?_
  refine wpAny_of_eq (Eq.trans (by kernel_rfl) (pickF true 0 (Float64.ofInt i) w' [.str y v] [32, 37, 115])) ?_
  refine KPc.after_str0 (y := ⟨(fldF true 0 (Float64.ofInt i)).toArray⟩) (K := 1000000) (by assumption) hx (KPc.obj_none rfl) ?_
  intro w2 g2
  kpt_turns
theorem meets_in0 (b : Addr) (i : Int) (u v t : Tok) (y : PySem.Str) (hy : y.length ≤ 1000) (hi : ¬ Float64.isInf (Float64.ofInt i) = true) (hx : (fldF false 0 (Float64.ofInt i)).length ≤ 1000000) :
    Meets («str.__mod__» ⟨[.str ⟨#[37, 46, 48, 102, 32, 37, 115]⟩ t, .ref b], []⟩) (fun _ R s => IsTup s.heap b #[.int i u, .str y v] ∧ ∀ t' k, R (.ok (.ret (.str (⟨(fldF false 0 (Float64.ofInt i)).toArray⟩ ++ PySem.Str.ofString " " ++ y) t'))) { s with toks := k }) := by
  apply KPt.meets_tup
  intro _ _ _ _ _ _ kptH hR
  obtain ⟨kptO, kptG, kptC, kptN, kptD⟩ := kptH
  rw [KPt.entry_is_r]
  unfold Builtin.Str.percentFormat
  refine wpAny_bind (wpAny_isInstance (T := "tuple") ⟨kptO, kptG, kptC⟩ KPt.sub_tt ?_)
  refine wpAny_bind (KPt.asStr_ref kptG kptD ?_)
  refine wpAny_bind (KPt.fills_ref ⟨kptO, kptG, kptC⟩ ?_)
  intro _
  kpc_if
  refine wpAny_bind (wpAny_seqItems kptG kptD ?_)
  refine wpAny_bind (wpAny_pure ?_)
  refine wpAny_bind ?_
  rw [KPc.range_list]
  refine KPc.start ?_
  intro w' g'
  refine KPc.turn ?_; kpc_check; (repeat kpc_if)
  refine wpAny_bind ?_; refine wpAny_holding ?_; (repeat kpc_if)
  refine wpAny_bind (pfo_int hi ?_)
  refine wpAny_of_eq (a := (rawF (Float64.ofInt i) 0, none, true)) (by kernel_rfl) ?_
  refine wpAny_of_eq (Eq.trans (by kernel_rfl) (pickF false 0 (Float64.ofInt i) w' [.str y v] [32, 37, 115])) ?_
  refine KPc.after_str0 (y := ⟨(fldF false 0 (Float64.ofInt i)).toArray⟩) (K := 1000000) (by assumption) hx (KPc.obj_none rfl) ?_
  intro w2 g2
  kpt_turns
theorem numText_len (p c : Nat) : (numText p c).length ≤ (digN c).length + 1 := by
  unfold numText
  split
  · omega
  · simp only [List.length_append, List.length_take, List.length_cons, List.length_drop]; omega
theorem markN_len (a b : Bool) : (markN a b).length ≤ 1 := by cases a <;> cases b <;> decide
theorem fld_len {x : UInt64} {neg sg : Bool} {p c : Nat} (e : fldF sg p x = markN neg sg ++ numText p c) (hc : c < 10 ^ 400) : (fldF sg p x).length ≤ 1000000 := by
  rw [e, List.length_append]
  have h1 := numText_len p c
  have h2 := markN_len neg sg
  have h3 := digs_le (k := 400) (by decide) hc
  rw [digN_len] at h1
  omega
theorem ofInt_val {i : Int} (hi : i.natAbs < 2 ^ 53) : IsVal (Float64.ofInt i) (decide (i < 0)) i.natAbs 1 := by
  unfold Float64.ofInt
  refine val_ofFrac (neg := decide (i < 0)) (n := i.natAbs) (d := 1) (by decide) ⟨i.natAbs, 1074, Nat.le_of_lt hi, by rw [Nat.one_mul]⟩ ?_
  have e : (2 : Nat) ^ 2045 = 2 ^ 971 * 2 ^ 1074 := by rw [← Nat.pow_add]
  rw [e]
  have h2 : 0 < (2 : Nat) ^ 971 := Nat.two_pow_pos _
  have h3 : 2 * i.natAbs < 1 * ((2 ^ 54 - 1) * 2 ^ 971) := by
    have : (2 : Nat) ^ 54 ≤ (2 ^ 54 - 1) * 2 ^ 971 := by
      have k : (2 : Nat) ≤ 2 ^ 971 := by
        calc (2 : Nat) = 2 ^ 1 := by decide
          _ ≤ 2 ^ 971 := Nat.pow_le_pow_right (by decide) (by decide)
      calc (2 : Nat) ^ 54 ≤ (2 ^ 54 - 1) * 2 := by decide
        _ ≤ (2 ^ 54 - 1) * 2 ^ 971 := Nat.mul_le_mul_left _ k
    omega
  calc 2 * (i.natAbs * 2 ^ 1074) = 2 * i.natAbs * 2 ^ 1074 := by ac_rfl
    _ < 1 * ((2 ^ 54 - 1) * 2 ^ 971) * 2 ^ 1074 := Nat.mul_lt_mul_of_pos_right h3 (Nat.two_pow_pos _)
    _ = 1 * ((2 ^ 54 - 1) * (2 ^ 971 * 2 ^ 1074)) := by ac_rfl
theorem val_fin {x : UInt64} {neg : Bool} {N D : Nat} (V : IsVal x neg N D) : ¬ Float64.isInf x = true := by
  obtain ⟨_, m, e, hd, _⟩ := V
  unfold Float64.isInf
  rw [hd]
  exact Bool.false_ne_true
section
variable {prog : Program} {w : World} {A : Around} {E : Value → Shared → Prop} {s : Shared} {X y : PySem.Str} {t u v : Tok} {Q : Value → Shared → Prop} {b L : Addr} {n : Nat} {h₀ : Heap} {news : List (Addr × Obj)} {x : UInt64} {neg : Bool} {Nn D c : Nat}
theorem mod_p1 (V : IsVal x neg Nn D) (N : News h₀ L s.heap news) (hb : (b, ({ cls := .type "tuple", data := .seq #[.float x u, .str y v] n } : Obj)) ∈ news) (hX : X = ⟨#[37, 43, 46, 49, 102, 32, 37, 115]⟩) (h10 : 10 ≤ c) (hN0 : Nn ≠ 0) (hc : Float64.halfEven (Nn * 10) D = c) (hcb : c < 10 ^ 400) (hy : y.length ≤ 1000)
    (h : ∀ t' k, Q (.str (tx (markN neg true ++ numText 1 c) ++ PySem.Str.ofString " " ++ y) t') { s with toks := k }) : wpAny (model prog w) A (binaryOp .Mod (.str X t) (.ref b)) Q E s := by
  have e := fld_val V true 1 (.inr hN0) (by rw [hc]; exact digs_ge (k := 1) h10)
  rw [show Nn * 10 ^ 1 = Nn * 10 from rfl, hc] at e
  refine KPt.mod_tuple N hb hX (meets_p1 b x u v t y hy (fld_len e hcb)) ?_
  rw [e]
  exact h
theorem mod_n1 (V : IsVal x neg Nn D) (N : News h₀ L s.heap news) (hb : (b, ({ cls := .type "tuple", data := .seq #[.float x u, .str y v] n } : Obj)) ∈ news) (hX : X = ⟨#[37, 46, 49, 102, 32, 37, 115]⟩) (h10 : 10 ≤ c) (hN0 : Nn ≠ 0) (hc : Float64.halfEven (Nn * 10) D = c) (hcb : c < 10 ^ 400) (hy : y.length ≤ 1000)
    (h : ∀ t' k, Q (.str (tx (markN neg false ++ numText 1 c) ++ PySem.Str.ofString " " ++ y) t') { s with toks := k }) : wpAny (model prog w) A (binaryOp .Mod (.str X t) (.ref b)) Q E s := by
  have e := fld_val V false 1 (.inr hN0) (by rw [hc]; exact digs_ge (k := 1) h10)
  rw [show Nn * 10 ^ 1 = Nn * 10 from rfl, hc] at e
  refine KPt.mod_tuple N hb hX (meets_n1 b x u v t y hy (fld_len e hcb)) ?_
  rw [e]
  exact h
theorem mod_p0 (V : IsVal x neg Nn D) (N : News h₀ L s.heap news) (hb : (b, ({ cls := .type "tuple", data := .seq #[.float x u, .str y v] n } : Obj)) ∈ news) (hX : X = ⟨#[37, 43, 46, 48, 102, 32, 37, 115]⟩) (hc : Float64.halfEven (Nn * 1) D = c) (hcb : c < 10 ^ 400) (hy : y.length ≤ 1000)
    (h : ∀ t' k, Q (.str (tx (markN neg true ++ numText 0 c) ++ PySem.Str.ofString " " ++ y) t') { s with toks := k }) : wpAny (model prog w) A (binaryOp .Mod (.str X t) (.ref b)) Q E s := by
  have e := fld_val V true 0 (.inl rfl) (digs_pos _)
  rw [show Nn * 10 ^ 0 = Nn * 1 from rfl, hc] at e
  refine KPt.mod_tuple N hb hX (meets_p0 b x u v t y hy (fld_len e hcb)) ?_
  rw [e]
  exact h
theorem mod_n0 (V : IsVal x neg Nn D) (N : News h₀ L s.heap news) (hb : (b, ({ cls := .type "tuple", data := .seq #[.float x u, .str y v] n } : Obj)) ∈ news) (hX : X = ⟨#[37, 46, 48, 102, 32, 37, 115]⟩) (hc : Float64.halfEven (Nn * 1) D = c) (hcb : c < 10 ^ 400) (hy : y.length ≤ 1000)
    (h : ∀ t' k, Q (.str (tx (markN neg false ++ numText 0 c) ++ PySem.Str.ofString " " ++ y) t') { s with toks := k }) : wpAny (model prog w) A (binaryOp .Mod (.str X t) (.ref b)) Q E s := by
  have e := fld_val V false 0 (.inl rfl) (digs_pos _)
  rw [show Nn * 10 ^ 0 = Nn * 1 from rfl, hc] at e
  refine KPt.mod_tuple N hb hX (meets_n0 b x u v t y hy (fld_len e hcb)) ?_
  rw [e]
  exact h
theorem mod_ip0 {i : Int} (hi : i.natAbs < 2 ^ 53) (N : News h₀ L s.heap news) (hb : (b, ({ cls := .type "tuple", data := .seq #[.int i u, .str y v] n } : Obj)) ∈ news) (hX : X = ⟨#[37, 43, 46, 48, 102, 32, 37, 115]⟩) (hc : Float64.halfEven (i.natAbs * 1) 1 = c) (hcb : c < 10 ^ 400) (hy : y.length ≤ 1000)
    (h : ∀ t' k, Q (.str (tx (markN (decide (i < 0)) true ++ numText 0 c) ++ PySem.Str.ofString " " ++ y) t') { s with toks := k }) : wpAny (model prog w) A (binaryOp .Mod (.str X t) (.ref b)) Q E s := by
  have V := ofInt_val hi
  have e := fld_val V true 0 (.inl rfl) (digs_pos _)
  rw [show i.natAbs * 10 ^ 0 = i.natAbs * 1 from rfl, hc] at e
  refine KPt.mod_tuple N hb hX (meets_ip0 b i u v t y hy (val_fin V) (fld_len e hcb)) ?_
  rw [e]
  exact h
theorem mod_in0 {i : Int} (hi : i.natAbs < 2 ^ 53) (N : News h₀ L s.heap news) (hb : (b, ({ cls := .type "tuple", data := .seq #[.int i u, .str y v] n } : Obj)) ∈ news) (hX : X = ⟨#[37, 46, 48, 102, 32, 37, 115]⟩) (hc : Float64.halfEven (i.natAbs * 1) 1 = c) (hcb : c < 10 ^ 400) (hy : y.length ≤ 1000)
    (h : ∀ t' k, Q (.str (tx (markN (decide (i < 0)) false ++ numText 0 c) ++ PySem.Str.ofString " " ++ y) t') { s with toks := k }) : wpAny (model prog w) A (binaryOp .Mod (.str X t) (.ref b)) Q E s := by
  have V := ofInt_val hi
  have e := fld_val V false 0 (.inl rfl) (digs_pos _)
  rw [show i.natAbs * 10 ^ 0 = i.natAbs * 1 from rfl, hc] at e
  refine KPt.mod_tuple N hb hX (meets_in0 b i u v t y hy (val_fin V) (fld_len e hcb)) ?_
  rw [e]
  exact h
end
end Mine
end
section
set_option maxRecDepth 100000
namespace Mine
open PySem PySem.Float64 PySem.Builtin.Str PyProof.Rows PySem.Calls PySem.W
theorem he_ge10 {N D : Nat} (hD : 0 < D) (h : 10 * D ≤ N) : 10 ≤ halfEven (N * 10) D := by
  have h1 : 100 ≤ N * 10 / D := by
    rw [Nat.le_div_iff_mul_le hD]; omega
  rw [he_val]
  split <;> omega
theorem he_lt1 {N D : Nat} (h : N < 2 ^ 1100) : halfEven (N * 10) D < 10 ^ 400 := by
  have h1 := he_le (N * 10) D
  have h2 : (2 : Nat) ^ 1100 * 10 + 1 < 10 ^ 400 := by decide +kernel
  generalize (2 : Nat) ^ 1100 = K at h h2
  generalize (10 : Nat) ^ 400 = J at h2 ⊢
  omega
theorem he_lt0 {N D : Nat} (h : N < 2 ^ 1100) : halfEven (N * 1) D < 10 ^ 400 := by
  have h1 := he_le (N * 1) D
  have h2 : (2 : Nat) ^ 1100 * 10 + 1 < 10 ^ 400 := by decide +kernel
  generalize (2 : Nat) ^ 1100 = K at h h2
  generalize (10 : Nat) ^ 400 = J at h2 ⊢
  omega
section
variable {prog : Program} {w : World} {A : Around} {E : Value → Shared → Prop} {s : Shared} {Q : Value → Shared → Prop} {t u : Tok}
theorem lt_absC {x : UInt64} {neg : Bool} {N D : Nat} {c' : Int} (V : IsVal x neg N D) (c : Nat) (hc : c' = (c : Int)) (h : Q (.bool (decide (N < c * D))) s) :
    wpAny (model prog w) A (compareOp .Lt (.float (Float64.abs x) t) (.int c' u)) Q E s := by
  subst hc; exact lt_absF V c h
end
theorem endF {N D k U p c : Nat} {neg sg b : Bool} (hb : b = sg) (hk : lev N D = k) (hU : 1024 ^ k * D = U) (hp : figs N U k = p) (hc : halfEven (N * 10 ^ p) U = c) {us : String} (hus : unitS k = us) :
    tx (markN neg sg ++ numText p c) ++ Str.ofString " " ++ Str.ofString us = tx (markN neg b) ++ textN N D := by
  subst hb hus
  rw [textN_is hk hU hp hc, ← tx_append]
  have a : ∀ x y z : Str, x ++ y ++ z = x ++ (y ++ z) := fun x y z => PySem.Str.append_assoc x y z
  simp only [a]
theorem figs1 {N U k : Nat} (hk : k ≠ 0) (h : N < 100 * U) : figs N U k = 1 := by unfold figs; rw [if_pos ⟨hk, h⟩]
theorem figs0 {N U k : Nat} (h : k = 0 ∨ 100 * U ≤ N) : figs N U k = 0 := by unfold figs; rw [if_neg (by omega)]
end Mine
namespace Mine
open PySem PySem.Float64 PySem.Builtin.Str PyProof.Rows PySem.Calls PySem.W
/-- a whole amount that a float holds over 1024, too -/
structure Ok10 (N : Nat) : Prop where
  rep : ∃ M j, M ≤ 2 ^ 53 ∧ N * 2 ^ 1074 = 1024 * (M * 2 ^ j)
  fits : N < 2 ^ 1023
theorem Ok10.lt (h : Ok10 N) : N < 2 ^ 1100 := Nat.lt_trans h.fits (Nat.pow_lt_pow_right (by decide) (by decide))
theorem ok_lt1 {N D : Nat} (h : Ok10 N) : halfEven (N * 10) D < 10 ^ 400 := he_lt1 h.lt
theorem ok_lt0 {N D : Nat} (h : Ok10 N) : halfEven (N * 1) D < 10 ^ 400 := he_lt0 h.lt
section
variable {prog : Program} {w : World} {A : Around} {E : Value → Shared → Prop} {s : Shared} {Q : Value → Shared → Prop} {t u : Tok}
theorem idiv_ok {n : Int} (hA : A.handled = none) (hk : Ok10 n.natAbs)
    (h : ∀ x, IsVal x (decide (n < 0)) n.natAbs 1024 → Q (.float x s.toks) { s with toks := s.toks + 1 }) :
    wpAny (model prog w) A (inplaceOp .Div (.int n t) (.int 1024 u)) Q E s := idiv_1024 hA hk.rep hk.fits h
end
end Mine
namespace Mine
open PySem PySem.Float64 PySem.Builtin.Str PyProof.Rows PySem.Calls PySem.W
theorem endF1 {N D k U : Nat} {neg sg b : Bool} {us : String} (hus : unitS k = us) (hU : 1024 ^ k * D = U) (hk0 : k ≠ 0) (hk : lev N D = k) (hf : N < 100 * U) (hb : b = sg) :
    tx (markN neg sg ++ numText 1 (halfEven (N * 10) U)) ++ Str.ofString " " ++ Str.ofString us = tx (markN neg b) ++ textN N D :=
  endF hb hk hU (figs1 hk0 hf) rfl hus
theorem endF0 {N D k U : Nat} {neg sg b : Bool} {us : String} (hus : unitS k = us) (hU : 1024 ^ k * D = U) (hk : lev N D = k) (hf : k = 0 ∨ 100 * U ≤ N) (hb : b = sg) :
    tx (markN neg sg ++ numText 0 (halfEven (N * 1) U)) ++ Str.ofString " " ++ Str.ofString us = tx (markN neg b) ++ textN N D :=
  endF hb hk hU (figs0 hf) rfl hus
end Mine
end
section
set_option maxRecDepth 100000
namespace Mine
open PySem PySem.Float64 PySem.Builtin.Str PyProof.Rows PySem.Calls PySem.W
section
variable {prog : Program} {w : World} {A : Around} {E : Value → Shared → Prop} {s : Shared} {Q : Value → Shared → Prop} {t u : Tok}
theorem abs_nat {n : Int} (h : ∀ u tk, Q (.int ((n.natAbs : Nat) : Int) u) { s with toks := tk }) : wpAny (model prog w) A (call (.builtin "abs") [.int n t]) Q E s := by
  refine call_abs_int fun u tk => ?_
  have e : (if n < 0 then -n else n) = ((n.natAbs : Nat) : Int) := by split <;> omega
  rw [e]; exact h u tk
theorem lt_nat {N : Nat} {c' : Int} (c : Nat) (hc : c' = (c : Int)) (h : Q (.bool (decide (N < c))) s) : wpAny (model prog w) A (compareOp .Lt (.int ((N : Nat) : Int) t) (.int c' u)) Q E s := by
  subst hc
  refine lt_int ?_
  have e : decide (((N : Nat) : Int) < ((c : Nat) : Int)) = decide (N < c) := decide_eq_decide.mpr Int.ofNat_lt
  rw [e]; exact h
end
theorem ge10 {N D X : Nat} (h : ¬ N < X) (hX : X = 10 * D) (hD : 0 < D) : 10 ≤ halfEven (N * 10) D := he_ge10 hD (by omega)
theorem ne0 {N X : Nat} (h : ¬ N < X) (hX : 0 < X) : N ≠ 0 := by omega
theorem natlt {N X K : Nat} (h : N < X) (hX : X ≤ K) : N < K := Nat.lt_of_lt_of_le h hX
section
variable {N : Nat} {neg sg b : Bool}
theorem eF0 (h : N < 10240) (hb : b = sg) : tx (markN neg sg ++ numText 0 (halfEven (N * 1) 1)) ++ Str.ofString " " ++ Str.ofString "B" = tx (markN neg b) ++ textN N 1 :=
  endF0 (k := 0) rfl rfl (lev0 (by omega)) (.inl rfl) hb
theorem eF0' (h : N < 100) (hb : b = sg) : tx (markN neg sg ++ numText 0 (halfEven (N * 1) 1)) ++ Str.ofString " " ++ Str.ofString "B" = tx (markN neg b) ++ textN N 1 :=
  eF0 (by omega) hb
theorem eF1p (h1 : ¬ N < 10240) (h2 : N < 102400) (hb : b = sg) : tx (markN neg sg ++ numText 1 (halfEven (N * 10) 1024)) ++ Str.ofString " " ++ Str.ofString "KiB" = tx (markN neg b) ++ textN N 1 :=
  endF1 (k := 1) rfl rfl (by decide) (lev1 (by omega) (by omega)) (by omega) hb
theorem eF1 (h1 : ¬ N < 102400) (h2 : N < 10485760) (hb : b = sg) : tx (markN neg sg ++ numText 0 (halfEven (N * 1) 1024)) ++ Str.ofString " " ++ Str.ofString "KiB" = tx (markN neg b) ++ textN N 1 :=
  endF0 (k := 1) rfl rfl (lev1 (by omega) (by omega)) (.inr (by omega)) hb
theorem eF2p (h1 : ¬ N < 10485760) (h2 : N < 104857600) (hb : b = sg) : tx (markN neg sg ++ numText 1 (halfEven (N * 10) 1048576)) ++ Str.ofString " " ++ Str.ofString "MiB" = tx (markN neg b) ++ textN N 1 :=
  endF1 (k := 2) rfl rfl (by decide) (lev2 (by omega) (by omega)) (by omega) hb
theorem eF2 (h1 : ¬ N < 104857600) (h2 : N < 10737418240) (hb : b = sg) : tx (markN neg sg ++ numText 0 (halfEven (N * 1) 1048576)) ++ Str.ofString " " ++ Str.ofString "MiB" = tx (markN neg b) ++ textN N 1 :=
  endF0 (k := 2) rfl rfl (lev2 (by omega) (by omega)) (.inr (by omega)) hb
theorem eF3p (h1 : ¬ N < 10737418240) (h2 : N < 107374182400) (hb : b = sg) : tx (markN neg sg ++ numText 1 (halfEven (N * 10) 1073741824)) ++ Str.ofString " " ++ Str.ofString "GiB" = tx (markN neg b) ++ textN N 1 :=
  endF1 (k := 3) rfl rfl (by decide) (lev3 (by omega) (by omega)) (by omega) hb
theorem eF3 (h1 : ¬ N < 107374182400) (h2 : N < 10995116277760) (hb : b = sg) : tx (markN neg sg ++ numText 0 (halfEven (N * 1) 1073741824)) ++ Str.ofString " " ++ Str.ofString "GiB" = tx (markN neg b) ++ textN N 1 :=
  endF0 (k := 3) rfl rfl (lev3 (by omega) (by omega)) (.inr (by omega)) hb
theorem eF4p (h1 : ¬ N < 10995116277760) (h2 : N < 109951162777600) (hb : b = sg) : tx (markN neg sg ++ numText 1 (halfEven (N * 10) 1099511627776)) ++ Str.ofString " " ++ Str.ofString "TiB" = tx (markN neg b) ++ textN N 1 :=
  endF1 (k := 4) rfl rfl (by decide) (lev4 (by omega)) (by omega) hb
theorem eF4 (h1 : ¬ N < 109951162777600) (hb : b = sg) : tx (markN neg sg ++ numText 0 (halfEven (N * 1) 1099511627776)) ++ Str.ofString " " ++ Str.ofString "TiB" = tx (markN neg b) ++ textN N 1 :=
  endF0 (k := 4) rfl rfl (lev4 (by omega)) (.inr (by omega)) hb
end
section
variable {n : Int} {c : Nat}
theorem eL4p (h1 : 10 * 1099511627776 ≤ n) (h2 : n < 100 * 1099511627776) (hc : halfEven (n.toNat * 10) 1099511627776 = c) :
    tx ((digN c).take ((digN c).length - 1)) ++ Str.ofString "." ++ tx ((digN c).drop ((digN c).length - 1)) ++ Str.ofString " " ++ Str.ofString "TiB" = textN n.toNat 1 :=
  endP1 (k := 4) (lev4 (by omega)) rfl (by decide) (by omega) hc rfl
theorem eL4 (h1 : 10 * 1099511627776 ≤ n) (h2 : ¬ n < 100 * 1099511627776) (hc : halfEven (n.toNat * 1) 1099511627776 = c) : tx (digN c) ++ Str.ofString " " ++ Str.ofString "TiB" = textN n.toNat 1 :=
  endP0 (k := 4) (lev4 (by omega)) rfl (.inr (by omega)) hc rfl
theorem eL3p (h0 : ¬ 10 * 1099511627776 ≤ n) (h1 : 10 * 1073741824 ≤ n) (h2 : n < 100 * 1073741824) (hc : halfEven (n.toNat * 10) 1073741824 = c) :
    tx ((digN c).take ((digN c).length - 1)) ++ Str.ofString "." ++ tx ((digN c).drop ((digN c).length - 1)) ++ Str.ofString " " ++ Str.ofString "GiB" = textN n.toNat 1 :=
  endP1 (k := 3) (lev3 (by omega) (by omega)) rfl (by decide) (by omega) hc rfl
theorem eL3 (h0 : ¬ 10 * 1099511627776 ≤ n) (h1 : 10 * 1073741824 ≤ n) (h2 : ¬ n < 100 * 1073741824) (hc : halfEven (n.toNat * 1) 1073741824 = c) : tx (digN c) ++ Str.ofString " " ++ Str.ofString "GiB" = textN n.toNat 1 :=
  endP0 (k := 3) (lev3 (by omega) (by omega)) rfl (.inr (by omega)) hc rfl
theorem eL2p (h0 : ¬ 10 * 1073741824 ≤ n) (h1 : 10 * 1048576 ≤ n) (h2 : n < 100 * 1048576) (hc : halfEven (n.toNat * 10) 1048576 = c) :
    tx ((digN c).take ((digN c).length - 1)) ++ Str.ofString "." ++ tx ((digN c).drop ((digN c).length - 1)) ++ Str.ofString " " ++ Str.ofString "MiB" = textN n.toNat 1 :=
  endP1 (k := 2) (lev2 (by omega) (by omega)) rfl (by decide) (by omega) hc rfl
theorem eL2 (h0 : ¬ 10 * 1073741824 ≤ n) (h1 : 10 * 1048576 ≤ n) (h2 : ¬ n < 100 * 1048576) (hc : halfEven (n.toNat * 1) 1048576 = c) : tx (digN c) ++ Str.ofString " " ++ Str.ofString "MiB" = textN n.toNat 1 :=
  endP0 (k := 2) (lev2 (by omega) (by omega)) rfl (.inr (by omega)) hc rfl
theorem eL1p (h0 : ¬ 10 * 1048576 ≤ n) (h1 : 10 * 1024 ≤ n) (h2 : n < 100 * 1024) (hc : halfEven (n.toNat * 10) 1024 = c) :
    tx ((digN c).take ((digN c).length - 1)) ++ Str.ofString "." ++ tx ((digN c).drop ((digN c).length - 1)) ++ Str.ofString " " ++ Str.ofString "KiB" = textN n.toNat 1 :=
  endP1 (k := 1) (lev1 (by omega) (by omega)) rfl (by decide) (by omega) hc rfl
theorem eL1 (h0 : ¬ 10 * 1048576 ≤ n) (h1 : 10 * 1024 ≤ n) (h2 : ¬ n < 100 * 1024) (hc : halfEven (n.toNat * 1) 1024 = c) : tx (digN c) ++ Str.ofString " " ++ Str.ofString "KiB" = textN n.toNat 1 :=
  endP0 (k := 1) (lev1 (by omega) (by omega)) rfl (.inr (by omega)) hc rfl
theorem eL0 (h0 : ¬ 10 * 1024 ≤ n) (hc : halfEven (n.toNat * 1) 1 = c) : tx (digN c) ++ Str.ofString " " ++ Str.ofString "B" = textN n.toNat 1 :=
  endP0 (k := 0) (lev0 (by omega)) rfl (.inl rfl) hc rfl
end
end Mine
end
section
set_option maxRecDepth 100000
namespace Mine
open PySem PySem.Float64 PySem.Builtin.Str PyProof.Rows PySem.Calls PySem.W
theorem ok_amount {r P k : Int} (hP : P = 2 ^ k.toNat) (hk : k < 44) (h1 : r < 9007199254740992) (h0 : 0 ≤ r) :
    0 ≤ r * P ∧ r * P < 2 ^ 100 ∧ Ok10 (r * P).natAbs := by
  obtain ⟨r', rfl⟩ := Int.eq_ofNat_of_zero_le h0
  have e : ((r' : Int) * P) = ((r' * 2 ^ k.toNat : Nat) : Int) := by rw [hP, Int.natCast_mul, Int.natCast_pow]; rfl
  rw [e]
  have hr : r' < 2 ^ 53 := by
    have : ((r' : Nat) : Int) < ((2 ^ 53 : Nat) : Int) := by simpa using h1
    exact Int.ofNat_lt.mp this
  have hkn : k.toNat ≤ 43 := by omega
  have hb : r' * 2 ^ k.toNat < 2 ^ 100 := by
    calc r' * 2 ^ k.toNat < 2 ^ 53 * 2 ^ k.toNat := Nat.mul_lt_mul_of_pos_right hr (Nat.two_pow_pos _)
      _ ≤ 2 ^ 53 * 2 ^ 43 := Nat.mul_le_mul_left _ (Nat.pow_le_pow_right (by decide) hkn)
      _ < 2 ^ 100 := by decide
  refine ⟨Int.natCast_nonneg _, ?_, ?_⟩
  · have : ((r' * 2 ^ k.toNat : Nat) : Int) < ((2 ^ 100 : Nat) : Int) := Int.ofNat_lt.mpr hb
    simpa using this
  · rw [Int.natAbs_natCast]
    refine ⟨⟨r', k.toNat + 1064, Nat.le_of_lt hr, ?_⟩, Nat.lt_trans hb (Nat.pow_lt_pow_right (by decide) (by decide))⟩
    have e1 : (2 : Nat) ^ 1074 = 1024 * 2 ^ 1064 := by
      rw [show (1024 : Nat) = 2 ^ 10 by decide, ← Nat.pow_add]
    rw [e1, Nat.pow_add]; ac_rfl
theorem Ok10.neg {a : Int} (h : Ok10 a.natAbs) : Ok10 (-a).natAbs := by rw [Int.natAbs_neg]; exact h
theorem unit_len (k : Nat) : (Str.ofString (unitS k)).length ≤ 3 := by
  unfold unitS
  split <;> decide +kernel
theorem textN_len {N D : Nat} (h : N < 2 ^ 1100) : (textN N D).length ≤ 1000 := by
  unfold textN
  have h1 : ∀ p U, p ≤ 1 → (numText p (halfEven (N * 10 ^ p) U)).length ≤ 500 := by
    intro p U hp
    have a := numText_len p (halfEven (N * 10 ^ p) U)
    have b : halfEven (N * 10 ^ p) U < 10 ^ 400 := by
      rcases Nat.le_one_iff_eq_zero_or_eq_one.mp hp with rfl | rfl
      · exact he_lt0 h
      · exact he_lt1 h
    have c := digs_le (k := 400) (by decide) b
    rw [digN_len] at a
    omega
  have h2 : ∀ U k, figs N U k ≤ 1 := by intro U k; unfold figs; split <;> omega
  rw [PySem.Str.length_append, PySem.Str.length_append, tx_len, l_sp]
  have := h1 (figs N (1024 ^ lev N D * D) (lev N D)) (1024 ^ lev N D * D) (h2 _ _)
  have := unit_len (lev N D)
  omega
section
variable {prog : Program} {w : World} {A : Around} {E : Value → Shared → Prop} {s : Shared} {Q : Value → Shared → Prop} {t u : Tok}
theorem ne_same {x y : Str} (e : x = y) (h : Q (.bool false) s) : wpAny (model prog w) A (compareOp .NotEq (.str x t) (.str y u)) Q E s := by
  subst e
  refine ne_str ?_
  first
    | simpa using h
    | (simp; exact h)
theorem add_text {x : Str} {N D : Nat} (hx : x.length ≤ 10) (hN : N < 2 ^ 1100) (h : ∀ t' tk, Q (.str (x ++ textN N D) t') { s with toks := tk }) : wpAny (model prog w) A (binaryOp .Add (.str x t) (.str (textN N D) u)) Q E s :=
  PyProof.Rows.add_str h (by have := textN_len (D := D) hN; rw [sizeLine_eq]; omega)
end
theorem mark_minus {a : Int} {b : Bool} (h : -a < 0) (h0 : 0 ≤ a) : tx (markN (decide (-a < 0)) b) ++ textN (-a).natAbs 1 = Str.ofString "-" ++ textN a.toNat 1 := by
  rw [decide_eq_true h]
  have e : (-a).natAbs = a.toNat := by omega
  rw [e]; rfl
theorem mark_plus {n a : Int} {b : Bool} (h : ¬ n < 0) (e : n.natAbs = a.toNat) (hb : b = true) : tx (markN (decide (n < 0)) b) ++ textN n.natAbs 1 = Str.ofString "+" ++ textN a.toNat 1 := by
  rw [decide_eq_false h, e, hb]; rfl
theorem mark_none {n a : Int} {b : Bool} (h : ¬ n < 0) (e : n.natAbs = a.toNat) (hb : b = false) : tx (markN (decide (n < 0)) b) ++ textN n.natAbs 1 = Str.ofString "" ++ textN a.toNat 1 := by
  rw [decide_eq_false h, e, hb]; rfl
end Mine
namespace Mine
theorem toNat_lt {a : Int} (h : a < 2 ^ 100) : a.toNat < 2 ^ 1100 := by
  have h1 : a.toNat < 2 ^ 101 := by omega
  exact Nat.lt_trans h1 (Nat.pow_lt_pow_right (by decide) (by decide))
end Mine
namespace Mine
open PySem PySem.Float64 PySem.Builtin.Str PyProof.Rows PySem.Calls PySem.W
section
variable {prog : Program} {w : World} {A : Around} {E : Value → Shared → Prop} {s : Shared} {Q : Value → Shared → Prop} {t u : Tok} {n a : Int} {b : Bool}
theorem ne_minus (h : -a < 0) (h0 : 0 ≤ a) (hQ : Q (.bool false) s) : wpAny (model prog w) A (compareOp .NotEq (.str (tx (markN (decide (-a < 0)) b) ++ textN (-a).natAbs 1) t) (.str (Str.ofString "-" ++ textN a.toNat 1) u)) Q E s := ne_same (mark_minus h h0) hQ
theorem ne_plus (h : ¬ n < 0) (e : n.natAbs = a.toNat) (hb : b = true) (hQ : Q (.bool false) s) : wpAny (model prog w) A (compareOp .NotEq (.str (tx (markN (decide (n < 0)) b) ++ textN n.natAbs 1) t) (.str (Str.ofString "+" ++ textN a.toNat 1) u)) Q E s := ne_same (mark_plus h e hb) hQ
theorem ne_none (h : ¬ n < 0) (e : n.natAbs = a.toNat) (hb : b = false) (hQ : Q (.bool false) s) : wpAny (model prog w) A (compareOp .NotEq (.str (tx (markN (decide (n < 0)) b) ++ textN n.natAbs 1) t) (.str (Str.ofString "" ++ textN a.toNat 1) u)) Q E s := ne_same (mark_none h e hb) hQ
end
end Mine
namespace Mine
open PySem PySem.Float64 PySem.Builtin.Str PyProof.Rows PySem.Calls PySem.W
theorem eq_any {n a : Int} {b : Bool} {M : Str} (hM : tx (markN (decide (n < 0)) b) = M) (e : n.natAbs = a.toNat) : tx (markN (decide (n < 0)) b) ++ textN n.natAbs 1 = M ++ textN a.toNat 1 := by rw [hM, e]
theorem hM_minus {n : Int} {b : Bool} (h : n < 0) : tx (markN (decide (n < 0)) b) = Str.ofString "-" := by rw [decide_eq_true h]; rfl
theorem hM_plus {n : Int} {b : Bool} (h : ¬ n < 0) (hb : b = true) : tx (markN (decide (n < 0)) b) = Str.ofString "+" := by rw [decide_eq_false h, hb]; rfl
theorem hM_none {n : Int} {b : Bool} (h : ¬ n < 0) (hb : b = false) : tx (markN (decide (n < 0)) b) = Str.ofString "" := by rw [decide_eq_false h, hb]; rfl
end Mine
end
section
set_option maxRecDepth 100000
namespace Mine
open PySem PySem.W PyProof.Rows PySem.Calls
section
variable {prog : Program} {w : World} {A₀ A : Around} {s : Shared} {base h₀ : Heap} {L a : Addr} {m : Str → Option Value} {cn : Str} {cs : Scope} {ccd : Value} {K : Frag} {p : Program} {loose : List Str} {mean : ExcName → Option Value} {mg mb : Str → Option Value}
    {R : Result → Shared → Prop} {name qual : Str} {params : Arguments} {body : List Stmt} {scope : Scope} {dV kV doc pm cdv ct oc : Value} {an od : Option Addr} {osl : Array (Option Value)} {f : Addr} {args : Args} {binds : List (Str × Value)}
/-- a def with a try called, all that stands taken as the callee's base -/
theorem call_try (B : Below A₀ base [] h₀) (F : Fr h₀ L s.heap m) (X₀ : K.In h₀) (T : Top p loose mean mg mb h₀) (hA : A.frames = some [envOf cn cs L a ccd])
    (ho : K.lookup f = some ⟨oc, od, .func (fnOf name qual params body scope dV kV doc pm an cdv ct), osl⟩) (hcd : codeIn K cdv qual = true) (hroom : A.depth < recursionLimit)
    (hbind : BindsTo s (fnOf name qual params body scope dV kV doc pm an cdv ct) args binds) (hloc : ∀ y ∈ binds, scope.names.lookup y.1 = some .local)
    (h : ∀ L' h₁, Fr s.heap L' h₁ (fun y => binds.reverse.lookup y) → News s.heap L' h₁ [] → Below A base [envOf cn cs L a ccd] s.heap → K.In s.heap → Top p loose mean mg mb s.heap → KtsDicts ([envOf cn cs L a ccd].filterMap (·.frame)) s.heap →
      wpAny (model prog w) (A.deeper (envOf qual scope L' f cdv)) (execs body (envOf qual scope L' f cdv))
        (fun fl s' => R (.ok (.ret (match fl with | .ret v => v | _ => .none))) s')
        (fun e s' => wpAny (model prog w) (A.deeper (envOf qual scope L' f cdv)) (leaving (envOf qual scope L' f cdv) e) (fun _ s'' => R (.error e) s'') (fun e' s'' => R (.error e') s'') s')
        { s with heap := h₁, toks := s.toks + binds.length })
    (hck : cs.kind = .function) (hco : scope.isCoroutine = false) (hgen : scope.isGenerator = false) (hk : scope.kind = .function)
    (hcell : ∀ x ∈ scope.names, x.2 ≠ .cell) : codeAny (model prog w) A (.call (.ref f) args) R s := by
  have X := X₀.keeps F.keep
  have T' := T.keeps F.keep
  have N0 : News h₀ L s.heap [] := fun _ hp => nomatch hp
  refine codeAny_call_def (fd := fnOf name qual params body scope dV kV doc pm an cdv ct) (body := body) (binds := binds) hroom (X _ _ ho) rfl T'.nolimit (codeRec_of X hcd) rfl hbind hcell hloc (fun h₁ hns hk₁ => ?_) hco hgen hk
  obtain ⟨oL, es, ep, hLg, hLd, hN, hNs, st, B₂⟩ := kts_enter B F N0 hA hck
  have e0 : hideAll s.heap (([] : List (Addr × Obj)).map (·.1)) = s.heap := rfl
  rw [e0] at hLg st B₂
  refine h s.heap.objs.size h₁ ⟨hns, hk₁, Nat.le_refl _⟩ (fun _ hp => nomatch hp) B₂ X T' (fun b hb => ?_)
  rcases List.mem_filterMap.mp hb with ⟨env, he, hf⟩
  rcases List.mem_singleton.mp he with rfl
  obtain rfl : L = b := Option.some.inj hf
  exact ⟨oL, es, ep, hLg, hLd⟩
end
section
variable {h₀ g : Heap} {s : Shared} {L L' : Addr} {m m' : Str → Option Value} {news : List (Addr × Obj)} {h' : Heap} {fs : List Addr}
theorem news_nil {h₀ : Heap} {L : Addr} {h : Heap} : News h₀ L h [] := fun _ hp => nomatch hp
/-- the caller's frame and ledger behind a call in which something was caught -/
theorem turn_back (F : Fr h₀ L s.heap m) (N : News h₀ L s.heap news) (T : KtsTurn fs s.heap g) (F' : Fr g L' h' m') (hfs : fs = [L]) : Fr h₀ L h' m ∧ News h₀ L h' news := by
  subst hfs
  obtain ⟨oL, es, ep, hL, hLd, hLk, hLf⟩ := id F.ns
  obtain ⟨sl, hs⟩ := T.frame L oL hL (List.mem_singleton.mpr rfl)
  have nL₀ : h₀.get? L = none := kts_self F
  refine ⟨⟨⟨_, es, ep, F'.keep _ _ hs, hLd, hLk, hLf⟩, fun b o e => F'.keep b o (T.other b o (F.keep b o e) fun q => ?_), F.above⟩, fun p hp => ⟨F'.keep _ _ (T.other _ _ (N p hp).1 fun q => ?_), (N p hp).2⟩⟩
  · rw [List.mem_singleton.mp q, nL₀] at e; cases e
  · exact (N p hp).2.1 (List.mem_singleton.mp q)
theorem plain_back (F : Fr h₀ L s.heap m) (N : News h₀ L s.heap news) (F' : Fr s.heap L' h' m') : Fr h₀ L h' m ∧ News h₀ L h' news := ⟨F.keeps F'.keep, N.grown F'.keep⟩
theorem fin_try {Q : Value → Shared → Prop} {X X' : Str} {t : Tok} {k : Nat} (hret : ∀ t' h' tk', Fr h₀ L h' m → News h₀ L h' news → Q (.str X t') { s with heap := h', toks := tk' }) (hb : Fr h₀ L h' m ∧ News h₀ L h' news) (e : X' = X) : Q (.str X' t) { s with heap := h', toks := k } := by
  subst e; exact hret _ _ _ hb.1 hb.2
end
end Mine
end
section
set_option maxRecDepth 100000
namespace Mine
open PySem PySem.Float64 PySem.Builtin.Str PyProof.Rows PySem.Calls PySem.W
section
variable {prog : Program} {w : World} {A : Around} {E : Value → Shared → Prop} {s : Shared} {Q : Value → Shared → Prop} {t u : Tok}
/-- abs of what has no __abs__ -/
theorem abs_no {v : Value} {T : String} (hA : A.handled = none) (hT : s.TypeIs v T) (hl : typeLookup (.type T) (Str.ofString "__abs__") = pure none)
    (hn : (Value.type T == Value.type "builtin_function_or_method") = false) (hm : (Str.ofString s!"bad operand type for abs(): '{shownName T}'").length ≤ sizeLine)
    (h : ∀ h' tk e, Heap.NewExc s.heap h' e "TypeError" → E (.ref e) { s with heap := h', toks := tk }) :
    wpAny (model prog w) A (call (.builtin "abs") [v]) Q E s := by
  refine call_function_entry kind_abs plain_abs entry_abs (args_abs _) ?_
  unfold Builtin.«abs»
  refine wpAny_bind (m := oneArg "abs" _) (wpAny_pure ?_)
  refine wpAny_bind (wpAny_callSpecial?_none (name := Str.ofString "__abs__") hT hl ?_)
  dsimp only
  refine wpAny_bind (m := rule _) ?_
  refine wpAny_rule ?_
  refine wpAny_bind (wpAny_typeNameOf' hT hn ?_)
  exact wpAny_raiseErrorMade plainExc_TypeError hA h hm
end
theorem noAbs_none : typeLookup (.type "NoneType") (Str.ofString "__abs__") = pure none := by rw [typeLookup_type, builtinLookup_eq_fast]; kernel_rfl
theorem noAbs_list : typeLookup (.type "list") (Str.ofString "__abs__") = pure none := by rw [typeLookup_type, builtinLookup_eq_fast]; kernel_rfl
theorem noAbs_tuple : typeLookup (.type "tuple") (Str.ofString "__abs__") = pure none := by rw [typeLookup_type, builtinLookup_eq_fast]; kernel_rfl
theorem noAbs_str : typeLookup (.type "str") (Str.ofString "__abs__") = pure none := by rw [typeLookup_type, builtinLookup_eq_fast]; kernel_rfl
theorem noAbs_dict : typeLookup (.type "dict") (Str.ofString "__abs__") = pure none := by rw [typeLookup_type, builtinLookup_eq_fast]; kernel_rfl
/-- a value that abs refuses, in every heap above h₀ -/
structure NoAbs (h₀ : Heap) (v : Value) : Prop where
  out : ∃ T, (∀ s' : Shared, (∀ b o, h₀.get? b = some o → s'.heap.get? b = some o) → s'.TypeIs v T) ∧ typeLookup (.type T) (Str.ofString "__abs__") = pure none ∧
    (Value.type T == Value.type "builtin_function_or_method") = false ∧ (Str.ofString s!"bad operand type for abs(): '{shownName T}'").length ≤ sizeLine
section
variable {prog : Program} {w : World} {A : Around} {E : Value → Shared → Prop} {s : Shared} {Q : Value → Shared → Prop} {h₀ : Heap} {v : Value}
theorem abs_noV (hv : NoAbs h₀ v) (hk : ∀ b o, h₀.get? b = some o → s.heap.get? b = some o) (hA : A.handled = none)
    (h : ∀ h' tk e, Heap.NewExc s.heap h' e "TypeError" → E (.ref e) { s with heap := h', toks := tk }) :
    wpAny (model prog w) A (call (.builtin "abs") [v]) Q E s := by
  obtain ⟨T, h1, h2, h3, h4⟩ := hv.out
  exact abs_no hA (h1 s hk) h2 h3 h4 h
end
theorem noV_none (h₀ : Heap) : NoAbs h₀ .none := ⟨⟨"NoneType", fun _ _ => rfl, noAbs_none, by decide, by decide +kernel⟩⟩
theorem noV_str (h₀ : Heap) (x : Str) (t : Tok) : NoAbs h₀ (.str x t) := ⟨⟨"str", fun s _ => typeIs_str s x t, noAbs_str, by decide, by decide +kernel⟩⟩
theorem noV_list {h₀ : Heap} {a : Addr} {o : Obj} (h : h₀.get? a = some o) (hc : o.cls = .type "list") : NoAbs h₀ (.ref a) := ⟨⟨"list", fun s hk => ⟨o, hk a o h, hc⟩, noAbs_list, by decide, by decide +kernel⟩⟩
theorem noV_tuple {h₀ : Heap} {a : Addr} {o : Obj} (h : h₀.get? a = some o) (hc : o.cls = .type "tuple") : NoAbs h₀ (.ref a) := ⟨⟨"tuple", fun s hk => ⟨o, hk a o h, hc⟩, noAbs_tuple, by decide, by decide +kernel⟩⟩
theorem noV_dict {h₀ : Heap} {a : Addr} {o : Obj} (h : h₀.get? a = some o) (hc : o.cls = .type "dict") : NoAbs h₀ (.ref a) := ⟨⟨"dict", fun s hk => ⟨o, hk a o h, hc⟩, noAbs_dict, by decide, by decide +kernel⟩⟩
theorem keep2 {h₀ h₁ h₂ : Heap} {L L' : Addr} {m m' : Str → Option Value} (F : Fr h₁ L h₂ m) (G : Fr h₀ L' h₁ m') : ∀ b o, h₀.get? b = some o → h₂.get? b = some o := fun b o h => F.keep b o (G.keep b o h)
end Mine
end
section
set_option maxRecDepth 100000
namespace Mine
open PySem PySem.Float64 PySem.Builtin.Str PyProof.Rows PySem.Calls PySem.W
/-- what a value counts as, in every heap above h₀ -/
structure TruthV (prog : Program) (w : World) (h₀ : Heap) (v : Value) (b : Bool) : Prop where
  go : ∀ (A : Around) (E : Value → Shared → Prop) (Q : Bool → Shared → Prop) (s : Shared), (∀ b o, h₀.get? b = some o → s.heap.get? b = some o) → (∀ k, Q b { s with toks := k }) → wpAny (model prog w) A (truthy v) Q E s
section
variable {prog : Program} {w : World} {h₀ : Heap}
theorem tv_bool (b : Bool) : TruthV prog w h₀ (.bool b) b := ⟨fun A E Q s _ h => wpAny_truthy_bool (h s.toks)⟩
theorem tv_none : TruthV prog w h₀ .none false := ⟨fun A E Q s _ h => fun _ _ _ => h s.toks⟩
theorem tv_int0 (t : Tok) : TruthV prog w h₀ (.int 0 t) false := ⟨fun A E Q s _ h => PyProof.Rows.truthy_int (h s.toks)⟩
theorem tv_intm (t : Tok) : TruthV prog w h₀ (.int (-1) t) true := ⟨fun A E Q s _ h => PyProof.Rows.truthy_int (h s.toks)⟩
theorem tv_str {x : Str} {b : Bool} (t : Tok) (e : ((x.length : Int) != 0) = b) (hl : x.length ≤ 16777216) : TruthV prog w h₀ (.str x t) b := ⟨fun A E Q s _ h => KXt.truthy e hl h⟩
theorem tv_list {a : Addr} {o : Obj} {items : Array Value} {n : Nat} {b : Bool} (hx : h₀.get? a = some o) (hc : o.cls = .type "list") (hd : o.data = .seq items n) (hfit : (items.size : Int) < 2 ^ 63) (e : (!items.isEmpty) = b) : TruthV prog w h₀ (.ref a) b :=
  ⟨fun A E Q s hk h => wpAny_truthy_list ⟨o, hk a o hx, hc, n, hd⟩ hfit (by rw [e]; exact h _)⟩
theorem tv_tuple {a : Addr} {items : Array Value} {n : Nat} {b : Bool} (hx : h₀.get? a = some { cls := .type "tuple", data := .seq items n }) (hfit : ¬ (items.size : Int) ≥ 2 ^ 63) (e : (!items.isEmpty) = b) : TruthV prog w h₀ (.ref a) b :=
  ⟨fun A E Q s hk h => ktl_truthy (hk a _ hx) hfit (by rw [e]; exact h _)⟩
variable {A : Around} {E : Value → Shared → Prop} {s : Shared} {v : Value} {b : Bool}
theorem truthV {Q : Bool → Shared → Prop} (hv : TruthV prog w h₀ v b) (hk : ∀ b o, h₀.get? b = some o → s.heap.get? b = some o) (h : ∀ k, Q b { s with toks := k }) : wpAny (model prog w) A (truthy v) Q E s := hv.go A E Q s hk h
end
/-- a whole amount that a float holds, from 2 ** 47 on -/
structure Big (N : Nat) : Prop where
  rep : ∃ M k, 1 ≤ M ∧ M < 2 ^ 53 ∧ (47 ≤ k ∧ k ≤ 1034) ∧ N = M * 2 ^ k
theorem Big.ge {N : Nat} (h : Big N) : 140737488355328 ≤ N := by
  obtain ⟨M, k, h1, h2, ⟨h3, h5⟩, rfl⟩ := h.rep
  calc 140737488355328 = 1 * 2 ^ 47 := by decide
    _ ≤ M * 2 ^ k := Nat.mul_le_mul h1 (Nat.pow_le_pow_right (by decide) h3)
/-- below and above the greatest float's reach -/
def Fits (N : Nat) : Prop := N < 2 ^ 1034
theorem inf_over {neg : Bool} {N : Nat} (h : ¬ Fits N) : isInf (ofFrac neg N 1024) = true := by
  obtain ⟨t, hr, hle, hinf, _⟩ := ofFrac_right (neg := neg) (n := N) (d := 1024) (W := N * 2 ^ 1074) (D := 1024) (by decide) rfl (by decide)
  have ht : t = infMag := by
    refine hinf.mpr ?_
    have h1 : 2 ^ 1034 ≤ N := Nat.le_of_not_lt h
    have h2 : 2 ^ 1034 * 2 ^ 1074 ≤ N * 2 ^ 1074 := Nat.mul_le_mul_right _ h1
    have h3 : (2 : Nat) ^ 1034 * 2 ^ 1074 = 9223372036854775808 * 2 ^ 2045 := by
      rw [← Nat.pow_add, show (9223372036854775808 : Nat) = 2 ^ 63 by decide, ← Nat.pow_add]
    rw [h3] at h2
    generalize (2 : Nat) ^ 2045 = K at h2 ⊢
    generalize N * 2 ^ 1074 = Z at h2 ⊢
    omega
  rw [hr, ht]
  cases neg <;> decide +kernel
theorem Big.val {neg : Bool} {N : Nat} (h : Big N) (hf : Fits N) : IsVal (ofFrac neg N 1024) neg N 1024 := by
  obtain ⟨M, k, h1, h2, ⟨h3, h5⟩, rfl⟩ := h.rep
  unfold Fits at hf
  refine val_ofFrac (by decide) ⟨M, k + 1064, Nat.le_of_lt h2, ?_⟩ ?_
  · have e1 : (2 : Nat) ^ 1074 = 1024 * 2 ^ 1064 := by rw [show (1024 : Nat) = 2 ^ 10 by decide, ← Nat.pow_add]
    rw [e1, Nat.pow_add]; ac_rfl
  · have key : M * 2 ^ k ≤ (2 ^ 53 - 1) * 2 ^ 981 := by
      by_cases hk : 981 ≤ k
      · have e2 : (2 : Nat) ^ k = 2 ^ (k - 981) * 2 ^ 981 := by rw [← Nat.pow_add]; congr 1; omega
        rw [e2, ← Nat.mul_assoc] at hf ⊢
        have e3 : (2 : Nat) ^ 1034 = 2 ^ 53 * 2 ^ 981 := by rw [← Nat.pow_add]
        rw [e3] at hf
        have := Nat.lt_of_mul_lt_mul_right hf
        exact Nat.mul_le_mul_right _ (by omega)
      · exact Nat.mul_le_mul (by omega) (Nat.pow_le_pow_right (by decide) (by omega))
    have h4 : M * 2 ^ k * 2 ^ 1074 ≤ (2 ^ 53 - 1) * 2 ^ 981 * 2 ^ 1074 := Nat.mul_le_mul_right _ key
    have e4 : (2 ^ 53 - 1) * 2 ^ 981 * 2 ^ 1074 = (2 ^ 53 - 1) * 1024 * 2 ^ 2045 := by
      rw [Nat.mul_assoc, Nat.mul_assoc, ← Nat.pow_add, show (1024 : Nat) = 2 ^ 10 by decide, ← Nat.pow_add]
    rw [e4] at h4
    have hp : 0 < (2 : Nat) ^ 2045 := Nat.two_pow_pos _
    generalize (2 : Nat) ^ 2045 = K at h4 hp ⊢
    generalize M * 2 ^ k * 2 ^ 1074 = Z at h4 ⊢
    omega
theorem Fits.lt {N : Nat} (h : Fits N) : N < 2 ^ 1100 := Nat.lt_trans h (Nat.pow_lt_pow_right (by decide) (by decide))
theorem Fits.lt0 {N D : Nat} (h : Fits N) : halfEven (N * 1) D < 10 ^ 400 := he_lt0 h.lt
section
variable {prog : Program} {w : World} {A : Around} {E : Value → Shared → Prop} {s : Shared} {Q : Value → Shared → Prop} {t u : Tok} {n : Int}
theorem e1024 (n : Int) : (decide (n < 0) != decide ((1024 : Int) < 0)) = decide (n < 0) := by
  have : decide ((1024 : Int) < 0) = false := by decide
  rw [this]; cases decide (n < 0) <;> rfl
theorem idiv_big (hA : A.handled = none) (hb : Big n.natAbs) (hf : Fits n.natAbs) (h : ∀ x, IsVal x (decide (n < 0)) n.natAbs 1024 → Q (.float x s.toks) { s with toks := s.toks + 1 }) :
    wpAny (model prog w) A (inplaceOp .Div (.int n t) (.int 1024 u)) Q E s := by
  have V := hb.val (neg := decide (n < 0)) hf
  refine PySem.Flt.idiv_ii hA (fun h0 => absurd h0 (by decide)) (fun _ hi => ?_) (fun _ _ => ?_)
  · rw [e1024] at hi
    exact absurd hi (val_fin V)
  · rw [e1024]; exact h _ V
theorem idiv_over (hA : A.handled = none) (hf : ¬ Fits n.natAbs) (h : ∀ h' tk e, Heap.NewExc s.heap h' e "OverflowError" → E (.ref e) { s with heap := h', toks := tk }) :
    wpAny (model prog w) A (inplaceOp .Div (.int n t) (.int 1024 u)) Q E s := by
  refine PySem.Flt.idiv_ii hA (fun h0 => absurd h0 (by decide)) (fun _ _ => h) (fun _ hi => ?_)
  rw [e1024] at hi
  exact absurd (inf_over hf) hi
end
def bigText (neg b : Bool) (N : Nat) : Str := tx (markN neg b ++ numText 0 (halfEven (N * 1) 1099511627776)) ++ Str.ofString " " ++ Str.ofString "TiB"
theorem bigT {neg sg b : Bool} {N : Nat} (hb : b = sg) : tx (markN neg sg ++ numText 0 (halfEven (N * 1) 1099511627776)) ++ Str.ofString " " ++ Str.ofString "TiB" = bigText neg b N := by subst hb; rfl
end Mine
end
section
set_option maxRecDepth 100000
namespace Mine
open PySem PySem.Float64 PySem.Builtin.Str PyProof.Rows PySem.Calls PySem.W
theorem ten_cases (i : Nat) : ∃ q j : Int, (i : Int) = 10 * q + j ∧ (j = 0 ∨ j = 1 ∨ j = 2 ∨ j = 3 ∨ j = 4 ∨ j = 5 ∨ j = 6 ∨ j = 7 ∨ j = 8 ∨ j = 9) := ⟨(i : Int) / 10, (i : Int) % 10, by omega, by omega⟩
theorem big_amount {r P k : Int} (hP : P = 2 ^ k.toNat) (hk : 47 ≤ k) (hk2 : k ≤ 1034) (h0 : 0 ≤ r) (h1 : r < 9007199254740992 - 1) :
    0 ≤ (1 + r) * P ∧ Big ((1 + r) * P).natAbs := by
  obtain ⟨r', rfl⟩ := Int.eq_ofNat_of_zero_le h0
  have e : ((1 + (r' : Int)) * P) = (((1 + r') * 2 ^ k.toNat : Nat) : Int) := by rw [hP, Int.natCast_mul, Int.natCast_pow, Int.natCast_add]; rfl
  rw [e]
  refine ⟨Int.natCast_nonneg _, ⟨⟨1 + r', k.toNat, by omega, ?_, ⟨by omega, by omega⟩, ?_⟩⟩⟩
  · have : (9007199254740992 : Nat) = 2 ^ 53 := by decide
    omega
  · rw [Int.natAbs_natCast]
theorem Big.lt {N : Nat} (h : Big N) : N < 2 ^ 1100 := by
  obtain ⟨M, k, h1, h2, ⟨h3, h5⟩, rfl⟩ := h.rep
  calc M * 2 ^ k < 2 ^ 53 * 2 ^ k := Nat.mul_lt_mul_of_pos_right h2 (Nat.two_pow_pos _)
    _ = 2 ^ (53 + k) := by rw [← Nat.pow_add]
    _ ≤ 2 ^ 1100 := Nat.pow_le_pow_right (by decide) (by omega)
theorem Big.he {N : Nat} (h : Big N) : halfEven (N * 1) 1099511627776 = N / 1099511627776 := by
  obtain ⟨M, k, h1, h2, ⟨h3, h5⟩, rfl⟩ := h.rep
  rw [he_val, Nat.mul_one]
  have e : M * 2 ^ k = 1099511627776 * (M * 2 ^ (k - 40)) := by
    have : (2 : Nat) ^ k = 2 ^ 40 * 2 ^ (k - 40) := by rw [← Nat.pow_add]; congr 1; omega
    rw [this, show (2 : Nat) ^ 40 = 1099511627776 by decide]; ac_rfl
  rw [e, Nat.mul_mod_right, if_neg (by omega)]
theorem over_of_le {P a : Int} (hP : P = 2 ^ (1034 : Int).toNat) (h : P ≤ a) : ¬ Fits a.natAbs := by
  unfold Fits
  have e : P = ((2 ^ 1034 : Nat) : Int) := by rw [hP, Int.natCast_pow]; rfl
  rw [e] at h
  generalize (2 : Nat) ^ 1034 = K at h ⊢
  omega
theorem fits_of_lt {P a : Int} (hP : P = 2 ^ (1034 : Int).toNat) (h0 : 0 ≤ a) (h : ¬ P ≤ a) : Fits a.natAbs := by
  unfold Fits
  have e : P = ((2 ^ 1034 : Nat) : Int) := by rw [hP, Int.natCast_pow]; rfl
  rw [e] at h
  generalize (2 : Nat) ^ 1034 = K at h ⊢
  omega
theorem Big.neg {a : Int} (h : Big a.natAbs) : Big (-a).natAbs := by rw [Int.natAbs_neg]; exact h
theorem Fits.neg {a : Int} (h : Fits a.natAbs) : Fits (-a).natAbs := by rw [Int.natAbs_neg]; exact h
theorem Fits.nneg {a : Int} (h : ¬ Fits a.natAbs) : ¬ Fits (-a).natAbs := by rw [Int.natAbs_neg]; exact h
section
variable {prog : Program} {w : World} {A : Around} {E : Value → Shared → Prop} {s : Shared} {Q : Value → Shared → Prop} {t u : Tok}
theorem pow_small {a b : Int} (hn : 0 ≤ b) (hn2 : b ≤ 100) (ha : a.natAbs < 2 ^ 64) (h : ∀ r, r = a ^ b.toNat → Q (.int r s.toks) { s with toks := s.toks + 1 }) :
    wpAny (model prog w) A (binaryOp .Pow (.int a t) (.int b u)) Q E s := pow_lit hn (by omega) ha h
theorem str_small {n : Int} (h0 : 0 ≤ n) (h1 : n < 1000) (h : ∀ x, Q (.str x s.toks) { s with toks := s.toks + 1 }) :
    wpAny (model prog w) A (call (.type "str") [.int n t]) Q E s := str_lit h0 (Int.lt_trans h1 (by decide +kernel)) (h _)
theorem mod_known {a q j b r : Int} (h : a = 10 * q + j) (hb : 0 < b) (hd : (10 : Int) % b = 0) (hr : j % b = r) (hQ : Q (.int r s.toks) { s with toks := s.toks + 1 }) :
    wpAny (model prog w) A (binaryOp .Mod (.int a t) (.int b u)) Q E s := by
  refine mod_int' (by omega) ?_
  have e : a.fmod b = r := by
    rw [Int.fmod_eq_emod_of_nonneg _ (Int.le_of_lt hb), h, Int.add_emod, Int.mul_emod, hd, Int.zero_mul, Int.zero_emod, Int.zero_add, Int.emod_emod, hr]
  rw [e]; exact hQ
theorem fdiv_big {a : Int} (h0 : 0 ≤ a) (hB : Big a.natAbs) (h : ∀ q, 0 ≤ q → halfEven (a.natAbs * 1) 1099511627776 = q.toNat → q.toNat < 2 ^ 1100 → Q (.int q s.toks) { s with toks := s.toks + 1 }) :
    wpAny (model prog w) A (binaryOp .FloorDiv (.int a t) (.int 1099511627776 u)) Q E s := by
  refine floordiv_int (by decide) ?_ (Or.inl (PyProof.noPylong_of_log2 (by decide +kernel)))
  have hh := hB.he
  have hl := hB.lt
  obtain ⟨N, rfl⟩ := Int.eq_ofNat_of_zero_le h0
  rw [Int.natAbs_natCast] at hh hl
  have e : Int.fdiv ((N : Nat) : Int) 1099511627776 = ((N / 1099511627776 : Nat) : Int) := by
    rw [Int.fdiv_eq_ediv_of_nonneg _ (by decide)]; rfl
  rw [e]
  refine h _ (Int.natCast_nonneg _) (by rw [Int.natAbs_natCast, Int.toNat_natCast]; exact hh) ?_
  rw [Int.toNat_natCast]
  exact Nat.lt_of_le_of_lt (Nat.div_le_self _ _) hl
theorem str_big {q : Int} {N D : Nat} (h0 : 0 ≤ q) (he : halfEven (N * 1) D = q.toNat) (hq : q.toNat < 2 ^ 1100)
    (h : ∀ c, halfEven (N * 1) D = c → (digN c).length ≤ 400 → Q (.str (tx (digN c)) s.toks) { s with toks := s.toks + 1 }) :
    wpAny (model prog w) A (call (.type "str") [.int q t]) Q E s := by
  obtain ⟨c, rfl⟩ := Int.eq_ofNat_of_zero_le h0
  rw [Int.toNat_natCast] at he hq
  have hc : c < 10 ^ 400 := Nat.lt_trans hq (by decide +kernel)
  have hlt : ((c : Nat) : Int) < 2 ^ 1920 := by
    have h1 : c < 2 ^ 1920 := Nat.lt_trans hq (Nat.pow_lt_pow_right (by decide) (by decide))
    have h2 : ((c : Nat) : Int) < ((2 ^ 1920 : Nat) : Int) := Int.ofNat_lt.mpr h1
    rw [Int.natCast_pow] at h2; exact h2
  refine P.str_of_int (shown (N := 2 ^ 1920) (Int.lt_of_lt_of_le (by decide +kernel) (Int.natCast_nonneg c)) hlt (Int.le_refl _)) ?_
  have h' := h c he (by rw [digN_len]; exact digs_le (by decide) hc)
  rw [← int_text c] at h'
  exact h'
end
theorem eq_big {n : Int} {b : Bool} {N c : Nat} {M : Str} (hM : tx (markN (decide (n < 0)) b) = M) (hc : halfEven (N * 1) 1099511627776 = c) (hn : n.natAbs = N) : bigText (decide (n < 0)) b n.natAbs = M ++ tx (digN c) ++ Str.ofString " TiB" := by
  subst hM hn hc
  unfold bigText numText
  rw [if_pos rfl, ← tx_append]
  have a : ∀ x y z : Str, x ++ y ++ z = x ++ (y ++ z) := fun x y z => PySem.Str.append_assoc x y z
  have e : Str.ofString " " ++ Str.ofString "TiB" = Str.ofString " TiB" := by decide +kernel
  rw [a _ (Str.ofString " "), e]
theorem l_TiB : (Str.ofString " TiB").length = 4 := by decide +kernel
theorem l_m : (Str.ofString "-").length = 1 := by decide +kernel
theorem l_p : (Str.ofString "+").length = 1 := by decide +kernel
theorem l_e : (Str.ofString "").length = 0 := by decide +kernel
section
variable {prog : Program} {w : World} {h h₀ : Heap} {L : Addr} {news : List (Addr × Obj)} {a : Addr} {o : Obj}
theorem tvN_list {items : Array Value} {n : Nat} {b : Bool} (N : News h₀ L h news) (hm : (a, o) ∈ news) (hc : o.cls = .type "list") (hd : o.data = .seq items n) (hfit : (items.size : Int) < 2 ^ 63) (e : (!items.isEmpty) = b) : TruthV prog w h (.ref a) b := tv_list (N _ hm).1 hc hd hfit e
theorem tvN_tuple {items : Array Value} {n : Nat} {b : Bool} (N : News h₀ L h news) (hm : (a, ({ cls := .type "tuple", data := .seq items n } : Obj)) ∈ news) (hfit : ¬ (items.size : Int) ≥ 2 ^ 63) (e : (!items.isEmpty) = b) : TruthV prog w h (.ref a) b := tv_tuple (N _ hm).1 hfit e
theorem noN_list (N : News h₀ L h news) (hm : (a, o) ∈ news) (hc : o.cls = .type "list") : NoAbs h (.ref a) := noV_list (N _ hm).1 hc
theorem noN_tuple (N : News h₀ L h news) (hm : (a, o) ∈ news) (hc : o.cls = .type "tuple") : NoAbs h (.ref a) := noV_tuple (N _ hm).1 hc
theorem noN_dictO {prog : Program} {w : World} {K : Type} [DecidableEq K] {knd : KeyKind prog w K} {kvs : List (K × Value)} (N : News h₀ L h news) (hm : (a, o) ∈ news) (hd : o.IsDictOf knd kvs) : NoAbs h (.ref a) := by
  obtain ⟨_, _, hx, _⟩ := hd
  exact noV_dict (N _ hm).1 hx.1
theorem noN_dictI {prog : Program} {w : World} {kvs : List (Int × Value)} (N : News h₀ L h news) (hm : (a, o) ∈ news) (hd : o.IsDictOf (PySem.intKind prog w) kvs) : NoAbs h (.ref a) := noN_dictO N hm hd
theorem noN_dict (N : News h₀ L h news) (hm : (a, o) ∈ news) (hc : o.cls = .type "dict") : NoAbs h (.ref a) := noV_dict (N _ hm).1 hc
end
section
variable {prog : Program} {w : World} {h h₀ : Heap} {L : Addr} {news : List (Addr × Obj)} {a : Addr} {o : Obj} {v : Value} {n : Nat}
theorem tv_empty (t : Tok) : TruthV prog w h (.str (Str.ofString "") t) false := tv_str t (by decide +kernel) (by decide +kernel)
theorem tv_zero (t : Tok) : TruthV prog w h (.str (Str.ofString "0") t) true := tv_str t (by decide +kernel) (by decide +kernel)
theorem tvN_nil (N : News h₀ L h news) (hm : (a, o) ∈ news) (e : o = W.listOf #[] n) : TruthV prog w h (.ref a) false := by
  subst e; exact tvN_list N hm rfl rfl (by simp) rfl
theorem tvN_one (N : News h₀ L h news) (hm : (a, o) ∈ news) (e : o = W.listOf #[v] n) : TruthV prog w h (.ref a) true := by
  subst e; exact tvN_list N hm rfl rfl (by simp) rfl
theorem tvN_tup (N : News h₀ L h news) (hm : (a, o) ∈ news) (e : o = { cls := .type "tuple", data := .seq #[v] n }) : TruthV prog w h (.ref a) true := by
  subst e; exact tvN_tuple N hm (by simp) rfl
end
end Mine
end
section
open PySem PySem.W PyProof.Rows
set_option Elab.async false
set_option maxRecDepth 100000
set_option maxHeartbeats 8000000
local macro_rules | `(tactic| walk_at "execs cons") => `(tactic| ((with_reducible refine wpAny_execs_cons ?_); (try dsimp only)))
local macro_rules | `(tactic| walk_at "execs nil") => `(tactic| ((with_reducible refine wpAny_execs_nil ?_); (try dsimp only)))
local macro_rules | `(tactic| walk_at "eval Constant int") => `(tactic| ((with_reducible refine wpAny_Constant_int ?_); (try dsimp only)))
local macro_rules | `(tactic| walk_at "call builtin:abs") => `(tactic| (k_here; (rename Fr _ _ _ _ => lF'); (with_plain (refine' Mine.abs_noV ?hv ?hk ?hA ?_; (case hv => with_reducible assumption); (case hk => exact Mine.keep2 lF' (by assumption)); (case hA => with_unfolding_all rfl))); (intro h' tk' e' hx'); (try dsimp only)))
theorem Mine.told_no {w : World} {s₀ s₁ : Shared} {mg mb : Str → Option Value} {L a : Addr} {m : Str → Option Value} {cn : Str} {cs : Scope} {ccd : Value} {s : Shared} {Q E : Value → Shared → Prop}
   (G : Ground Mine.hd11.view_39 [] PySem.Challenge.rw_dn0230_11.row.records (XL Mine.hd11.view_39 []) w s₀ mg mb s₁.heap) (KX : (Mine.hd11.heap_39 w.params).In s₁.heap)
   (v sv : Value) {news : List (Addr × Obj)} (hv : Mine.NoAbs s.heap v) (F : Fr s₁.heap L s.heap m) (N : News s₁.heap L s.heap news) (hcs : cs.kind = .function)
   (hret : ∀ t' h' tk', Fr s₁.heap L h' m → News s₁.heap L h' news → Q (.str (Str.ofString "no number") t') { s with heap := h', toks := tk' }) :
   wpAny (model PySem.Challenge.rw_dn0230_11.row.prog w) (callerA.deeper (envOf cn cs L a ccd)) (call (.ref 28) [v, sv]) Q E s := by
  revert KX; k_fill; intro KX
  have X := (Ground.X G).1
  have V := (Ground.X G).2
  w_nolog (have GL := glob_more (Ground.glob G (by first | k_qdec | decide +kernel) (by first | k_qdec | decide +kernel)) V)
  refine Ground.open G ?_
  intro T B D TE TW
  try (refine guard_noD D (by decide +kernel) ?_; clear D)
  obtain ⟨_, _, M⟩ := bmod_of_top T
  have K0 := below_caller (Top.heap T)
  obtain ⟨ck, cnames, cg, cc⟩ := cs
  obtain rfl : ck = .function := hcs
  refine wpAny_call ?_
  refine' Mine.call_try K0 F KX T ?kA ?k6 ?k7 ?k8 ?k9 ?kB ?_ ?cK ?c2 ?c3 ?c4 ?c5
  case kA => exact rfl
  case cK => exact rfl
  case k6 => k_is
  case k7 => k_is
  case k8 => k_room
  case k9 => exact BindsTo.of_eq rfl
  case c5 => decide
  case kB => exact locs rfl
  case c2 => exact rfl
  case c3 => exact rfl
  case c4 => exact rfl
  intro L' h₁ F' N' B' X' T' D'
  (try dsimp only)
  have hback := fun g L' h' m' fs => @Mine.turn_back s₁.heap g s L L' m m' news h' fs F N
  have hplain := fun L' h' m' => @Mine.plain_back s₁.heap s L L' m m' news h' F N
  clear F N
  k_steps
  all_goals (try dsimp only)
  all_goals (with_reducible refine Mine.fin_try hret (hback _ _ _ _ _ (by with_reducible assumption) (by with_reducible assumption) (by k_dflt rfl)) ?_)
  all_goals rfl
end
section
open PySem PySem.W PyProof.Rows
set_option Elab.async false
set_option maxRecDepth 100000
set_option maxHeartbeats 8000000
local macro_rules | `(tactic| walk_at "execs cons") => `(tactic| ((with_reducible refine wpAny_execs_cons ?_); (try dsimp only)))
local macro_rules | `(tactic| walk_at "execs nil") => `(tactic| ((with_reducible refine wpAny_execs_nil ?_); (try dsimp only)))
local macro_rules | `(tactic| walk_at "eval Constant int") => `(tactic| ((with_reducible refine wpAny_Constant_int ?_); (try dsimp only)))
local macro_rules | `(tactic| walk_at "call builtin:abs") => `(tactic| ((with_reducible refine PySem.Flt.call_abs_float ?_); (try dsimp only)))
local macro_rules | `(tactic| walk_at "call builtin:abs") => `(tactic| (k_here; (with_reducible refine Mine.abs_nat ?_); intro u' k'; (try dsimp only)))
local macro_rules | `(tactic| walk_at "compareOp Lt int int") => `(tactic| (k_here; first
  | (refine' Mine.lt_nat 100 ?hc ?_; (case hc => with_unfolding_all rfl); (try dsimp only))
  | (refine' Mine.lt_nat 10240 ?hc ?_; (case hc => with_unfolding_all rfl); (try dsimp only))))
local macro_rules | `(tactic| walk_at "inplaceOp Div int int") => `(tactic| (k_here; (with_plain (refine' Mine.idiv_over ?hA ?hf ?_; (case hA => with_unfolding_all rfl); (case hf => with_reducible assumption))); (intro h' tk' e' hx'); (try dsimp only)))
theorem Mine.told_over {w : World} {s₀ s₁ : Shared} {mg mb : Str → Option Value} {L a : Addr} {m : Str → Option Value} {cn : Str} {cs : Scope} {ccd : Value} {s : Shared} {Q E : Value → Shared → Prop}
   (G : Ground Mine.hd11.view_39 [] PySem.Challenge.rw_dn0230_11.row.records (XL Mine.hd11.view_39 []) w s₀ mg mb s₁.heap) (KX : (Mine.hd11.heap_39 w.params).In s₁.heap)
   (n : Int) (t : Tok) (sv : Value) (b : Bool) {news : List (Addr × Obj)} (hB : Mine.Big n.natAbs) (hge : 140737488355328 ≤ n.natAbs) (hf : ¬ Mine.Fits n.natAbs) (hsv : Mine.TruthV PySem.Challenge.rw_dn0230_11.row.prog w s.heap sv b) (F : Fr s₁.heap L s.heap m) (N : News s₁.heap L s.heap news) (hcs : cs.kind = .function)
   (hret : ∀ t' h' tk', Fr s₁.heap L h' m → News s₁.heap L h' news → Q (.str (Str.ofString "too great") t') { s with heap := h', toks := tk' }) :
   wpAny (model PySem.Challenge.rw_dn0230_11.row.prog w) (callerA.deeper (envOf cn cs L a ccd)) (call (.ref 28) [.int n t, sv]) Q E s := by
  revert KX; k_fill; intro KX
  have X := (Ground.X G).1
  have V := (Ground.X G).2
  w_nolog (have GL := glob_more (Ground.glob G (by first | k_qdec | decide +kernel) (by first | k_qdec | decide +kernel)) V)
  refine Ground.open G ?_
  intro T B D TE TW
  try (refine guard_noD D (by decide +kernel) ?_; clear D)
  obtain ⟨_, _, M⟩ := bmod_of_top T
  have K0 := below_caller (Top.heap T)
  obtain ⟨ck, cnames, cg, cc⟩ := cs
  obtain rfl : ck = .function := hcs
  refine wpAny_call ?_
  refine' Mine.call_try K0 F KX T ?kA ?k6 ?k7 ?k8 ?k9 ?kB ?_ ?cK ?c2 ?c3 ?c4 ?c5
  case kA => exact rfl
  case cK => exact rfl
  case k6 => k_is
  case k7 => k_is
  case k8 => k_room
  case k9 => exact BindsTo.of_eq rfl
  case c5 => decide
  case kB => exact locs rfl
  case c2 => exact rfl
  case c3 => exact rfl
  case c4 => exact rfl
  intro L' h₁ F' N' B' X' T' D'
  (try dsimp only)
  have hback := fun g L' h' m' fs => @Mine.turn_back s₁.heap g s L L' m m' news h' fs F N
  have hplain := fun L' h' m' => @Mine.plain_back s₁.heap s L L' m m' news h' F N
  clear F N
  k_steps
  all_goals (try dsimp only)
  all_goals (with_reducible refine Mine.fin_try hret (hback _ _ _ _ _ (by with_reducible assumption) (by with_reducible assumption) (by k_dflt rfl)) ?_)
  all_goals rfl
end
section
open PySem PySem.W PyProof.Rows
set_option Elab.async false
set_option maxRecDepth 100000
set_option maxHeartbeats 8000000
local macro_rules | `(tactic| walk_at "execs cons") => `(tactic| ((with_reducible refine wpAny_execs_cons ?_); (try dsimp only)))
local macro_rules | `(tactic| walk_at "execs nil") => `(tactic| ((with_reducible refine wpAny_execs_nil ?_); (try dsimp only)))
local macro_rules | `(tactic| walk_at "eval Constant int") => `(tactic| ((with_reducible refine wpAny_Constant_int ?_); (try dsimp only)))
local macro_rules | `(tactic| walk_at "call builtin:abs") => `(tactic| ((with_reducible refine PySem.Flt.call_abs_float ?_); (try dsimp only)))
local macro_rules | `(tactic| walk_at "call builtin:abs") => `(tactic| (k_here; (with_reducible refine Mine.abs_nat ?_); intro u' k'; (try dsimp only)))
local macro_rules | `(tactic| walk_at "compareOp Lt int int") => `(tactic| (k_here; first
  | (refine' Mine.lt_nat 100 ?hc ?_; (case hc => with_unfolding_all rfl); (try dsimp only))
  | (refine' Mine.lt_nat 10240 ?hc ?_; (case hc => with_unfolding_all rfl); (try dsimp only))))
local macro_rules | `(tactic| walk_at "inplaceOp Div int int") => `(tactic| (k_here; (refine' Mine.idiv_big ?hA ?hb ?hf ?_; (case hA => with_unfolding_all rfl); (case hb => with_reducible assumption); (case hf => with_reducible assumption)); intro x' V'; (try dsimp only)))
local macro_rules | `(tactic| walk_at "compareOp Lt float int") => `(tactic| (k_here; first
  | (refine' Mine.lt_absC ?V 100 ?hc ?_; (case V => with_reducible assumption); (case hc => with_unfolding_all rfl); (simp only [Nat.reduceMul]); (try dsimp only))
  | (refine' Mine.lt_absC ?V 10240 ?hc ?_; (case V => with_reducible assumption); (case hc => with_unfolding_all rfl); (simp only [Nat.reduceMul]); (try dsimp only))))
local macro_rules | `(tactic| walk_at "inplaceOp Div float int") => `(tactic| (k_here; (refine' Mine.fdiv_1024 ?V ?hA ?hD ?_; (case V => with_reducible assumption); (case hA => with_unfolding_all rfl); (case hD => decide +kernel)); intro x' V'; (simp only [Nat.reduceMul] at V'); (try dsimp only)))
local macro_rules | `(tactic| walk_at "truthy") => `(tactic| (k_here; (rename Fr _ _ _ _ => lF'); (refine' Mine.truthV ?hv ?hk ?_; (case hv => with_reducible assumption); (case hk => exact Mine.keep2 lF' (by assumption))); intro k'; (try dsimp only)))
local macro_rules | `(tactic| walk_at "binaryOp Mod str ref") => `(tactic| (k_here; (with_reducible rename News _ _ _ _ => lN'); (first
  | (refine' Mine.mod_p0 ?V lN' ?hb ?hX ?hc ?hcb ?hy ?_; (case hX => decide +kernel); (case hb => exact List.mem_cons_self); (case V => with_reducible assumption); (case hc => rfl); (case hcb => exact Mine.Fits.lt0 (by with_reducible assumption)); (case hy => decide +kernel))
  | (refine' Mine.mod_n0 ?V lN' ?hb ?hX ?hc ?hcb ?hy ?_; (case hX => decide +kernel); (case hb => exact List.mem_cons_self); (case V => with_reducible assumption); (case hc => rfl); (case hcb => exact Mine.Fits.lt0 (by with_reducible assumption)); (case hy => decide +kernel))); intro t' k'; clear lN'; (try dsimp only)))
theorem Mine.told_fine {w : World} {s₀ s₁ : Shared} {mg mb : Str → Option Value} {L a : Addr} {m : Str → Option Value} {cn : Str} {cs : Scope} {ccd : Value} {s : Shared} {Q E : Value → Shared → Prop}
   (G : Ground Mine.hd11.view_39 [] PySem.Challenge.rw_dn0230_11.row.records (XL Mine.hd11.view_39 []) w s₀ mg mb s₁.heap) (KX : (Mine.hd11.heap_39 w.params).In s₁.heap)
   (n : Int) (t : Tok) (sv : Value) (b : Bool) {news : List (Addr × Obj)} (hB : Mine.Big n.natAbs) (hge : 140737488355328 ≤ n.natAbs) (hf : Mine.Fits n.natAbs) (hsv : Mine.TruthV PySem.Challenge.rw_dn0230_11.row.prog w s.heap sv b) (F : Fr s₁.heap L s.heap m) (N : News s₁.heap L s.heap news) (hcs : cs.kind = .function)
   (hret : ∀ t' h' tk', Fr s₁.heap L h' m → News s₁.heap L h' news → Q (.str (Mine.bigText (decide (n < 0)) b n.natAbs) t') { s with heap := h', toks := tk' }) :
   wpAny (model PySem.Challenge.rw_dn0230_11.row.prog w) (callerA.deeper (envOf cn cs L a ccd)) (call (.ref 28) [.int n t, sv]) Q E s := by
  revert KX; k_fill; intro KX
  have X := (Ground.X G).1
  have V := (Ground.X G).2
  w_nolog (have GL := glob_more (Ground.glob G (by first | k_qdec | decide +kernel) (by first | k_qdec | decide +kernel)) V)
  refine Ground.open G ?_
  intro T B D TE TW
  try (refine guard_noD D (by decide +kernel) ?_; clear D)
  obtain ⟨_, _, M⟩ := bmod_of_top T
  have K0 := below_caller (Top.heap T)
  obtain ⟨ck, cnames, cg, cc⟩ := cs
  obtain rfl : ck = .function := hcs
  refine wpAny_call ?_
  refine' Mine.call_try K0 F KX T ?kA ?k6 ?k7 ?k8 ?k9 ?kB ?_ ?cK ?c2 ?c3 ?c4 ?c5
  case kA => exact rfl
  case cK => exact rfl
  case k6 => k_is
  case k7 => k_is
  case k8 => k_room
  case k9 => exact BindsTo.of_eq rfl
  case c5 => decide
  case kB => exact locs rfl
  case c2 => exact rfl
  case c3 => exact rfl
  case c4 => exact rfl
  intro L' h₁ F' N' B' X' T' D'
  (try dsimp only)
  have hback := fun g L' h' m' fs => @Mine.turn_back s₁.heap g s L L' m m' news h' fs F N
  have hplain := fun L' h' m' => @Mine.plain_back s₁.heap s L L' m m' news h' F N
  clear F N
  k_steps
  all_goals (try dsimp only)
  all_goals ((with_reducible refine leaveK_ (news' := []) (by with_reducible assumption) Mine.news_nil ?_); intro kF kN; (try dsimp only))
  all_goals (with_reducible refine Mine.fin_try hret (hplain _ _ _ (by with_reducible assumption)) ?_)
  all_goals (with_reducible exact Mine.bigT (by with_reducible assumption))
end
section
open PySem PySem.W PyProof.Rows
set_option Elab.async false
set_option maxRecDepth 100000
set_option maxHeartbeats 100000000
local macro_rules | `(tactic| walk_at "execs cons") => `(tactic| ((with_reducible refine wpAny_execs_cons ?_); (try dsimp only)))
local macro_rules | `(tactic| walk_at "execs nil") => `(tactic| ((with_reducible refine wpAny_execs_nil ?_); (try dsimp only)))
local macro_rules | `(tactic| walk_at "eval Constant int") => `(tactic| ((with_reducible refine wpAny_Constant_int ?_); (try dsimp only)))
local macro_rules | `(tactic| walk_at "binaryOp Add int int") => `(tactic| ((with_reducible refine add_int ?_); (try dsimp only)))
local macro_rules | `(tactic| walk_at "binaryOp Sub int int") => `(tactic| ((with_reducible refine sub_int ?_); (try dsimp only)))
local macro_rules | `(tactic| walk_at "binaryOp Mult int int") => `(tactic| ((with_reducible refine mul_int ?_); (try dsimp only)))
local macro_rules | `(tactic| walk_at "exec For Tuple Call") => `(tactic| (k_here; (rename Fr _ _ _ _ => lF'); (with_unfolding_all refine' For_turns lF' ?_; k_whole)))
local macro_rules | `(tactic| walk_at "exec For Tuple Call cons nil") => `(tactic| (k_here; (rename Fr _ _ _ _ => lF'); (with_unfolding_all refine' For_turns lF' ?_; k_whole)))
local macro_rules | `(tactic| walk_at "eval Dict") => `(tactic| (k_here; k_dflt (refine' kdn_eval (knd := PySem.intKind _ _) ?F ?N ?b ?a ?l ?e ?n ?_; (case F => k_asm); (case N => k_asm); (case b => exact Top.nolimit (by k_asm)); (case a => rfl); (case l => rfl); (case e => exact List.cons_ne_nil _ _); (case n => exact Nat.le_of_ble_eq_true rfl)); intro d' h' o' F' N' l1 lo' hd'; (try k_lt l1)))
local macro_rules | `(tactic| walk_at "newList") => `(tactic| (k_here; (rename Fr _ _ _ _ => lF'); (rename News _ _ _ _ => lN'); k_dflt (refine newList_K (hsz := Nat.le_of_ble_eq_true rfl) lF' lN' ?_); intro l' h' F' N' l1; clear lF' lN'; (try k_lt l1); (try dsimp only)))
local macro_rules | `(tactic| walk_at "CPost") => `(tactic| (dsimp only [Mine.CPost]))
local macro_rules | `(tactic| walk_at "call builtin:abs") => `(tactic| (k_here; (with_reducible refine Mine.abs_nat ?_); intro u' k'; (try dsimp only)))
local macro_rules | `(tactic| walk_at "binaryOp Pow int int") => `(tactic| (k_here; (first | ((refine' Mine.pow_small ?kb1 ?kb2 ?kb3 ?_; (case kb1 => decide); (case kb2 => decide); (case kb3 => decide)); intro r' hr'; (simp at hr'); (with_reducible have hl' := Mine.isLit hr'); clear hl'; subst hr') | ((refine' Mine.pow_lit ?kb1 ?kb2 ?kb3 ?_; (case kb1 => first | decide | omega); (case kb2 => first | decide | omega); (case kb3 => decide)); intro r' hr')); (try dsimp only)))
local macro_rules | `(tactic| walk_at "binaryOp Mod int int") => `(tactic| (k_here; (refine' Mine.fmod_lit ?hb ?_; (case hb => decide +kernel)); intro q' r' hq1' hq2' hq3'; (try dsimp only)))
local macro_rules | `(tactic| walk_at "binaryOp Mod int int") => `(tactic| (k_here; (first | (refine' Mine.mod_known (r := 0) ?h ?hb ?hd ?hr ?_; (case h => with_reducible assumption); (case hb => decide); (case hd => decide); (case hr => decide)) | (refine' Mine.mod_known (r := 1) ?h ?hb ?hd ?hr ?_; (case h => with_reducible assumption); (case hb => decide); (case hd => decide); (case hr => decide)) | (refine' Mine.mod_known (r := 2) ?h ?hb ?hd ?hr ?_; (case h => with_reducible assumption); (case hb => decide); (case hd => decide); (case hr => decide)) | (refine' Mine.mod_known (r := 3) ?h ?hb ?hd ?hr ?_; (case h => with_reducible assumption); (case hb => decide); (case hd => decide); (case hr => decide)) | (refine' Mine.mod_known (r := 4) ?h ?hb ?hd ?hr ?_; (case h => with_reducible assumption); (case hb => decide); (case hd => decide); (case hr => decide)) | (refine' Mine.mod_known (r := 5) ?h ?hb ?hd ?hr ?_; (case h => with_reducible assumption); (case hb => decide); (case hd => decide); (case hr => decide)) | (refine' Mine.mod_known (r := 6) ?h ?hb ?hd ?hr ?_; (case h => with_reducible assumption); (case hb => decide); (case hd => decide); (case hr => decide)) | (refine' Mine.mod_known (r := 7) ?h ?hb ?hd ?hr ?_; (case h => with_reducible assumption); (case hb => decide); (case hd => decide); (case hr => decide)) | (refine' Mine.mod_known (r := 8) ?h ?hb ?hd ?hr ?_; (case h => with_reducible assumption); (case hb => decide); (case hd => decide); (case hr => decide)) | (refine' Mine.mod_known (r := 9) ?h ?hb ?hd ?hr ?_; (case h => with_reducible assumption); (case hb => decide); (case hd => decide); (case hr => decide))); (try dsimp only)))
local macro_rules | `(tactic| walk_at "storeName") => `(tactic| (k_here; (with_reducible show wpAny _ _ (storeName _ (Str.ofString "amount") (Value.int (_ * _) _)) _ _ _); (have hA := Mine.big_amount (by with_reducible assumption) (by first | decide | omega) (by first | decide | omega) (by with_reducible assumption) (by with_reducible assumption)); (rename Fr _ _ _ _ => lF'); (rename News _ _ _ _ => lN'); (with_unfolding_all refine Mine.stG lF' lN' (by rfl) (by rfl) (by rfl) ?_); intro r' h' hr' F' N'; clear lF' lN'; (rw [← hr'] at hA); clear hr'; (obtain ⟨ha1', ha2'⟩ := hA); (have ha3' := Mine.Big.ge ha2'); (try dsimp only)))
local macro_rules | `(tactic| walk_at "binaryOp FloorDiv int int") => `(tactic| (k_here; (refine' Mine.fdiv_big ?h0 ?hB ?_; (case h0 => with_reducible assumption); (case hB => with_reducible assumption)); intro q' hq1' hq2' hq3'; (try dsimp only)))
local macro_rules | `(tactic| walk_at "call type:str") => `(tactic| (k_here; (with_reducible refine' Mine.str_small ?h0 ?h1 ?_; (case h0 => omega); (case h1 => with_reducible assumption)); intro x'; (try dsimp only)))
local macro_rules | `(tactic| walk_at "call type:str") => `(tactic| (k_here; (with_reducible refine' Mine.str_big ?h0 ?h1 ?h2 ?_; (case h0 => with_reducible assumption); (case h1 => with_reducible assumption); (case h2 => with_reducible assumption)); intro c' hc' hl1'; (try dsimp only)))
local macro_rules | `(tactic| walk_at "binaryOp Add str str") => `(tactic| (k_here; (refine PyProof.Rows.add_str (hsz := ?hsz) ?_); (case hsz => (simp only [PySem.Str.length_append, Mine.tx_len, Mine.l_m, Mine.l_p, Mine.l_e, Mine.l_TiB, sizeLine_eq]; omega)); intro t' k'; (try dsimp only)))
local macro_rules | `(tactic| walk_at "call ref") => `(tactic| (k_here; (with_reducible show wpAny _ _ (call (Value.ref 28) [_, _]) _ _ _); (rename Fr _ _ _ _ => lF'); (rename News _ _ _ _ => lN'); k_dflt (refine' Mine.told_no ?G ?KX _ _ ?nv lF' lN' ?cs ?_; (case G => assumption); (case KX => assumption); (case nv => first | exact Mine.noV_none _ | exact Mine.noV_str _ _ _ | (refine' Mine.noN_list lN' ?mm ?c1; (case mm => k_mem); (case c1 => rfl)) | (refine' Mine.noN_tuple lN' ?mm ?c1; (case mm => k_mem); (case c1 => rfl)) | (refine' Mine.noN_dictI lN' ?mm ?c1; (case mm => k_mem); (case c1 => assumption)) | (trace "NV FAIL"; fail "nv")); (case cs => rfl)); intro t' h' tk' F' N'; clear lF' lN'; (try dsimp only)))
local macro_rules | `(tactic| walk_at "call ref") => `(tactic| (k_here; (with_reducible show wpAny _ _ (call (Value.ref 28) [Value.int _ _, _]) _ _ _); (rename Fr _ _ _ _ => lF'); (rename News _ _ _ _ => lN'); k_dflt (refine' Mine.told_over ?G ?KX _ _ _ _ ?hB ?hge ?hf ?tv lF' lN' ?cs ?_; (case G => assumption); (case KX => assumption); (case hB => first | assumption | exact Mine.Big.neg (by assumption)); (case hge => omega); (case hf => first | exact Mine.over_of_le (by assumption) (by assumption) | exact Mine.Fits.nneg (Mine.over_of_le (by assumption) (by assumption))); (case tv => first | exact Mine.tv_bool _ | exact Mine.tv_none | exact Mine.tv_int0 _ | exact Mine.tv_intm _ | exact Mine.tv_empty _ | exact Mine.tv_zero _ | (refine' Mine.tvN_nil lN' ?mm ?c1; (case mm => k_mem); (case c1 => rfl)) | (refine' Mine.tvN_one lN' ?mm ?c1; (case mm => k_mem); (case c1 => rfl)) | (refine' Mine.tvN_tup lN' ?mm ?c1; (case mm => k_mem); (case c1 => rfl)) | (trace "TV FAIL"; fail "tv")); (case cs => rfl)); intro t' h' tk' F' N'; clear lF' lN'; (try dsimp only)))
local macro_rules | `(tactic| walk_at "call ref") => `(tactic| (k_here; (with_reducible show wpAny _ _ (call (Value.ref 28) [Value.int _ _, _]) _ _ _); (rename Fr _ _ _ _ => lF'); (rename News _ _ _ _ => lN'); k_dflt (refine' Mine.told_fine ?G ?KX _ _ _ _ ?hB ?hge ?hf ?tv lF' lN' ?cs ?_; (case G => assumption); (case KX => assumption); (case hB => first | assumption | exact Mine.Big.neg (by assumption)); (case hge => omega); (case hf => first | exact Mine.fits_of_lt (by assumption) (by assumption) (by assumption) | exact Mine.Fits.neg (Mine.fits_of_lt (by assumption) (by assumption) (by assumption))); (case tv => first | exact Mine.tv_bool _ | exact Mine.tv_none | exact Mine.tv_int0 _ | exact Mine.tv_intm _ | exact Mine.tv_empty _ | exact Mine.tv_zero _ | (refine' Mine.tvN_nil lN' ?mm ?c1; (case mm => k_mem); (case c1 => rfl)) | (refine' Mine.tvN_one lN' ?mm ?c1; (case mm => k_mem); (case c1 => rfl)) | (refine' Mine.tvN_tup lN' ?mm ?c1; (case mm => k_mem); (case c1 => rfl)) | (trace "TV FAIL"; fail "tv")); (case cs => rfl)); intro t' h' tk' F' N'; clear lF' lN'; (try dsimp only)))
local macro_rules | `(tactic| walk_at "compareOp NotEq str str") => `(tactic| (k_here; (refine' Mine.ne_same ?e1 ?_); (case e1 => first
  | rfl
  | ((refine' Mine.eq_big ?h1 ?h3 ?h2); (case h3 => with_reducible assumption); (case h2 => omega); (case h1 => (first
  | ((with_reducible show _ = Str.ofString "-"); k_dflt (refine' Mine.hM_minus ?h3); (case h3 => omega))
  | ((with_reducible show _ = Str.ofString "+"); k_dflt (refine' Mine.hM_plus ?h3 ?h4); (case h3 => omega); (case h4 => rfl))
  | ((with_reducible show _ = Str.ofString ""); k_dflt (refine' Mine.hM_none ?h3 ?h4); (case h3 => omega); (case h4 => rfl)))))); (try dsimp only)))
local macro_rules | `(tactic| walk_at "CEnd") => `(tactic| ((k_dflt (refine' Mine.CEnd.intro ?eF ?eN ?es ?em)); (case eF => first | (k_dflt assumption) | (trace_state; fail "eF")); (case eN => first | (k_dflt assumption) | (trace_state; fail "eN")); (case es => (intro p hp; first | (with_reducible exact hp) | ((repeat (first | (with_reducible exact hp) | (refine List.mem_cons_of_mem _ ?_))); done) | (trace_state; fail "es"))); (case em => (intro z h1 h2 h3; (have h3' := h3); (simp only [List.contains_cons, Bool.or_eq_false_iff, beq_eq_false_iff_ne, List.contains_nil] at h3'); (first | (simp only [h1, h2, h3, h3', if_false, Bool.false_eq_true]; done) | (simp [h1, h2, h3, h3']; done) | (simp_all; done) | (trace_state; fail "em"))))))
theorem PySem.Challenge.cw_dn0230_11_holds : PySem.Challenge.rw_dn0230_11.Holds := by
  refine Mine.hd11 ?_
  w_strict (k_go0; (all_goals try k_fold); k_steps)
  (rename Fr _ _ _ _ => lF'); (rename News _ _ _ _ => lN')
  with_unfolding_all refine' Mine.enum_const [Str.ofString "noughts", Str.ofString "amount", Str.ofString "sign", Str.ofString "mark", Str.ofString "due", Str.ofString "stranger"] ?hh ?hxi ?hxc ?hp lF' lN' ?hc ?hd ?hi ?turn ?fin
  case hh => rfl
  case hxi => rfl
  case hxc => rfl
  case hp => rfl
  case hc => rfl
  case hd => rfl
  case hi => assumption
  case fin =>
    intro u' h' tk' F' N'
    clear lF' lN'
    try dsimp only
    w_strict (k_steps; (all_goals (try k_data)); all_goals w_report)
  case turn =>
    intro i' n' t' ti' u' h' tk' e' it' oe' oi' ol' hoe' hoi' hol' hn' hlt' ha' F' N'
    clear lF' lN'
    simp only [List.cons_append, List.nil_append] at N'
    try dsimp only
    have hi9' : (i' : Int) < 1000 := by (simp only [List.length_append, List.length_cons, List.length_nil] at hlt'; omega)
    obtain ⟨q10', j10', hij', hj'⟩ := Mine.ten_cases i'
    rcases hj' with rfl | rfl | rfl | rfl | rfl | rfl | rfl | rfl | rfl | rfl
    all_goals w_strict (k_steps; (all_goals (try k_data)); all_goals w_report)
end
