import PyProof.Rows.All
import Wide.All
import OpenK.AllK
import Wide.FinOn
import PyProof.FactsAll.tuple
import PyProof.FactsAll.list
import PyProof.FactsAll.zip
import PyProof.ZipIter
import PyProof.TupleOfGen
import PyProof.SetRoads
import PyProof.FactsAll.set
import KE.KSortTup
import PyProof.NeKinds
import Lean
import PySem.Challenge.RW_il0061_01
set_option Elab.async false
set_option maxRecDepth 100000
set_option compiler.extract_closed false
open PySem PySem.W PyProof.Rows PySem.Calls PySem.Spec
namespace Mine
theorem same : @PySem.Manifest.find? = @PySem.Manifest.find? := rfl
end Mine
name_quick tw8075568018651887793 for PySem.Manifest.find? by Mine.same
name_quick tw879873325052472767 for PySem.Manifest.find? by Mine.same
name_quick tw14979626087600564940 for PySem.Manifest.find? by Mine.same
name_quick tw1277916719141552638 for PySem.Manifest.find? by Mine.same
name_quick tw868157144444988819 for PySem.Manifest.find? by Mine.same
name_quick tw15790677782504353289 for PySem.Manifest.find? by Mine.same
name_quick tw17804504610050584030 for PySem.Manifest.find? by Mine.same
name_quick tw17111948838632640456 for PySem.Manifest.find? by Mine.same
name_quick tw18213545369034332514 for PySem.Manifest.find? by Mine.same
name_quick tw2408619945344806742 for PySem.Manifest.find? by Mine.same
name_quick tw9763268239775435451 for PySem.Manifest.find? by Mine.same
name_quick tw11588390666370768167 for PySem.Manifest.find? by Mine.same
name_quick tw13512673800721320934 for PySem.Manifest.find? by Mine.same
name_quick tw15742981410569661332 for PySem.Manifest.find? by Mine.same
name_quick tw5706481520468235054 for PySem.Manifest.find? by Mine.same
name_quick tw12945451867199242903 for PySem.Manifest.find? by Mine.same
name_quick tw1218959903707654005 for PySem.Manifest.find? by Mine.same
name_quick tw2859041830047134086 for PySem.Manifest.find? by Mine.same
name_quick tw12268644228514654432 for PySem.Manifest.find? by Mine.same
name_quick tw8860024209350480642 for PySem.Manifest.find? by Mine.same
name_quick tw10942035263794033107 for PySem.Manifest.find? by Mine.same
name_quick tw15980859228951719591 for PySem.Manifest.find? by Mine.same
name_quick tw17497748084772794779 for PySem.Manifest.find? by Mine.same
name_quick tw14223099787259518943 for PySem.Manifest.find? by Mine.same
name_quick tw18211773271919218964 for PySem.Manifest.find? by Mine.same
name_quick tw8753696776887207221 for PySem.Manifest.find? by Mine.same
name_quick tw5065222861578795731 for PySem.Manifest.find? by Mine.same
name_quick tw5770868932273138760 for PySem.Manifest.find? by Mine.same
name_quick tw7232422423428716515 for PySem.Manifest.find? by Mine.same
name_quick tw13981391230805400906 for PySem.Manifest.find? by Mine.same
name_quick tw14311459727803291754 for PySem.Manifest.find? by Mine.same
name_quick tw10887116778572429059 for PySem.Manifest.find? by Mine.same
name_quick tw3282434896037501709 for PySem.Manifest.find? by Mine.same
name_quick tw3972328310683599613 for PySem.Manifest.find? by Mine.same
name_quick tw14386061602966655976 for PySem.Manifest.find? by Mine.same
name_quick tw10833955939284561965 for PySem.Manifest.find? by Mine.same
name_quick tw18345786424863182364 for PySem.Manifest.find? by Mine.same
name_quick tw682011567655089306 for PySem.Manifest.find? by Mine.same
name_quick tw3891137856419664920 for PySem.Manifest.find? by Mine.same
name_quick tw6589095468515690095 for PySem.Manifest.find? by Mine.same
name_quick tw8376441433122354887 for PySem.Manifest.find? by Mine.same
name_quick tw1702518465993881591 for PySem.Manifest.find? by Mine.same
name_quick tw1291980286583624508 for PySem.Manifest.find? by Mine.same
name_quick tw8603108125212654177 for PySem.Manifest.find? by Mine.same
name_quick tw3152983702415266003 for PySem.Manifest.find? by Mine.same
name_quick tw1377046205977697930 for PySem.Manifest.find? by Mine.same
name_quick tw17532718790514356516 for PySem.Manifest.find? by Mine.same
name_quick tw1355338860687761863 for PySem.Manifest.find? by Mine.same
name_quick tw15066959818950650227 for PySem.Manifest.find? by Mine.same
name_quick tw3421647286062184163 for PySem.Manifest.find? by Mine.same
name_quick tw11420187438672877268 for PySem.Manifest.find? by Mine.same
name_quick tw5268983451555188008 for PySem.Manifest.find? by Mine.same
name_quick tw17000155066101142889 for PySem.Manifest.find? by Mine.same
namespace Mine
set_option maxRecDepth 100000 in
set_option maxHeartbeats 8000000 in
open_top hd for PySem.Challenge.rw_il0061_01
-- open_top leaves the walker in the mind for a law: set it back
theorem top_off : True := by
  w_top off
  trivial
open TI TT TLg
-- smaller terms than omega's
local macro_rules | `(tactic| omega) => `(tactic| first | lia | omega +splitDisjunctions)

section PartFw
theorem fill : PySem.Challenge.rw_il0061_01 = PySem.Challenge.rw_il0061_01 ∧ hd.heap_39 = hd.heap_39 := by
  k_fill
  exact ⟨rfl, rfl⟩

theorem hide {G : Prop} (h : (G → False) → False) : G := Classical.byContradiction h
noncomputable def Hold (P : Prop) : Prop := P
theorem hold_it {P : Prop} (h : Hold P) : P := h

noncomputable abbrev Tp (mean : ExcName → Option Value) (mg mb : Str → Option Value) (h : Heap) : Prop := Top hd.view_39 (looseW hd.view_39 []) mean mg mb h

noncomputable def Does (f : Addr) (kd ku : Nat) (vs : List Value) (Pre : Heap → Prop) (Post : Value → Heap → Heap → Prop) : Prop :=
  ∀ (w : World) (mean : ExcName → Option Value) (mg mb : Str → Option Value) (dp un : Nat) (gd : Option (List Code)) (cn : Str) (cs : Scope) (a : Addr) (ccd : Value) (cl : List (Str × Addr)) (outer : List Env)
    (h₀ : Heap) (L : Addr) (m : Str → Option Value) (s : Shared) (Q E : Value → Shared → Prop),
    Fr h₀ L s.heap m → (hd.heap_39 w.params).In h₀ → Tp mean mg mb h₀ → cs.kind = .function → dp + kd < recursionLimit → un + ku < cLine → Pre s.heap →
    (∀ r h' tk', s.heap.StaysIn h' → Post r s.heap h' → Q r { s with heap := h', toks := tk' }) →
    wpAny (model PySem.Challenge.rw_il0061_01.row.prog w) (ktrTop dp un gd cn cs L a ccd cl outer) (call (.ref f) vs) Q E s

theorem News.kept {h₀ h h' : Heap} {L : Addr} {m : Str → Option Value} {news : List (Addr × Obj)} (N : News h₀ L h news) (k : h.StaysIn h') : News h₀ L h' news := N.grown k

theorem Does.use {f : Addr} {kd ku : Nat} {vs : List Value} {Pre : Heap → Prop} {Post : Value → Heap → Heap → Prop} (D : Does f kd ku vs Pre Post)
    {w : World} {mean : ExcName → Option Value} {mg mb : Str → Option Value} {dp un : Nat} {gd : Option (List Code)} {cn : Str} {cs : Scope} {a : Addr} {ccd : Value} {cl : List (Str × Addr)} {outer : List Env}
    {h₀ : Heap} {L : Addr} {m : Str → Option Value} {s : Shared} {Q E : Value → Shared → Prop} {news : List (Addr × Obj)}
    (F : Fr h₀ L s.heap m) (X : (hd.heap_39 w.params).In h₀) (N : News h₀ L s.heap news) (T : Tp mean mg mb h₀) (hk : cs.kind = .function) (hd : dp + kd < recursionLimit) (hu : un + ku < cLine)
    (hp : Pre s.heap) (h : ∀ r h' tk', Fr h₀ L h' m → News h₀ L h' news → s.heap.StaysIn h' → Post r s.heap h' → Q r { s with heap := h', toks := tk' }) :
    wpAny (model PySem.Challenge.rw_il0061_01.row.prog w) (ktrTop dp un gd cn cs L a ccd cl outer) (call (.ref f) vs) Q E s :=
  D w mean mg mb dp un gd cn cs a ccd cl outer h₀ L m s Q E F X T hk hd hu hp fun r h' tk' k p => h r h' tk' (F.kept k) (N.grown k) k p

section
variable {prog : Program} {w : World} {A : Around} {s : Shared} {h₀ : Heap} {L : Addr} {m : Str → Option Value} {K : Frag}
  {Q E : Value → Shared → Prop} {name qual : Str} {params : Arguments} {body : List Stmt} {scope : Scope} {dV kV doc pm cdv ct oc : Value} {an od : Option Addr} {osl : Array (Option Value)} {f : Addr} {args : List Value} {binds : List (Str × Value)}
  {p : Program} {loose : List Str} {mean : ExcName → Option Value} {mg mb : Str → Option Value}

theorem enterP (F : Fr h₀ L s.heap m) (X : K.In h₀) (T : Top p loose mean mg mb h₀)
    (ho : K.lookup f = some ⟨oc, od, .func (fnOf name qual params body scope dV kV doc pm an cdv ct), osl⟩) (hcd : codeIn K cdv qual = true) (hroom : A.depth < recursionLimit)
    (hbind : BindsTo s (fnOf name qual params body scope dV kV doc pm an cdv ct) ⟨args, []⟩ binds) (hloc : ∀ y ∈ binds, scope.names.lookup y.1 = some .local)
    (h : ∀ g L' h₁ tk, g = s.heap → Fr g L' h₁ (fun y => binds.reverse.lookup y) → K.In g → Top p loose mean mg mb g →
      wpAny (model prog w) (A.deeper (envOf qual scope L' f cdv)) (execs body (envOf qual scope L' f cdv))
        (fun fl s' => Q (match fl with | .ret v => v | _ => .none) s') (fun _ _ => False) { s with heap := h₁, toks := tk })
    (hco : scope.isCoroutine = false) (hgen : scope.isGenerator = false) (hk : scope.kind = .function)
    (hcell : ∀ x ∈ scope.names, x.2 ≠ .cell) : wpAny (model prog w) A (call (.ref f) args) Q E s := by
  refine wpAny_call (codeAny_call_def (fd := fnOf name qual params body scope dV kV doc pm an cdv ct) (body := body) (binds := binds) hroom (X.keeps F.keep _ _ ho) rfl (T.nolimit.keeps F.keep) (codeRec_of (X.keeps F.keep) hcd) rfl hbind hcell hloc (fun h₁ hns hk₁ => ?_) hco hgen hk)
  exact wpAny_mono (h s.heap _ h₁ _ rfl ⟨hns, hk₁, Nat.le_refl _⟩ (X.keeps F.keep) (T.keeps F.keep)) (fun fl s' hl => hl) fun _ _ y => y.elim

end
end PartFw

section PartIt
section
variable {prog : Program} {w : World} {A : Around} {E : Value → Shared → Prop} {s : Shared} {env : Env} {h₀ : Heap} {x : Str} {body : List Stmt} {Q : Flow → Shared → Prop} {σ : Type}

noncomputable def TEnd (h₀ : Heap) (L I : Addr) (oI : Obj) (Led : σ → List (Addr × Obj)) (P : σ → (Str → Option Value) → Prop) (s₁ : Shared) (Q : Flow → Shared → Prop) (f : Flow) (s₂ : Shared) : Prop :=
  match f with
  | .ret v => Q (.ret v) s₂
  | .brk => Q .next s₂
  | _ => ∃ h' tk' m' a, s₂ = { s₁ with heap := h', toks := tk' } ∧ Fr h₀ L h' m' ∧ News h₀ L h' ((I, oI) :: Led a) ∧ P a m'
theorem TEnd.next {h₀ : Heap} {L I : Addr} {oI : Obj} {Led : σ → List (Addr × Obj)} {P : σ → (Str → Option Value) → Prop} {s₁ : Shared} {Q : Flow → Shared → Prop} {h' : Heap} {tk' : Nat} {m' : Str → Option Value} (a : σ)
    (F : Fr h₀ L h' m') (N : News h₀ L h' ((I, oI) :: Led a)) (p : P a m') : TEnd h₀ L I oI Led P s₁ Q .next { s₁ with heap := h', toks := tk' } := ⟨h', tk', m', a, rfl, F, N, p⟩

theorem it_walk {I : Addr} {fp wr : List Addr} {n : Nat} {Pv : Nat → Value → Prop} {St : Nat → Heap → Prop} {m₀ : Str → Option Value} (Led : σ → List (Addr × Obj)) (P : Nat → σ → (Str → Option Value) → Prop) {a₀ : σ}
    (W : Walks prog w A I fp wr n Pv St) (hI : I ∈ fp) (hwr : ∀ b ∈ wr, b = I) (hLf : env.locals ∉ fp) (hn : h₀.get? I = none)
    (hgo : ∀ i h, St i h → ∃ o, h.get? I = some o)
    (hfp : ∀ b ∈ fp, b = I ∨ (∃ o, h₀.get? b = some o) ∨ (∃ o, ∀ a, (b, o) ∈ Led a))
    (hst : St 0 s.heap) (F : Fr h₀ env.locals s.heap m₀) (N : News h₀ env.locals s.heap (Led a₀)) (hne : ∀ a, ∀ p ∈ Led a, p.1 ≠ I) (hj : P 0 a₀ m₀)
    (turn : ∀ oI i v a m₁ h tk, i < n → Pv i v → P i a m₁ → Fr h₀ env.locals h (fun y => if y = x then some v else m₁ y) → News h₀ env.locals h ((I, oI) :: Led a) →
      wpAny (model prog w) A (execs body env) (TEnd h₀ env.locals I oI Led (P (i + 1)) { s with heap := h, toks := tk } Q) E { s with heap := h, toks := tk })
    (done : ∀ a m₁ h tk, P n a m₁ → Fr h₀ env.locals h m₁ → News h₀ env.locals h (Led a) → Q .next { s with heap := h, toks := tk }) :
    LoopAtV prog w A h₀ env x body Q E (.ref I) s := by
  refine ⟨I, fp, wr, n, Pv, St, m₀, Led a₀, fun i m news => ∃ a, news = Led a ∧ P i a m, rfl, W, hLf, fun b hb => (hwr b hb) ▸ hn, fun p hp hw => hne a₀ p hp (hwr _ hw), hst, F, N, ⟨a₀, rfl, hj⟩, ?_, ?_⟩
  · rintro i v m₁ news₁ s₁ own ⟨h, tk, rfl⟩ hi hv ⟨a, rfl, hP⟩ hoff hof hoh hin hst₁ F₁ N₁
    refine hide fun hGoal => ?_
    obtain ⟨oI, hoI⟩ := hgo _ _ hst₁
    refine hGoal ?_
    clear hGoal
    have mI : (I, oI) ∈ own := hin I hI hn oI hoI
    have N₂ : News h₀ env.locals h ((I, oI) :: Led a) := fun p hp => by
      rcases List.mem_cons.mp hp with rfl | hp
      · exact N₁ _ (List.mem_append_left _ mI)
      · exact N₁ _ (List.mem_append_right _ hp)
    refine wpAny_mono (turn oI i v a m₁ h tk hi hv hP F₁ N₂) (fun f s₂ t => ?_) fun _ _ e => e
    have fin : (∃ h' tk' m' a, s₂ = { s with heap := h', toks := tk' } ∧ Fr h₀ env.locals h' m' ∧ News h₀ env.locals h' ((I, oI) :: Led a) ∧ P (i + 1) a m') →
        LoopStepU h₀ env.locals wr own (fun m news => ∃ a, news = Led a ∧ P (i + 1) a m) { s with heap := h, toks := tk } .next s₂ := by
      rintro ⟨h', tk', m', a', rfl, F', N', p'⟩
      refine ⟨rfl, h', tk', m', Led a', rfl, F', fun p hp => ?_, fun p hp hw => hne a' p hp (hwr _ hw), a', rfl, p'⟩
      rcases List.mem_append.mp hp with hp | hp
      · have q1 := N₁ p (List.mem_append_left _ hp)
        rcases hfp p.1 (hof p hp) with e | ⟨o, e⟩ | ⟨o, e⟩
        · have : p = (I, oI) := by
            refine hide fun hGoal => ?_
            obtain ⟨b, ob⟩ := p
            refine hGoal ?_
            clear hGoal
            obtain rfl : b = I := e
            have := hoI.symm.trans (hoh _ hp)
            rw [Option.some.inj this]
          rw [this]
          exact N' _ (.head _)
        · rw [q1.2.2] at e; cases e
        · have q2 := N' (p.1, o) (.tail _ (e a'))
          have q3 := N₂ (p.1, o) (.tail _ (e a))
          have q0 := hoh p hp
          have : p = (p.1, o) := Prod.ext rfl (Option.some.inj (q0.symm.trans q3.1))
          rw [this]
          exact q2
      · exact N' p (.tail _ hp)
    cases f with
    | ret v => exact t
    | brk => exact t
    | next => exact fin t
    | cont => exact fin t
  · rintro h' tk m' news' F' N' _ ⟨a, rfl, p⟩
    exact done a m' h' tk p F' N'

theorem it_range {n : Nat} {r : Addr} {t u v : Tok} {m₀ : Str → Option Value} (Led : σ → List (Addr × Obj)) (P : Nat → σ → (Str → Option Value) → Prop) (a₀ : σ)
    (hh : A.handled = none) (hr : IsRange s.heap r 0 n 1 t u v) (hn : n < 1000)
    (F : Fr h₀ env.locals s.heap m₀) (N : News h₀ env.locals s.heap (Led a₀)) (hlt : ∀ a, ∀ p ∈ Led a, p.1 < s.heap.objs.size) (hj : P 0 a₀ m₀)
    (turn : ∀ I oI i t a m₁ h tk, i < n → P i a m₁ → (∀ p ∈ Led a, p.1 < I) → Fr h₀ env.locals h (fun y => if y = x then some (.int (i : Nat) t) else m₁ y) → News h₀ env.locals h ((I, oI) :: Led a) →
      wpAny (model prog w) A (execs body env) (TEnd h₀ env.locals I oI Led (P (i + 1)) { s with heap := h, toks := tk } Q) E { s with heap := h, toks := tk })
    (done : ∀ a m₁ h tk, P n a m₁ → Fr h₀ env.locals h m₁ → News h₀ env.locals h (Led a) → Q .next { s with heap := h, toks := tk }) :
    wpAny (model prog w) A (pyIter (.ref r)) (fun it s₂ => LoopAtV prog w A h₀ env x body Q E it s₂) E s := by
  have hsz : Builtin.Range.rangeSize 0 n 1 = (n : Int) := by rw [rangeSize_one]; split <;> omega
  have hsm : Builtin.Range.small 0 n 1 = true := small_one (by decide) (by decide) (by omega) (by omega)
  refine wpAny_pyIter_range hr hsm ?_
  have W := Walks.range (prog := prog) (w := w) hh s.heap.objs.size 0 1 n
  refine it_walk Led P (a₀ := a₀) W (.head _) (fun b hb => List.mem_singleton.mp hb) (fun hm => absurd F.ns.lt ((List.mem_singleton.mp hm) ▸ Nat.lt_irrefl _)) (next_is_new F)
    (fun i h st => ⟨_, st⟩) (fun b hb => .inl (List.mem_singleton.mp hb)) (by show IsRangeIter _ _ _ _ _; rw [hsz]; simpa using Heap.get?_push_size _ rfl) (F.push _)
    (fun p hp => ⟨Heap.get?_push_of_some _ (N p hp).1, (N p hp).2⟩) (fun a p hp => Nat.ne_of_lt (hlt a p hp)) hj ?_ fun a m₁ h tk p F₁ N₁ => done a m₁ h tk p F₁ N₁
  rintro oI i v a m₁ h tk hi ⟨t', rfl⟩ p F₁ N₁
  have e : (0 + (i : Int) * 1) = (i : Nat) := by omega
  rw [e] at F₁
  exact turn _ oI i t' a m₁ h tk hi p (fun q hq => hlt a q hq) F₁ N₁

theorem it_tuple {vs : List Value} {r : Addr} {m₀ : Str → Option Value} (Led : σ → List (Addr × Obj)) (P : Nat → σ → (Str → Option Value) → Prop) (a₀ : σ)
    (hh : A.handled = none) (hr : ∀ a, (r, ({ cls := .type "tuple", data := .seq vs.toArray } : Obj)) ∈ Led a)
    (F : Fr h₀ env.locals s.heap m₀) (N : News h₀ env.locals s.heap (Led a₀)) (hlt : ∀ a, ∀ p ∈ Led a, p.1 < s.heap.objs.size) (hj : P 0 a₀ m₀)
    (turn : ∀ I oI i v a m₁ h tk, vs[i]? = some v → P i a m₁ → (∀ p ∈ Led a, p.1 < I) → Fr h₀ env.locals h (fun y => if y = x then some v else m₁ y) → News h₀ env.locals h ((I, oI) :: Led a) →
      wpAny (model prog w) A (execs body env) (TEnd h₀ env.locals I oI Led (P (i + 1)) { s with heap := h, toks := tk } Q) E { s with heap := h, toks := tk })
    (done : ∀ a m₁ h tk, P vs.length a m₁ → Fr h₀ env.locals h m₁ → News h₀ env.locals h (Led a) → Q .next { s with heap := h, toks := tk }) :
    wpAny (model prog w) A (pyIter (.ref r)) (fun it s₂ => LoopAtV prog w A h₀ env x body Q E it s₂) E s := by
  have hr0 := N _ (hr a₀)
  have ht : s.heap.IsTuple r vs.toArray := ⟨_, hr0.1, rfl, _, rfl⟩
  have hne : r ≠ s.heap.objs.size := Nat.ne_of_lt (Heap.lt_size hr0.1)
  refine wpAny_pyIter_tuple ht ?_
  have W := Walks.tuple (prog := prog) (w := w) hh s.heap.objs.size r hne vs.toArray
  have hsz : vs.toArray.size = vs.length := List.size_toArray ..
  rw [hsz] at W
  refine it_walk Led P (a₀ := a₀) W (.head _) (fun b hb => List.mem_singleton.mp hb) (fun hm => ?_) (next_is_new F)
    (fun i h st => by obtain ⟨o, ho, _⟩ := st.1; exact ⟨o, ho⟩) (fun b hb => ?_) ⟨⟨_, Heap.get?_push_size _ rfl, rfl, rfl⟩, ht.push _⟩ (F.push _)
    (fun p hp => ⟨Heap.get?_push_of_some _ (N p hp).1, (N p hp).2⟩) (fun a p hp => Nat.ne_of_lt (hlt a p hp)) hj ?_ fun a m₁ h tk p F₁ N₁ => done a m₁ h tk p F₁ N₁
  · rcases List.mem_cons.mp hm with e | hm
    · exact absurd F.ns.lt (e ▸ Nat.lt_irrefl _)
    · exact absurd (List.mem_singleton.mp hm) (Ne.symm hr0.2.1)
  · rcases List.mem_cons.mp hb with e | hb
    · exact .inl e
    · exact .inr (.inr ⟨_, fun a => (List.mem_singleton.mp hb) ▸ hr a⟩)
  · rintro oI i v a m₁ h tk hi hv p F₁ N₁
    exact turn _ oI i v a m₁ h tk (by simpa using hv) p (fun q hq => hlt a q hq) F₁ N₁
end
end PartIt

section PartCm
noncomputable abbrev Tr := Value × Value × List (Addr × Obj)
noncomputable def KeepsC (C : Addr) (m : Str → Option Value) (s s' : Shared) : Prop := ∃ h' tk, s' = { s with heap := h', toks := tk } ∧ (∀ b o, b ≠ C → s.heap.get? b = some o → h'.get? b = some o) ∧ h'.Ns C m
section
variable {prog : Program} {w : World} {A : Around} {R : Result → Shared → Prop} {s : Shared}

theorem comp_loop {elt iter : Expr} {x : Str} {px : Pos} {ifs : List Expr} {scope : Scope} {pos : Pos} {I D : Addr} {fp wr : List Addr} {n : Nat} {P : Nat → Value → Prop} {St : Nat → Heap → Prop}
    {cenv : Env} {m : Str → Option Value} (W : Walks prog w A I fp wr n P St) (p : Value → Bool) (F : Value → Value → List (Addr × Obj) → Prop)
    (hx : cenv.kindOf x = some .local) (hp : (cenv.scope.kind == .class || (cenv.scope.kind == .module && cenv.locals != cenv.globals)) = false)
    (hDC : D ≠ cenv.locals) (hDf : D ∉ fp) (hCf : cenv.locals ∉ fp) (hI : ∃ o, s.heap.get? I = some o) (hwr : ∀ b ∈ wr, b = I) (hI' : ∀ i h, St i h → ∃ o, h.get? I = some o)
    (hst : St 0 s.heap) (hacc : s.heap.PlainList D #[]) (hn : s.heap.Ns cenv.locals m)
    (htests : ∀ i v s₂ m₂, P i v → s₂.heap.Ns cenv.locals m₂ → m₂ x = some v → (∀ b o, b ≠ cenv.locals → b ∉ wr → b ≠ D → s.heap.get? b = some o → s₂.heap.get? b = some o) →
      wpAny (model prog w) A (forIn ifs true fun c r => if r = true then do let ok ← isTrue c cenv (eval c cenv); pure (ForInStep.yield ok) else pure (ForInStep.yield r))
        (fun ok s₃ => ok = p v ∧ KeepsC cenv.locals m₂ s₂ s₃) (notedBy (model prog w) A cenv fun e s' => R (.error e) s') s₂)
    (helt : ∀ i v s₂ m₂, P i v → p v = true → s₂.heap.Ns cenv.locals m₂ → m₂ x = some v → (∀ b o, b ≠ cenv.locals → b ∉ wr → b ≠ D → s.heap.get? b = some o → s₂.heap.get? b = some o) →
      wpAny (model prog w) A (eval elt cenv) (fun y s₃ => KeepsC cenv.locals m₂ s₂ s₃ ∧ ∃ own, F v y own ∧ ∀ q ∈ own, s₂.heap.get? q.1 = none ∧ s₃.heap.get? q.1 = some q.2) (notedBy (model prog w) A cenv fun e s' => R (.error e) s') s₂)
    (hR : ∀ h' tk m' ys (vs : List Value) (tr : List Tr), h'.Ns cenv.locals m' → h'.PlainList D ys → vs.length = n → (∀ j v, vs[j]? = some v → P j v) → tr.map (·.1) = vs.filter p → tr.map (·.2.1) = ys.toList → (∀ t ∈ tr, F t.1 t.2.1 t.2.2) →
      (∀ t ∈ tr, ∀ q ∈ t.2.2, s.heap.get? q.1 = none ∧ h'.get? q.1 = some q.2 ∧ q.1 ≠ D ∧ q.1 ≠ cenv.locals) →
      (∀ b o, b ≠ cenv.locals → b ∉ wr → b ≠ D → s.heap.get? b = some o → h'.get? b = some o) → R (.ok .next) { s with heap := h', toks := tk })
    (hsz : n ≤ sizeLine) :
    codeAny (model prog w) A (.compLoop (.ListComp elt [⟨.Name x px, iter, ifs, 0⟩] scope pos) 0 (.ref I) (.ref D) cenv) R s := by
  refine codeAny_compLoop_tests
    (fun k s' => ∃ h' tk m' ys, ∃ vs : List Value, ∃ tr : List Tr, s' = { s with heap := h', toks := tk } ∧ St vs.length h' ∧ h'.PlainList D ys ∧ h'.Ns cenv.locals m' ∧ (∀ j v, vs[j]? = some v → P j v) ∧
      tr.map (·.1) = vs.filter p ∧ tr.map (·.2.1) = ys.toList ∧ (∀ t ∈ tr, F t.1 t.2.1 t.2.2) ∧ (∀ t ∈ tr, ∀ q ∈ t.2.2, s.heap.get? q.1 = none ∧ h'.get? q.1 = some q.2 ∧ q.1 ≠ D ∧ q.1 ≠ cenv.locals) ∧
      vs.length ≤ n ∧ k = n + 1 - vs.length ∧ (∃ o, h'.get? I = some o) ∧
      (∀ b o, b ≠ cenv.locals → b ∉ wr → b ≠ D → s.heap.get? b = some o → h'.get? b = some o)) ?_ (n + 1)
    ⟨s.heap, s.toks, m, #[], [], [], rfl, hst, hacc, hn, by simp, rfl, rfl, fun _ ht => (by cases ht), fun _ ht => (by cases ht), Nat.zero_le _, rfl, hI, fun _ _ _ _ _ e => e⟩
  rintro k s' ⟨H, tk, m', ys, vs, tr, rfl, hst', hacc', hn', hP, hF1, hF2, hF3, hF4, hi, rfl, ⟨oI, hoI⟩, hk⟩
  have hCw : cenv.locals ∉ wr := fun h => hCf (W.sub _ h)
  have hDw : D ∉ wr := fun h => hDf (W.sub _ h)
  by_cases hlt : vs.length < n
  · refine W.item vs.length _ _ _ hlt hst' fun v h₁ tk₁ hPv hst₁ hk₁ => ?_
    refine wpAny_assign_Name (wpAny_storeName_local hx (hn'.at' fun o e => hk₁ _ o hCw e) (fun h₂ hn₂ hs₂ => ?_) hp)
    have up₂ : ∀ b o, b ≠ cenv.locals → b ∉ wr → H.get? b = some o → h₂.get? b = some o := fun b o hbC hbf e => hs₂.extBut b o hbC (hk₁ b o hbf e)
    have hst₂ : St (vs.length + 1) h₂ := W.frame _ _ _ hst₁ fun b hb o e => hs₂.extBut b o (fun h => hCf (h ▸ hb)) e
    refine wpAny_mono (htests vs.length v _ _ hPv hn₂ (by simp) (fun b o hbC hbf hbD e => up₂ b o hbC hbf (hk b o hbC hbf hbD e))) (fun ok s₃ h₃ => ?_) fun _ _ e => e
    refine hide fun hGoal => ?_
    obtain ⟨rfl, h₃, tk₃, rfl, hk₃, hn₃⟩ := h₃
    refine hGoal ?_
    clear hGoal
    have up₃ : ∀ b o, b ≠ cenv.locals → b ∉ wr → H.get? b = some o → h₃.get? b = some o := fun b o hbC hbf e => hk₃ b o hbC (up₂ b o hbC hbf e)
    have hst₃ : St (vs.length + 1) h₃ := W.frame _ _ _ hst₂ fun b hb o e => hk₃ b o (fun h => hCf (h ▸ hb)) e
    have hacc₃ : h₃.PlainList D ys := hacc'.at fun o e => up₃ D o hDC hDw e
    have hoI₃ : ∃ o, h₃.get? I = some o := by
      refine hide fun hGoal => ?_
      obtain ⟨o, ho⟩ := hI' _ _ hst₃
      refine hGoal ?_
      clear hGoal
      exact ⟨o, ho⟩
    have qI : ∀ a : Addr, s.heap.get? a = none → a ∉ wr := fun a e hw => by
      refine hide fun hGoal => ?_
      obtain ⟨o, ho⟩ := hI
      refine hGoal ?_
      clear hGoal
      rw [hwr a hw, ho] at e; cases e
    have hP' : ∀ j u, (vs ++ [v])[j]? = some u → P j u := fun j u hj => by
      rcases Nat.lt_trichotomy j vs.length with h | h | h
      · exact hP j u (by rwa [List.getElem?_append_left h] at hj)
      · subst h; simp at hj; subst hj; exact hPv
      · rw [List.getElem?_eq_none (by rw [List.length_append, List.length_singleton]; omega)] at hj; cases hj
    have hlen' : (vs ++ [v]).length = vs.length + 1 := by simp
    cases hpv : p v with
    | false =>
      simp only [Bool.false_eq_true, if_false]
      refine ⟨n + 1 - (vs.length + 1), by omega, h₃, tk₃, _, ys, vs ++ [v], tr, rfl, by rw [hlen']; exact hst₃, hacc₃, hn₃, hP', ?_, hF2, hF3, fun t ht q hq => ?_, by rw [hlen']; exact hlt, by rw [hlen'], hoI₃,
        fun b o hbC hbf hbD e => up₃ b o hbC hbf (hk b o hbC hbf hbD e)⟩
      · rw [List.filter_append, hF1]; simp [hpv]
      · refine hide fun hGoal => ?_
        obtain ⟨q1, q2, q3, q4⟩ := hF4 t ht q hq
        refine hGoal ?_
        clear hGoal
        exact ⟨q1, up₃ _ _ q4 (qI _ q1) q2, q3, q4⟩
    | true =>
      simp only [if_true]
      refine wpAny_mono (helt vs.length v _ _ hPv hpv hn₃ (by simp) (fun b o hbC hbf hbD e => up₃ b o hbC hbf (hk b o hbC hbf hbD e))) (fun y s₄ h₄ => ?_) fun _ _ e => e
      refine hide fun hGoal => ?_
      obtain ⟨⟨h₄, tk₄, rfl, hk₄, hn₄⟩, own, hFy, hown⟩ := h₄
      refine hGoal ?_
      clear hGoal
      have hys : ys.size ≤ sizeLine := by
        have e1 : tr.length = (vs.filter p).length := by rw [← hF1, List.length_map]
        have e2 : (vs.filter p).length ≤ vs.length := List.length_filter_le _ _
        have e3 : tr.length = ys.size := by rw [← Array.length_toList, ← hF2, List.length_map]
        omega
      refine wpAny_list_append_plain (hsz := hys) (hacc₃.at fun o e => hk₄ _ o hDC e) fun h₅ hl₅ hs₅ => ?_
      have up₅ : ∀ b o, b ≠ cenv.locals → b ≠ D → h₃.get? b = some o → h₅.get? b = some o := fun b o hbC hbD e => hs₅.extBut b o hbD (hk₄ b o hbC e)
      have hst₅ : St (vs.length + 1) h₅ := W.frame _ _ h₅ hst₃ fun b hb o e => up₅ b o (fun h => hCf (h ▸ hb)) (fun h => hDf (h ▸ hb)) e
      refine ⟨n + 1 - (vs.length + 1), by omega, h₅, tk₄, _, ys.push y, vs ++ [v], tr ++ [(v, y, own)], rfl, by rw [hlen']; exact hst₅, hl₅, hn₄.sameBut hs₅ (Ne.symm hDC), hP', ?_, ?_, ?_, ?_, by rw [hlen']; exact hlt, by rw [hlen'], hI' _ _ hst₅,
        fun b o hbC hbf hbD e => up₅ b o hbC hbD (up₃ b o hbC hbf (hk b o hbC hbf hbD e))⟩
      · rw [List.filter_append, List.map_append, hF1]; simp [hpv]
      · rw [List.map_append, hF2]; simp
      · intro t ht
        rcases List.mem_append.mp ht with ht | ht
        · exact hF3 t ht
        · rw [List.mem_singleton.mp ht]; exact hFy
      · intro t ht q hq
        rcases List.mem_append.mp ht with ht | ht
        · refine hide fun hGoal => ?_
          obtain ⟨q1, q2, q3, q4⟩ := hF4 t ht q hq
          refine hGoal ?_
          clear hGoal
          exact ⟨q1, up₅ _ _ q4 q3 (up₃ _ _ q4 (qI _ q1) q2), q3, q4⟩
        · rw [List.mem_singleton.mp ht] at hq
          refine hide fun hGoal => ?_
          obtain ⟨q1, q2⟩ := hown q hq
          refine hGoal ?_
          clear hGoal
          have nD : q.1 ≠ D := fun e => by
            refine hide fun hGoal => ?_
            obtain ⟨nn, ho⟩ := hacc₃
            refine hGoal ?_
            clear hGoal
            have q1' : h₃.get? q.1 = none := q1
            rw [e, ho] at q1'; cases q1'
          have nC : q.1 ≠ cenv.locals := fun e => by
            refine hide fun hGoal => ?_
            obtain ⟨o, _, _, ho, _⟩ := hn₃
            refine hGoal ?_
            clear hGoal
            have q1' : h₃.get? q.1 = none := q1
            rw [e, ho] at q1'; cases q1'
          refine ⟨?_, hs₅.extBut _ _ nD q2, nD, nC⟩
          cases e : s.heap.get? q.1 with
          | none => rfl
          | some o =>
            by_cases hw : q.1 ∈ wr
            · refine hide fun hGoal => ?_
              obtain ⟨o', ho'⟩ := hoI₃
              refine hGoal ?_
              clear hGoal
              have q1' : h₃.get? q.1 = none := q1
              rw [hwr _ hw, ho'] at q1'; cases q1'
            · have q1' : h₃.get? q.1 = none := q1
              rw [up₃ _ _ nC hw (hk _ _ nC hw nD e)] at q1'; cases q1'
  · have hin : vs.length = n := by omega
    refine W.done _ _ _ (hin ▸ hst') fun h₁ tk₁ hk₁ => ?_
    have qI : ∀ a : Addr, s.heap.get? a = none → a ∉ wr := fun a e hw => by
      refine hide fun hGoal => ?_
      obtain ⟨o, ho⟩ := hI
      refine hGoal ?_
      clear hGoal
      rw [hwr a hw, ho] at e; cases e
    exact hR h₁ tk₁ m' ys vs tr (hn'.at' fun o e => hk₁ _ o hCw e) (hacc'.at fun o e => hk₁ _ o hDw e) hin hP hF1 hF2 hF3
      (fun t ht q hq => let ⟨q1, q2, q3, q4⟩ := hF4 t ht q hq; ⟨q1, hk₁ _ _ (qI _ q1) q2, q3, q4⟩) fun b o hbC hbf hbD e => hk₁ b o hbf (hk b o hbC hbf hbD e)
end

section
variable {prog : Program} {w : World} {A : Around} {E : Value → Shared → Prop} {env : Env}

structure QuietE (prog : Program) (w : World) (A : Around) (env : Env) (scope : Scope) (cl : List (Str × Addr)) (x : Str) (ifs : List Expr) (elt : Expr) (wr : List Addr) (P : Nat → Value → Prop) (p : Value → Bool)
    (F : Value → Value → List (Addr × Obj) → Prop) (s₂ : Shared) : Prop where
  tests : ∀ C i v s₃ m₃ E', s₂.heap.objs.size ≤ C → P i v → s₃.heap.Ns C m₃ → m₃ x = some v → (∀ b o, b ∉ wr → s₂.heap.get? b = some o → s₃.heap.get? b = some o) →
    wpAny (model prog w) A (forIn ifs true fun c r => if r = true then do let ok ← isTrue c (compEnvC scope cl C env) (eval c (compEnvC scope cl C env)); pure (ForInStep.yield ok) else pure (ForInStep.yield r))
      (fun ok s₄ => ok = p v ∧ KeepsC C m₃ s₃ s₄) E' s₃
  elt : ∀ C i v s₃ m₃ E', s₂.heap.objs.size ≤ C → P i v → p v = true → s₃.heap.Ns C m₃ → m₃ x = some v → (∀ b o, b ∉ wr → s₂.heap.get? b = some o → s₃.heap.get? b = some o) →
    wpAny (model prog w) A (eval elt (compEnvC scope cl C env)) (fun y s₄ => KeepsC C m₃ s₃ s₄ ∧ ∃ own, F v y own ∧ ∀ q ∈ own, s₃.heap.get? q.1 = none ∧ s₄.heap.get? q.1 = some q.2) E' s₃

structure CDone (s₂ : Shared) (wr : List Addr) (n : Nat) (P : Nat → Value → Prop) (p : Value → Bool) (F : Value → Value → List (Addr × Obj) → Prop) (D : Addr) (h' : Heap) (tr : List Tr) : Prop where
  fresh : s₂.heap.get? D = none
  above : s₂.heap.objs.size ≤ D
  list : h'.PlainList D (tr.map (·.2.1)).toArray
  src : ∃ vs : List Value, vs.length = n ∧ (∀ j v, vs[j]? = some v → P j v) ∧ tr.map (·.1) = vs.filter p
  each : ∀ t ∈ tr, F t.1 t.2.1 t.2.2
  own : ∀ t ∈ tr, ∀ q ∈ t.2.2, s₂.heap.get? q.1 = none ∧ h'.get? q.1 = some q.2 ∧ q.1 ≠ D
  keep : ∀ b o, b ∉ wr → s₂.heap.get? b = some o → h'.get? b = some o

theorem comp_block {elt iter : Expr} {x : Str} {px : Pos} {ifs : List Expr} {scope : Scope} {cl : List (Str × Addr)} {pos : Pos} {s₂ : Shared} {I : Addr} {fp wr : List Addr} {n : Nat} {P : Nat → Value → Prop}
    {St : Nat → Heap → Prop} (W : Walks prog w A I fp wr n P St) (hsz : n ≤ sizeLine) (p : Value → Bool) (F : Value → Value → List (Addr × Obj) → Prop) {RR : Value → Addr → Result → Shared → Prop}
    (hcell : ∀ y ∈ scope.names, y.2 ≠ .cell) (hkind : scope.kind = .function) (hx : scope.names.lookup x = some .local) (hst : St 0 s₂.heap) (hfp : ∀ b ∈ fp, b < s₂.heap.objs.size)
    (hwr : ∀ b ∈ wr, b = I) (hI' : ∀ i h, St i h → ∃ o, h.get? I = some o)
    (hq : QuietE prog w A env scope cl x ifs elt wr P p F s₂)
    (hRR : ∀ D C h' tk m' tr, s₂.heap.get? C = none → D ≠ C → h'.Ns C m' → CDone s₂ wr n P p F D h' tr → (∀ t ∈ tr, ∀ q ∈ t.2.2, q.1 ≠ C) → RR (.ref D) C (.ok .next) { s₂ with heap := h', toks := tk }) :
    wpAny (model prog w) A (newList []) (fun acc s₃ => wpAny (model prog w) A (newFunctionEnv scope env.globals cl [] env.qual none .none (some env)) (fun cenv s₄ =>
      codeAny (model prog w) A (.compStart (.ListComp elt [⟨.Name x px, iter, ifs, 0⟩] scope pos) 0 (.ref I) acc { cenv with scope := relabel scope env }) (RR acc cenv.locals) s₄) E s₃) E s₂ := by
  refine wpAny_newObj_type (wpAny_newFunctionEnv hcell (by intro y hy; simp at hy) (fun h₁ hns₁ hsb₁ => ?_) hkind)
  dsimp only at hns₁ hsb₁ ⊢
  generalize hH2 : s₂.heap.push { cls := .type "list", dict := none, data := .seq ([] : List Value).toArray } = H2 at hns₁ hsb₁ ⊢
  have hC : H2.objs.size = s₂.heap.objs.size + 1 := by rw [← hH2, Heap.size_push]
  have hDC : s₂.heap.objs.size ≠ H2.objs.size := by rw [hC]; exact Nat.ne_of_lt (Nat.lt_succ_self _)
  have hCle : s₂.heap.objs.size ≤ H2.objs.size := by rw [hC]; exact Nat.le_succ _
  have low : ∀ b, b < s₂.heap.objs.size → b ≠ H2.objs.size ∧ b ≠ s₂.heap.objs.size := fun b hb => ⟨by rw [hC]; exact Nat.ne_of_lt (Nat.lt_succ_of_lt hb), Nat.ne_of_lt hb⟩
  have hDf : s₂.heap.objs.size ∉ fp := fun hm => Nat.lt_irrefl _ (hfp _ hm)
  have hCf : H2.objs.size ∉ fp := fun hm => by have := hfp _ hm; rw [hC] at this; exact Nat.lt_irrefl _ (Nat.lt_of_succ_lt this)
  have old : ∀ b o, s₂.heap.get? b = some o → h₁.get? b = some o := fun b o e => hsb₁.extBut b o (low b (Heap.lt_size e)).1 (Heap.get?_push_of_some _ (hH2 ▸ Heap.get?_push_of_some _ e))
  have hacc : h₁.PlainList s₂.heap.objs.size #[] := ⟨_, hsb₁.extBut _ _ hDC (Heap.get?_push_of_some _ (hH2 ▸ Heap.get?_push_size _ rfl))⟩
  have hst₁ : St 0 h₁ := W.frame _ _ _ hst fun b _ o e => old b o e
  have fresh : ∀ a, s₂.heap.objs.size ≤ a → s₂.heap.get? a = none := fun a ha => Heap.get?_none_of_le ha
  have fr₁ : ∀ a, h₁.get? a = none → s₂.heap.get? a = none := fun a e => by
    cases q : s₂.heap.get? a with
    | none => rfl
    | some o => rw [old a o q] at e; cases e
  have loop : ∀ s₃ : Shared, s₃ = { s₂ with heap := h₁, toks := s₂.toks + ([] : List (Str × Value)).length } →
      codeAny (model prog w) A (.compLoop (.ListComp elt [⟨.Name x px, iter, ifs, 0⟩] scope pos) 0 (.ref I) (.ref s₂.heap.objs.size) (compEnvC scope cl H2.objs.size env))
        (RR (.ref s₂.heap.objs.size) H2.objs.size) s₃ := by
    rintro s₃ rfl
    refine comp_loop (hsz := hsz) (cenv := compEnvC scope cl H2.objs.size env) W p F (lookup_relabel_local hx) (by simp [compEnvC, relabel, hkind]) hDC hDf hCf (hI' _ _ hst₁) hwr hI' hst₁ hacc hns₁
      (fun i v s₃ m₃ hv hn hm hk => hq.tests _ i v s₃ m₃ _ hCle hv hn hm (fun b o hbf e => hk b o (low b (Heap.lt_size e)).1 hbf (low b (Heap.lt_size e)).2 (old b o e)))
      (fun i v s₃ m₃ hv hpv hn hm hk => hq.elt _ i v s₃ m₃ _ hCle hv hpv hn hm (fun b o hbf e => hk b o (low b (Heap.lt_size e)).1 hbf (low b (Heap.lt_size e)).2 (old b o e))) fun h' tk m' ys vs tr hn hpl hlen hP hF1 hF2 hF3 hF4 hk => ?_
    refine hRR _ _ h' tk m' tr (fresh _ (by rw [hC]; exact Nat.le_succ _)) hDC hn ⟨fresh _ (Nat.le_refl _), Nat.le_refl _, ?_, ⟨vs, hlen, hP, hF1⟩, hF3, fun t ht q hq => ?_, fun b o hbf e => ?_⟩ fun t ht q hq => (hF4 t ht q hq).2.2.2
    · rw [hF2]; exact hpl
    · refine hide fun hGoal => ?_
      obtain ⟨q1, q2, q3, _⟩ := hF4 t ht q hq
      refine hGoal ?_
      clear hGoal
      exact ⟨fr₁ _ q1, q2, q3⟩
    · exact hk b o (low b (Heap.lt_size e)).1 hbf (low b (Heap.lt_size e)).2 (old b o e)
  exact codeAny_compStart_list (loop _ rfl) (W.self 0 _ _ _ hst₁ (loop _ rfl))

noncomputable def CAt (prog : Program) (w : World) (A : Around) (env : Env) (scope : Scope) (cl : List (Str × Addr)) (x : Str) (ifs : List Expr) (elt : Expr)
    (Fin : List Addr → Nat → (Nat → Value → Prop) → (Value → Bool) → (Value → Value → List (Addr × Obj) → Prop) → Prop) (it : Value) (s₂ : Shared) : Prop :=
  ∃ (I : Addr) (fp wr : List Addr) (n : Nat) (P : Nat → Value → Prop) (St : Nat → Heap → Prop) (p : Value → Bool) (F : Value → Value → List (Addr × Obj) → Prop), it = .ref I ∧ Walks prog w A I fp wr n P St ∧ n ≤ sizeLine ∧ St 0 s₂.heap ∧
    (∀ b ∈ fp, b < s₂.heap.objs.size) ∧ (∀ b ∈ wr, b = I) ∧ (∀ i h, St i h → ∃ o, h.get? I = some o) ∧ QuietE prog w A env scope cl x ifs elt wr P p F s₂ ∧ Fin wr n P p F
noncomputable abbrev CAtE (prog : Program) (w : World) (A : Around) (env : Env) (scope : Scope) (cl : List (Str × Addr)) (x : Str) (ifs : List Expr) (elt : Expr) (Q : Value → Shared → Prop) (it : Value) (s₂ : Shared) : Prop :=
  CAt prog w A env scope cl x ifs elt (fun wr n P p F => ∀ D h' tk tr, CDone s₂ wr n P p F D h' tr → Q (.ref D) { s₂ with heap := h', toks := tk }) it s₂
noncomputable abbrev CAtA (prog : Program) (w : World) (A : Around) (env : Env) (scope : Scope) (cl : List (Str × Addr)) (x : Str) (ifs : List Expr) (elt : Expr) (y : Str) (Q : Flow → Shared → Prop) (it : Value) (s₂ : Shared) : Prop :=
  ∃ m, s₂.heap.Ns env.locals m ∧ CAt prog w A env scope cl x ifs elt (fun wr n P p F => env.locals ∉ wr ∧ ∀ D h' tk tr, CDone s₂ (env.locals :: wr) n P p F D h' tr → h'.Ns env.locals (fun z => if z = y then some (.ref D) else m z) → Q .next { s₂ with heap := h', toks := tk }) it s₂

theorem comp_eval {s : Shared} {elt iter : Expr} {x : Str} {px : Pos} {ifs : List Expr} {scope : Scope} {cl : List (Str × Addr)} {pos : Pos} {Q : Value → Shared → Prop}
    (hclos : closureFor scope env = pure cl) (hcell : ∀ y ∈ scope.names, y.2 ≠ .cell) (hkind : scope.kind = .function)
    (hnames : ∀ y ∈ scope.names, y.2 = .local → scope.names.lookup y.1 = some .local) (hx : scope.names.lookup x = some .local)
    (hs : ∀ x, foldedSetIterable iter env x = pure x)
    (h : wpAny (model prog w) A (eval iter env) (fun xv s₁ => wpAny (model prog w) A (pyIter xv) (fun it s₂ => CAtE prog w A env scope cl x ifs elt Q it s₂) E s₁) E s) :
    wpAny (model prog w) A (eval (.ListComp elt [⟨.Name x px, iter, ifs, 0⟩] scope pos) env) Q E s := by
  rw [eval_ListComp]
  refine wpAny_comprehension_free (use := none) rfl hs hclos hkind hnames (wpAny_mono h (fun xv s₁ h₁ => wpAny_mono h₁ (fun it s₂ h₂ => ?_) fun _ _ e => e) fun _ _ e => e)
  refine hide fun hGoal => ?_
  obtain ⟨I, fp, wr, n, P, St, p, F, rfl, W, hsz, hst, hfp, hwr, hI', hq, hQ⟩ := h₂
  refine hGoal ?_
  clear hGoal
  refine comp_block (RR := fun acc C => compPost (model prog w) A E none Q acc C) W hsz p F hcell hkind hx hst hfp hwr hI' hq ?_
  intro D C h' tk m' tr hC hDC hn d hoC
  exact ⟨m', hn, fun h'' hs'' => hQ D h'' tk tr ⟨d.fresh, d.above, d.list.extBut hs''.extBut hDC, d.src, d.each, fun t ht q hq => let ⟨q1, q2, q3⟩ := d.own t ht q hq; ⟨q1, hs''.extBut _ _ (hoC t ht q hq) q2, q3⟩,
    fun b o hbf e => hs''.extBut b o (by rintro rfl; rw [hC] at e; cases e) (d.keep b o hbf e)⟩⟩

theorem comp_assign {s : Shared} {elt iter : Expr} {x y : Str} {px py : Pos} {ifs : List Expr} {scope : Scope} {cl : List (Str × Addr)} {pos spos : Pos} {Q : Flow → Shared → Prop}
    (hsw : swapsWith (.ListComp elt [⟨.Name x px, iter, ifs, 0⟩] scope pos) (some (.Name y py)) spos.line env = pure true)
    (hclos : closureFor scope env = pure cl) (hcell : ∀ z ∈ scope.names, z.2 ≠ .cell) (hkind : scope.kind = .function)
    (hnames : ∀ z ∈ scope.names, z.2 = .local → scope.names.lookup z.1 = some .local) (hx : scope.names.lookup x = some .local)
    (hy : env.kindOf y = some .local) (hp : (env.scope.kind == .class || (env.scope.kind == .module && env.locals != env.globals)) = false)
    (hs : ∀ x, foldedSetIterable iter env x = pure x)
    (h : wpAny (model prog w) A (eval iter env) (fun xv s₁ => wpAny (model prog w) A (pyIter xv) (fun it s₂ => CAtA prog w A env scope cl x ifs elt y Q it s₂) E s₁) E s) :
    wpAny (model prog w) A (exec (.Assign [.Name y py] (.ListComp elt [⟨.Name x px, iter, ifs, 0⟩] scope pos) spos) env) Q E s := by
  rw [exec_Assign_Name_used _ _ _ _ hsw]
  refine wpAny_bind (wpAny_standAt (wpAny_bind ?_))
  show wpAny _ A (do let _ ← comprehension (.ListComp elt [⟨.Name x px, iter, ifs, 0⟩] scope pos) scope env _ (newList []) false (eval iter env) (some (assign (.Name y py) env))) _ _ s
  refine wpAny_bind (wpAny_mono (wpAny_comprehension_free (use := some (assign (.Name y py) env)) (Q := fun _ s' => Q .next s') rfl hs hclos hkind hnames
    (wpAny_mono h (fun xv s₁ h₁ => wpAny_mono h₁ (fun it s₂ h₂ => ?_) fun _ _ e => e) fun _ _ e => e)) (fun _ s' hq => wpAny_pure (wpAny_pure hq)) fun _ _ e => e)
  refine hide fun hGoal => ?_
  obtain ⟨m, hn, I, fp, wr, n, P, St, p, F, rfl, W, hsz, hst, hfp, hwr, hI', hq, hLw, hQ⟩ := h₂
  refine hGoal ?_
  clear hGoal
  refine comp_block (RR := fun acc C => compPost (model prog w) A E (some (assign (.Name y py) env)) (fun _ s' => Q .next s') acc C) W hsz p F hcell hkind hx hst hfp hwr hI' hq ?_
  intro D C h' tk m' tr hC hDC hnC d hoC
  have hLs : ∃ o, s₂.heap.get? env.locals = some o := let ⟨o, _, _, ho, _⟩ := hn; ⟨o, ho⟩
  have hLC : env.locals ≠ C := fun q => by obtain ⟨o, ho⟩ := hLs; rw [q, hC] at ho; cases ho
  have hLD : env.locals ≠ D := fun q => by obtain ⟨o, ho⟩ := hLs; rw [q, d.fresh] at ho; cases ho
  show wpAny _ A (assign (.Name y py) env (.ref D)) _ _ _
  refine wpAny_assign_Name (wpAny_storeName_local hy (hn.at' fun o e => d.keep _ o hLw e) (fun h₂ hn₂ hs₂ => ?_) hp)
  refine ⟨m', hnC.sameBut hs₂ (Ne.symm hLC), fun h₃ hs₃ => ?_⟩
  have up : ∀ b o, b ≠ env.locals → b ≠ C → h'.get? b = some o → h₃.get? b = some o := fun b o bL bC e => hs₃.extBut b o bC (hs₂.extBut b o bL e)
  refine hQ D h₃ _ tr ⟨d.fresh, d.above, (d.list.extBut hs₂.extBut (Ne.symm hLD)).extBut hs₃.extBut hDC, d.src, d.each, fun t ht q hq => ?_, fun b o hb e => ?_⟩ (hn₂.sameBut hs₃ hLC)
  · refine hide fun hGoal => ?_
    obtain ⟨q1, q2, q3⟩ := d.own t ht q hq
    refine hGoal ?_
    clear hGoal
    exact ⟨q1, up _ _ (fun e => by obtain ⟨o, ho⟩ := hLs; rw [e, ho] at q1; cases q1) (hoC t ht q hq) q2, q3⟩
  · exact up b o (fun q => hb (q ▸ .head _)) (fun q => by rw [q, hC] at e; cases e) (d.keep b o (fun q => hb (.tail _ q)) e)
end
end PartCm

section PartCe
section
variable {prog : Program} {w : World} {A : Around} {E : Value → Shared → Prop} {env : Env} {s : Shared} {h₀ : Heap} {m : Str → Option Value} {news : List (Addr × Obj)}
  {scope : Scope} {cl : List (Str × Addr)} {x : Str} {ifs : List Expr} {elt : Expr}

noncomputable abbrev testsOf (ifs : List Expr) (cenv : Env) : Sem Bool :=
  forIn ifs true fun c r => if r = true then do let ok ← isTrue c cenv (eval c cenv); pure (ForInStep.yield ok) else pure (ForInStep.yield r)

structure Turn (prog : Program) (w : World) (A : Around) (env : Env) (scope : Scope) (cl : List (Str × Addr)) (x : Str) (ifs : List Expr) (elt : Expr) (h₀ : Heap) (m : Str → Option Value) (news : List (Addr × Obj)) (H : Heap)
    (Pv : Value → Prop) (p : Value → Bool) (F : Value → Value → List (Addr × Obj) → Prop) : Prop where
  tests : ∀ C v s₃ m₃ E', Pv v → Fr H C s₃.heap m₃ → m₃ x = some v → Fr h₀ env.locals s₃.heap m → News h₀ env.locals s₃.heap news →
    wpAny (model prog w) A (testsOf ifs (compEnvC scope cl C env)) (fun ok s₄ => ok = p v ∧ KeepsC C m₃ s₃ s₄) E' s₃
  elt : ∀ C v s₃ m₃ E', Pv v → p v = true → Fr H C s₃.heap m₃ → m₃ x = some v → Fr h₀ env.locals s₃.heap m → News h₀ env.locals s₃.heap news →
    wpAny (model prog w) A (eval elt (compEnvC scope cl C env)) (fun y s₄ => KeepsC C m₃ s₃ s₄ ∧ ∃ own, F v y own ∧ ∀ q ∈ own, s₃.heap.get? q.1 = none ∧ s₄.heap.get? q.1 = some q.2) E' s₃

structure Got (h₀ : Heap) (L : Addr) (news : List (Addr × Obj)) (Pv : Nat → Value → Prop) (n : Nat) (p : Value → Bool) (F : Value → Value → List (Addr × Obj) → Prop) (D : Addr) (e : Nat) (h' : Heap) (tr : List Tr) : Prop where
  led : News h₀ L h' ((D, listOf (tr.map (·.2.1)).toArray e) :: (tr.flatMap (·.2.2) ++ news))
  lt : ∀ q ∈ news, q.1 < D
  src : ∃ vs : List Value, vs.length = n ∧ (∀ j v, vs[j]? = some v → Pv j v) ∧ tr.map (·.1) = vs.filter p
  each : ∀ t ∈ tr, F t.1 t.2.1 t.2.2
  off : ∀ t ∈ tr, ∀ q ∈ t.2.2, q.1 ≠ D ∧ ∀ r ∈ news, r.1 ≠ q.1

theorem got_of {s₂ : Shared} {wr : List Addr} {n : Nat} {P : Nat → Value → Prop} {p : Value → Bool} {F : Value → Value → List (Addr × Obj) → Prop} {D : Addr} {h' : Heap} {tr : List Tr} {L : Addr}
    (d : CDone s₂ wr n P p F D h' tr) (Fm : Fr h₀ L s₂.heap m) (N : News h₀ L s₂.heap news) (hw : ∀ q ∈ news, q.1 ∉ wr) : ∃ e, Got h₀ L news P n p F D e h' tr := by
  refine hide fun hGoal => ?_
  obtain ⟨e, he⟩ := d.list
  refine hGoal ?_
  clear hGoal
  refine hide fun hGoal => ?_
  obtain ⟨oL, _, _, hL, _⟩ := Fm.ns
  refine hGoal ?_
  clear hGoal
  have hLt := Heap.lt_size hL
  have none₀ : ∀ a, s₂.heap.get? a = none → h₀.get? a = none := fun a q => by
    cases r : h₀.get? a with
    | none => rfl
    | some o => rw [Fm.keep a o r] at q; cases q
  refine ⟨e, fun q hq => ?_, fun q hq => Nat.lt_of_lt_of_le (Heap.lt_size (N q hq).1) d.above, d.src, d.each, fun t ht q hq => ⟨(d.own t ht q hq).2.2, fun r hr q' => ?_⟩⟩
  · rcases List.mem_cons.mp hq with rfl | hq
    · exact ⟨he, Nat.ne_of_gt (Nat.lt_of_lt_of_le hLt d.above), none₀ _ d.fresh⟩
    · rcases List.mem_append.mp hq with hq | hq
      · refine hide fun hGoal => ?_
        obtain ⟨t, ht, hq⟩ := List.mem_flatMap.mp hq
        refine hGoal ?_
        clear hGoal
        refine hide fun hGoal => ?_
        obtain ⟨q1, q2, _⟩ := d.own t ht q hq
        refine hGoal ?_
        clear hGoal
        exact ⟨q2, fun q' => absurd (q' ▸ q1 : s₂.heap.get? L = none) (by rw [hL]; exact fun h => nomatch h), none₀ _ q1⟩
      · exact ⟨d.keep _ _ (hw q hq) (N q hq).1, (N q hq).2⟩
  · have := (d.own t ht q hq).1
    rw [← q', (N r hr).1] at this; cases this

structure Src (prog : Program) (w : World) (A : Around) (H : Heap) (I : Addr) (fp wr : List Addr) (n : Nat) (P : Nat → Value → Prop) (St : Nat → Heap → Prop) (s₂ : Shared) : Prop where
  W : Walks prog w A I fp wr n P St
  st : St 0 s₂.heap
  fp : ∀ b ∈ fp, b < s₂.heap.objs.size
  wr : ∀ b ∈ wr, b = I
  at_ : ∀ i h, St i h → ∃ o, h.get? I = some o
  new : H.objs.size ≤ I
  keep : H.StaysIn s₂.heap

theorem quiet_of {I : Addr} {fp wr : List Addr} {n : Nat} {P : Nat → Value → Prop} {St : Nat → Heap → Prop} {s₂ : Shared} {Pv : Value → Prop} {p : Value → Bool} {F : Value → Value → List (Addr × Obj) → Prop}
    (S : Src prog w A s.heap I fp wr n P St s₂) (hP : ∀ i v, P i v → Pv v) (Fm : Fr h₀ env.locals s.heap m) (N : News h₀ env.locals s.heap news) (T : Turn prog w A env scope cl x ifs elt h₀ m news s.heap Pv p F) :
    QuietE prog w A env scope cl x ifs elt wr P p F s₂ := by
  have sz : s.heap.objs.size ≤ s₂.heap.objs.size := by
    refine hide fun hGoal => ?_
    obtain ⟨o, ho⟩ := S.at_ _ _ S.st
    refine hGoal ?_
    clear hGoal
    exact Nat.le_of_lt (Nat.lt_of_le_of_lt S.new (Heap.lt_size ho))
  have up : ∀ s₃ : Shared, (∀ b o, b ∉ wr → s₂.heap.get? b = some o → s₃.heap.get? b = some o) → ∀ b o, s.heap.get? b = some o → s₃.heap.get? b = some o := fun s₃ k b o e =>
    k b o (fun hw => Nat.lt_irrefl _ (Nat.lt_of_lt_of_le (Heap.lt_size e) (S.wr b hw ▸ S.new))) (S.keep b o e)
  exact ⟨fun C i v s₃ m₃ E' hC hv hn hm hk => T.tests C v s₃ m₃ E' (hP i v hv) ⟨hn, up s₃ hk, Nat.le_trans sz hC⟩ hm (Fm.kept (up s₃ hk)) (N.grown (up s₃ hk)),
    fun C i v s₃ m₃ E' hC hv hp hn hm hk => T.elt C v s₃ m₃ E' (hP i v hv) hp ⟨hn, up s₃ hk, Nat.le_trans sz hC⟩ hm (Fm.kept (up s₃ hk)) (N.grown (up s₃ hk))⟩

theorem catE {I : Addr} {fp wr : List Addr} {n : Nat} {P : Nat → Value → Prop} {St : Nat → Heap → Prop} {s₂ : Shared} {Pv : Value → Prop} {p : Value → Bool} {F : Value → Value → List (Addr × Obj) → Prop} {Q : Value → Shared → Prop}
    (S : Src prog w A s.heap I fp wr n P St s₂) (hn : n ≤ sizeLine) (hP : ∀ i v, P i v → Pv v) (Fm : Fr h₀ env.locals s.heap m) (N : News h₀ env.locals s.heap news) (T : Turn prog w A env scope cl x ifs elt h₀ m news s.heap Pv p F)
    (done : ∀ D e h' tk tr, Fr h₀ env.locals h' m → Got h₀ env.locals news P n p F D e h' tr → Q (.ref D) { s₂ with heap := h', toks := tk }) :
    CAtE prog w A env scope cl x ifs elt Q (.ref I) s₂ := by
  refine ⟨I, fp, wr, n, P, St, p, F, rfl, S.W, hn, S.st, S.fp, S.wr, S.at_, quiet_of S hP Fm N T, fun D h' tk tr d => ?_⟩
  have off : ∀ b, b < s.heap.objs.size → b ∉ wr := fun b hb hw => Nat.lt_irrefl _ (Nat.lt_of_lt_of_le hb (S.wr b hw ▸ S.new))
  have up : ∀ b o, s.heap.get? b = some o → h'.get? b = some o := fun b o e => d.keep b o (off b (Heap.lt_size e)) (S.keep b o e)
  refine hide fun hGoal => ?_
  obtain ⟨e, g⟩ := got_of d (Fm.kept S.keep) (N.grown S.keep) fun q hq => off _ (Heap.lt_size (N q hq).1)
  refine hGoal ?_
  clear hGoal
  exact done D e h' tk tr (Fm.kept up) g

theorem catA {I : Addr} {fp wr : List Addr} {n : Nat} {P : Nat → Value → Prop} {St : Nat → Heap → Prop} {s₂ : Shared} {Pv : Value → Prop} {p : Value → Bool} {F : Value → Value → List (Addr × Obj) → Prop} {Q : Flow → Shared → Prop} {y : Str}
    (S : Src prog w A s.heap I fp wr n P St s₂) (hn : n ≤ sizeLine) (hP : ∀ i v, P i v → Pv v) (Fm : Fr h₀ env.locals s.heap m) (N : News h₀ env.locals s.heap news) (T : Turn prog w A env scope cl x ifs elt h₀ m news s.heap Pv p F)
    (done : ∀ D e h' tk tr, Fr h₀ env.locals h' (fun z => if z = y then some (.ref D) else m z) → Got h₀ env.locals news P n p F D e h' tr → Q .next { s₂ with heap := h', toks := tk }) :
    CAtA prog w A env scope cl x ifs elt y Q (.ref I) s₂ := by
  have off : ∀ b, b < s.heap.objs.size → b ∉ wr := fun b hb hw => Nat.lt_irrefl _ (Nat.lt_of_lt_of_le hb (S.wr b hw ▸ S.new))
  refine hide fun hGoal => ?_
  obtain ⟨oL, _, _, hL, _⟩ := Fm.ns
  refine hGoal ?_
  clear hGoal
  refine ⟨m, Fm.ns.keeps S.keep, I, fp, wr, n, P, St, p, F, rfl, S.W, hn, S.st, S.fp, S.wr, S.at_, quiet_of S hP Fm N T, off _ (Heap.lt_size hL), fun D h' tk tr d hns => ?_⟩
  have oL : ∀ q ∈ news, q.1 ∉ env.locals :: wr := fun q hq hw => by
    rcases List.mem_cons.mp hw with e | hw
    · exact (N q hq).2.1 e
    · exact off _ (Heap.lt_size (N q hq).1) hw
  refine hide fun hGoal => ?_
  obtain ⟨e, g⟩ := got_of d (Fm.kept S.keep) (N.grown S.keep) oL
  refine hGoal ?_
  clear hGoal
  refine done D e h' tk tr ⟨hns, fun b o q => d.keep b o (fun hw => ?_) (S.keep b o (Fm.keep b o q)), Fm.above⟩ g
  rcases List.mem_cons.mp hw with e | hw
  · exact Nat.lt_irrefl _ (Nat.lt_of_lt_of_le (e ▸ Heap.lt_size q) Fm.above)
  · exact off _ (Heap.lt_size (Fm.keep b o q)) hw

theorem src_list {l : Addr} {vs : List Value} (hh : A.handled = none) (hl : s.heap.IsList l vs.toArray) :
    Src prog w A s.heap s.heap.objs.size [s.heap.objs.size, l] [s.heap.objs.size] vs.length (fun i v => vs[i]? = some v) (fun i h => h.IsListIter s.heap.objs.size l i ∧ h.IsList l vs.toArray)
      { s with heap := s.heap.push { cls := .type "list_iterator", data := .fields #[.ref l, .int 0 0] } } := by
  refine hide fun hGoal => ?_
  obtain ⟨ol, hol, _⟩ := id hl
  refine hGoal ?_
  clear hGoal
  have hlt := Heap.lt_size hol
  have W := Walks.list (prog := prog) (w := w) hh s.heap.objs.size l (Nat.ne_of_lt hlt) vs.toArray
  rw [List.size_toArray] at W
  have eP : (fun (i : Nat) (v : Value) => vs.toArray[i]? = some v) = fun i v => vs[i]? = some v := by funext i v; simp
  rw [eP] at W
  refine ⟨W, ⟨⟨_, Heap.get?_push_size _ rfl, rfl, rfl⟩, hl.push _⟩, fun b hb => ?_, fun b hb => List.mem_singleton.mp hb, fun i h st => by obtain ⟨o, ho, _⟩ := st.1; exact ⟨o, ho⟩, Nat.le_refl _, fun b o e => Heap.get?_push_of_some _ e⟩
  show b < (s.heap.push _).objs.size
  rw [Heap.size_push]
  rcases List.mem_cons.mp hb with rfl | hb
  · exact Nat.lt_succ_self _
  · rw [List.mem_singleton.mp hb]; exact Nat.lt_succ_of_lt hlt

theorem src_range {r : Addr} {n : Nat} (hh : A.handled = none) :
    Src prog w A s.heap s.heap.objs.size [s.heap.objs.size] [s.heap.objs.size] n (fun i v => ∃ t, v = .int (0 + i * 1) t) (fun i h => IsRangeIter h s.heap.objs.size (0 + (i : Nat) * 1) ((n : Int) - (i : Nat)) 1)
      { s with heap := s.heap.push { cls := .type "range_iterator", data := .fields #[rawInt 0, rawInt n, rawInt 1] } } := by
  refine ⟨Walks.range hh _ 0 1 n, by show IsRangeIter _ _ _ _ _; simpa using Heap.get?_push_size _ rfl, fun b hb => ?_, fun b hb => List.mem_singleton.mp hb, fun i h st => ⟨_, st⟩, Nat.le_refl _, fun b o e => Heap.get?_push_of_some _ e⟩
  rw [List.mem_singleton.mp hb]
  show _ < (s.heap.push _).objs.size
  rw [Heap.size_push]; exact Nat.lt_succ_self _
end
end PartCe

section PartP3
section
variable {prog : Program} {w : World} {A : Around} {E : Value → Shared → Prop} {s : Shared}
theorem plain_isn : plainId "issubclass.nested" = true := by decide +kernel
theorem kind_isn : builtinKind "issubclass.nested" = none := by decide +kernel
theorem args_isn (a b c : Value) : argsOk "issubclass.nested" ⟨[a, b, c], []⟩ := by unfold argsOk; kernel_rfl
theorem sub_str : isSubtype (.type "str") (.type "str") = pure true := by rw [isSubtype_type]; kernel_rfl
theorem ty_str : typeOf (.type "str") = pure (.type "type") := by kernel_rfl
theorem isn_str {k : Value} {i : Int} {t : Tok} {Q : PySem.Fin → Shared → Prop} (hk : k = .int i t) (hq : Q (.done (.ret (.bool true))) s) :
    wpAny (model prog w) A (Builtin.«issubclass.nested» ⟨[.type "str", .type "str", k], []⟩) Q E s := by
  subst hk
  have f1 := sub_str
  have f2 := ty_str
  repeat (any_goals (first | assumption | (rw [f1]) | (rw [f2]) | wp_step))
theorem isn_tup {tp : Addr} {t : Tok} {cs r : List Value} {Q : PySem.Fin → Shared → Prop} (htp : s.heap.get? tp = some { cls := .type "tuple", data := .seq cs.toArray })
    (hcs : cs = .type "str" :: r) (hq : Q (.done (.ret (.bool true))) s) : wpAny (model prog w) A (Builtin.«issubclass.nested» ⟨[.type "str", .ref tp, .int 0 t], []⟩) Q E s := by
  obtain ⟨h, g, d, t, os⟩ := s
  have hT2 : (⟨h, g, d, t, os⟩ : Shared).TypeIs (.ref tp) "tuple" := ⟨_, htp, rfl⟩
  have f1 := F.isi_sub_tuple
  repeat (any_goals (first | assumption | wp_step))
  refine wpAny_arrayLoop ?_
  simp only [Option.getD_some, List.toList_toArray]
  rw [hcs, List.forIn_cons]
  refine wpAny_bind (wpAny_bind ?_)
  refine call_function_entry kind_isn plain_isn F.entry_issubclass_nested (args_isn _ _ _) (isn_str rfl ⟨_, rfl, ?_⟩)
  refine wpAny_bind (m := truthy (.bool true)) (wpAny_pure ?_)
  repeat (any_goals (first | assumption | wp_step))
theorem issubclass_str {tp : Addr} {r : List Value} {Q : Value → Shared → Prop} (htp : s.heap.get? tp = some { cls := .type "tuple", data := .seq (Value.type "str" :: r).toArray })
    (hq : Q (.bool true) s) : wpAny (model prog w) A (call (.builtin "issubclass") [.type "str", .ref tp]) Q E s :=
  call_issubclass (S := fun _ R s => s.heap.get? tp = some { cls := .type "tuple", data := .seq (Value.type "str" :: r).toArray } ∧ R (.ok (.ret (.bool true))) s)
    (fun _ _ _ _ _ hs => issubclass_outer (isn_tup hs.1 rfl hs.2)) ⟨htp, hq⟩
end
end PartP3

section PartP4
theorem fill2 : PySem.Challenge.rw_il0061_01 = PySem.Challenge.rw_il0061_01 ∧ hd.heap_39 = hd.heap_39 := by
  k_fill
  exact ⟨rfl, rfl⟩
local macro_rules | `(tactic| walk_at "call builtin:issubclass") => `(tactic| (k_here; (with_reducible show wpAny _ _ (call (Value.builtin "issubclass") [Value.type "str", Value.ref _]) _ _ _); k_dflt (refine' issubclass_str ?k1 ?_; (case k1 => exact News.get (by k_asm) (by k_mem)); k_whole)))
noncomputable def sep : Str := Str.ofString "/"
set_option maxHeartbeats 8000000 in
theorem d_fspath (x : Str) (t : Tok) : Does 122 2 8 [.str x t] (fun _ => True) (fun r _ _ => r = .str x t) := by
  intro w mean mg mb dp un gd cn cs a ccd cl outer h₀ L m s Q E F X T hk hd hu hp hret
  k_dflt (refine' enterP (binds := [(Str.ofString "path", .str x t)]) F X T ?k6 ?k7 ?k8 ?k9 ?kB ?_ ?c2 ?c3 ?c4 ?c5; (case k6 => k_is); (case k7 => k_is); (case k8 => (show dp < _; omega)); (case k9 => exact BindsTo.of_eq rfl); (case kB => exact locs rfl); (case c2 => exact rfl); (case c3 => exact rfl); (case c4 => exact rfl); (case c5 => decide); k_whole)
  intro g L' h₁ tk hg F' X' T'
  have N' : News g L' h₁ [] := News.nil
  clear F X T
  subst hg
  try dsimp only
  with_reducible show wpAny _ _ _ _ _ _
  k_fold
  k_steps
  all_goals exact hret _ _ _ (Fr.keep (by assumption)) rfl
set_option maxHeartbeats 8000000 in
theorem d_getsep (x : Str) (t : Tok) : Does 136 2 8 [.str x t] (fun _ => True) (fun r _ _ => ∃ u, r = .str sep u) := by
  intro w mean mg mb dp un gd cn cs a ccd cl outer h₀ L m s Q E F X T hk hd hu hp hret
  k_dflt (refine' enterP (binds := [(Str.ofString "path", .str x t)]) F X T ?k6 ?k7 ?k8 ?k9 ?kB ?_ ?c2 ?c3 ?c4 ?c5; (case k6 => k_is); (case k7 => k_is); (case k8 => (show dp < _; omega)); (case k9 => exact BindsTo.of_eq rfl); (case kB => exact locs rfl); (case c2 => exact rfl); (case c3 => exact rfl); (case c4 => exact rfl); (case c5 => decide); k_whole)
  intro g L' h₁ tk hg F' X' T'
  have N' : News g L' h₁ [] := News.nil
  clear F X T
  subst hg
  try dsimp only
  with_reducible show wpAny _ _ _ _ _ _
  k_fold
  k_steps
  all_goals exact hret _ _ _ (Fr.keep (by assumption)) ⟨_, rfl⟩
end PartP4

local macro_rules | `(tactic| walk_at "mine room") => `(tactic| first | omega | ((try dsimp only [Around.deeper]); omega) | (refine of_decide_eq_true ?_; with_unfolding_all rfl))
local macro_rules | `(tactic| walk_at "mine tendU") => `(tactic| (refine' TEnd.next () ?f ?n ?p; (case f => k_asm); (case n => k_asm)))
local macro_rules | `(tactic| walk_at "mine len") => `(tactic| first | (with_reducible assumption) | omega | (simp only [List.size_toArray]; omega))
local macro_rules | `(tactic| walk_at "call ref") => `(tactic| (k_here; (with_reducible show wpAny _ _ (call (Value.ref 122) [Value.str _ _]) _ _ _); k_dflt (refine' Does.use (d_fspath _ _) ?k2 ?k3 ?k4 ?k5 ?k6 ?kd ?ku trivial ?_; (case k2 => k_asm); (case k3 => k_asm); (case k4 => k_asm); (case k5 => k_asm); (case k6 => first | exact rfl | assumption); (case kd => walk_at "mine room"); (case ku => walk_at "mine room"); k_whole); intro r h' tk' F' N' st e; subst e; clear st; (try k_sweep)))
local macro_rules | `(tactic| walk_at "call ref") => `(tactic| (k_here; (with_reducible show wpAny _ _ (call (Value.ref 136) [Value.str _ _]) _ _ _); k_dflt (refine' Does.use (d_getsep _ _) ?k2 ?k3 ?k4 ?k5 ?k6 ?kd ?ku trivial ?_; (case k2 => k_asm); (case k3 => k_asm); (case k4 => k_asm); (case k5 => k_asm); (case k6 => first | exact rfl | assumption); (case kd => walk_at "mine room"); (case ku => walk_at "mine room"); k_whole); intro r h' tk' F' N' st e; obtain ⟨_, e⟩ := e; subst e; clear st; (try k_sweep)))
section PartP5
noncomputable def baseS (x : Str) : Str := Txt.slice x (some (Txt.rfind x sep + 1)) none
set_option maxHeartbeats 8000000 in
theorem d_basename (x : Str) (t : Tok) (hx : x.length ≤ 1000) : Does 150 4 16 [.str x t] (fun _ => True) (fun r _ _ => ∃ u, r = .str (baseS x) u) := by
  intro w mean mg mb dp un gd cn cs a ccd cl outer h₀ L m s Q E F X T hk hd hu hp hret
  k_dflt (refine' enterP (binds := [(Str.ofString "p", .str x t)]) F X T ?k6 ?k7 ?k8 ?k9 ?kB ?_ ?c2 ?c3 ?c4 ?c5; (case k6 => k_is); (case k7 => k_is); (case k8 => (show dp < _; omega)); (case k9 => exact BindsTo.of_eq rfl); (case kB => exact locs rfl); (case c2 => exact rfl); (case c3 => exact rfl); (case c4 => exact rfl); (case c5 => decide); k_whole)
  intro g L' h₁ tk hg F' X' T'
  have N' : News g L' h₁ [] := News.nil
  clear F X T
  subst hg
  try dsimp only
  with_reducible show wpAny _ _ _ _ _ _
  k_fold
  k_steps
  all_goals exact hret _ _ _ (Fr.keep (by assumption)) ⟨_, rfl⟩
noncomputable def headS (x : Str) : Str := Txt.slice x none (some (Txt.rfind x sep + 1))
noncomputable def dirS (x : Str) : Str := if ((headS x).length : Int) = 0 then headS x else if (headS x != Txt.mul sep ((headS x).length : Int)) = true then Txt.rstripChars (headS x) sep else headS x
theorem dirS_1 {x : Str} (h1 : ¬ ((Txt.slice x none (some (Txt.rfind x sep + 1))).length : Int) = 0) (h2 : (Txt.slice x none (some (Txt.rfind x sep + 1)) != Txt.mul sep ((Txt.slice x none (some (Txt.rfind x sep + 1))).length : Int)) = true) : Txt.rstripChars (Txt.slice x none (some (Txt.rfind x sep + 1))) sep = dirS x := by
  unfold dirS headS; rw [if_neg h1, if_pos h2]
theorem dirS_2 {x : Str} (h1 : ¬ ((Txt.slice x none (some (Txt.rfind x sep + 1))).length : Int) = 0) (h2 : (Txt.slice x none (some (Txt.rfind x sep + 1)) != Txt.mul sep ((Txt.slice x none (some (Txt.rfind x sep + 1))).length : Int)) = false) : Txt.slice x none (some (Txt.rfind x sep + 1)) = dirS x := by
  unfold dirS headS; rw [if_neg h1, if_neg (by rw [h2]; exact Bool.false_ne_true)]
theorem dirS_3 {x : Str} (h1 : ((Txt.slice x none (some (Txt.rfind x sep + 1))).length : Int) = 0) : Txt.slice x none (some (Txt.rfind x sep + 1)) = dirS x := by unfold dirS headS; rw [if_pos h1]
theorem str_of {a b : Str} (e : a = b) (t : Tok) : ∃ u, Value.str a t = .str b u := ⟨t, by rw [e]⟩
set_option maxHeartbeats 8000000 in
theorem d_dirname (x : Str) (t : Tok) (hx : x.length ≤ 1000) : Does 157 4 16 [.str x t] (fun _ => True) (fun r _ _ => ∃ u, r = .str (dirS x) u) := by
  intro w mean mg mb dp un gd cn cs a ccd cl outer h₀ L m s Q E F X T hk hd hu hp hret
  k_dflt (refine' enterP (binds := [(Str.ofString "p", .str x t)]) F X T ?k6 ?k7 ?k8 ?k9 ?kB ?_ ?c2 ?c3 ?c4 ?c5; (case k6 => k_is); (case k7 => k_is); (case k8 => (show dp < _; omega)); (case k9 => exact BindsTo.of_eq rfl); (case kB => exact locs rfl); (case c2 => exact rfl); (case c3 => exact rfl); (case c4 => exact rfl); (case c5 => decide); k_whole)
  intro g L' h₁ tk hg F' X' T'
  have N' : News g L' h₁ [] := News.nil
  clear F X T
  subst hg
  try dsimp only
  with_reducible show wpAny _ _ _ _ _ _
  k_fold
  k_steps
  all_goals (try dsimp only)
  all_goals refine hret _ _ _ (Fr.keep (by with_reducible assumption)) (str_of ?_ _)
  all_goals with_reducible first | exact dirS_1 (by assumption) (by assumption) | exact dirS_2 (by assumption) (by assumption) | exact dirS_3 (by assumption)
end PartP5

section PartP6
theorem fill6 : PySem.Challenge.rw_il0061_01 = PySem.Challenge.rw_il0061_01 ∧ hd.heap_39 = hd.heap_39 := by
  k_fill
  exact ⟨rfl, rfl⟩
section
variable {prog : Program} {w : World} {A : Around} {s : Shared} {h₀ : Heap} {L : Addr} {m : Str → Option Value} {K : Frag}
  {Q E : Value → Shared → Prop} {name qual : Str} {params : Arguments} {body : List Stmt} {scope : Scope} {dV kV doc pm cdv ct oc : Value} {an od : Option Addr} {osl : Array (Option Value)} {f : Addr} {args vs : List Value}
  {p : Program} {loose : List Str} {mean : ExcName → Option Value} {mg mb : Str → Option Value}

theorem enterV (F : Fr h₀ L s.heap m) (X : K.In h₀) (T : Top p loose mean mg mb h₀)
    (ho : K.lookup f = some ⟨oc, od, .func (fnOf name qual params body scope dV kV doc pm an cdv ct), osl⟩) (hcd : codeIn K cdv qual = true) (hroom : A.depth < recursionLimit)
    (binds : Value → List (Str × Value)) (hv : vs.length ≤ sizeLine)
    (hbind : bindArgs (fnOf name qual params body scope dV kV doc pm an cdv ct) ⟨args, []⟩ = (newTuple vs >>= fun t => pure (binds t))) (hloc : ∀ D, ∀ y ∈ binds D, scope.names.lookup y.1 = some .local)
    (h : ∀ D g L' h₁ tk, g = s.heap → Fr g L' h₁ (fun y => (binds (.ref D)).reverse.lookup y) → News g L' h₁ [(D, { cls := .type "tuple", data := .seq vs.toArray })] → K.In g → Top p loose mean mg mb g →
      wpAny (model prog w) (A.deeper (envOf qual scope L' f cdv)) (execs body (envOf qual scope L' f cdv))
        (fun fl s' => Q (match fl with | .ret v => v | _ => .none) s') (fun _ _ => False) { s with heap := h₁, toks := tk })
    (hco : scope.isCoroutine = false) (hgen : scope.isGenerator = false) (hk : scope.kind = .function)
    (hcell : ∀ x ∈ scope.names, x.2 ≠ .cell) : wpAny (model prog w) A (call (.ref f) args) Q E s := by
  refine wpAny_call (codeAny_call_function (fd := fnOf name qual params body scope dV kV doc pm an cdv ct) (body := body) hroom (X.keeps F.keep _ _ ho) rfl hco hgen rfl (codeRec_of (X.keeps F.keep) hcd) ?_)
  have eb : bindArgs (fnOf name qual params body scope dV kV doc pm an cdv ct) { pos := args } = (newTuple vs >>= fun t => pure (binds t)) := hbind
  rw [eb]
  refine wpAny_bind (wpAny_newObj_type ?_ (by show vs.toArray.size ≤ sizeLine; rw [List.size_toArray]; exact hv))
  refine wpAny_pure ?_
  have hk₀ : ∀ b o, s.heap.get? b = some o → (s.heap.push { cls := .type "tuple", data := .seq vs.toArray }).get? b = some o := fun b o e => Heap.get?_push_of_some _ e
  refine wpAny_newFunctionEnv hcell (hloc _) (fun h₁ hns hsb => ⟨((T.nolimit.keeps F.keep).keeps hk₀).fresh _ hsb, codeAny_func ?_⟩) hk
  have hk₁ : ∀ b o, (s.heap.push { cls := .type "tuple", data := .seq vs.toArray }).get? b = some o → h₁.get? b = some o := fun b o e => hsb.extBut b o (Nat.ne_of_lt (Heap.lt_size e)) (Heap.get?_push_of_some _ e)
  have hsz : (s.heap.push { cls := .type "tuple", data := .seq vs.toArray }).objs.size = s.heap.objs.size + 1 := Heap.size_push _ _
  exact wpAny_mono (h s.heap.objs.size s.heap _ h₁ _ rfl ⟨hns, fun b o e => hk₁ b o (hk₀ b o e), by rw [hsz]; exact Nat.le_succ _⟩ (fun q hq => by
    rw [List.mem_singleton.mp hq]
    exact ⟨hk₁ _ _ (Heap.get?_push_size _ rfl), by rw [hsz]; exact Nat.ne_of_lt (Nat.lt_succ_self _), Heap.get?_none_of_le (Nat.le_refl _)⟩) (X.keeps F.keep) (T.keeps F.keep)) (fun fl s' hl => hl) fun _ _ y => y.elim
end
end PartP6

local macro_rules | `(tactic| walk_at "eval Name") => `(tactic| (k_here; (with_reducible show wpAny _ _ (eval (Expr.Name _ _) (envOf _ _ _ _ _)) _ _ _); k_dflt (refine' ld ?k1 ?k2 ?_; (case k1 => k_asm); (case k2 => first | exact rfl | assumption); k_whole)))
local macro_rules | `(tactic| walk_at "loadName") => `(tactic| (k_here; (with_reducible show wpAny _ _ (loadName (envOf _ _ _ _ _) _) _ _ _); k_dflt (refine' ldn ?k1 ?k2 ?_; (case k1 => k_asm); (case k2 => first | exact rfl | assumption); k_whole)))
section PartP7
noncomputable def joinStep (path b : Str) : Str := if Txt.startswith b sep = true then b else if (path.length : Int) = 0 then b else if Txt.endswith path sep = true then path ++ b else path ++ (sep ++ b)
noncomputable def joinS (a : Str) (xs : List Str) : Str := xs.foldl joinStep a
local macro_rules | `(tactic| walk_at "pyIter ref") => `(tactic| fail "mine: stop")
theorem joinS_snoc (a : Str) (xs : List Str) (i : Nat) (b : Str) (h : xs[i]? = some b) : joinS a (xs.take (i + 1)) = joinStep (joinS a (xs.take i)) b := by
  rw [List.take_add_one, h, joinS, joinS, List.foldl_append]; rfl
theorem jst_1 {p b : Str} (h : Txt.startswith b sep = true) : b = joinStep p b := by unfold joinStep; rw [if_pos h]
theorem jst_2 {p b : Str} (h : Txt.startswith b sep = false) (h0 : (p.length : Int) = 0) : b = joinStep p b := by unfold joinStep; rw [if_neg (by simp [h]), if_pos h0]
theorem jst_3 {p b : Str} (h : Txt.startswith b sep = false) (h0 : (p.length : Int) ≠ 0) (h1 : Txt.endswith p sep = true) : p ++ b = joinStep p b := by unfold joinStep; rw [if_neg (by simp [h]), if_neg h0, if_pos h1]
theorem jst_4 {p b : Str} (h : Txt.startswith b sep = false) (h0 : (p.length : Int) ≠ 0) (h1 : Txt.endswith p sep = false) : p ++ (sep ++ b) = joinStep p b := by unfold joinStep; rw [if_neg (by simp [h]), if_neg h0, if_neg (by simp [h1])]
theorem sep_len : sep.length = 1 := by decide
theorem someS {a b : Str} {t : Tok} (e : a = b) : some (Value.str a t) = some (Value.str b t) := by rw [e]
theorem joinS_all (a : Str) (xs : List Str) : joinS a (xs.take xs.length) = joinS a xs := by rw [List.take_length]
set_option maxHeartbeats 8000000 in
theorem d_join (x : Str) (t : Tok) (vs : List Value) (xs : List Str) (hv : StrsAre vs xs) (hn : vs.length ≤ 100) (h1 : ∀ i, (joinS x (xs.take i)).length ≤ 10000) (h2 : ∀ y ∈ xs, y.length ≤ 1000) : Does 143 4 16 (.str x t :: vs) (fun _ => True) (fun r _ _ => ∃ u, r = .str (joinS x xs) u) := by
  intro w mean mg mb dp un gd cn cs a ccd cl outer h₀ L m s Q E F X T hk hd hu hp hret
  k_dflt (refine' enterV (vs := vs) F X T ?k6 ?k7 ?k8 (fun D => [(Str.ofString "a", .str x t), (Str.ofString "p", D)]) ?hv ?k9 ?kB ?_ ?c2 ?c3 ?c4 ?c5; (case k6 => k_is); (case k7 => k_is); (case k8 => (show dp < _; omega)); (case hv => (rw [sizeLine_eq]; omega)); (case k9 => (clear hret hv hn h1 h2; cases vs <;> exact rfl)); (case kB => exact fun D => locs rfl); (case c2 => exact rfl); (case c3 => exact rfl); (case c4 => exact rfl); (case c5 => decide); k_whole)
  intro D g L' h₁ tk hg F' N' X' T'
  clear F X T
  subst hg
  try dsimp only
  with_reducible show wpAny _ _ _ _ _ _
  k_fold
  k_steps
  rename_i F₁ N₁
  refine it_tuple (vs := vs) (fun _ : Unit => [(D, ({ cls := .type "tuple", data := .seq vs.toArray } : Obj))]) (fun i _ m => (∃ u, m (Str.ofString "path") = some (.str (joinS x (xs.take i)) u)) ∧ ∃ u, m (Str.ofString "sep") = some (.str sep u)) () rfl (fun _ => .head _) F₁ N₁ (fun _ q hq => ?lt) ⟨⟨_, rfl⟩, ⟨_, rfl⟩⟩ ?turn ?done
  case lt => rw [List.mem_singleton.mp hq]; exact Heap.lt_size (N₁ _ (.head _)).1
  case turn =>
    intro I oI i v _ m₁ h tk hi hp hlt F₂ N₂
    refine hide fun hGoal => ?_
    obtain ⟨⟨u1, e1⟩, u2, e2⟩ := hp
    refine hGoal ?_
    clear hGoal
    refine hide fun hGoal => ?_
    obtain ⟨b, t', rfl, hb⟩ := hv.item i v hi
    refine hGoal ?_
    clear hGoal
    have hb1 := h2 b (List.mem_of_getElem? hb)
    have hb2 := h1 i
    have hb3 := sep_len
    clear N₁ F₁
    with_reducible show wpAny _ _ _ _ _ _
    k_fold
    k_steps
    all_goals (walk_at "mine tendU"; refine ⟨?_, ⟨_, e2⟩⟩; rw [joinS_snoc _ _ _ _ hb]; refine ⟨_, someS ?_⟩)
    all_goals with_reducible first | exact jst_1 (by assumption) | exact jst_2 (by assumption) (by assumption) | exact jst_3 (by assumption) (by assumption) (by assumption) | exact jst_4 (by assumption) (by assumption) (by assumption)
  case done =>
    intro _ m₁ h tk hp F₂ N₂
    refine hide fun hGoal => ?_
    obtain ⟨⟨u1, e1⟩, u2, e2⟩ := hp
    refine hGoal ?_
    clear hGoal
    rw [hv.len_eq, List.take_length] at e1
    clear N₁ F₁
    with_reducible show wpAny _ _ _ _ _ _
    k_fold
    k_steps
    all_goals exact hret _ _ _ (Fr.keep (by k_asm)) ⟨_, rfl⟩
end PartP7

section PartP8
local macro_rules
  | `(tactic| walk_at $k:str) => if ["exec While Name cons nil"].contains k.getString then `(tactic| (refine hold_it ?_)) else Lean.Macro.throwUnsupported
noncomputable def apL (n : Nat) : List UInt8 := if h : n = 0 then [] else apL (n / 16) ++ [UInt8.ofNat (65 + n % 16)]
termination_by n
decreasing_by omega
noncomputable def apC : Array UInt8 := #[65, 66, 67, 68, 69, 70, 71, 72, 73, 74, 75, 76, 77, 78, 79, 80]
noncomputable def ApJ (N k : Nat) (m : Str → Option Value) (news : List (Addr × Obj)) : Prop :=
  news = [] ∧ ∃ vl t1 t2 t3, m (Str.ofString "num") = some (.int (k : Int) t1) ∧ m (Str.ofString "val") = some (.bytes vl t2) ∧ m (Str.ofString "AP") = some (.bytes apC t3) ∧ apL k ++ vl.toList = apL N ∧ k < 4096 ∧ vl.size ≤ 4096 - k
local macro_rules | `(tactic| walk_at "subscriptTail") => `(tactic| (k_here; (with_reducible show wpAny _ _ (subscriptTail _ (Expr.Slice _ _ none _) (Value.bytes apC _) (Value.ref _)) _ _ _); (with_reducible rename Fr _ _ _ _ => F'); (with_reducible rename News _ _ _ _ => N'); (refine KBc.slice_K (s := ⟨_, _, _, _, _⟩) F' N' rfl (by constructor) (by constructor) (by decide) ?_); intro _ _ _ _ _ _))
local macro_rules | `(tactic| walk_at "binaryOp Add bytes bytes") => `(tactic| (k_here; (with_reducible show wpAny _ _ (binaryOp Operator.Add (Value.bytes _ _) (Value.bytes _ _)) _ _ _); (refine KBy.add_bytes ?sz ?_); (case sz => (refine Nat.le_trans (Nat.add_le_add_right (KBc.size_picked_le _ _ _) _) ?_; (show 16 + _ ≤ _); first | omega | (rw [sizeLine_eq]; omega))); intro _ _))
theorem pick_ap : ∀ r : Nat, r < 16 → KBy.picked apC (some (r : Int)) (some ((r : Int) + 1)) = #[UInt8.ofNat (65 + r)] := by decide +kernel
theorem pick_ap' (k : Nat) : KBy.picked apC (some ((k : Int).fmod 16)) (some ((k : Int).fmod 16 + 1)) = #[UInt8.ofNat (65 + k % 16)] := by
  have e : (k : Int).fmod 16 = ((k % 16 : Nat) : Int) := by rw [Int.fmod_eq_emod_of_nonneg _ (by decide)]; omega
  rw [e]; exact pick_ap _ (Nat.mod_lt _ (by decide))
theorem ap_step {k N : Nat} {vl : Array UInt8} (hk : (k : Int) ≠ 0) (e : apL k ++ vl.toList = apL N) : apL (k / 16) ++ (KBy.picked apC (some ((k : Int).fmod 16)) (some ((k : Int).fmod 16 + 1)) ++ vl).toList = apL N := by
  rw [pick_ap', ← e, apL.eq_def k, dif_neg (by omega)]; simp
theorem ap_num {k : Nat} {t : Tok} : some (Value.int ((k : Int).fdiv 16) t) = some (Value.int ((k / 16 : Nat) : Int) t) := by
  rw [Int.fdiv_eq_ediv_of_nonneg _ (by decide)]; rfl
theorem ap_size {k : Nat} {vl : Array UInt8} (hk : (k : Int) ≠ 0) (e : vl.size ≤ 4096 - k) (h : k < 4096) : (KBy.picked apC (some ((k : Int).fmod 16)) (some ((k : Int).fmod 16 + 1)) ++ vl).size ≤ 4096 - k / 16 := by
  rw [pick_ap']; simp; omega
set_option maxHeartbeats 8000000 in
theorem d_ap (n : Int) (t : Tok) (hn : n.natAbs < 4096) : Does 49 4 16 [.int n t] (fun _ => True) (fun r _ _ => ∃ u, r = .bytes (apL n.natAbs).toArray u) := by
  intro w mean mg mb dp un gd cn cs a ccd cl outer h₀ L m s Q E F X T hk hd hu hp hret
  k_dflt (refine' enterP (binds := [(Str.ofString "num", .int n t)]) F X T ?k6 ?k7 ?k8 ?k9 ?kB ?_ ?c2 ?c3 ?c4 ?c5; (case k6 => k_is); (case k7 => k_is); (case k8 => (show dp < _; omega)); (case k9 => exact BindsTo.of_eq rfl); (case kB => exact locs rfl); (case c2 => exact rfl); (case c3 => exact rfl); (case c4 => exact rfl); (case c5 => decide); k_whole)
  intro g L' h₁ tk hg F' X' T'
  have N' : News g L' h₁ [] := News.nil
  clear F X T
  subst hg
  try dsimp only
  with_reducible show wpAny _ _ _ _ _ _
  k_fold
  k_steps
  rename_i F₁ N₁
  have hab : (if n < 0 then -n else n) = (n.natAbs : Int) := by split <;> omega
  rw [hab] at F₁
  refine While_inv (n₀ := n.natAbs) (ApJ n.natAbs) F₁ N₁ ⟨rfl, #[], _, _, _, rfl, rfl, rfl, by simp, hn, by simp⟩ (fun k m₁ news₁ h₁ tk₁ F₁ N₁ hJ => ?_) (by exact PassesOwn.never)
  refine hide fun hGoal => ?_
  obtain ⟨rfl, vl, t1, t2, t3, e1, e2, e3, e4, e5, e6⟩ := hJ
  refine hGoal ?_
  clear hGoal
  with_reducible show wpAny _ _ _ _ _ _
  k_fold
  k_steps
  · refine WhileStep.intro (n' := k / 16) (by k_asm) News.nil (by omega) ?_
    exact ⟨rfl, _, _, _, _, ap_num, rfl, e3, ap_step (by assumption) e4, by omega, ap_size (by assumption) e6 e5⟩
  · rename_i hz
    have hz' : k = 0 := by omega
    subst hz'
    have e : vl = (apL n.natAbs).toArray := by rw [← e4, apL.eq_def 0, dif_pos rfl]; simp
    exact hret _ _ _ (Fr.keep (by k_asm)) ⟨t2, by rw [e]⟩
end PartP8

section PartT1
noncomputable def OrdGives (op : CmpOp) (y x : Value) (b : Bool) : Prop :=
  ∀ (prog : Program) (w : World) (A : Around) (E : Value → Shared → Prop) (s : Shared) (Q : Value → Shared → Prop), Q (.bool b) s → wpAny (model prog w) A (richCompare op y x) Q E s
theorem OrdGives.ltI (a b : Int) (t u : Tok) : OrdGives .Lt (.int a t) (.int b u) (decide (a < b)) := fun _ _ _ _ _ _ h => PyProof.Rows.lt_int h
theorem OrdGives.gtI (a b : Int) (t u : Tok) : OrdGives .Gt (.int a t) (.int b u) (decide (b < a)) := fun _ _ _ _ _ _ h => PyProof.Rows.gt_int h
theorem OrdGives.ltS (a b : Str) (t u : Tok) : OrdGives .Lt (.str a t) (.str b u) (decide (a.cps.toList < b.cps.toList)) := fun _ _ _ _ _ _ h => PyProof.Rows.lt_str h
theorem OrdGives.gtS (a b : Str) (t u : Tok) : OrdGives .Gt (.str a t) (.str b u) (decide (b.cps.toList < a.cps.toList)) := fun _ _ _ _ _ _ h => PySem.P.gt_str h
inductive LexP (op : CmpOp) (fin : Bool) : List (Value × Value) → Bool → Prop where
  | nil : LexP op fin [] fin
  | eq {p q r b} : MeetsSeq.EqGives p q true → LexP op fin r b → LexP op fin ((p, q) :: r) b
  | ne {p q r b} : MeetsSeq.EqGives p q false → OrdGives op p q b → LexP op fin ((p, q) :: r) b
section
variable {prog : Program} {w : World} {A : Around} {E : Value → Shared → Prop} {s : Shared}

theorem tup_loop {op : CmpOp} (hop : op = .Lt ∨ op = .Gt) {fin : Bool} {Q : Option PySem.Fin × Unit → Shared → Prop} : ∀ (l : List (Value × Value)) (b : Bool) (s : Shared), LexP op fin l b →
    (∀ r, (r = none ∧ b = fin ∨ r = some (.done (.ret (.bool b)))) → Q (r, ()) s) →
    wpAny (model prog w) A (forIn l ((none : Option PySem.Fin), ()) fun x _ => do
      if !(← eqBool x.1 x.2) then
        match op with
        | .Eq => do let r ← ret (.bool false); pure (ForInStep.done (some r, ()))
        | .NotEq => do let r ← ret (.bool true); pure (ForInStep.done (some r, ()))
        | _ => do
          rule "tuple.compare.by-the-first-pair-that-differs"
          let c ← richCompare op x.1 x.2
          let r ← ret c
          pure (ForInStep.done (some r, ()))
      else pure (ForInStep.yield (none, ()))) Q E s
  | [], b, s, h, hq => by
    cases h
    exact wpAny_pure (hq none (.inl ⟨rfl, rfl⟩))
  | (p, q) :: r, b, s, h, hq => by
    rw [List.forIn_cons]
    cases h with
    | eq e h' =>
      refine wpAny_bind (wpAny_bind (e _ _ _ _ _ _ ?_))
      exact wpAny_pure (tup_loop hop r b s h' hq)
    | ne e o =>
      refine wpAny_bind (wpAny_bind (e _ _ _ _ _ _ ?_))
      rcases hop with rfl | rfl
      all_goals
        refine wpAny_bind (wpAny_rule (wpAny_bind (o _ _ _ _ _ _ ?_)))
        exact wpAny_bind (wpAny_pure (wpAny_pure (wpAny_pure (hq _ (.inr rfl)))))

theorem tup_lt_body {a b : Addr} {xs ys : Array Value} {oa ob : Obj} {na nb : Nat} {r : Bool} {Q : PySem.Fin → Shared → Prop} (ha : s.heap.get? a = some oa) (da : oa.data = .seq xs na) (hb : s.heap.get? b = some ob) (db : ob.data = .seq ys nb) (cb : ob.cls = .type "tuple")
    (hl : LexP .Lt (decide (xs.size < ys.size)) (xs.toList.zip ys.toList) r) (h : Q (.done (.ret (.bool r))) s) :
    wpAny (model prog w) A (Builtin.«tuple.__lt__» ⟨[.ref a, .ref b], []⟩) Q E s := by
  obtain ⟨hp, g, d, tk, os⟩ := s
  obtain ⟨ca, d1, da', sa⟩ := oa
  obtain ⟨cb', d2, db', sb⟩ := ob
  dsimp only at da db cb
  subst da db cb
  have hT2 : (⟨hp, g, d, tk, os⟩ : Shared).TypeIs (.ref b) "tuple" := ⟨_, hb, rfl⟩
  have f1 := F.isi_sub_tuple
  repeat (any_goals (first | assumption | wp_step))
  refine tup_loop (op := .Lt) (.inl rfl) (xs.toList.zip ys.toList) r _ hl ?_
  rintro _ (⟨rfl, rfl⟩ | rfl)
  · exact wpAny_pure h
  · exact wpAny_pure h
theorem tup_lt {a b : Addr} {xs ys : Array Value} {oa ob : Obj} {na nb : Nat} {r : Bool} {Q : Value → Shared → Prop} (ha : s.heap.get? a = some oa) (ca : oa.cls = .type "tuple") (da : oa.data = .seq xs na) (hb : s.heap.get? b = some ob) (cb : ob.cls = .type "tuple") (db : ob.data = .seq ys nb)
    (hl : LexP .Lt (decide (xs.size < ys.size)) (xs.toList.zip ys.toList) r) (hu : A.units < cLine) (h : Q (.bool r) s) :
    wpAny (model prog w) A (compareOp .Lt (.ref a) (.ref b)) Q E s :=
  richCompare_meets_room (op := .Lt) (S := fun _ R s' => (s'.heap.get? a = some oa ∧ s'.heap.get? b = some ob) ∧ R (.ok (.ret (.bool r))) s') ⟨oa, ha, ca⟩ ⟨ob, hb, cb⟩ F.slot_tuple_lt F.entry_tuple_lt (F.args_tuple_lt_2 _ _)
    (fun _ _ _ _ _ hs => tup_lt_body hs.1.1 da hs.1.2 db cb hl hs.2) ⟨⟨ha, hb⟩, ⟨(fun e => nomatch e), h⟩⟩ hu

theorem tup_gt_body {a b : Addr} {xs ys : Array Value} {oa ob : Obj} {na nb : Nat} {r : Bool} {Q : PySem.Fin → Shared → Prop} (ha : s.heap.get? a = some oa) (da : oa.data = .seq xs na) (hb : s.heap.get? b = some ob) (db : ob.data = .seq ys nb) (cb : ob.cls = .type "tuple")
    (hl : LexP .Gt (decide (xs.size > ys.size)) (xs.toList.zip ys.toList) r) (h : Q (.done (.ret (.bool r))) s) :
    wpAny (model prog w) A (Builtin.«tuple.__gt__» ⟨[.ref a, .ref b], []⟩) Q E s := by
  obtain ⟨hp, g, d, tk, os⟩ := s
  obtain ⟨ca, d1, da', sa⟩ := oa
  obtain ⟨cb', d2, db', sb⟩ := ob
  dsimp only at da db cb
  subst da db cb
  have hT2 : (⟨hp, g, d, tk, os⟩ : Shared).TypeIs (.ref b) "tuple" := ⟨_, hb, rfl⟩
  have f1 := F.isi_sub_tuple
  repeat (any_goals (first | assumption | wp_step))
  refine tup_loop (op := .Gt) (.inr rfl) (xs.toList.zip ys.toList) r _ hl ?_
  rintro _ (⟨rfl, rfl⟩ | rfl)
  · exact wpAny_pure h
  · exact wpAny_pure h
theorem tup_gt {a b : Addr} {xs ys : Array Value} {oa ob : Obj} {na nb : Nat} {r : Bool} {Q : Value → Shared → Prop} (ha : s.heap.get? a = some oa) (ca : oa.cls = .type "tuple") (da : oa.data = .seq xs na) (hb : s.heap.get? b = some ob) (cb : ob.cls = .type "tuple") (db : ob.data = .seq ys nb)
    (hl : LexP .Gt (decide (xs.size > ys.size)) (xs.toList.zip ys.toList) r) (hu : A.units < cLine) (h : Q (.bool r) s) :
    wpAny (model prog w) A (compareOp .Gt (.ref a) (.ref b)) Q E s :=
  richCompare_meets_room (op := .Gt) (S := fun _ R s' => (s'.heap.get? a = some oa ∧ s'.heap.get? b = some ob) ∧ R (.ok (.ret (.bool r))) s') ⟨oa, ha, ca⟩ ⟨ob, hb, cb⟩ F.slot_tuple_gt F.entry_tuple_gt (F.args_tuple_gt_2 _ _)
    (fun _ _ _ _ _ hs => tup_gt_body hs.1.1 da hs.1.2 db cb hl hs.2) ⟨⟨ha, hb⟩, ⟨(fun e => nomatch e), h⟩⟩ hu

end
end PartT1

section PartKs
inductive KRun (rk : Nat → Int) (N : Nat) {α : Type} : KasT α → α → Prop where
  | ret (a : α) : KRun rk N (.ret a) a
  | ask {i j : Nat} {k : Bool → KasT α} {a : α} : i < N → j < N → KRun rk N (k (decide (rk i < rk j))) a → KRun rk N (.ask i j k) a
theorem KRun.bind {rk : Nat → Int} {N : Nat} {α β : Type} {t : KasT α} {f : α → KasT β} {a : α} {b : β} (h : KRun rk N t a) (g : KRun rk N (f a) b) : KRun rk N (t.bind f) b := by
  induction h with
  | ret a => exact g
  | ask hi hj _ ih => exact .ask hi hj (ih g)
theorem KRun.wp {rk : Nat → Int} {N : Nat} {α : Type} {t : KasT α} {a : α} (h : KRun rk N t a) {cmp : Nat → Nat → (Bool → Shared → Prop) → Shared → Prop} {Q : α → Shared → Prop} {s : Shared}
    (hc : ∀ i j C, i < N → j < N → C (decide (rk i < rk j)) s → cmp i j C s) (q : Q a s) : t.kasWp cmp Q s := by
  induction h with
  | ret a => exact q
  | ask hi hj _ ih => exact hc _ _ _ hi hj (ih q)

section
variable {rk : Nat → Int} {N : Nat}
structure Pl (N : Nat) (p : Array Nat) : Prop where
  size : p.size = N
  perm : p.Perm (List.range N).toArray
theorem Pl.lt {p : Array Nat} (h : Pl N p) {x : Nat} (hx : x < N) : p.getD x 0 < N := by
  have hm : p.getD x 0 ∈ p := by
    have hx' : x < p.size := h.size ▸ hx
    simp [Array.getD, hx']
  have := (h.perm.mem_iff).mp hm
  simpa using this
noncomputable abbrev rkAt (rk : Nat → Int) (p : Array Nat) (x : Nat) : Int := rk (p.getD x 0)
theorem rkAt_of {p q : Array Nat} {x y : Nat} (h : p[x]? = q[y]?) : rkAt rk p x = rkAt rk q y := by
  unfold rkAt
  rw [Array.getD_eq_getD_getElem?, Array.getD_eq_getD_getElem?, h]
noncomputable def Up (rk : Nat → Int) (p : Array Nat) (m : Nat) : Prop := ∀ x y, x ≤ y → y < m → rkAt rk p x ≤ rkAt rk p y
noncomputable def Down (rk : Nat → Int) (p : Array Nat) (m : Nat) : Prop := ∀ x y, x ≤ y → y < m → rkAt rk p y ≤ rkAt rk p x
theorem Up.one (p : Array Nat) : Up rk p 1 := fun x y h1 h2 => by
  have : x = y := by omega
  rw [this]; exact Int.le_refl _
theorem Down.one (p : Array Nat) : Down rk p 1 := fun x y h1 h2 => by
  have : x = y := by omega
  rw [this]; exact Int.le_refl _
theorem Up.succ {p : Array Nat} {n : Nat} (h : Up rk p n) (h1 : 1 ≤ n) (c : rkAt rk p (n - 1) ≤ rkAt rk p n) : Up rk p (n + 1) := fun x y hx hy => by
  by_cases e : y = n
  · subst e
    by_cases e' : x = y
    · rw [e']; exact Int.le_refl _
    · exact Int.le_trans (h x (y - 1) (by omega) (by omega)) c
  · exact h x y hx (by omega)
theorem Down.succ {p : Array Nat} {n : Nat} (h : Down rk p n) (h1 : 1 ≤ n) (c : rkAt rk p n ≤ rkAt rk p (n - 1)) : Down rk p (n + 1) := fun x y hx hy => by
  by_cases e : y = n
  · subst e
    by_cases e' : x = y
    · rw [e']; exact Int.le_refl _
    · exact Int.le_trans c (h x (y - 1) (by omega) (by omega))
  · exact h x y hx (by omega)
theorem Pl.rev {p : Array Nat} (h : Pl N p) (i j : Nat) : Pl N (kas_rev p i j) := ⟨(mirror_size _ _ _ _).trans h.size, (mirror_perm _ _ _ _).trans h.perm⟩
theorem rk_rev {p : Array Nat} (h : Pl N p) {i j : Nat} (hj : j ≤ N) (x : Nat) : rkAt rk (kas_rev p i j) x = if i ≤ x ∧ x < j then rkAt rk p (i + j - 1 - x) else rkAt rk p x := by
  have e := getElem?_mirror_all (xs := p) (i := i) (j := j) (h.size ▸ hj) x
  split
  · rename_i c; rw [if_pos c] at e; exact rkAt_of e
  · rename_i c; rw [if_neg c] at e; exact rkAt_of e
theorem rk_rev_same {p : Array Nat} (h : Pl N p) {i j : Nat} (hj : j ≤ N) (he : ∀ x, i ≤ x → x < j → rkAt rk p x = rkAt rk p (j - 1)) (x : Nat) : rkAt rk (kas_rev p i j) x = rkAt rk p x := by
  rw [rk_rev h hj]
  split
  · rename_i c; rw [he _ (by omega) (by omega), he x c.1 c.2]
  · rfl
theorem Down.congr {p q : Array Nat} {m : Nat} (h : Down rk p m) (e : ∀ x, rkAt rk q x = rkAt rk p x) : Down rk q m := fun x y h1 h2 => by rw [e, e]; exact h x y h1 h2

theorem k_asc {p : Array Nat} (hp : Pl N p) : ∀ (f n : Nat), 1 ≤ n → n + f ≤ N → Up rk p n → ∃ m, KRun rk N (kas_asc p f n) m ∧ n ≤ m ∧ m ≤ n + f ∧ Up rk p m ∧ (m < n + f → rkAt rk p m < rkAt rk p (m - 1))
  | 0, n, _, _, h => ⟨n, .ret n, Nat.le_refl _, Nat.le_refl _, h, fun c => absurd c (Nat.lt_irrefl _)⟩
  | f + 1, n, h1, h2, h => by
    by_cases c : rkAt rk p n < rkAt rk p (n - 1)
    · refine ⟨n, .ask (hp.lt (by omega)) (hp.lt (by omega)) ?_, Nat.le_refl _, by omega, h, fun _ => c⟩
      show KRun rk N (if decide (rkAt rk p n < rkAt rk p (n - 1)) = true then _ else _) n
      rw [if_pos (decide_eq_true c)]; exact .ret n
    · obtain ⟨m, r, a1, a2, a3, a4⟩ := k_asc hp f (n + 1) (by omega) (by omega) (h.succ h1 (by omega))
      refine ⟨m, .ask (hp.lt (by omega)) (hp.lt (by omega)) ?_, by omega, by omega, a3, fun q => a4 (by omega)⟩
      show KRun rk N (if decide (rkAt rk p n < rkAt rk p (n - 1)) = true then _ else _) m
      rw [if_neg (by simpa using c)]; exact r

theorem k_desc : ∀ (f : Nat) (p : Array Nat) (n q : Nat), Pl N p → q + 1 ≤ n → n + f ≤ N → Down rk p n → (∀ x, n - (q + 1) ≤ x → x < n → rkAt rk p x = rkAt rk p (n - 1)) →
    ∃ p' n' q', KRun rk N (kas_desc f p n q) (p', n', q') ∧ Pl N p' ∧ n ≤ n' ∧ n' ≤ n + f ∧ q' + 1 ≤ n' ∧ Down rk p' n' ∧ ∀ x, n' - (q' + 1) ≤ x → x < n' → rkAt rk p' x = rkAt rk p' (n' - 1)
  | 0, p, n, q, hp, h1, _, h3, h4 => ⟨p, n, q, .ret _, hp, Nat.le_refl _, Nat.le_refl _, h1, h3, h4⟩
  | f + 1, p, n, q, hp, h1, h2, h3, h4 => by
    by_cases c : rkAt rk p n < rkAt rk p (n - 1)
    · have one : ∀ (p₁ : Array Nat), ∀ x, n + 1 - (0 + 1) ≤ x → x < n + 1 → rkAt rk p₁ x = rkAt rk p₁ (n + 1 - 1) := fun p₁ x a b => by
        have : x = n + 1 - 1 := by omega
        rw [this]
      by_cases hq : q > 0
      · have e := rk_rev_same (rk := rk) hp (i := n - (q + 1)) (j := n) (by omega) h4
        have hd : Down rk (kas_rev p (n - (q + 1)) n) (n + 1) := (h3.succ (by omega) (Int.le_of_lt c)).congr e
        obtain ⟨p', n', q', r, b1, b2, b3, b4, b5, b6⟩ := k_desc f _ (n + 1) 0 (hp.rev (n - (q + 1)) n) (by omega) (by omega) hd (one _)
        refine ⟨p', n', q', .ask (hp.lt (by omega)) (hp.lt (by omega)) ?_, b1, by omega, by omega, b4, b5, b6⟩
        show KRun rk N (if decide (rkAt rk p n < rkAt rk p (n - 1)) = true then _ else _) _
        rw [if_pos (decide_eq_true c), if_pos hq]; exact r
      · obtain ⟨p', n', q', r, b1, b2, b3, b4, b5, b6⟩ := k_desc f p (n + 1) 0 hp (by omega) (by omega) (h3.succ (by omega) (Int.le_of_lt c)) (one _)
        refine ⟨p', n', q', .ask (hp.lt (by omega)) (hp.lt (by omega)) ?_, b1, by omega, by omega, b4, b5, b6⟩
        show KRun rk N (if decide (rkAt rk p n < rkAt rk p (n - 1)) = true then _ else _) _
        rw [if_pos (decide_eq_true c), if_neg hq]; exact r
    · by_cases d : rkAt rk p (n - 1) < rkAt rk p n
      · refine ⟨p, n, q, .ask (hp.lt (by omega)) (hp.lt (by omega)) ?_, hp, Nat.le_refl _, by omega, h1, h3, h4⟩
        show KRun rk N (if decide (rkAt rk p n < rkAt rk p (n - 1)) = true then _ else _) _
        rw [if_neg (by simpa using c)]
        refine .ask (hp.lt (by omega)) (hp.lt (by omega)) ?_
        show KRun rk N (if decide (rkAt rk p (n - 1) < rkAt rk p n) = true then _ else _) _
        rw [if_pos (decide_eq_true d)]; exact .ret _
      · have eq : rkAt rk p n = rkAt rk p (n - 1) := by omega
        obtain ⟨p', n', q', r, b1, b2, b3, b4, b5, b6⟩ := k_desc f p (n + 1) (q + 1) hp (by omega) (by omega) (h3.succ (by omega) (by omega)) (fun x a b => by
          have e0 : n + 1 - 1 = n := by omega
          rw [e0]
          by_cases hx : x = n
          · rw [hx]
          · rw [eq]; exact h4 x (by omega) (by omega))
        refine ⟨p', n', q', .ask (hp.lt (by omega)) (hp.lt (by omega)) ?_, b1, by omega, by omega, b4, b5, b6⟩
        show KRun rk N (if decide (rkAt rk p n < rkAt rk p (n - 1)) = true then _ else _) _
        rw [if_neg (by simpa using c)]
        refine .ask (hp.lt (by omega)) (hp.lt (by omega)) ?_
        show KRun rk N (if decide (rkAt rk p (n - 1) < rkAt rk p n) = true then _ else _) _
        rw [if_neg (by simpa using d)]; exact r

theorem k_tail {p : Array Nat} {n : Nat} (hp : Pl N p) (h1 : 1 ≤ n) (h2 : n ≤ N) (h : Down rk p n) : ∃ m p', KRun rk N (kas_tail3 n N p) (m, p') ∧ Pl N p' ∧ 1 ≤ m ∧ m ≤ N ∧ Up rk p' m := by
  have hu : Up rk (kas_rev p 0 n) n := fun x y hx hy => by
    rw [rk_rev hp h2, rk_rev hp h2, if_pos ⟨Nat.zero_le _, by omega⟩, if_pos ⟨Nat.zero_le _, hy⟩]
    exact h _ _ (by omega) (by omega)
  obtain ⟨m, r, a1, a2, a3, _⟩ := k_asc (rk := rk) (hp.rev 0 n) (N - n) n h1 (by omega) hu
  exact ⟨m, _, r.bind (.ret _), hp.rev 0 n, by omega, by omega, a3⟩
theorem k_descPart {p : Array Nat} {n : Nat} (hp : Pl N p) (h1 : 1 ≤ n) (h2 : n + 1 ≤ N) (h : Down rk p n) (c : rkAt rk p n < rkAt rk p (n - 1)) :
    ∃ m p', KRun rk N (kas_descPart n N p) (m, p') ∧ Pl N p' ∧ 1 ≤ m ∧ m ≤ N ∧ Up rk p' m := by
  obtain ⟨p', n', q', r, b1, b2, b3, b4, b5, b6⟩ := k_desc (rk := rk) (N - (n + 1)) p (n + 1) 0 hp (by omega) (by omega) (h.succ h1 (Int.le_of_lt c)) (fun x a b => by
    have : x = n + 1 - 1 := by omega
    rw [this])
  by_cases hq : q' > 0
  · obtain ⟨m, p₂, r2, d1, d2, d3, d4⟩ := k_tail (rk := rk) (b1.rev (n' - (q' + 1)) n') (by omega) (by omega) (b5.congr (rk_rev_same b1 (by omega) b6))
    refine ⟨m, p₂, r.bind ?_, d1, d2, d3, d4⟩
    show KRun rk N (if q' > 0 then _ else _) _
    rw [if_pos hq]; exact r2
  · obtain ⟨m, p₂, r2, d1, d2, d3, d4⟩ := k_tail (rk := rk) b1 (by omega) (by omega) b5
    refine ⟨m, p₂, r.bind ?_, d1, d2, d3, d4⟩
    show KRun rk N (if q' > 0 then _ else _) _
    rw [if_neg hq]; exact r2
theorem k_count {p : Array Nat} (hp : Pl N p) (h0 : 1 ≤ N) : ∃ m p', KRun rk N (kas_count N p) (m, p') ∧ Pl N p' ∧ 1 ≤ m ∧ m ≤ N ∧ Up rk p' m := by
  obtain ⟨n, r, a1, a2, a3, a4⟩ := k_asc (rk := rk) hp (N - 1) 1 (Nat.le_refl _) (by omega) (Up.one p)
  by_cases e : n = N
  · refine ⟨n, p, r.bind ?_, hp, a1, by omega, a3⟩
    rw [if_pos (by simpa using e)]; exact .ret _
  · have hlt := a4 (by omega)
    by_cases e1 : n > 1
    · by_cases c : rkAt rk p 0 < rkAt rk p (n - 1)
      · refine ⟨n, p, r.bind ?_, hp, a1, by omega, a3⟩
        rw [if_neg (by simpa using e), if_pos e1]
        refine .ask (hp.lt (by omega)) (hp.lt (by omega)) ?_
        show KRun rk N (if decide (rkAt rk p 0 < rkAt rk p (n - 1)) = true then _ else _) _
        rw [if_pos (decide_eq_true c)]; exact .ret _
      · have same : ∀ x, 0 ≤ x → x < n → rkAt rk p x = rkAt rk p (n - 1) := fun x _ hx => by
          have q1 := a3 0 x (Nat.zero_le _) hx
          have q2 := a3 x (n - 1) (by omega) (by omega)
          omega
        have ex := rk_rev_same (rk := rk) hp (i := 0) (j := n) (by omega) same
        obtain ⟨m, p', r2, d1, d2, d3, d4⟩ := k_descPart (rk := rk) (n := n) (hp.rev 0 n) a1 (by omega) (fun x y hx hy => by rw [ex, ex, same x (Nat.zero_le _) (by omega), same y (Nat.zero_le _) hy]; exact Int.le_refl _) (by rw [ex, ex]; exact hlt)
        refine ⟨m, p', r.bind ?_, d1, d2, d3, d4⟩
        rw [if_neg (by simpa using e), if_pos e1]
        refine .ask (hp.lt (by omega)) (hp.lt (by omega)) ?_
        show KRun rk N (if decide (rkAt rk p 0 < rkAt rk p (n - 1)) = true then _ else _) _
        rw [if_neg (by simpa using c)]; exact r2
    · have en : n = 1 := by omega
      obtain ⟨m, p', r2, d1, d2, d3, d4⟩ := k_descPart (rk := rk) (n := n) hp a1 (by omega) (by rw [en]; exact Down.one p) hlt
      refine ⟨m, p', r.bind ?_, d1, d2, d3, d4⟩
      rw [if_neg (by simpa using e), if_neg e1]; exact r2

theorem k_place {p : Array Nat} {k : Nat} (hp : Pl N p) (hk : k < N) (hu : Up rk p k) : ∀ (f l r : Nat), r - l ≤ f → r ≤ k → l ≤ r → (∀ x, x < l → rkAt rk p x ≤ rkAt rk p k) → (∀ x, r ≤ x → x < k → rkAt rk p k < rkAt rk p x) →
    ∃ d, KRun rk N (kas_place p k f l r) d ∧ d ≤ k ∧ (∀ x, x < d → rkAt rk p x ≤ rkAt rk p k) ∧ (∀ x, d ≤ x → x < k → rkAt rk p k < rkAt rk p x)
  | 0, l, r, h1, h2, h3, h4, h5 => by
    have : l = r := by omega
    subst this
    exact ⟨l, .ret l, h2, h4, h5⟩
  | f + 1, l, r, h1, h2, h3, h4, h5 => by
    by_cases e : l ≥ r
    · have : l = r := by omega
      subst this
      refine ⟨l, ?_, h2, h4, h5⟩
      show KRun rk N (if l ≥ l then _ else _) _
      rw [if_pos (Nat.le_refl _)]; exact .ret _
    · by_cases c : rkAt rk p k < rkAt rk p ((l + r) / 2)
      · obtain ⟨d, r2, b1, b2, b3⟩ := k_place hp hk hu f l ((l + r) / 2) (by omega) (by omega) (by omega) h4 (fun x hx hx' => Int.lt_of_lt_of_le c (hu _ _ hx hx'))
        refine ⟨d, ?_, b1, b2, b3⟩
        show KRun rk N (if l ≥ r then _ else _) _
        rw [if_neg e]
        refine .ask (hp.lt hk) (hp.lt (by omega)) ?_
        show KRun rk N (if decide (rkAt rk p k < rkAt rk p ((l + r) / 2)) = true then _ else _) _
        rw [if_pos (decide_eq_true c)]; exact r2
      · obtain ⟨d, r2, b1, b2, b3⟩ := k_place hp hk hu f ((l + r) / 2 + 1) r (by omega) h2 (by omega) (fun x hx => Int.le_trans (hu x ((l + r) / 2) (by omega) (by omega)) (by omega)) h5
        refine ⟨d, ?_, b1, b2, b3⟩
        show KRun rk N (if l ≥ r then _ else _) _
        rw [if_neg e]
        refine .ask (hp.lt hk) (hp.lt (by omega)) ?_
        show KRun rk N (if decide (rkAt rk p k < rkAt rk p ((l + r) / 2)) = true then _ else _) _
        rw [if_neg (by simpa using c)]; exact r2
theorem k_bin : ∀ (f : Nat) (p : Array Nat) (k : Nat), Pl N p → k + f ≤ N → Up rk p k → ∃ p', KRun rk N (kas_bin f p k) p' ∧ Pl N p' ∧ Up rk p' (k + f)
  | 0, p, k, hp, _, h => ⟨p, .ret p, hp, h⟩
  | f + 1, p, k, hp, h1, h => by
    obtain ⟨d, r, b1, b2, b3⟩ := k_place (rk := rk) hp (k := k) (by omega) h k 0 k (by omega) (Nat.le_refl _) (Nat.zero_le _) (fun x hx => absurd hx (Nat.not_lt_zero _)) (fun x hx hx' => absurd hx' (by omega))
    have hb : ∀ x, rkAt rk (bubble p k (k - d)) x = if x = d then rkAt rk p k else if d < x ∧ x ≤ k then rkAt rk p (x - 1) else rkAt rk p x := fun x => by
      have e := getElem?_bubble (xs := p) (src := k) (by rw [hp.size]; omega) (k - d) (by omega) x
      have e2 : k - (k - d) = d := by omega
      rw [e2] at e
      split
      · rename_i c; rw [if_pos c] at e; exact rkAt_of e
      · rename_i c
        rw [if_neg c] at e
        split
        · rename_i c2; rw [if_pos c2] at e; exact rkAt_of e
        · rename_i c2; rw [if_neg c2] at e; exact rkAt_of e
    have hP : Pl N (bubble p k (k - d)) := ⟨(bubble_size _ _ _).trans hp.size, (bubble_perm _ _ _).trans hp.perm⟩
    have hU : Up rk (bubble p k (k - d)) (k + 1) := fun x y hx hy => by
      rw [hb, hb]
      by_cases x1 : x = d
      · rw [if_pos x1]
        by_cases y1 : y = d
        · rw [if_pos y1]; exact Int.le_refl _
        · rw [if_neg y1, if_pos ⟨by omega, by omega⟩]
          exact Int.le_of_lt (b3 _ (by omega) (by omega))
      · rw [if_neg x1]
        by_cases x2 : d < x ∧ x ≤ k
        · rw [if_pos x2, if_neg (by omega), if_pos ⟨by omega, by omega⟩]
          exact h _ _ (by omega) (by omega)
        · rw [if_neg x2]
          by_cases y1 : y = d
          · rw [if_pos y1]; exact b2 x (by omega)
          · rw [if_neg y1]
            by_cases y2 : d < y ∧ y ≤ k
            · rw [if_pos y2]; exact h _ _ (by omega) (by omega)
            · rw [if_neg y2]; exact h _ _ hx (by omega)
    obtain ⟨p', r2, c1, c2⟩ := k_bin f _ (k + 1) hP (by omega) hU
    exact ⟨p', r.bind r2, c1, by rw [show k + (f + 1) = k + 1 + f by omega]; exact c2⟩
theorem k_sort (rk : Nat → Int) {N : Nat} (h : 1 ≤ N) : ∃ p, KRun rk N (kas_sort N) p ∧ Pl N p ∧ Up rk p N := by
  have hp : Pl N (List.range N).toArray := ⟨by simp, .rfl⟩
  obtain ⟨m, p, r, b1, b2, b3, b4⟩ := k_count (rk := rk) hp h
  by_cases e : m < N
  · obtain ⟨p', r2, c1, c2⟩ := k_bin (rk := rk) (N - max m 1) p (max m 1) b1 (by omega) (by rw [Nat.max_eq_left b2]; exact b4)
    refine ⟨p', r.bind ?_, c1, ?_⟩
    · show KRun rk N (if m < N then _ else _) _
      rw [if_pos e]; exact r2
    · rw [show N = max m 1 + (N - max m 1) by omega]; exact c2
  · refine ⟨p, r.bind ?_, b1, ?_⟩
    · show KRun rk N (if m < N then _ else _) _
      rw [if_neg e]; exact .ret _
    · rw [show N = m by omega]; exact b4
end
end PartKs

section PartX1
structure NewX (h h' : Heap) (e : Addr) (cls : String) (ctx : Value) : Prop where
  keeps : ∀ b o, h.get? b = some o → h'.get? b = some o
  new : h.get? e = none
  there : ∃ ob t, h'.get? e = some ob ∧ ob.cls = .type cls ∧ ob.data = .fields #[t, .none, ctx, .none, .bool false, .none]
noncomputable def HSpec (A : Around) (h : Heap) (ctx : Value) : Prop :=
  (A.handled = none ∧ ctx = .none) ∨ ∃ e0 o0 vs0, A.handled = some (.ref e0) ∧ h.get? e0 = some o0 ∧ o0.data = .fields vs0 ∧ vs0[2]? = some .none ∧ ctx = .ref e0
section
variable {α : Type} {prog : Program} {w : World} {A : Around} {E : Value → Shared → Prop} {s : Shared} {ctx : Value}
theorem HSpec.up {h h' : Heap} (H : HSpec A h ctx) (k : ∀ b o, h.get? b = some o → h'.get? b = some o) : HSpec A h' ctx := by
  rcases H with H | ⟨e0, o0, vs0, h1, h2, h3⟩
  · exact .inl H
  · exact .inr ⟨e0, o0, vs0, h1, k _ _ h2, h3⟩
theorem entry_unchain : entryFor table "proto.unchain" = some Builtin.«proto.unchain» := entryFor_of_tree (by kernel_rfl)
theorem plain_unchain : plainId "proto.unchain" = true := by decide +kernel
theorem unchain_none {e e0 : Addr} {o0 : Obj} {vs0 : Array Value} {Q : Value → Shared → Prop} (ho : s.heap.get? e0 = some o0) (hd : o0.data = .fields vs0) (h2 : vs0[2]? = some .none) (h : Q .none s) :
    wpAny (model prog w) A (runValue (.builtin "proto.unchain" ⟨[.ref e, .ref e0, .ref e0, .bool false], []⟩)) Q E s := by
  refine wpAny_runValue (codeAny_builtin entry_unchain ?_)
  unfold Builtin.«proto.unchain»
  refine wpAny_bind (wpAny_field ho hd h2 ?_)
  repeat (any_goals (first | assumption | wp_step))
theorem raise_new {e e0 : Addr} {oe o0 : Obj} {vs vs0 : Array Value} {Q : α → Shared → Prop} (hn : A.handled = some (.ref e0)) (hne : e0 ≠ e) (ho : s.heap.get? e0 = some o0) (hd : o0.data = .fields vs0) (h2 : vs0[2]? = some .none)
    (he : s.heap.get? e = some oe) (hde : oe.data = .fields vs) (hs : 2 < vs.size) (h : E (.ref e) { s with heap := s.heap.update e (Obj.mapFields (·.setIfInBounds 2 (.ref e0))) }) :
    wpAny (model prog w) A (raiseNew (.ref e) : Sem α) Q E s := by
  unfold raiseNew
  refine wpAny_bind (wpAny_handled ?_)
  rw [hn]
  show wpAny (model prog w) A (if (Value.ref e0 != Value.ref e) = true then _ else _) Q E s
  rw [if_pos (by simpa using hne)]
  refine wpAny_bind (wpAny_holding (unchain_none ho hd h2 ?_))
  exact wpAny_bind (show wpAny _ _ (setField (.ref e) 2 (.ref e0)) _ _ _ from wpAny_setField he hde hs (wpAny_throw h))
theorem raise_words {cls msg : String} {Q : α → Shared → Prop} (hp : PlainExc cls) (hh : HSpec A s.heap ctx)
    (h : ∀ h' tk e, NewX s.heap h' e cls ctx → E (.ref e) { s with heap := h', toks := tk }) :
    wpAny (model prog w) A (raiseErrorWords cls msg : Sem α) Q E s := by
  unfold raiseErrorWords
  refine wpAny_bind (wpAny_mkText (wpAny_bind ?_))
  unfold newExc newTuple
  refine wpAny_bind (wpAny_newObj_type ?_)
  refine wpAny_bind (m := firstArgMember _ _) (wpAny_of_eq (a := Value.none) (by simp only [firstArgMember, hp.first]; rfl) ?_)
  rw [hp.own]
  refine wpAny_newObj_type ?_
  rcases hh with ⟨hn, rfl⟩ | ⟨e0, o0, vs0, hn, ho, hd, h2, rfl⟩
  · unfold raiseNew
    refine wpAny_bind (wpAny_handled ?_)
    rw [hn]
    refine wpAny_bind (wpAny_pure (wpAny_throw ?_))
    exact h _ _ _ ⟨fun b o hb => Heap.get?_push_of_some _ (Heap.get?_push_of_some _ hb), Heap.get?_none_of_le (by simp), _, .ref s.heap.objs.size, Heap.get?_push_size _ rfl, rfl, by simp⟩
  · have lt := Heap.lt_size ho
    have up : ∀ b o, s.heap.get? b = some o → ((s.heap.push { cls := .type "tuple", data := .seq #[.str msg s.toks] }).push { cls := .type cls, data := .fields #[.ref s.heap.objs.size, .none, .none, .none, .bool false, .none] }).get? b = some o :=
      fun b o hb => Heap.get?_push_of_some _ (Heap.get?_push_of_some _ hb)
    have sz : (s.heap.push { cls := .type "tuple", data := .seq #[.str msg s.toks] }).objs.size = s.heap.objs.size + 1 := Heap.size_push _ _
    have ne : e0 ≠ (s.heap.push { cls := .type "tuple", data := .seq #[.str msg s.toks] }).objs.size := by rw [sz]; exact Nat.ne_of_lt (Nat.lt_succ_of_lt lt)
    have hob : ((s.heap.push { cls := .type "tuple", data := .seq #[.str msg s.toks] }).push { cls := .type cls, data := .fields #[.ref s.heap.objs.size, .none, .none, .none, .bool false, .none] }).get? (s.heap.push { cls := .type "tuple", data := .seq #[.str msg s.toks] }).objs.size = some { cls := .type cls, data := .fields #[.ref s.heap.objs.size, .none, .none, .none, .bool false, .none] } := Heap.get?_push_size _ rfl
    refine raise_new (e0 := e0) hn ne (up _ _ ho) hd h2 hob rfl (by simp) ?_
    refine h _ _ _ ⟨fun b o hb => ?_, Heap.get?_none_of_le (by simp), _, .ref s.heap.objs.size, Heap.get?_update_self _ hob rfl, rfl, rfl⟩
    rw [Heap.get?_update_ne _ _ _ _ (by rw [sz]; exact Nat.ne_of_lt (Nat.lt_succ_of_lt (Heap.lt_size hb)))]
    exact up b o hb
end
end PartX1

section PartX2
section
variable {prog : Program} {w : World} {A : Around} {E : Value → Shared → Prop} {s : Shared} {hb : Heap} {L a e : Addr} {m : Str → Option Value} {name : Str} {scope : Scope} {cd : Value} {l : List Env} {frs new : List (Addr × Obj)}
  {oe : Obj} {vs : Array Value} {Q : Unit → Shared → Prop}

noncomputable def TbAt (ot : Obj) (fl : Value) : Prop := ∃ tvs, ot.data = .fields tvs ∧ tvs[3]? = some fl

theorem note_new (hfr : A.frames = some (envOf name scope L a cd :: l)) (hk : scope.kind = .function) (Fs : Frs l frs) (F : Fr hb L s.heap m) (N : News hb L s.heap ((e, oe) :: (new ++ frs))) (hd : oe.data = .fields vs) (hs : 3 < vs.size) (h1 : vs[1]? = some .none)
    (hap : ∀ p ∈ new, p.1 ∉ frs.map (·.1) ∧ p.1 ≠ e)
    (k : ∀ h' tb ot frs', SameUp frs frs' → Frs l frs' → Fr hb L h' m → News hb L h' ((e, oe.mapFields (·.setIfInBounds 1 (.ref tb))) :: (tb, ot) :: (new ++ frs')) → TbAt ot (rawInt L) → tb ≠ e → (∀ p ∈ new, p.1 ≠ tb) → (∀ p ∈ frs', p.1 ≠ tb ∧ p.1 ≠ e) → Q () { s with heap := h' }) :
    wpAny (model prog w) A (noteFrame (.ref e) (envOf name scope L a cd)) Q E s := by
  have he := (N _ (.head _)).1
  have Nf : ∀ p ∈ frs, p ∈ (e, oe) :: (new ++ frs) := fun p hp => .tail _ (List.mem_append_right _ hp)
  refine hide fun hGoal => ?_
  obtain ⟨hff, hNs, _⟩ := frames_at (name := name) (a := a) (cd := cd) (h' := s.heap) (base := gone s.heap (L :: frs.map (·.1))) hk Fs F N Nf (fun b o hb' => ⟨o.slots, hb'⟩) fun b hm => gone_none hm
  refine hGoal ?_
  clear hGoal
  have hfa : (envOf name scope L a cd :: l).filterMap (·.frame) = L :: frs.map (·.1) := frames_are Fs
  have heL : e ≠ L := (N _ (.head _)).2.1
  have hef : e ∉ L :: frs.map (·.1) := fun hm => by
    rcases List.mem_cons.mp hm with q | hm
    · exact heL q
    · refine hide fun hGoal => ?_
      obtain ⟨p, hp, q⟩ := List.mem_map.mp hm
      refine hGoal ?_
      clear hGoal
      refine hide fun hGoal => ?_
      obtain ⟨es, ep, hdd⟩ := Fs.dict p hp
      refine hGoal ?_
      clear hGoal
      have := (N p (Nf p hp)).1
      rw [q, he] at this
      rw [← Option.some.inj this, hd] at hdd
      cases hdd
  unfold noteFrame
  simp only [show (envOf name scope L a cd).frame = some L from rfl]
  refine wpAny_bind (wpAny_field he hd h1 ?_)
  rw [if_neg (by decide)]
  refine wpAny_bind (wpAny_frameOf_fun hfr hff rfl fun h₁ hs₁ => ?_)
  rw [hfa] at hs₁
  refine wpAny_bind (wpAny_entryPlaceOf fun pl hpl => ?_)
  unfold EntryCells.newEntry newFields
  refine wpAny_bind (wpAny_newObj_type ?_ (hpl.sizeOk5 _ _ _ _ _))
  generalize hT : ({ cls := .type "traceback", dict := none, data := .fields ([Value.none, .ref L, .none, rawInt L, .none] ++ (if pl.isEmpty then List.replicate 6 Value.none else pl)).toArray } : Obj) = T
  have he₁ : h₁.get? e = some oe := (hs₁.2.1 e hef).trans he
  have he₂ : (h₁.push T).get? e = some oe := Heap.get?_push_of_some _ he₁
  refine wpAny_setField he₂ hd (by omega) ?_
  dsimp only
  have hTe : h₁.objs.size ≠ e := Nat.ne_of_gt (Heap.lt_size he₁)
  have hTf : T.isFreed = false := by rw [← hT]; rfl
  have hd₃ := Obj.data_mapFields hd (·.setIfInBounds 1 (Value.ref h₁.objs.size))
  have he₃ := Heap.get?_update_self (Obj.mapFields (·.setIfInBounds 1 (Value.ref h₁.objs.size))) he₂ (Obj.isFreed_of_fields hd₃)
  have hT₃ : ((h₁.push T).update e (Obj.mapFields (·.setIfInBounds 1 (Value.ref h₁.objs.size)))).get? h₁.objs.size = some T := (Heap.get?_update_ne _ _ _ _ hTe).trans (Heap.get?_push_size h₁ hTf)
  have keep : ∀ b o, b ≠ e → h₁.get? b = some o → ((h₁.push T).update e (Obj.mapFields (·.setIfInBounds 1 (Value.ref h₁.objs.size)))).get? b = some o := fun b o hbe hb => by
    rw [Heap.get?_update_ne _ _ _ _ hbe]; exact Heap.get?_push_of_some _ hb
  have kept : ∀ b o, b ≠ e → b ∉ L :: frs.map (·.1) → s.heap.get? b = some o → ((h₁.push T).update e (Obj.mapFields (·.setIfInBounds 1 (Value.ref h₁.objs.size)))).get? b = some o := fun b o hbe hbf hb => keep b o hbe ((hs₁.2.1 b hbf).trans hb)
  have hbn : ∀ b o, hb.get? b = some o → b ≠ e ∧ b ∉ L :: frs.map (·.1) := fun b o q => ⟨fun q' => absurd (q' ▸ q : hb.get? e = some o) (by rw [(N _ (.head _)).2.2]; exact fun h => nomatch h), base_apart F N Nf q⟩
  refine hide fun hGoal => ?_
  obtain ⟨oL, es, ep, hL, hLd, hLk, hLf⟩ := F.ns
  refine hGoal ?_
  clear hGoal
  refine hide fun hGoal => ?_
  obtain ⟨slL, hL₁⟩ := hs₁.2.2 L oL hL
  refine hGoal ?_
  clear hGoal
  have F' : Fr hb L ((h₁.push T).update e (Obj.mapFields (·.setIfInBounds 1 (Value.ref h₁.objs.size)))) m :=
    ⟨⟨_, es, ep, keep L _ (Ne.symm heL) hL₁, hLd, hLk, hLf⟩, fun b o q => kept b o (hbn b o q).1 (hbn b o q).2 (F.keep b o q), F.above⟩
  obtain ⟨frs', SU, ht⟩ := sameUp_of (frs := frs) (h' := (h₁.push T).update e (Obj.mapFields (·.setIfInBounds 1 (Value.ref h₁.objs.size)))) fun p hp => by
    refine hide fun hGoal => ?_
    obtain ⟨sl, q⟩ := hs₁.2.2 p.1 p.2 (N p (Nf p hp)).1
    refine hGoal ?_
    clear hGoal
    exact ⟨sl, keep p.1 _ (fun q' => hef (.tail _ (List.mem_map.mpr ⟨p, hp, q'⟩))) q⟩
  have noT : ∀ b, s.heap.get? b ≠ none → b ≠ h₁.objs.size := fun b q q' => by
    cases r : s.heap.get? b with
    | none => exact q r
    | some o => have := Heap.lt_size r; rw [← hs₁.1, q'] at this; exact Nat.lt_irrefl _ this
  have hbT : hb.get? h₁.objs.size = none := by
    cases q : hb.get? h₁.objs.size with
    | none => rfl
    | some o => exact absurd rfl (noT _ (by rw [F.keep _ _ q]; exact fun h => nomatch h))
  have LT : L ≠ h₁.objs.size := noT L (by rw [hL]; exact fun h => nomatch h)
  refine k _ h₁.objs.size T frs' SU (Fs.up SU) F' (fun p hp => ?_) ⟨_, by rw [← hT], by rcases hpl with rfl | ⟨_, _, _, _, _, _, _, rfl⟩ <;> simp⟩ hTe (fun p hp q => noT p.1 (by rw [(N p (.tail _ (List.mem_append_left _ hp))).1]; exact fun h => nomatch h) q) (fun p hp => ?_)
  · rcases List.mem_cons.mp hp with rfl | hp
    · exact ⟨he₃, heL, (N _ (.head _)).2.2⟩
    · rcases List.mem_cons.mp hp with rfl | hp
      · exact ⟨hT₃, Ne.symm LT, hbT⟩
      · rcases List.mem_append.mp hp with hp | hp
        · have n := N p (.tail _ (List.mem_append_left _ hp))
          exact ⟨kept p.1 p.2 (hap p hp).2 (fun q => by
            rcases List.mem_cons.mp q with q | q
            · exact n.2.1 q
            · exact (hap p hp).1 q) n.1, n.2⟩
        · refine hide fun hGoal => ?_
          obtain ⟨x, hx, q⟩ := SU.fwd p hp
          refine hGoal ?_
          clear hGoal
          have n := N x (Nf x hx)
          exact ⟨ht p hp, by rw [q]; exact n.2.1, by rw [q]; exact n.2.2⟩
  · refine hide fun hGoal => ?_
    obtain ⟨x, hx, q⟩ := SU.fwd p hp
    refine hGoal ?_
    clear hGoal
    refine ⟨by rw [q]; exact noT x.1 (by rw [(N x (Nf x hx)).1]; exact fun h => nomatch h), by rw [q]; exact fun q' => hef (.tail _ (List.mem_map.mpr ⟨x, hx, q'⟩))⟩
end
end PartX2

section PartX3
section
variable {prog : Program} {w : World} {A A' : Around} {E : Value → Shared → Prop} {s s₀ : Shared} {hb : Heap} {L a e : Addr} {name : Str} {scope : Scope} {cd : Value} {l : List Env} {frs₀ : List (Addr × Obj)} {Q : Unit → Shared → Prop}
  {cn : Prop} {Pst Pst' : (Str → Option Value) → List (Addr × Obj) → Prop} {fl : Value}

noncomputable def XF (hb : Heap) (L : Addr) (l : List Env) (frs₀ : List (Addr × Obj)) (cn : Prop) (Pst : (Str → Option Value) → List (Addr × Obj) → Prop) (s₀ : Shared) (e : Addr) (s : Shared) : Prop :=
  ∃ oe vs h tk m new frs, s = { s₀ with heap := h, toks := tk } ∧ SameUp frs₀ frs ∧ Frs l frs ∧ Pst m new ∧ (∀ p ∈ new, p.1 ∉ frs.map (·.1) ∧ p.1 ≠ e) ∧ Fr hb L h m ∧ oe.cls = .type "IndexError" ∧ oe.data = .fields vs ∧ 3 < vs.size ∧
    (cn → vs[2]? = some .none) ∧ News hb L h ((e, oe) :: (new ++ frs)) ∧ vs[1]? = some .none
noncomputable def XH (hb : Heap) (L : Addr) (l : List Env) (frs₀ : List (Addr × Obj)) (cn : Prop) (Pst : (Str → Option Value) → List (Addr × Obj) → Prop) (s₀ : Shared) (fl : Value) (e : Addr) (s : Shared) : Prop :=
  ∃ oe vs h tk m new frs tb ot, s = { s₀ with heap := h, toks := tk } ∧ SameUp frs₀ frs ∧ Frs l frs ∧ Pst m new ∧ (∀ p ∈ new, p.1 ∉ frs.map (·.1) ∧ p.1 ≠ e) ∧ Fr hb L h m ∧ oe.cls = .type "IndexError" ∧ oe.data = .fields vs ∧ 3 < vs.size ∧
    (cn → vs[2]? = some .none) ∧ News hb L h ((e, oe) :: (tb, ot) :: (new ++ frs)) ∧ vs[1]? = some (.ref tb) ∧ TbAt ot fl ∧ tb ≠ e ∧ (∀ p ∈ new, p.1 ≠ tb) ∧ ∀ p ∈ frs, p.1 ≠ tb ∧ p.1 ≠ e
noncomputable def XE (hb : Heap) (L : Addr) (l : List Env) (frs₀ : List (Addr × Obj)) (cn : Prop) (Pst : (Str → Option Value) → List (Addr × Obj) → Prop) (s₀ : Shared) (v : Value) (s : Shared) : Prop :=
  ∃ e, v = .ref e ∧ (XF hb L l frs₀ cn Pst s₀ e s ∨ XH hb L l frs₀ cn Pst s₀ (rawInt L) e s)

theorem xh_note (H : XH hb L l frs₀ cn Pst s₀ (rawInt L) e s) (q : Q () s) : wpAny (model prog w) A (noteFrame (.ref e) (envOf name scope L a cd)) Q E s := by
  refine hide fun hGoal => ?_
  obtain ⟨oe, vs, h, tk, m, new, frs, tb, ot, rfl, _, _, _, _, _, _, hd, _, _, N, h1, ⟨tvs, hdt, h3⟩, _⟩ := H
  refine hGoal ?_
  clear hGoal
  exact wpAny_noteFrame_inFlight rfl (N _ (.head _)).1 hd h1 (N _ (.tail _ (.head _))).1 hdt h3 q
theorem xf_note (hfr : A.frames = some (envOf name scope L a cd :: l)) (hk : scope.kind = .function) (H : XF hb L l frs₀ cn Pst s₀ e s) (q : ∀ s', XH hb L l frs₀ cn Pst s₀ (rawInt L) e s' → Q () s') :
    wpAny (model prog w) A (noteFrame (.ref e) (envOf name scope L a cd)) Q E s := by
  refine hide fun hGoal => ?_
  obtain ⟨oe, vs, h, tk, m, new, frs, rfl, su, Fs, hP, hap, F, hc, hd, hs, h2, N, h1⟩ := H
  refine hGoal ?_
  clear hGoal
  refine note_new hfr hk Fs F N hd hs h1 hap fun h' tb ot frs' SU Fs' F' N' T1 n1 n2 n3 => q _ ?_
  refine hide fun hGoal => ?_
  obtain ⟨cc, dd, dt, sl⟩ := oe
  refine hGoal ?_
  clear hGoal
  obtain rfl : dt = .fields vs := hd
  refine ⟨Obj.mapFields (·.setIfInBounds 1 (.ref tb)) ⟨cc, dd, .fields vs, sl⟩, vs.setIfInBounds 1 (.ref tb), h', _, m, new, frs', tb, ot, rfl, su.trans SU, Fs', hP, fun p hp => ⟨fun q => ?_, (hap p hp).2⟩, F', hc, rfl, by simpa using hs, fun c => ?_, N', ?_, T1, n1, n2, n3⟩
  · refine hide fun hGoal => ?_
    obtain ⟨x, hx, e1⟩ := List.mem_map.mp q
    refine hGoal ?_
    clear hGoal
    refine hide fun hGoal => ?_
    obtain ⟨y, hy, e2⟩ := SU.fwd x hx
    refine hGoal ?_
    clear hGoal
    exact (hap p hp).1 (List.mem_map.mpr ⟨y, hy, by rw [← e2, e1]⟩)
  · rw [Array.getElem?_setIfInBounds_ne (by decide)]; exact h2 c
  · have h13 : 1 < vs.size := by omega
    simp [Array.getElem?_setIfInBounds, h13]
theorem xe_note {v : Value} (hfr : A.frames = some (envOf name scope L a cd :: l)) (hk : scope.kind = .function) (H : XE hb L l frs₀ cn Pst s₀ v s) (q : ∀ e s', v = .ref e → XH hb L l frs₀ cn Pst s₀ (rawInt L) e s' → Q () s') :
    wpAny (model prog w) A (noteFrame v (envOf name scope L a cd)) Q E s := by
  obtain ⟨e, rfl, H | H⟩ := H
  · exact xf_note hfr hk H fun s' h => q e s' rfl h
  · exact xh_note H (q e s rfl H)
theorem xh_fly {f : Option Addr} (H : XH hb L l frs₀ cn Pst s₀ fl e s) (q : ∀ s', XH hb L l frs₀ cn Pst s₀ (f.elim .none fun x => rawInt x) e s' → Q () s') :
    wpAny (model prog w) A (setFlight (.ref e) f) Q E s := by
  refine hide fun hGoal => ?_
  obtain ⟨oe, vs, h, tk, m, new, frs, tb, ot, rfl, su, Fs, hP, hap, F, hc, hd, hs, h2, N, h1, ⟨tvs, hdt, h3⟩, n1, n2, n3⟩ := H
  refine hGoal ?_
  clear hGoal
  unfold setFlight
  refine wpAny_bind (wpAny_field (N _ (.head _)).1 hd h1 ?_)
  rw [if_pos (show (Value.ref tb != Value.none) = true from by simp)]
  have hsz : 3 < tvs.size := (Array.getElem?_eq_some_iff.mp h3).1
  have ht := N _ (.tail _ (.head _))
  refine wpAny_setField ht.1 hdt hsz (q _ ?_)
  generalize (f.elim Value.none fun x => rawInt x) = fv
  refine hide fun hGoal => ?_
  obtain ⟨cc, dd, dt, sl⟩ := ot
  refine hGoal ?_
  clear hGoal
  obtain rfl : dt = .fields tvs := hdt
  have ne : ∀ b, b ≠ tb → (h.update tb (Obj.mapFields (·.setIfInBounds 3 fv))).get? b = h.get? b := fun b hb' => Heap.get?_update_ne _ _ _ _ hb'
  refine hide fun hGoal => ?_
  obtain ⟨oL, es, ep, hL, r⟩ := F.ns
  refine hGoal ?_
  clear hGoal
  refine ⟨oe, vs, _, tk, m, new, frs, tb, Obj.mapFields (·.setIfInBounds 3 fv) ⟨cc, dd, .fields tvs, sl⟩, rfl, su, Fs, hP, hap, ⟨⟨oL, es, ep, (ne L (Ne.symm ht.2.1)).trans hL, r⟩, fun b o hb' => (ne b fun q' => by rw [q', ht.2.2] at hb'; cases hb').trans (F.keep b o hb'), F.above⟩, hc, hd, hs, h2,
    fun p hp => ?_, h1, ⟨tvs.setIfInBounds 3 fv, rfl, ?_⟩, n1, n2, n3⟩
  · rcases List.mem_cons.mp hp with rfl | hp
    · exact ⟨(ne e (Ne.symm n1)).trans (N _ (.head _)).1, (N _ (.head _)).2⟩
    · rcases List.mem_cons.mp hp with rfl | hp
      · exact ⟨Heap.get?_update_self _ ht.1 rfl, ht.2⟩
      · have n := N p (.tail _ (.tail _ hp))
        refine ⟨(ne p.1 ?_).trans n.1, n.2⟩
        rcases List.mem_append.mp hp with hp | hp
        · exact n2 p hp
        · exact (n3 p hp).1
  · simp [Array.getElem?_setIfInBounds, hsz]
theorem xh_tb {α : Type} {k : Value → Sem α} {Qa : α → Shared → Prop} (H : XH hb L l frs₀ cn Pst s₀ fl e s) (q : ∀ tb, wpAny (model prog w) A (k (.ref tb)) Qa E s) : wpAny (model prog w) A (field (.ref e) 1 >>= k) Qa E s := by
  refine hide fun hGoal => ?_
  obtain ⟨oe, vs, h, tk, m, new, frs, tb, ot, rfl, _, _, _, _, _, _, hd, _, _, N, h1, _⟩ := H
  refine hGoal ?_
  clear hGoal
  exact wpAny_bind (wpAny_field (N _ (.head _)).1 hd h1 (q tb))
theorem xe_back (hfr : A'.frames = some (envOf name scope L a cd :: l)) (hk : scope.kind = .function) : PassesOwnAt (model prog w) A' A (envOf name scope L a cd) (XE hb L l frs₀ cn Pst s₀) := fun v s H => by
  refine xe_note hfr hk H fun e s' he H' => ?_
  subst he
  show wpAny _ A (field (.ref e) 1 >>= _) _ _ s'
  refine xh_tb H' fun tb => ?_
  rw [if_neg (by simp)]
  exact xh_fly H' fun s'' H'' => ⟨e, rfl, .inr H''⟩
theorem xe_own (hfr : A.frames = some (envOf name scope L a cd :: l)) (hk : scope.kind = .function) : PassesOwn (model prog w) A (envOf name scope L a cd) (XE hb L l frs₀ cn Pst s₀) := xe_back (A := A) hfr hk

theorem isSub_ie : isSubtype (.type "IndexError") (.type "IndexError") = pure true := by rw [isSubtype_type]; kernel_rfl
theorem isSub_be : isSubtype (.type "IndexError") (.type "BaseException") = pure true := by rw [isSubtype_type]; kernel_rfl
theorem isSub_tu : isSubtype (.type ((Manifest.find? "IndexError").elim "type" fun x => x.metatype)) (.type "tuple") = pure false := by rw [show (Manifest.find? "IndexError").elim "type" (fun x => x.metatype) = "type" from by kernel_rfl, isSubtype_type]; kernel_rfl

theorem try_index {body suite : List Stmt} {b₀ : Stmt} {np hp pos : Pos} {Qf : Flow → Shared → Prop} {x : Str} (hfr : A.frames = some (envOf name scope L a cd :: l)) (hk : scope.kind = .function)
    (h : wpAny (model prog w) A (execs body (envOf name scope L a cd)) Qf (XE hb L l frs₀ cn Pst s₀) s)
    (hx : ∀ (A₁ : Around) (h' : Heap) (m : Str → Option Value) (E₁ : Value → Shared → Prop) (Q₁ : Value → Shared → Prop) (s₁ : Shared), Fr hb L s₁.heap m → Q₁ (.type "IndexError") s₁ → wpAny (model prog w) A₁ (eval (.Name x np) (envOf name scope L a cd)) Q₁ E₁ s₁)
    (hs : ∀ e s₁, XH hb L l frs₀ cn Pst s₀ .none e s₁ → wpAny (model prog w) (A.mark (some (.ref e))) (execs (b₀ :: suite) (envOf name scope L a cd)) Qf (fun _ _ => False) s₁) :
    wpAny (model prog w) A (exec (.Try body [.ExceptHandler (some (.Name x np)) none (b₀ :: suite) hp] [] [] pos) (envOf name scope L a cd)) Qf E s := by
  refine wpAny_Try_except (wpAny_mono h (fun f s₁ q => ?_) fun v s₁ H => ?_)
  · cases f <;> first | exact q | exact wpAny_execs_nil q
  · refine xe_note hfr hk H fun e s₂ he H₂ => ?_
    subst he
    refine xh_fly H₂ fun s₃ H₃ => ?_
    have H₄ := H₃
    refine hide fun hGoal => ?_
    obtain ⟨oe, vs, h', tk, m, new, frs, tb, ot, rfl, _, _, _, _, F, hc, _, _, _, N, _⟩ := H₄
    refine hGoal ?_
    clear hGoal
    refine wpAny_handleBy_builtin (X := "IndexError") (T := "IndexError") (b := true) isSub_be isSub_tu isSub_ie ?_
    refine hx _ h' m _ _ _ F ⟨rfl, ⟨oe, (N _ (.head _)).1, hc⟩, ?_⟩
    rw [if_pos rfl]
    refine xh_fly H₃ fun s₅ H₅ => ?_
    exact wpAny_mono (hs e s₅ H₅) (fun _ _ q => q) fun _ _ q => q.elim
theorem try_fin {body fin : List Stmt} {f₀ : Stmt} {pos : Pos} {Qf : Flow → Shared → Prop} {Nx : Shared → Prop} {cn' : Prop} (hfr : A.frames = some (envOf name scope L a cd :: l)) (hk : scope.kind = .function)
    (h : wpAny (model prog w) A (execs body (envOf name scope L a cd)) (fun f s₁ => f = .next ∧ Nx s₁) (XE hb L l frs₀ cn Pst s₀) s)
    (plain : ∀ s₁, Nx s₁ → wpAny (model prog w) A (execs (f₀ :: fin) (envOf name scope L a cd)) (fun g s' => g = .next ∧ Qf .next s') (XE hb L l frs₀ cn' Pst' s₀) s₁)
    (raised : ∀ e s₁, XH hb L l frs₀ cn Pst s₀ .none e s₁ → wpAny (model prog w) (A.mark (some (.ref e))) (execs (f₀ :: fin) (envOf name scope L a cd)) (fun g s' => g = .next ∧ XH hb L l frs₀ cn' Pst' s₀ .none e s') (XE hb L l frs₀ cn' Pst' s₀) s₁) :
    wpAny (model prog w) A (exec (.Try body [] [] (f₀ :: fin) pos) (envOf name scope L a cd)) Qf (XE hb L l frs₀ cn' Pst' s₀) s := by
  have own := xe_own (prog := prog) (w := w) (A := A) (hb := hb) (frs₀ := frs₀) (cn := cn') (Pst := Pst') (s₀ := s₀) hfr hk
  refine wpAny_Try_finally (wpAny_mono h (fun f s₁ q => ?_) fun v s₁ H => ?_)
  · refine hide fun hGoal => ?_
    obtain ⟨rfl, q⟩ := q
    refine hGoal ?_
    clear hGoal
    refine wpAny_execs_nil ?_
    refine wpAny_mono (plain s₁ q) (fun g s' hg => ?_) own
    refine hide fun hGoal => ?_
    obtain ⟨rfl, hg⟩ := hg
    refine hGoal ?_
    clear hGoal
    exact hg
  · refine xe_note hfr hk H fun e s₂ he H₂ => ?_
    subst he
    refine ⟨ref_ne_byPass e, xh_note H₂ (xh_fly H₂ fun s₃ H₃ => ?_)⟩
    have ownM := xe_back (prog := prog) (w := w) (A := A) (A' := A.mark (some (.ref e))) (hb := hb) (frs₀ := frs₀) (cn := cn') (Pst := Pst') (s₀ := s₀) (L := L) (a := a) (name := name) (scope := scope) (cd := cd) (l := l) hfr hk
    refine wpAny_mono (raised e s₃ H₃) (fun g s' hg => ?_) ownM
    refine hide fun hGoal => ?_
    obtain ⟨rfl, hg⟩ := hg
    refine hGoal ?_
    clear hGoal
    show wpAny _ A (PySem.passOn "try.finally" (.ref e) _) _ _ s'
    unfold PySem.passOn
    refine xh_tb hg fun tb => ?_
    rw [if_neg (by simp)]
    refine wpAny_bind (xh_fly hg fun s'' H'' => ?_)
    exact wpAny_throw ⟨e, rfl, .inr H''⟩
end
end PartX3

section PartX4
section
variable {prog : Program} {w : World} {A : Around} {E : Value → Shared → Prop} {s s₀ : Shared} {hb : Heap} {L : Addr} {m : Str → Option Value} {l : List Env} {frs₀ frs new : List (Addr × Obj)} {cn : Prop} {Pst : (Str → Option Value) → List (Addr × Obj) → Prop} {ctx : Value}
theorem getItem_out {la : Addr} {items : Array Value} {k : Int} {t : Tok} {Q : Value → Shared → Prop} (hA : HSpec A s.heap ctx) (hl : s.heap.IsList la items) (h0 : 0 ≤ k) (hout : (items.size : Int) ≤ k) (hhi : k < 2 ^ 63)
    (hE : ∀ h' tk e, NewX s.heap h' e "IndexError" ctx → E (.ref e) { s with heap := h', toks := tk }) :
    wpAny (model prog w) A (getItem (.ref la) (.int k t)) Q E s := by
  refine hide fun hGoal => ?_
  obtain ⟨o, ho, hc, ne, hd⟩ := id hl
  refine hGoal ?_
  clear hGoal
  unfold getItem
  with_reducible refine wpAny_holding ?_
  refine wpAny_bind (wpAny_sequenceKey hl.typeIs (by decide) ?_)
  refine wpAny_bind (wpAny_callSpecial?_slot (name := Str.ofString "__getitem__") hl.typeIs slot_list_getitem
    (wpAny_call_entry slot_list_getitem hl.typeIs entry_list_getitem ?_ (args_list_getitem _ _)))
  show wpAny _ _ (Builtin.List.listSubscript? (.int k t) >>= _) _ _ s
  refine wpAny_bind (wpAny_listSubscript_int (fitsIndex_both (by omega) hhi) ?_)
  clear hhi
  cases k with
  | ofNat j =>
    have hx : items[j]? = none := Array.getElem?_eq_none (by have : (items.size : Int) ≤ (j : Int) := hout; omega)
    show wpAny _ _ ((seqItemAt la j >>= fun r => pure (r.map (j, ·))) >>= _) _ _ s
    refine wpAny_bind (wpAny_bind (wpAny_seqItemAt ho hd (wpAny_pure ?_)))
    rw [hx]
    exact wpAny_bind (wpAny_rule (wpAny_bind (raise_words plainExc_IndexError (show HSpec A.in1 s.heap ctx from hA) hE)))
  | negSucc j => exact absurd h0 (by have := Int.negSucc_lt_zero j; omega)
theorem xf_of {e : Addr} {h' : Heap} {tk : Nat} (X : NewX s.heap h' e "IndexError" ctx) (hs : ∃ h k, s = { s₀ with heap := h, toks := k }) (su : SameUp frs₀ frs) (Fs : Frs l frs) (F : Fr hb L s.heap m) (N : News hb L s.heap (new ++ frs)) (hp : Pst m new)
    (hap : ∀ p ∈ new, p.1 ∉ frs.map (·.1)) (hc : cn → ctx = .none) : XF hb L l frs₀ cn Pst s₀ e { s with heap := h', toks := tk } := by
  refine hide fun hGoal => ?_
  obtain ⟨h, k, rfl⟩ := hs
  refine hGoal ?_
  clear hGoal
  refine hide fun hGoal => ?_
  obtain ⟨ob, t, ho, hcl, hd⟩ := X.there
  refine hGoal ?_
  clear hGoal
  have nn : ∀ b o, (s₀.heap = s₀.heap) → h.get? b = some o → b ≠ e := fun b o _ q q' => by have := X.new; rw [← q'] at this; exact absurd (q.symm.trans this) (fun h => nomatch h)
  refine hide fun hGoal => ?_
  obtain ⟨oL, es, ep, hL, _⟩ := F.ns
  refine hGoal ?_
  clear hGoal
  refine ⟨ob, _, h', tk, m, new, frs, rfl, su, Fs, hp, fun p hp => ⟨hap p hp, nn _ _ rfl (N p (List.mem_append_left _ hp)).1⟩, F.kept X.keeps, hcl, hd, by simp, fun c => by rw [hc c]; rfl, fun p hp => ?_, rfl⟩
  rcases List.mem_cons.mp hp with rfl | hp
  · refine ⟨ho, Ne.symm (nn L oL rfl hL), ?_⟩
    cases q : hb.get? e with
    | none => rfl
    | some o => exact absurd rfl (nn e o rfl (F.keep e o q))
  · exact ⟨X.keeps _ _ (N p hp).1, (N p hp).2⟩
theorem idx_in {value slice : PySem.Expr} {la : Addr} {vs : List Value} {j : Nat} {u : Tok} {v : Value} {Q : Value → Shared → Prop} (hl : s.heap.IsList la vs.toArray) (hhi : j < 2 ^ 62) (hx : vs[j]? = some v) (h : Q v s)
    (hs : subscripted slice false (.ref la) (.int (j : Int) u) = operate [.ref la, .int (j : Int) u] (getItem (.ref la) (.int (j : Int) u))) :
    wpAny (model prog w) A (subscriptTail value slice (.ref la) (.int (j : Int) u)) Q E s :=
  tail_any hl.typeIs slot_list_getitem.lookup (wpAny_getItem_list hl (by omega) (by omega) (by simpa using hx) h) hs
theorem idx_out {value slice : PySem.Expr} {la : Addr} {vs : List Value} {j : Nat} {u : Tok} {Q : Value → Shared → Prop} (hA : HSpec A s.heap ctx) (hl : s.heap.IsList la vs.toArray) (hout : vs.length ≤ j) (hhi : j < 2 ^ 62)
    (hE : ∀ h' tk e, NewX s.heap h' e "IndexError" ctx → E (.ref e) { s with heap := h', toks := tk })
    (hs : subscripted slice false (.ref la) (.int (j : Int) u) = operate [.ref la, .int (j : Int) u] (getItem (.ref la) (.int (j : Int) u))) :
    wpAny (model prog w) A (subscriptTail value slice (.ref la) (.int (j : Int) u)) Q E s :=
  tail_any hl.typeIs slot_list_getitem.lookup (getItem_out hA hl (by omega) (by rw [List.size_toArray]; omega) (by omega) hE) hs
end
end PartX4

section PartX5
local macro_rules
  | `(tactic| walk_at $k:str) => if ["subscriptTail Name Name ref int"].contains k.getString then `(tactic| (refine hold_it ?_)) else Lean.Macro.throwUnsupported
noncomputable abbrev sldScope : Scope := { kind := ScopeKind.function, names := [(Str.ofString "expected", NameKind.local), (Str.ofString "actual", NameKind.local), (Str.ofString "i", NameKind.local), (Str.ofString "j", NameKind.local), (Str.ofString "missing", NameKind.local), (Str.ofString "unexpected", NameKind.local), (Str.ofString "e", NameKind.local), (Str.ofString "a", NameKind.local), (Str.ofString "IndexError", NameKind.globalImplicit)], isGenerator := false, isCoroutine := false }
noncomputable abbrev sldEnv (L : Addr) : Env := envOf (Str.ofString "sorted_list_difference") sldScope L 28 (.ref 27)
noncomputable def CmpAt (op : CmpOp) (hb : Heap) (v' v : Value) (b : Bool) : Prop :=
  ∀ (prog : Program) (w : World) (A : Around) (E : Value → Shared → Prop) (s : Shared) (Q : Value → Shared → Prop), hb.StaysIn s.heap → A.units + 100 < cLine → Q (.bool b) s → wpAny (model prog w) A (compareOp op v' v) Q E s
noncomputable def upd (m : Str → Option Value) (x : Str) (v : Value) : Str → Option Value := fun y => if y = x then some v else m y
theorem upd_self {m : Str → Option Value} {x : Str} {v : Value} (h : m x = some v) : m = upd m x v := by
  funext y
  unfold upd
  split
  · rename_i e; rw [e, h]
  · rfl
theorem upd_upd {m : Str → Option Value} {x : Str} {v v' : Value} : (fun y => if y = x then some v' else upd m x v y) = upd m x v' := by
  funext y
  unfold upd
  split <;> rfl
theorem upd_at {m : Str → Option Value} {x : Str} {v : Value} : upd m x v x = some v := by unfold upd; rw [if_pos rfl]
theorem upd_ne {m : Str → Option Value} {x y : Str} {v : Value} (h : y ≠ x) : upd m x v y = m y := by unfold upd; rw [if_neg h]
noncomputable def SkipN (hb : Heap) (L : Addr) (s₀ : Shared) (m : Str → Option Value) (x : Str) (led : List (Addr × Obj)) (eqb : Nat → Bool) (i n : Nat) (f : Flow) (s' : Shared) : Prop :=
  f = .next ∧ ∃ h' tk' t' i', s' = { s₀ with heap := h', toks := tk' } ∧ Fr hb L h' (upd m x (.int (i' : Nat) t')) ∧ News hb L h' led ∧ i ≤ i' ∧ i' < n ∧ eqb i' = false ∧ ∀ k, i ≤ k → k < i' → eqb k = true
section
variable {w : World} {A : Around} {s s₀ : Shared} {hb : Heap} {L la : Addr} {m : Str → Option Value} {l : List Env} {frs₀ frs new : List (Addr × Obj)} {cn : Prop} {ctx v : Value} {vs : List Value} {eqb : Nat → Bool} {i : Nat} {t : Tok}

set_option maxHeartbeats 8000000 in
theorem skip_E {p1 p2 p3 p4 p5 p6 p7 p8 p9 : Pos} (X : (hd.heap_39 w.params).In hb) (hfr : A.frames = some (sldEnv L :: l)) (hs : ∃ h k, s = { s₀ with heap := h, toks := k }) (su : SameUp frs₀ frs) (Fs : Frs l frs) (F : Fr hb L s.heap m) (N : News hb L s.heap (new ++ frs)) (hap : ∀ p ∈ new, p.1 ∉ frs.map (·.1))
    (hx : m (Str.ofString "expected") = some (.ref la)) (hi : m (Str.ofString "i") = some (.int (i : Int) t)) (he : m (Str.ofString "e") = some v) (hl : hb.IsList la vs.toArray) (hlen : vs.length < 2 ^ 20) (hi' : i ≤ vs.length)
    (hA : ∀ h, News hb L h (new ++ frs) → HSpec A h ctx) (hc : cn → ctx = .none) (hu : A.units + 100 < cLine) (heq : ∀ k v', vs[k]? = some v' → CmpAt .Eq hb v' v (eqb k)) :
    wpAny (model PySem.Challenge.rw_il0061_01.row.prog w) A (exec (.While (.Compare (.Subscript (.Name (Str.ofString "expected") p1) (.Name (Str.ofString "i") p2) p3) [.Eq] [.Name (Str.ofString "e") p4] p5) [.AugAssign (.Name (Str.ofString "i") p6) .Add (.Constant (.int 1) 0 p7) p8] [] p9) (sldEnv L))
      (SkipN hb L s₀ m (Str.ofString "i") (new ++ frs) eqb i vs.length)
      (XE hb L l frs₀ cn (fun m' new' => new' = new ∧ (∃ t', m' = upd m (Str.ofString "i") (.int (vs.length : Nat) t')) ∧ ∀ k, i ≤ k → k < vs.length → eqb k = true) s₀) s := by
  refine hide fun hGoal => ?_
  obtain ⟨hh, kk, rfl⟩ := hs
  refine hGoal ?_
  clear hGoal
  refine While_inv (n₀ := vs.length - i) (fun k m₁ led => ∃ i' t', led = new ++ frs ∧ k = vs.length - i' ∧ i ≤ i' ∧ i' ≤ vs.length ∧ m₁ = upd m (Str.ofString "i") (.int (i' : Nat) t') ∧ ∀ k, i ≤ k → k < i' → eqb k = true) F N
    ⟨i, t, rfl, rfl, Nat.le_refl _, hi', upd_self hi, fun k h1 h2 => absurd h2 (by omega)⟩ (fun k m₁ led h₁ tk₁ F₁ N₁ hJ => ?_) (xe_own hfr rfl)
  refine hide fun hGoal => ?_
  obtain ⟨i', t', rfl, rfl, g1, g2, rfl, g3⟩ := hJ
  refine hGoal ?_
  clear hGoal
  have q1 : upd m (Str.ofString "i") (.int (i' : Nat) t') (Str.ofString "expected") = some (.ref la) := hx
  have q2 : upd m (Str.ofString "i") (.int (i' : Nat) t') (Str.ofString "e") = some v := he
  have q3 : upd m (Str.ofString "i") (.int (i' : Nat) t') (Str.ofString "i") = some (.int (i' : Nat) t') := rfl
  clear F N hi hx he
  with_reducible show wpAny _ _ _ _ _ _
  k_fold
  k_steps
  show wpAny _ _ _ _ _ _
  by_cases hlt : i' < vs.length
  · have hv : vs[i']? = some vs[i'] := List.getElem?_eq_getElem hlt
    refine idx_in (Fr.lst F₁ hl) (by omega) hv ?_ (by with_unfolding_all rfl)
    k_steps
    refine heq i' _ hv _ _ _ _ _ _ (Fr.keep (by k_asm)) hu ?_
    k_steps
    · refine WhileStep.intro (n' := vs.length - (i' + 1)) (by k_asm) (by k_asm) (by omega) ?_
      exact ⟨i' + 1, _, rfl, rfl, by omega, by omega, (upd_upd (v' := .int ((i' + 1 : Nat) : Int) _)), fun k h1 h2 => by
        by_cases e : k = i'
        · rw [e]; assumption
        · exact g3 k h1 (by omega)⟩
    · exact ⟨rfl, _, _, t', i', rfl, by k_asm, by k_asm, g1, hlt, by assumption, g3⟩
  · have hieq : i' = vs.length := by omega
    subst hieq
    refine idx_out (hA _ N₁) (Fr.lst F₁ hl) (by omega) (by omega) (fun h' tk e X => ?_) (by with_unfolding_all rfl)
    exact ⟨e, rfl, .inl (xf_of X ⟨_, _, rfl⟩ su Fs F₁ N₁ ⟨rfl, ⟨t', rfl⟩, g3⟩ hap hc)⟩
set_option maxHeartbeats 8000000 in
theorem skip_A {p1 p2 p3 p4 p5 p6 p7 p8 p9 : Pos} (X : (hd.heap_39 w.params).In hb) (hfr : A.frames = some (sldEnv L :: l)) (hs : ∃ h k, s = { s₀ with heap := h, toks := k }) (su : SameUp frs₀ frs) (Fs : Frs l frs) (F : Fr hb L s.heap m) (N : News hb L s.heap (new ++ frs)) (hap : ∀ p ∈ new, p.1 ∉ frs.map (·.1))
    (hx : m (Str.ofString "actual") = some (.ref la)) (hi : m (Str.ofString "j") = some (.int (i : Int) t)) (he : m (Str.ofString "a") = some v) (hl : hb.IsList la vs.toArray) (hlen : vs.length < 2 ^ 20) (hi' : i ≤ vs.length)
    (hA : ∀ h, News hb L h (new ++ frs) → HSpec A h ctx) (hc : cn → ctx = .none) (hu : A.units + 100 < cLine) (heq : ∀ k v', vs[k]? = some v' → CmpAt .Eq hb v' v (eqb k)) :
    wpAny (model PySem.Challenge.rw_il0061_01.row.prog w) A (exec (.While (.Compare (.Subscript (.Name (Str.ofString "actual") p1) (.Name (Str.ofString "j") p2) p3) [.Eq] [.Name (Str.ofString "a") p4] p5) [.AugAssign (.Name (Str.ofString "j") p6) .Add (.Constant (.int 1) 0 p7) p8] [] p9) (sldEnv L))
      (SkipN hb L s₀ m (Str.ofString "j") (new ++ frs) eqb i vs.length)
      (XE hb L l frs₀ cn (fun m' new' => new' = new ∧ (∃ t', m' = upd m (Str.ofString "j") (.int (vs.length : Nat) t')) ∧ ∀ k, i ≤ k → k < vs.length → eqb k = true) s₀) s := by
  refine hide fun hGoal => ?_
  obtain ⟨hh, kk, rfl⟩ := hs
  refine hGoal ?_
  clear hGoal
  refine While_inv (n₀ := vs.length - i) (fun k m₁ led => ∃ i' t', led = new ++ frs ∧ k = vs.length - i' ∧ i ≤ i' ∧ i' ≤ vs.length ∧ m₁ = upd m (Str.ofString "j") (.int (i' : Nat) t') ∧ ∀ k, i ≤ k → k < i' → eqb k = true) F N
    ⟨i, t, rfl, rfl, Nat.le_refl _, hi', upd_self hi, fun k h1 h2 => absurd h2 (by omega)⟩ (fun k m₁ led h₁ tk₁ F₁ N₁ hJ => ?_) (xe_own hfr rfl)
  refine hide fun hGoal => ?_
  obtain ⟨i', t', rfl, rfl, g1, g2, rfl, g3⟩ := hJ
  refine hGoal ?_
  clear hGoal
  have q1 : upd m (Str.ofString "j") (.int (i' : Nat) t') (Str.ofString "actual") = some (.ref la) := hx
  have q2 : upd m (Str.ofString "j") (.int (i' : Nat) t') (Str.ofString "a") = some v := he
  have q3 : upd m (Str.ofString "j") (.int (i' : Nat) t') (Str.ofString "j") = some (.int (i' : Nat) t') := rfl
  clear F N hi hx he
  with_reducible show wpAny _ _ _ _ _ _
  k_fold
  k_steps
  show wpAny _ _ _ _ _ _
  by_cases hlt : i' < vs.length
  · have hv : vs[i']? = some vs[i'] := List.getElem?_eq_getElem hlt
    refine idx_in (Fr.lst F₁ hl) (by omega) hv ?_ (by with_unfolding_all rfl)
    k_steps
    refine heq i' _ hv _ _ _ _ _ _ (Fr.keep (by k_asm)) hu ?_
    k_steps
    · refine WhileStep.intro (n' := vs.length - (i' + 1)) (by k_asm) (by k_asm) (by omega) ?_
      exact ⟨i' + 1, _, rfl, rfl, by omega, by omega, (upd_upd (v' := .int ((i' + 1 : Nat) : Int) _)), fun k h1 h2 => by
        by_cases e : k = i'
        · rw [e]; assumption
        · exact g3 k h1 (by omega)⟩
    · exact ⟨rfl, _, _, t', i', rfl, by k_asm, by k_asm, g1, hlt, by assumption, g3⟩
  · have hieq : i' = vs.length := by omega
    subst hieq
    refine idx_out (hA _ N₁) (Fr.lst F₁ hl) (by omega) (by omega) (fun h' tk e X => ?_) (by with_unfolding_all rfl)
    exact ⟨e, rfl, .inl (xf_of X ⟨_, _, rfl⟩ su Fs F₁ N₁ ⟨rfl, ⟨t', rfl⟩, g3⟩ hap hc)⟩
end
end PartX5

section PartDx
noncomputable def DoesX (f : Addr) (kd ku : Nat) (vs : List Value) (Pre : Heap → Prop) (Post : Value → (Addr → Prop) → Heap → Prop) : Prop :=
  ∀ (w : World) (mean : ExcName → Option Value) (mg mb : Str → Option Value) (dp un : Nat) (gd : Option (List Code)) (cn : Str) (cs : Scope) (L a : Addr) (ccd : Value) (cl : List (Str × Addr)) (outer : List Env)
    (hb : Heap) (frs : List (Addr × Obj)) (s : Shared) (Q E : Value → Shared → Prop),
    Frs (envX cn cs L a ccd cl :: outer) frs → (∀ p ∈ frs, s.heap.get? p.1 = some p.2 ∧ hb.get? p.1 = none) → hb.StaysIn s.heap → hb.objs.size ≤ s.heap.objs.size → (hd.heap_39 w.params).In hb → Tp mean mg mb hb →
    dp + kd < recursionLimit → un + ku < cLine → Pre hb →
    (∀ r h' tk' frs', SameUp frs frs' → Frs (envX cn cs L a ccd cl :: outer) frs' → (∀ p ∈ frs', h'.get? p.1 = some p.2) → hb.StaysIn h' → Post r (fun D => hb.get? D = none ∧ ∀ p ∈ frs, p.1 ≠ D) h' → Q r { s with heap := h', toks := tk' }) →
    wpAny (model PySem.Challenge.rw_il0061_01.row.prog w) (ktrTop dp un gd cn cs L a ccd cl outer) (call (.ref f) vs) Q E s

section
variable {prog : Program} {w : World} {A : Around} {s : Shared} {hb : Heap} {K : Frag} {frs : List (Addr × Obj)}
  {Q E : Value → Shared → Prop} {name qual : Str} {params : Arguments} {body : List Stmt} {scope : Scope} {dV kV doc pm cdv ct oc : Value} {an od : Option Addr} {osl : Array (Option Value)} {f : Addr} {args : List Value} {binds : List (Str × Value)}
  {p : Program} {loose : List Str} {mean : ExcName → Option Value} {mg mb : Str → Option Value}

theorem enterI (hfr : ∀ p ∈ frs, s.heap.get? p.1 = some p.2 ∧ hb.get? p.1 = none) (st : hb.StaysIn s.heap) (hz : hb.objs.size ≤ s.heap.objs.size) (X : K.In hb) (T : Top p loose mean mg mb hb)
    (ho : K.lookup f = some ⟨oc, od, .func (fnOf name qual params body scope dV kV doc pm an cdv ct), osl⟩) (hcd : codeIn K cdv qual = true) (hroom : A.depth < recursionLimit)
    (hbind : BindsTo s (fnOf name qual params body scope dV kV doc pm an cdv ct) ⟨args, []⟩ binds) (hloc : ∀ y ∈ binds, scope.names.lookup y.1 = some .local)
    (h : ∀ L' h₁ tk, (∀ p ∈ frs, p.1 < L') → Fr hb L' h₁ (fun y => binds.reverse.lookup y) → News hb L' h₁ frs →
      wpAny (model prog w) (A.deeper (envOf qual scope L' f cdv)) (execs body (envOf qual scope L' f cdv))
        (fun fl s' => Q (match fl with | .ret v => v | _ => .none) s') (fun _ _ => False) { s with heap := h₁, toks := tk })
    (hco : scope.isCoroutine = false) (hgen : scope.isGenerator = false) (hk : scope.kind = .function)
    (hcell : ∀ x ∈ scope.names, x.2 ≠ .cell) : wpAny (model prog w) A (call (.ref f) args) Q E s := by
  refine wpAny_call (codeAny_call_def (fd := fnOf name qual params body scope dV kV doc pm an cdv ct) (body := body) (binds := binds) hroom (X.keeps st _ _ ho) rfl (T.nolimit.keeps st) (codeRec_of (X.keeps st) hcd) rfl hbind hcell hloc (fun h₁ hns hk₁ => ?_) hco hgen hk)
  exact wpAny_mono (h _ h₁ _ (fun p hp => Heap.lt_size (hfr p hp).1) ⟨hns, fun b o e => hk₁ b o (st b o e), hz⟩ (fun p hp => ⟨hk₁ _ _ (hfr p hp).1, Nat.ne_of_lt (Heap.lt_size (hfr p hp).1), (hfr p hp).2⟩)) (fun fl s' hl => hl) fun _ _ y => y.elim
end

noncomputable def Reps {α : Type} (R : Value → α → Prop) (vs : List Value) (xs : List α) : Prop := vs.length = xs.length ∧ ∀ (k : Nat) v x, vs[k]? = some v → xs[k]? = some x → R v x
section
variable {α : Type} {R : Value → α → Prop} {vs us : List Value} {xs ys : List α}
theorem Reps.nil : Reps R [] [] := ⟨rfl, fun k v x h => by simp at h⟩
theorem Reps.snoc {v : Value} {x : α} (h : Reps R vs xs) (r : R v x) : Reps R (vs ++ [v]) (xs ++ [x]) := by
  refine ⟨by simp [h.1], fun k u y hu hy => ?_⟩
  rcases Nat.lt_trichotomy k vs.length with c | c | c
  · rw [List.getElem?_append_left c] at hu
    rw [List.getElem?_append_left (h.1 ▸ c)] at hy
    exact h.2 k u y hu hy
  · subst c
    rw [List.getElem?_append_right (Nat.le_refl _)] at hu
    rw [List.getElem?_append_right (Nat.le_of_eq h.1.symm)] at hy
    rw [h.1] at hy
    simp at hu hy
    subst hu hy
    exact r
  · rw [List.getElem?_eq_none (by simp; omega)] at hu; cases hu
theorem Reps.append (h : Reps R vs xs) (g : Reps R us ys) : Reps R (vs ++ us) (xs ++ ys) := by
  refine ⟨by simp [h.1, g.1], fun k u y hu hy => ?_⟩
  by_cases c : k < vs.length
  · rw [List.getElem?_append_left c] at hu
    rw [List.getElem?_append_left (h.1 ▸ c)] at hy
    exact h.2 k u y hu hy
  · rw [List.getElem?_append_right (by omega)] at hu
    rw [List.getElem?_append_right (by rw [← h.1]; omega), ← h.1] at hy
    exact g.2 _ u y hu hy
theorem Reps.drop (h : Reps R vs xs) (n : Nat) : Reps R (vs.drop n) (xs.drop n) := ⟨by simp [h.1], fun k u y hu hy => h.2 (n + k) u y (by simpa using hu) (by simpa using hy)⟩
theorem Reps.take (h : Reps R vs xs) (n : Nat) : Reps R (vs.take n) (xs.take n) := ⟨by simp [h.1], fun k u y hu hy => by
  rw [List.getElem?_take] at hu hy
  split at hu
  · rename_i c; rw [if_pos c] at hy; exact h.2 k u y hu hy
  · cases hu⟩
theorem Reps.get (h : Reps R vs xs) {k : Nat} {v : Value} (hv : vs[k]? = some v) : ∃ x, xs[k]? = some x ∧ R v x := by
  have hk : k < xs.length := by
    rw [← h.1]
    exact (List.getElem?_eq_some_iff.mp hv).1
  exact ⟨xs[k], List.getElem?_eq_getElem hk, h.2 k v _ hv (List.getElem?_eq_getElem hk)⟩
theorem Reps.map {β : Type} {R' : Value → β → Prop} {f : α → β} (h : Reps R vs xs) (g : ∀ v x, R v x → R' v (f x)) : Reps R' vs (xs.map f) := ⟨by simp [h.1], fun k u y hu hy => by
  rw [List.getElem?_map] at hy
  refine hide fun hGoal => ?_
  obtain ⟨x, hx, r⟩ := h.get hu
  refine hGoal ?_
  clear hGoal
  rw [hx] at hy
  simp at hy
  subst hy
  exact g _ _ r⟩
theorem Reps.mono {R' : Value → α → Prop} (h : Reps R vs xs) (g : ∀ v x, R v x → R' v x) : Reps R' vs xs := ⟨h.1, fun k v x hv hx => g _ _ (h.2 k v x hv hx)⟩
end
section
variable {prog : Program} {w : World} {A : Around} {E : Value → Shared → Prop} {Q : Flow → Shared → Prop} {s : Shared} {env : Env} {h₀ : Heap} {L : Addr}
noncomputable def BrkStep (h₀ : Heap) (L : Addr) (s : Shared) (J : Nat → (Str → Option Value) → List (Addr × Obj) → Prop) (Q : Flow → Shared → Prop) (n : Nat) (f : Flow) (s₃ : Shared) : Prop :=
  match f with
  | .brk => Q .next s₃
  | .ret v => Q (.ret v) s₃
  | _ => ∃ h' tk m₂ news₂ n', s₃ = { s with heap := h', toks := tk } ∧ Fr h₀ L h' m₂ ∧ News h₀ L h' news₂ ∧ n' < n ∧ J n' m₂ news₂
theorem While_brk {test : Expr} {body : List Stmt} {pos : Pos} {m : Str → Option Value} {news : List (Addr × Obj)} (J : Nat → (Str → Option Value) → List (Addr × Obj) → Prop) {n₀ : Nat}
    (F : Fr h₀ L s.heap m) (N : News h₀ L s.heap news) (hJ : J n₀ m news)
    (turn : ∀ n m₁ news₁ h₁ tk₁, Fr h₀ L h₁ m₁ → News h₀ L h₁ news₁ → J n m₁ news₁ →
      wpAny (model prog w) A (isTrue test env (eval test env)) (fun b s₂ =>
        if b = true then wpAny (model prog w) A (execs body env) (BrkStep h₀ L s J Q n) (fun _ _ => False) s₂ else Q .next s₂) (fun _ _ => False) { s with heap := h₁, toks := tk₁ }) :
    wpAny (model prog w) A (exec (.While test body [] pos) env) Q E s := by
  refine wpAny_While (codeAny_whileLoop (fun n s' => ∃ h₁ tk₁ m₁ news₁, s' = { s with heap := h₁, toks := tk₁ } ∧ Fr h₀ L h₁ m₁ ∧ News h₀ L h₁ news₁ ∧ J n m₁ news₁) ?_ n₀ ⟨s.heap, s.toks, m, news, rfl, F, N, hJ⟩)
  rintro n s' ⟨h₁, tk₁, m₁, news₁, rfl, F₁, N₁, J₁⟩
  refine wpAny_mono (turn n m₁ news₁ h₁ tk₁ F₁ N₁ J₁) (fun b s₂ h₂ => ?_) fun _ _ x => x.elim
  cases b with
  | false =>
    simp only [Bool.false_eq_true, if_false] at h₂ ⊢
    exact wpAny_execs_nil h₂
  | true =>
    simp only [if_true] at h₂ ⊢
    refine wpAny_mono h₂ (fun f s₃ h₃ => ?_) fun _ _ x => x.elim
    cases f with
    | brk => exact h₃
    | ret v => exact h₃
    | next =>
      refine hide fun hGoal => ?_
      obtain ⟨h', tk, m₂, news₂, n', rfl, F₂, N₂, hn, J₂⟩ := h₃
      refine hGoal ?_
      clear hGoal
      exact ⟨n', hn, h', tk, m₂, news₂, rfl, F₂, N₂, J₂⟩
    | cont =>
      refine hide fun hGoal => ?_
      obtain ⟨h', tk, m₂, news₂, n', rfl, F₂, N₂, hn, J₂⟩ := h₃
      refine hGoal ?_
      clear hGoal
      exact ⟨n', hn, h', tk, m₂, news₂, rfl, F₂, N₂, J₂⟩
end
end PartDx

section PartDy
section
variable {α : Type} (lt eq : α → α → Bool)
noncomputable def sldR (xs ys : List α) : List α × List α :=
  match xs, ys with
  | [], ys => ([], ys)
  | x :: xs, [] => (x :: xs, [])
  | x :: xs, y :: ys =>
    if lt x y = true then (x :: (sldR (xs.dropWhile (eq · x)) (y :: ys)).1, (sldR (xs.dropWhile (eq · x)) (y :: ys)).2)
    else if lt y x = true then ((sldR (x :: xs) (ys.dropWhile (eq · y))).1, y :: (sldR (x :: xs) (ys.dropWhile (eq · y))).2)
    else sldR (xs.dropWhile (eq · x)) (ys.dropWhile (eq · y))
termination_by xs.length + ys.length
decreasing_by
  all_goals
    simp only [List.length_cons]
    have h1 := (List.dropWhile_sublist (l := xs) (eq · x)).length_le
    have h2 := (List.dropWhile_sublist (l := ys) (eq · y)).length_le
    omega
end
variable {α : Type} in
theorem sldR_nil (lt eq : α → α → Bool) (ys : List α) : sldR lt eq [] ys = ([], ys) := by rw [sldR]
variable {α : Type} in
theorem sldR_nil' (lt eq : α → α → Bool) (xs : List α) : sldR lt eq xs [] = (xs, []) := by cases xs <;> rw [sldR]
variable {α : Type} in
theorem sldR_len (lt eq : α → α → Bool) (xs ys : List α) : (sldR lt eq xs ys).1.length ≤ xs.length ∧ (sldR lt eq xs ys).2.length ≤ ys.length := by
  induction xs, ys using sldR.induct lt eq with
  | case1 ys => rw [sldR]; simp
  | case2 x xs => rw [sldR]; simp
  | case3 x xs y ys c ih1 =>
    rw [sldR, if_pos c]
    have := (List.dropWhile_sublist (l := xs) (eq · x)).length_le
    simp only [List.length_cons] at *
    omega
  | case4 x xs y ys c c2 ih1 =>
    rw [sldR, if_neg c, if_pos c2]
    have := (List.dropWhile_sublist (l := ys) (eq · y)).length_le
    simp only [List.length_cons] at *
    omega
  | case5 x xs y ys c c2 ih1 =>
    rw [sldR, if_neg c, if_neg c2]
    have := (List.dropWhile_sublist (l := xs) (eq · x)).length_le
    have := (List.dropWhile_sublist (l := ys) (eq · y)).length_le
    simp only [List.length_cons] at *
    omega
structure SldM (E1 A1 M U : Addr) (i j : Nat) (m : Str → Option Value) : Prop where
  ex : m (Str.ofString "expected") = some (.ref E1)
  ac : m (Str.ofString "actual") = some (.ref A1)
  i : ∃ t, m (Str.ofString "i") = some (.int (i : Nat) t)
  j : ∃ t, m (Str.ofString "j") = some (.int (j : Nat) t)
  mi : m (Str.ofString "missing") = some (.ref M)
  un : m (Str.ofString "unexpected") = some (.ref U)
structure SldI {α : Type} (lt eq : α → α → Bool) (R : Value → α → Prop) (xs ys : List α) (i j : Nat) (vM vU : List Value) : Prop where
  hi : i ≤ xs.length
  hj : j ≤ ys.length
  acc : ∃ rM rU, Reps R vM rM ∧ Reps R vU rU ∧ rM ++ (sldR lt eq (xs.drop i) (ys.drop j)).1 = (sldR lt eq xs ys).1 ∧ rU ++ (sldR lt eq (xs.drop i) (ys.drop j)).2 = (sldR lt eq xs ys).2
noncomputable abbrev sldNew (M U : Addr) (vM vU : List Value) (eM eU : Nat) : List (Addr × Obj) := [(U, W.listOf vU.toArray eU), (M, W.listOf vM.toArray eM)]
section
variable {α : Type} {lt eq : α → α → Bool} {R : Value → α → Prop} {xs ys : List α} {i j i' j' : Nat} {vM vU : List Value}
theorem SldI.len (h : SldI lt eq R xs ys i j vM vU) : vM.length ≤ xs.length ∧ vU.length ≤ ys.length := by
  refine hide fun hGoal => ?_
  obtain ⟨rM, rU, h1, h2, h3, h4⟩ := h.acc
  refine hGoal ?_
  clear hGoal
  have a := (sldR_len lt eq xs ys)
  rw [← h3, ← h4, List.length_append, List.length_append] at a
  rw [h1.1, h2.1]
  omega
noncomputable def eqAt (eq : α → α → Bool) (xs : List α) (x : α) (k : Nat) : Bool := match xs[k]? with | some z => eq z x | none => false
theorem drop_skip (p : α → Bool) {xs : List α} : ∀ (d i : Nat), i + d ≤ xs.length → (∀ k z, i ≤ k → k < i + d → xs[k]? = some z → p z = true) → (∀ z, xs[i + d]? = some z → p z = false) → (xs.drop i).dropWhile p = xs.drop (i + d)
  | 0, i, hl, _, hb => by
    cases c : xs.drop i with
    | nil => simp [c]
    | cons z zs =>
      have : xs[i]? = some z := by rw [← Nat.add_zero i, ← List.getElem?_drop, c]; rfl
      have hz := hb z (by simpa using this)
      simp [List.dropWhile_cons, hz, c]
  | d + 1, i, hl, ha, hb => by
    have hi : i < xs.length := by omega
    rw [List.drop_eq_getElem_cons hi, List.dropWhile_cons, if_pos (ha i _ (Nat.le_refl _) (by omega) (List.getElem?_eq_getElem hi)), drop_skip p d (i + 1) (by omega) (fun k z h1 h2 h3 => ha k z (by omega) (by omega) h3) (fun z hz => hb z (by rw [show i + (d + 1) = i + 1 + d from by omega]; exact hz))]
    rw [show i + (d + 1) = i + 1 + d from by omega]
theorem drop_skip' {xs : List α} {x : α} (h1 : i + 1 ≤ i') (h2 : i' ≤ xs.length) (ha : ∀ k, i + 1 ≤ k → k < i' → eqAt eq xs x k = true) (hb : i' < xs.length → eqAt eq xs x i' = false) :
    (xs.drop (i + 1)).dropWhile (eq · x) = xs.drop i' := by
  refine hide fun hGoal => ?_
  obtain ⟨d, rfl⟩ : ∃ d, i' = i + 1 + d := ⟨i' - (i + 1), by omega⟩
  refine hGoal ?_
  clear hGoal
  refine drop_skip (eq · x) d (i + 1) h2 (fun k z h3 h4 h5 => ?_) (fun z hz => ?_)
  · have := ha k h3 h4
    unfold eqAt at this
    rwa [h5] at this
  · have := hb (List.getElem?_eq_some_iff.mp hz).1
    unfold eqAt at this
    rwa [hz] at this
theorem drop_at {xs : List α} {x : α} (h : xs[i]? = some x) : xs.drop i = x :: xs.drop (i + 1) := by
  refine hide fun hGoal => ?_
  obtain ⟨hi, e⟩ := List.getElem?_eq_some_iff.mp h
  refine hGoal ?_
  clear hGoal
  rw [List.drop_eq_getElem_cons hi, e]
variable {x y : α} {v : Value}
theorem SldI.stepM (h : SldI lt eq R xs ys i j vM vU) (hx : xs[i]? = some x) (hy : ys[j]? = some y) (c : lt x y = true) (r : R v x) (h1 : i + 1 ≤ i') (h2 : i' ≤ xs.length) (ha : ∀ k, i + 1 ≤ k → k < i' → eqAt eq xs x k = true) (hb : i' < xs.length → eqAt eq xs x i' = false) :
    SldI lt eq R xs ys i' j (vM ++ [v]) vU := by
  refine hide fun hGoal => ?_
  obtain ⟨rM, rU, g1, g2, g3, g4⟩ := h.acc
  refine hGoal ?_
  clear hGoal
  rw [drop_at hx, drop_at hy, sldR, if_pos c, drop_skip' h1 h2 ha hb, ← drop_at hy] at g3 g4
  exact ⟨h2, h.hj, rM ++ [x], rU, g1.snoc r, g2, by simpa using g3, g4⟩
theorem SldI.stepU (h : SldI lt eq R xs ys i j vM vU) (hx : xs[i]? = some x) (hy : ys[j]? = some y) (c : lt x y = false) (c' : lt y x = true) (r : R v y) (h1 : j + 1 ≤ j') (h2 : j' ≤ ys.length) (ha : ∀ k, j + 1 ≤ k → k < j' → eqAt eq ys y k = true) (hb : j' < ys.length → eqAt eq ys y j' = false) :
    SldI lt eq R xs ys i j' vM (vU ++ [v]) := by
  refine hide fun hGoal => ?_
  obtain ⟨rM, rU, g1, g2, g3, g4⟩ := h.acc
  refine hGoal ?_
  clear hGoal
  rw [drop_at hx, drop_at hy, sldR, if_neg (by simp [c]), if_pos c', drop_skip' h1 h2 ha hb, ← drop_at hx] at g3 g4
  exact ⟨h.hi, h2, rM, rU ++ [y], g1, g2.snoc r, g3, by simpa using g4⟩
theorem SldI.stepB (h : SldI lt eq R xs ys i j vM vU) (hx : xs[i]? = some x) (hy : ys[j]? = some y) (c : lt x y = false) (c' : lt y x = false) (h1 : i + 1 ≤ i') (h2 : i' ≤ xs.length) (ha : ∀ k, i + 1 ≤ k → k < i' → eqAt eq xs x k = true) (hb : i' < xs.length → eqAt eq xs x i' = false)
    (h1' : j + 1 ≤ j') (h2' : j' ≤ ys.length) (ha' : ∀ k, j + 1 ≤ k → k < j' → eqAt eq ys y k = true) (hb' : j' < ys.length → eqAt eq ys y j' = false) :
    SldI lt eq R xs ys i' j' vM vU := by
  refine hide fun hGoal => ?_
  obtain ⟨rM, rU, g1, g2, g3, g4⟩ := h.acc
  refine hGoal ?_
  clear hGoal
  rw [drop_at hx, drop_at hy, sldR, if_neg (by simp [c]), if_neg (by simp [c']), drop_skip' h1 h2 ha hb, drop_skip' h1' h2' ha' hb'] at g3 g4
  exact ⟨h2, h2', rM, rU, g1, g2, g3, g4⟩
theorem SldI.fin (h : SldI lt eq R xs ys i j vM vU) {vs us : List Value} (rE : Reps R vs xs) (rA : Reps R us ys) (he : i = xs.length ∨ j = ys.length) : Reps R (vM ++ vs.drop i) (sldR lt eq xs ys).1 ∧ Reps R (vU ++ us.drop j) (sldR lt eq xs ys).2 := by
  refine hide fun hGoal => ?_
  obtain ⟨rM, rU, g1, g2, g3, g4⟩ := h.acc
  refine hGoal ?_
  clear hGoal
  have e : sldR lt eq (xs.drop i) (ys.drop j) = (xs.drop i, ys.drop j) := by
    rcases he with rfl | rfl
    · rw [List.drop_length, sldR_nil]
    · rw [List.drop_length, sldR_nil']
  rw [e] at g3 g4
  exact ⟨g3 ▸ g1.append (rE.drop i), g4 ▸ g2.append (rA.drop j)⟩
end
noncomputable def SldJ {α : Type} (lt eq : α → α → Bool) (R : Value → α → Prop) (xs ys : List α) (E1 A1 M U : Addr) (frs : List (Addr × Obj)) (n : Nat) (m : Str → Option Value) (news : List (Addr × Obj)) : Prop :=
  ∃ i j vM vU eM eU, n = (xs.length - i) + (ys.length - j) ∧ news = sldNew M U vM vU eM eU ++ frs ∧ SldM E1 A1 M U i j m ∧ SldI lt eq R xs ys i j vM vU
noncomputable def SldP {α : Type} (lt eq : α → α → Bool) (R : Value → α → Prop) (xs ys : List α) (E1 A1 M U : Addr) (m : Str → Option Value) (new : List (Addr × Obj)) : Prop :=
  ∃ i j vM vU eM eU, new = sldNew M U vM vU eM eU ∧ SldM E1 A1 M U i j m ∧ SldI lt eq R xs ys i j vM vU ∧ (i = xs.length ∨ j = ys.length)
section
variable {hb : Heap} {L : Addr} {l : List Env} {frs₀ : List (Addr × Obj)} {cn cn' : Prop} {Pst Pst' : (Str → Option Value) → List (Addr × Obj) → Prop} {s₀ s : Shared} {e : Addr} {v fl : Value}
theorem xf_mono (hc : cn' → cn) (hP : ∀ m new, Pst m new → Pst' m new) (H : XF hb L l frs₀ cn Pst s₀ e s) : XF hb L l frs₀ cn' Pst' s₀ e s := by
  refine hide fun hGoal => ?_
  obtain ⟨oe, vs, h, tk, m, new, frs, hs, su, Fs, hp, hap, F, c, hd, sz, h2, r⟩ := H
  refine hGoal ?_
  clear hGoal
  exact ⟨oe, vs, h, tk, m, new, frs, hs, su, Fs, hP _ _ hp, hap, F, c, hd, sz, fun f => h2 (hc f), r⟩
theorem xh_mono (hc : cn' → cn) (hP : ∀ m new, Pst m new → Pst' m new) (H : XH hb L l frs₀ cn Pst s₀ fl e s) : XH hb L l frs₀ cn' Pst' s₀ fl e s := by
  refine hide fun hGoal => ?_
  obtain ⟨oe, vs, h, tk, m, new, frs, tb, ot, hs, su, Fs, hp, hap, F, c, hd, sz, h2, r⟩ := H
  refine hGoal ?_
  clear hGoal
  exact ⟨oe, vs, h, tk, m, new, frs, tb, ot, hs, su, Fs, hP _ _ hp, hap, F, c, hd, sz, fun f => h2 (hc f), r⟩
theorem xe_mono (hc : cn' → cn) (hP : ∀ m new, Pst m new → Pst' m new) (H : XE hb L l frs₀ cn Pst s₀ v s) : XE hb L l frs₀ cn' Pst' s₀ v s := by
  obtain ⟨e, rfl, H | H⟩ := H
  · exact ⟨e, rfl, .inl (xf_mono hc hP H)⟩
  · exact ⟨e, rfl, .inr (xh_mono hc hP H)⟩
theorem xe_sub (hP : ∀ m new, Pst m new → ∃ new', (∀ p ∈ new', p ∈ new) ∧ Pst' m new') (H : XE hb L l frs₀ cn Pst s₀ v s) : XE hb L l frs₀ False Pst' s₀ v s := by
  obtain ⟨e, rfl, ⟨oe, vs, h, tk, m, new, frs, hs, su, Fs, hp, hap, F, c, hd, sz, h2, N, r⟩ | ⟨oe, vs, h, tk, m, new, frs, tb, ot, hs, su, Fs, hp, hap, F, c, hd, sz, h2, N, r1, r2, r3, r4, r5⟩⟩ := H
  · refine hide fun hGoal => ?_
    obtain ⟨new', hsub, hp'⟩ := hP _ _ hp
    refine hGoal ?_
    clear hGoal
    refine ⟨e, rfl, .inl ⟨oe, vs, h, tk, m, new', frs, hs, su, Fs, hp', fun p q => hap p (hsub p q), F, c, hd, sz, fun f => f.elim, News.perm N (fun p q => ?_), r⟩⟩
    rcases List.mem_cons.mp q with rfl | q
    · exact .head _
    rcases List.mem_append.mp q with q | q
    · exact .tail _ (List.mem_append_left _ (hsub p q))
    · exact .tail _ (List.mem_append_right _ q)
  · refine hide fun hGoal => ?_
    obtain ⟨new', hsub, hp'⟩ := hP _ _ hp
    refine hGoal ?_
    clear hGoal
    refine ⟨e, rfl, .inr ⟨oe, vs, h, tk, m, new', frs, tb, ot, hs, su, Fs, hp', fun p q => hap p (hsub p q), F, c, hd, sz, fun f => f.elim, News.perm N (fun p q => ?_), r1, r2, r3, fun p q => r4 p (hsub p q), r5⟩⟩
    rcases List.mem_cons.mp q with rfl | q
    · exact .head _
    rcases List.mem_cons.mp q with rfl | q
    · exact .tail _ (.head _)
    rcases List.mem_append.mp q with q | q
    · exact .tail _ (.tail _ (List.mem_append_left _ (hsub p q)))
    · exact .tail _ (.tail _ (List.mem_append_right _ q))
end
end PartDy

local macro_rules | `(tactic| walk_at "mine pad 1") => `(tactic| skip)
section PartP9
local macro_rules | `(tactic| k_all) => `(tactic| assumption)
local macro_rules
  | `(tactic| walk_at $k:str) => if ["subscriptTail Name Name ref int", "exec While Compare cons nil", "exec While Constant cons nil", "exec Try cons nil nil cons", "exec Try cons cons nil nil"].contains k.getString then `(tactic| (refine hold_it ?_)) else Lean.Macro.throwUnsupported
theorem allLt_all {d : Nat} {l : List (Addr × Obj)} (h : AllLt d l) : ∀ p ∈ l, @LT.lt Nat _ p.1 d := by
  induction l with
  | nil => intro p hp; cases hp
  | cons q r ih =>
    intro p hp
    refine hide fun hGoal => ?_
    obtain ⟨h1, h2⟩ := h
    refine hGoal ?_
    clear hGoal
    rcases List.mem_cons.mp hp with e | hp
    · rw [e]; exact h1
    · exact ih h2 p hp
noncomputable def SldPost {α : Type} (R : Heap → Value → α → Prop) (r₁ r₂ : List α) (v : Value) (fresh : Addr → Prop) (h : Heap) : Prop :=
  ∃ (T M U : Addr) (vM vU : List Value) (eM eU : Nat), v = .ref T ∧ h.get? T = some { cls := .type "tuple", data := .seq #[.ref M, .ref U] } ∧ h.get? M = some (W.listOf vM.toArray eM) ∧ h.get? U = some (W.listOf vU.toArray eU) ∧
    fresh T ∧ fresh M ∧ fresh U ∧ Reps (R h) vM r₁ ∧ Reps (R h) vU r₂
set_option maxHeartbeats 8000000 in
theorem d_sld {α : Type} (lt eq : α → α → Bool) (R : Heap → Value → α → Prop) (E1 A1 : Addr) (vs us : List Value) (xs ys : List α) (hn : vs.length < 1000) (hm : us.length < 1000) (hR : ∀ h h' v x, h.StaysIn h' → R h v x → R h' v x) :
    DoesX 28 6 120 [.ref E1, .ref A1] (fun h => h.IsList E1 vs.toArray ∧ h.IsList A1 us.toArray ∧ Reps (R h) vs xs ∧ Reps (R h) us ys ∧
        ∀ v x v' x', R h v x → R h v' x' → CmpAt .Lt h v v' (lt x x') ∧ CmpAt .Gt h v v' (lt x' x) ∧ CmpAt .Eq h v v' (eq x x'))
      (fun r fresh h => SldPost R (sldR lt eq xs ys).1 (sldR lt eq xs ys).2 r fresh h) := by
  intro w mean mg mb dp un gd cn cs L a ccd cl outer hb frs s Q E Fs hfr st hz X T hd hu hp hret
  refine hide fun hGoal => ?_
  obtain ⟨hE, hA, rE, rA, hcmp⟩ := hp
  refine hGoal ?_
  clear hGoal
  k_dflt (refine' enterI (binds := [(Str.ofString "expected", .ref E1), (Str.ofString "actual", .ref A1)]) hfr st hz X T ?k6 ?k7 ?k8 ?k9 ?kB ?_ ?c2 ?c3 ?c4 ?c5; (case k6 => k_is); (case k7 => k_is); (case k8 => (show dp < _; omega)); (case k9 => exact BindsTo.of_eq rfl); (case kB => exact locs rfl); (case c2 => exact rfl); (case c3 => exact rfl); (case c4 => exact rfl); (case c5 => decide); k_whole)
  intro L' h₁ tk hlt F' N'
  try dsimp only
  with_reducible show wpAny _ _ _ _ _ _
  k_fold
  k_steps
  rename_i M h₂ hMf h₃ tk₁ U h₄ hUM h₅ F₁ N₁
  show wpAny _ _ _ _ _ _
  have hfs : ((ktrTop dp un gd cn cs L a ccd cl outer).deeper (sldEnv L')).frames = some (sldEnv L' :: (envX cn cs L a ccd cl :: outer)) := rfl
  have hl1 : xs.length = vs.length := rE.1.symm
  have hl2 : ys.length = us.length := rA.1.symm
  have hMf' : ∀ p ∈ frs, p.1 ≠ M := fun p hp => Nat.ne_of_lt (hMf p hp)
  have hUM' : @LT.lt Nat _ M U := hUM.1
  have hUf' : ∀ p ∈ frs, p.1 ≠ U := fun p hp => Nat.ne_of_lt (Nat.lt_trans (hMf p hp) hUM')
  refine While_brk (n₀ := (xs.length - 0) + (ys.length - 0)) (SldJ lt eq (R hb) xs ys E1 A1 M U frs) F₁ N₁ ⟨0, 0, [], [], 0, 0, rfl, rfl, ⟨rfl, rfl, ⟨_, rfl⟩, ⟨_, rfl⟩, rfl, rfl⟩, ⟨Nat.zero_le _, Nat.zero_le _, [], [], Reps.nil, Reps.nil, by simp, by simp⟩⟩ (fun n m₁ led h₁ tk₁ F₁ N₁ hJ => ?_)
  refine hide fun hGoal => ?_
  obtain ⟨i, j, vM, vU, eM, eU, rfl, rfl, hM, hI⟩ := hJ
  refine hGoal ?_
  clear hGoal
  with_reducible show wpAny _ _ _ _ _ _
  k_fold
  k_steps
  show wpAny _ _ _ _ _ _
  refine try_index (cn := False) (Pst := SldP lt eq (R hb) xs ys E1 A1 M U) (frs₀ := frs) (s₀ := s) hfs rfl ?body (fun A₁ h' m E₁ Q₁ s₁ F q => nameX_B F X (topRead_of T) (by k_is) (by decide +kernel) (by decide) q) ?suite
  case body =>
    have hu2 : ((ktrTop dp un gd cn cs L a ccd cl outer).deeper (sldEnv L')).units + 100 < cLine := by show un + 3 + 100 < cLine; omega
    have hH : ∀ h : Heap, HSpec ((ktrTop dp un gd cn cs L a ccd cl outer).deeper (sldEnv L')) h .none := fun h => .inl ⟨rfl, rfl⟩
    have hap : ∀ (vM vU : List Value) (eM eU : Nat), ∀ p ∈ sldNew M U vM vU eM eU, p.1 ∉ frs.map (·.1) := fun vM vU eM eU p hp hm => by
      refine hide fun hGoal => ?_
      obtain ⟨q, hq, e⟩ := List.mem_map.mp hm
      refine hGoal ?_
      clear hGoal
      rcases List.mem_cons.mp hp with rfl | hp
      · exact hUf' q hq e
      · rw [List.mem_singleton.mp hp] at e; exact hMf' q hq e
    refine hide fun hGoal => ?_
    obtain ⟨ex, ac, ⟨ti, hi⟩, ⟨tj, hj⟩, mi, un⟩ := hM
    refine hGoal ?_
    clear hGoal
    replace N₁ : News hb L' h₁ ((U, W.listOf vU.toArray eU) :: (M, W.listOf vM.toArray eM) :: frs) := N₁
    have hvM : vM.toArray.size < 1000 := by have := hI.len.1; rw [List.size_toArray]; omega
    have hvU : vU.toArray.size < 1000 := by have := hI.len.2; rw [List.size_toArray]; omega
    with_reducible show wpAny _ _ _ _ _ _
    k_fold
    k_steps
    show wpAny _ _ _ _ _ _
    by_cases c1 : i < vs.length
    case neg =>
      have e1 : i = xs.length := by have := hI.hi; omega
      refine idx_out (hH _) (Fr.lst F₁ hE) (by omega) (by have := hI.hi; omega) (fun h' tk e X => ?_) (by with_unfolding_all rfl)
      exact ⟨e, rfl, .inl (xf_of X ⟨_, _, rfl⟩ (SameUp.refl _) Fs F₁ N₁ ⟨i, j, vM, vU, eM, eU, rfl, ⟨ex, ac, ⟨ti, hi⟩, ⟨tj, hj⟩, mi, un⟩, hI, .inl e1⟩ (hap _ _ _ _) fun f => f.elim)⟩
    case pos =>
      have hv : vs[i]? = some vs[i] := List.getElem?_eq_getElem c1
      generalize vs[i] = v at hv
      refine hide fun hGoal => ?_
      obtain ⟨x, hx, rx⟩ := rE.get hv
      refine hGoal ?_
      clear hGoal
      refine idx_in (Fr.lst F₁ hE) (by omega) hv ?_ (by with_unfolding_all rfl)
      k_steps
      rename_i F₂ N₂
      show wpAny _ _ _ _ _ _
      by_cases c2 : j < us.length
      case neg =>
        have e2 : j = ys.length := by have := hI.hj; omega
        refine idx_out (hH _) (Fr.lst F₂ hA) (by omega) (by have := hI.hj; omega) (fun h' tk e X => ?_) (by with_unfolding_all rfl)
        exact ⟨e, rfl, .inl (xf_of X ⟨_, _, rfl⟩ (SameUp.refl _) Fs F₂ N₂ ⟨i, j, vM, vU, eM, eU, rfl, ⟨ex, ac, ⟨ti, hi⟩, ⟨tj, hj⟩, mi, un⟩, hI, .inr e2⟩ (hap _ _ _ _) fun f => f.elim)⟩
      case pos =>
        have hv' : us[j]? = some us[j] := List.getElem?_eq_getElem c2
        generalize us[j] = v' at hv'
        refine hide fun hGoal => ?_
        obtain ⟨y, hy, ry⟩ := rA.get hv'
        refine hGoal ?_
        clear hGoal
        refine idx_in (Fr.lst F₂ hA) (by omega) hv' ?_ (by with_unfolding_all rfl)
        refine hide fun hGoal => ?_
        obtain ⟨cLt, cGt, _⟩ := hcmp v x v' y rx ry
        refine hGoal ?_
        clear hGoal
        k_steps
        refine cLt _ _ _ _ _ _ (Fr.keep (by k_asm)) hu2 ?_
        have hCE : ∀ k v'', vs[k]? = some v'' → CmpAt .Eq hb v'' v (eqAt eq xs x k) := fun k v'' hk => by
          refine hide fun hGoal => ?_
          obtain ⟨z, hz, rz⟩ := rE.get hk
          refine hGoal ?_
          clear hGoal
          have := (hcmp v'' z v x rz rx).2.2
          rwa [show eqAt eq xs x k = eq z x from by unfold eqAt; rw [hz]]
        have hCA : ∀ k v'', us[k]? = some v'' → CmpAt .Eq hb v'' v' (eqAt eq ys y k) := fun k v'' hk => by
          refine hide fun hGoal => ?_
          obtain ⟨z, hz, rz⟩ := rA.get hk
          refine hGoal ?_
          clear hGoal
          have := (hcmp v'' z v' y rz ry).2.2
          rwa [show eqAt eq ys y k = eq z y from by unfold eqAt; rw [hz]]
        have hlx : i < xs.length := (List.getElem?_eq_some_iff.mp hx).1
        have hly : j < ys.length := (List.getElem?_eq_some_iff.mp hy).1
        have hXb := X
        k_steps
        · rename_i c F₃ N₃
          show wpAny _ _ _ _ _ _
          refine wpAny_mono (skip_E (new := sldNew M U (vM ++ [v]) vU (eM + 1) eU) (frs := frs) (i := i + 1) (eqb := eqAt eq xs x) (v := v) (cn := False) (s₀ := s) (frs₀ := frs) hXb hfs ⟨_, _, rfl⟩ (SameUp.refl _) Fs F₃ (by simpa using N₃) (hap _ _ _ _) ex rfl rfl hE (by omega) (by omega) (fun h _ => hH h) (fun f => f.elim) hu2 hCE) (fun f s' hS => ?_) (fun u s' hX => ?_)
          · refine hide fun hGoal => ?_
            obtain ⟨rfl, h', tk', t', i', rfl, F', N', g1, g2, g3, g4⟩ := hS
            refine hGoal ?_
            clear hGoal
            clear F₃ N₃
            k_steps
            exact ⟨h', tk', _, _, _, rfl, F', N', by omega, ⟨i', j, vM ++ [v], vU, eM + 1, eU, rfl, rfl, ⟨ex, ac, ⟨t', rfl⟩, ⟨tj, hj⟩, mi, un⟩, hI.stepM hx hy (by assumption) rx g1 (by omega) g4 (fun _ => g3)⟩⟩
          · refine xe_mono (fun f => f.elim) (fun m new hp => ?_) hX
            refine hide fun hGoal => ?_
            obtain ⟨rfl, ⟨t', rfl⟩, g4⟩ := hp
            refine hGoal ?_
            clear hGoal
            exact ⟨vs.length, j, vM ++ [v], vU, eM + 1, eU, rfl, ⟨ex, ac, ⟨t', rfl⟩, ⟨tj, hj⟩, mi, un⟩, hI.stepM hx hy (by assumption) rx (by omega) (by omega) g4 (fun h => absurd h (by omega)), .inl hl1.symm⟩
        · refine cGt _ _ _ _ _ _ (Fr.keep (by k_asm)) hu2 ?_
          k_steps
          · rename_i c _ _ _ F₃ N₃
            show wpAny _ _ _ _ _ _
            refine wpAny_mono (skip_A (new := sldNew M U vM (vU ++ [v']) eM (eU + 1)) (frs := frs) (i := j + 1) (eqb := eqAt eq ys y) (v := v') (cn := False) (s₀ := s) (frs₀ := frs) hXb hfs ⟨_, _, rfl⟩ (SameUp.refl _) Fs F₃ (by simpa using N₃) (hap _ _ _ _) ac rfl rfl hA (by omega) (by omega) (fun h _ => hH h) (fun f => f.elim) hu2 hCA) (fun f s' hS => ?_) (fun u s' hX => ?_)
            · refine hide fun hGoal => ?_
              obtain ⟨rfl, h', tk', t', j', rfl, F', N', g1, g2, g3, g4⟩ := hS
              refine hGoal ?_
              clear hGoal
              clear F₃ N₃
              k_steps
              exact ⟨h', tk', _, _, _, rfl, F', N', by omega, ⟨i, j', vM, vU ++ [v'], eM, eU + 1, rfl, rfl, ⟨ex, ac, ⟨ti, hi⟩, ⟨t', rfl⟩, mi, un⟩, hI.stepU hx hy (by assumption) (by assumption) ry g1 (by omega) g4 (fun _ => g3)⟩⟩
            · refine xe_mono (fun f => f.elim) (fun m new hp => ?_) hX
              refine hide fun hGoal => ?_
              obtain ⟨rfl, ⟨t', rfl⟩, g4⟩ := hp
              refine hGoal ?_
              clear hGoal
              exact ⟨i, us.length, vM, vU ++ [v'], eM, eU + 1, rfl, ⟨ex, ac, ⟨ti, hi⟩, ⟨t', rfl⟩, mi, un⟩, hI.stepU hx hy (by assumption) (by assumption) ry (by omega) (by omega) g4 (fun h => absurd h (by omega)), .inr hl2.symm⟩
          · show wpAny _ _ _ _ _ _
            rename_i F₃ N₃
            have hm₃ := (⟨_, rfl, F₃⟩ : ∃ m₃, m₃ = _ ∧ Fr hb L' _ m₃)
            refine hide fun hGoal => ?_
            obtain ⟨m₃, em, F₃'⟩ := hm₃
            refine hGoal ?_
            clear hGoal
            clear F₃
            have ex₃ : m₃ (Str.ofString "expected") = some (.ref E1) := by rw [em]; exact ex
            have ac₃ : m₃ (Str.ofString "actual") = some (.ref A1) := by rw [em]; exact ac
            have mi₃ : m₃ (Str.ofString "missing") = some (.ref M) := by rw [em]; exact mi
            have un₃ : m₃ (Str.ofString "unexpected") = some (.ref U) := by rw [em]; exact un
            have e₃ : m₃ (Str.ofString "e") = some v := by rw [em]; rfl
            have a₃ : m₃ (Str.ofString "a") = some v' := by rw [em]; rfl
            have i₃ : ∃ t, m₃ (Str.ofString "i") = some (.int ((i + 1 : Nat) : Int) t) := by rw [em]; exact ⟨_, rfl⟩
            have j₃ : m₃ (Str.ofString "j") = some (.int (j : Nat) tj) := by rw [em]; exact hj
            clear em
            refine hide fun hGoal => ?_
            obtain ⟨t₃, i₃⟩ := i₃
            refine hGoal ?_
            clear hGoal
            refine' try_fin (cn := True) (cn' := False) (Pst := fun m' new' => new' = sldNew M U vM vU eM eU ∧ (∃ t', m' = upd m₃ (Str.ofString "i") (.int (vs.length : Nat) t')) ∧ ∀ k, i + 1 ≤ k → k < vs.length → eqAt eq xs x k = true) (frs₀ := frs) (s₀ := s) (Nx := SkipN hb L' s m₃ (Str.ofString "i") (sldNew M U vM vU eM eU ++ frs) (eqAt eq xs x) (i + 1) vs.length .next) (Pst' := SldP lt eq (R hb) xs ys E1 A1 M U) hfs rfl ?fb ?fp ?fr
            case fb =>
              refine wpAny_execs_cons (wpAny_mono (skip_E (new := sldNew M U vM vU eM eU) (frs := frs) (i := i + 1) (eqb := eqAt eq xs x) (v := v) (cn := True) (ctx := .none) (s₀ := s) (frs₀ := frs) hXb hfs ⟨_, _, rfl⟩ (SameUp.refl _) Fs F₃' N₃ (hap _ _ _ _) ex₃ i₃ e₃ hE (by omega) (by omega) (fun h _ => hH h) (fun f => rfl) hu2 hCE) (fun f s' hS => ?_) (fun u s' hX => hX))
              obtain rfl : f = .next := hS.1
              exact wpAny_execs_nil ⟨rfl, hS⟩
            case fp =>
              intro s₁ hS
              refine hide fun hGoal => ?_
              obtain ⟨-, h', tk', t', i', rfl, F', N', g1, g2, g3, g4⟩ := hS
              refine hGoal ?_
              clear hGoal
              clear F₃' N₃
              have ac₄ : upd m₃ (Str.ofString "i") (.int (i' : Nat) t') (Str.ofString "actual") = some (.ref A1) := ac₃
              have j₄ : upd m₃ (Str.ofString "i") (.int (i' : Nat) t') (Str.ofString "j") = some (.int (j : Nat) tj) := j₃
              k_steps
              rename_i F₅ N₅
              show wpAny _ _ _ _ _ _
              refine wpAny_mono (skip_A (new := sldNew M U vM vU eM eU) (frs := frs) (i := j + 1) (eqb := eqAt eq ys y) (v := v') (cn := False) (s₀ := s) (frs₀ := frs) hXb hfs ⟨_, _, rfl⟩ (SameUp.refl _) Fs F₅ N₅ (hap _ _ _ _) ac₃ rfl a₃ hA (by omega) (by omega) (fun h _ => hH h) (fun f => f.elim) hu2 hCA) (fun f s' hS => ?_) (fun u s' hX => ?_)
              · refine hide fun hGoal => ?_
                obtain ⟨rfl, h', tk', tj', j', rfl, F', N', q1, q2, q3, q4⟩ := hS
                refine hGoal ?_
                clear hGoal
                clear F₅ N₅
                refine wpAny_execs_nil ⟨rfl, ?_⟩
                k_steps
                exact ⟨h', tk', _, _, _, rfl, F', N', by omega, ⟨i', j', vM, vU, eM, eU, rfl, rfl, ⟨ex₃, ac₃, ⟨t', rfl⟩, ⟨tj', rfl⟩, mi₃, un₃⟩, hI.stepB hx hy (by assumption) (by assumption) g1 (by omega) g4 (fun _ => g3) q1 (by omega) q4 (fun _ => q3)⟩⟩
              · refine xe_mono (fun f => f.elim) (fun m new hp => ?_) hX
                refine hide fun hGoal => ?_
                obtain ⟨rfl, ⟨tj', rfl⟩, q4⟩ := hp
                refine hGoal ?_
                clear hGoal
                exact ⟨i', us.length, vM, vU, eM, eU, rfl, ⟨ex₃, ac₃, ⟨t', rfl⟩, ⟨tj', rfl⟩, mi₃, un₃⟩, hI.stepB hx hy (by assumption) (by assumption) g1 (by omega) g4 (fun _ => g3) (by omega) (by omega) q4 (fun h => absurd h (by omega)), .inr hl2.symm⟩
            case fr =>
              intro e s₁ hX
              refine hide fun hGoal => ?_
              obtain ⟨oe, evs, h, tk, m, new, frs', tb, ot, rfl, su, Fs', ⟨rfl, ⟨t', rfl⟩, g4⟩, ap, F', hc, hd, sz, h2, N', h1, T1, n1, n2, n3⟩ := hX
              refine hGoal ?_
              clear hGoal
              clear F₃' N₃
              have ac₄ : upd m₃ (Str.ofString "i") (.int (vs.length : Nat) t') (Str.ofString "actual") = some (.ref A1) := ac₃
              have j₄ : upd m₃ (Str.ofString "i") (.int (vs.length : Nat) t') (Str.ofString "j") = some (.int (j : Nat) tj) := j₃
              k_steps
              rename_i F₅ N₅
              show wpAny _ _ _ _ _ _
              refine wpAny_mono (skip_A (new := (e, oe) :: (tb, ot) :: sldNew M U vM vU eM eU) (frs := frs') (ctx := .ref e) (i := j + 1) (eqb := eqAt eq ys y) (v := v') (cn := False) (s₀ := s) (frs₀ := frs) hXb hfs ⟨_, _, rfl⟩ su Fs' F₅ N₅ (fun p hp hm => ?_) ac₃ rfl a₃ hA (by omega) (by omega) (fun h N => .inr ⟨e, oe, evs, rfl, (N _ (.head _)).1, hd, h2 trivial, rfl⟩) (fun f => f.elim) hu2 hCA) (fun f s' hS => ?_) (fun u s' hX => ?_)
              · rcases List.mem_cons.mp hp with rfl | hp
                · refine hide fun hGoal => ?_
                  obtain ⟨q, hq, e'⟩ := List.mem_map.mp hm
                  refine hGoal ?_
                  clear hGoal
                  exact (n3 q hq).2 e'
                rcases List.mem_cons.mp hp with rfl | hp
                · refine hide fun hGoal => ?_
                  obtain ⟨q, hq, e'⟩ := List.mem_map.mp hm
                  refine hGoal ?_
                  clear hGoal
                  exact (n3 q hq).1 e'
                exact (ap p hp).1 hm
              · refine hide fun hGoal => ?_
                obtain ⟨rfl, h', tk', tj', j', rfl, F', N', q1, q2, q3, q4⟩ := hS
                refine hGoal ?_
                clear hGoal
                clear F₅ N₅
                refine wpAny_execs_nil ⟨rfl, ?_⟩
                refine ⟨oe, evs, h', tk', _, sldNew M U vM vU eM eU, frs', tb, ot, rfl, su, Fs', ?_, ap, F', hc, hd, sz, fun f => f.elim, N', h1, T1, n1, n2, n3⟩
                exact ⟨vs.length, j', vM, vU, eM, eU, rfl, ⟨ex₃, ac₃, ⟨t', rfl⟩, ⟨tj', rfl⟩, mi₃, un₃⟩, hI.stepB hx hy (by assumption) (by assumption) (by omega) (by omega) g4 (fun h => absurd h (by omega)) q1 (by omega) q4 (fun _ => q3), .inl hl1.symm⟩
              · refine xe_sub (fun m new hp => ?_) hX
                refine hide fun hGoal => ?_
                obtain ⟨rfl, ⟨tj', rfl⟩, q4⟩ := hp
                refine hGoal ?_
                clear hGoal
                exact ⟨_, fun p hp => .tail _ (.tail _ hp), ⟨vs.length, us.length, vM, vU, eM, eU, rfl, ⟨ex₃, ac₃, ⟨t', rfl⟩, ⟨tj', rfl⟩, mi₃, un₃⟩, hI.stepB hx hy (by assumption) (by assumption) (by omega) (by omega) g4 (fun h => absurd h (by omega)) (by omega) (by omega) q4 (fun h => absurd h (by omega)), .inr hl2.symm⟩⟩
  case suite =>
    intro e s₁ H
    refine hide fun hGoal => ?_
    obtain ⟨oe, evs, h, tk, m, new, frs', tb, ot, rfl, su, Fs', hP, ap, F', hc, hd, sz, h2, N', h1, T1, n1, n2, n3⟩ := H
    refine hGoal ?_
    clear hGoal
    refine hide fun hGoal => ?_
    obtain ⟨i, j, vM, vU, eM, eU, rfl, ⟨ex, ac, ⟨ti, hi⟩, ⟨tj, hj⟩, mi, un⟩, hI, hend⟩ := hP
    refine hGoal ?_
    clear hGoal
    have N₅ : News hb L' h ((U, W.listOf vU.toArray eU) :: (M, W.listOf vM.toArray eM) :: frs') := News.perm N' (fun p hp => by
      rcases List.mem_cons.mp hp with rfl | hp
      · exact .tail _ (.tail _ (.head _))
      rcases List.mem_cons.mp hp with rfl | hp
      · exact .tail _ (.tail _ (.tail _ (.head _)))
      · exact .tail _ (.tail _ (.tail _ (.tail _ hp))))
    have hvM : vM.toArray.size < 1000 := by have := hI.len.1; rw [List.size_toArray]; omega
    have hvU : vU.toArray.size < 1000 := by have := hI.len.2; rw [List.size_toArray]; omega
    have hMf' : ∀ p ∈ frs', p.1 ≠ M := fun p hp q => (ap _ (.tail _ (.head _))).1 (List.mem_map.mpr ⟨p, hp, q⟩)
    have hUf' : ∀ p ∈ frs', p.1 ≠ U := fun p hp q => (ap _ (.head _)).1 (List.mem_map.mpr ⟨p, hp, q⟩)
    have hneUM : U ≠ M := fun q => by rw [q] at hUM'; exact Nat.lt_irrefl _ hUM'
    clear N' F₁ N₁ hUM
    have hfin := hI.fin rE rA hend
    rw [List.size_toArray] at hvM hvU
    with_reducible show wpAny _ _ _ _ _ _
    k_fold
    k_steps
    rename_i F₆ N₆
    have hs1 : h.objs.size + 1 ≠ M := apart_new 1 N₅ (.tail _ (.head _))
    have hs2 : h.objs.size + 1 ≠ U := apart_new 1 N₅ (.head _)
    refine extend_in (own := [(h.objs.size + 1, _), (U, _)]) (rest := frs') (ys := vM) F₆ N₆ (fun p hp => ?_) hMf' (N₆ _ (.head _)).1 (fun h' n' F₇ N₇ => ?_) (hsz := ?_)
    · rcases List.mem_cons.mp hp with rfl | hp
      · exact hs1
      · rw [List.mem_singleton.mp hp]; exact hneUM
    rotate_left
    · have := slicePick_size_le vs.toArray (some (i : Int)) none none
      rw [List.size_toArray] at this
      size_fits
    rw [slicePick_from', List.toList_toArray, List.toList_toArray] at N₇
    replace N₇ : News hb L' h' ((U, W.listOf vU.toArray eU) :: (M, W.listOf (vM ++ vs.drop i).toArray n') :: frs') := News.perm N₇ (fun p hp => .tail _ hp)
    clear F₆ N₆ N₅ F'
    k_steps
    rename_i F₆ N₆
    refine extend_in (own := [(_, _)]) (rest := (M, W.listOf (vM ++ vs.drop i).toArray n') :: frs') (ys := vU) F₆ N₆ (fun p hp => ?_) (fun p hp => ?_) (N₆ _ (.head _)).1 (fun h'' n'' F₈ N₈ => ?_) (hsz := ?_)
    · rw [List.mem_singleton.mp hp]; exact apart_new 1 N₇ (.head _)
    · rcases List.mem_cons.mp hp with rfl | hp
      · exact Ne.symm hneUM
      · exact hUf' p hp
    rotate_left
    · have := slicePick_size_le us.toArray (some (j : Int)) none none
      rw [List.size_toArray] at this
      size_fits
    rw [slicePick_from', List.toList_toArray, List.toList_toArray] at N₈
    replace N₈ : News hb L' h'' ((U, W.listOf (vU ++ us.drop j).toArray n'') :: (M, W.listOf (vM ++ vs.drop i).toArray n') :: frs') := News.perm N₈ (fun p hp => .tail _ hp)
    clear F₆ N₆ N₇ F₇
    k_steps
    show wpAny _ _ (execs [Stmt.Return _ _] _) _ _ _
    k_steps
    rename_i T hT FT NT lT
    refine hret _ hT tk frs' su Fs' (fun p hp => (NT p (.tail _ (.tail _ (.tail _ hp)))).1) FT.keep ?_
    have w0 : hb.StaysIn hT := FT.keep
    have hfr0 : ∀ D, (∀ p ∈ frs', p.1 ≠ D) → ∀ p ∈ frs, p.1 ≠ D := fun D k p hp => by
      refine hide fun hGoal => ?_
      obtain ⟨sl, hq⟩ := SameUp.back su p hp
      refine hGoal ?_
      clear hGoal
      have := k _ hq
      exact this
    have hTf : ∀ p ∈ frs', p.1 ≠ T := fun p hp => Nat.ne_of_lt (allLt_all lT.2.2 p hp)
    refine ⟨T, M, U, vM ++ vs.drop i, vU ++ us.drop j, n', n'', rfl, (NT _ (.head _)).1, (NT _ (.tail _ (.tail _ (.head _)))).1, (NT _ (.tail _ (.head _))).1, ⟨(NT _ (.head _)).2.2, hfr0 _ hTf⟩, ⟨(NT _ (.tail _ (.tail _ (.head _)))).2.2, hfr0 _ hMf'⟩, ⟨(NT _ (.tail _ (.head _))).2.2, hfr0 _ hUf'⟩, hfin.1.mono fun v x r => hR _ _ _ _ w0 r, hfin.2.mono fun v x r => hR _ _ _ _ w0 r⟩
end PartP9

section PartEnt
noncomputable def DoesW (w : World) (f : Addr) (kd ku : Nat) (vs : List Value) (Pre : Heap → Prop) (Post : Value → Heap → Heap → Prop) : Prop :=
  ∀ (mean : ExcName → Option Value) (mg mb : Str → Option Value) (dp un : Nat) (gd : Option (List Code)) (cn : Str) (cs : Scope) (a : Addr) (ccd : Value) (cl : List (Str × Addr)) (outer : List Env)
    (h₀ : Heap) (L : Addr) (m : Str → Option Value) (s : Shared) (Q E : Value → Shared → Prop),
    Fr h₀ L s.heap m → (hd.heap_39 w.params).In h₀ → Tp mean mg mb h₀ → cs.kind = .function → dp + kd < recursionLimit → un + ku < cLine → Pre s.heap →
    (∀ r h' tk', s.heap.StaysIn h' → Post r s.heap h' → Q r { s with heap := h', toks := tk' }) →
    wpAny (model PySem.Challenge.rw_il0061_01.row.prog w) (ktrTop dp un gd cn cs L a ccd cl outer) (call (.ref f) vs) Q E s
theorem DoesW.use {w : World} {f : Addr} {kd ku : Nat} {vs : List Value} {Pre : Heap → Prop} {Post : Value → Heap → Heap → Prop} (D : DoesW w f kd ku vs Pre Post)
    {mean : ExcName → Option Value} {mg mb : Str → Option Value} {dp un : Nat} {gd : Option (List Code)} {cn : Str} {cs : Scope} {a : Addr} {ccd : Value} {cl : List (Str × Addr)} {outer : List Env}
    {h₀ : Heap} {L : Addr} {m : Str → Option Value} {s : Shared} {Q E : Value → Shared → Prop} {news : List (Addr × Obj)}
    (F : Fr h₀ L s.heap m) (X : (hd.heap_39 w.params).In h₀) (N : News h₀ L s.heap news) (T : Tp mean mg mb h₀) (hk : cs.kind = .function) (hd : dp + kd < recursionLimit) (hu : un + ku < cLine)
    (hp : Pre s.heap) (h : ∀ r h' tk', Fr h₀ L h' m → News h₀ L h' news → s.heap.StaysIn h' → Post r s.heap h' → Q r { s with heap := h', toks := tk' }) :
    wpAny (model PySem.Challenge.rw_il0061_01.row.prog w) (ktrTop dp un gd cn cs L a ccd cl outer) (call (.ref f) vs) Q E s :=
  D mean mg mb dp un gd cn cs a ccd cl outer h₀ L m s Q E F X T hk hd hu hp fun r h' tk' k p => h r h' tk' (F.kept k) (N.grown k) k p
section
variable {prog : Program} {w : World} {A : Around} {s : Shared} {h₀ : Heap} {L : Addr} {m : Str → Option Value} {K : Frag}
  {Q E : Value → Shared → Prop} {name qual : Str} {params : Arguments} {body : List Stmt} {scope : Scope} {dV kV doc pm cdv ct oc : Value} {an od : Option Addr} {osl : Array (Option Value)} {f : Addr} {args : List Value} {binds : List (Str × Value)}
  {p : Program} {loose : List Str} {mean : ExcName → Option Value} {mg mb : Str → Option Value}

theorem enterC (F : Fr h₀ L s.heap m) (X : K.In h₀) (T : Top p loose mean mg mb h₀)
    (ho : K.lookup f = some ⟨oc, od, .func (fnOf name qual params body scope dV kV doc pm an cdv ct), osl⟩) (hcd : codeIn K cdv qual = true) (hroom : A.depth < recursionLimit)
    (hbind : BindsTo s (fnOf name qual params body scope dV kV doc pm an cdv ct) ⟨args, []⟩ binds) (hkind : (binds.all fun y => scope.names.lookup y.1 == some .local || scope.names.lookup y.1 == some .cell) = true)
    (hnd : ((cellsFrom 0 scope.names []).map (·.1)).Nodup)
    (h : ∀ g L' h₁ tk cells, g = s.heap → Fr g L' h₁ (bindL (envOfC qual scope L' f cdv).kindOf binds fun _ => none) → News g L' h₁ cells →
      CellsAre (bindC (envOfC qual scope L' f cdv).kindOf binds fun _ => none) (cellsFrom (L' + 1) scope.names []) cells → K.In g → Top p loose mean mg mb g →
      wpAny (model prog w) (A.deeper (envOfC qual scope L' f cdv)) (execs body (envOfC qual scope L' f cdv))
        (fun fl s' => Q (match fl with | .ret v => v | _ => .none) s') (fun _ _ => False) { s with heap := h₁, toks := tk })
    (hco : scope.isCoroutine = false) (hgen : scope.isGenerator = false) (hk : scope.kind = .function) : wpAny (model prog w) A (call (.ref f) args) Q E s := by
  refine wpAny_call (codeAny_call_function hroom (X.keeps F.keep _ _ ho) rfl hco hgen rfl (codeRec_of (X.keeps F.keep) hcd) (hbind _ _ _ _ ?_))
  refine wpAny_newFunctionEnv_cells hk (kindsX hkind _) fun env' he s' x => ?_
  subst he
  refine ⟨(T.nolimit.keeps F.keep).keeps x.toInCall.keep, codeAny_func ?_⟩
  refine hide fun hGoal => ?_
  obtain ⟨h₁, tk, rfl, _⟩ := x.done
  refine hGoal ?_
  clear hGoal
  refine hide fun hGoal => ?_
  obtain ⟨cells, NC, Y⟩ := Cl.news (h₀ := s.heap) (Nat.le_refl _) fun n c hm => ⟨x.cell n c (lookup_of_mem_nodup (cellsFrom_names scope.names 0 (s.heap.objs.size + 1) [] [] rfl ▸ hnd) hm), x.above n c hm⟩
  refine hGoal ?_
  clear hGoal
  exact wpAny_mono (h s.heap _ h₁ tk cells rfl ⟨x.toInCall.ns, x.toInCall.keep, Nat.le_refl _⟩ NC Y (X.keeps F.keep) (T.keeps F.keep)) (fun fl s' hl => hl) fun _ _ y => y.elim
theorem enterIC {hb : Heap} {frs : List (Addr × Obj)} (hfr : ∀ p ∈ frs, s.heap.get? p.1 = some p.2 ∧ hb.get? p.1 = none) (st : hb.StaysIn s.heap) (hz : hb.objs.size ≤ s.heap.objs.size) (X : K.In hb) (T : Top p loose mean mg mb hb)
    (ho : K.lookup f = some ⟨oc, od, .func (fnOf name qual params body scope dV kV doc pm an cdv ct), osl⟩) (hcd : codeIn K cdv qual = true) (hroom : A.depth < recursionLimit)
    (hbind : BindsTo s (fnOf name qual params body scope dV kV doc pm an cdv ct) ⟨args, []⟩ binds) (hkind : (binds.all fun y => scope.names.lookup y.1 == some .local || scope.names.lookup y.1 == some .cell) = true)
    (hnd : ((cellsFrom 0 scope.names []).map (·.1)).Nodup)
    (h : ∀ L' h₁ tk cells, (∀ p ∈ frs, p.1 < L') → Fr hb L' h₁ (bindL (envOfC qual scope L' f cdv).kindOf binds fun _ => none) → News hb L' h₁ (cells ++ frs) →
      CellsAre (bindC (envOfC qual scope L' f cdv).kindOf binds fun _ => none) (cellsFrom (L' + 1) scope.names []) cells →
      wpAny (model prog w) (A.deeper (envOfC qual scope L' f cdv)) (execs body (envOfC qual scope L' f cdv))
        (fun fl s' => Q (match fl with | .ret v => v | _ => .none) s') (fun _ _ => False) { s with heap := h₁, toks := tk })
    (hco : scope.isCoroutine = false) (hgen : scope.isGenerator = false) (hk : scope.kind = .function) : wpAny (model prog w) A (call (.ref f) args) Q E s := by
  refine wpAny_call (codeAny_call_function hroom (X.keeps st _ _ ho) rfl hco hgen rfl (codeRec_of (X.keeps st) hcd) (hbind _ _ _ _ ?_))
  refine wpAny_newFunctionEnv_cells hk (kindsX hkind _) fun env' he s' x => ?_
  subst he
  refine ⟨(T.nolimit.keeps st).keeps x.toInCall.keep, codeAny_func ?_⟩
  refine hide fun hGoal => ?_
  obtain ⟨h₁, tk, rfl, _⟩ := x.done
  refine hGoal ?_
  clear hGoal
  have hk₁ := x.toInCall.keep
  refine hide fun hGoal => ?_
  obtain ⟨cells, NC, Y⟩ := Cl.news (h₀ := s.heap) (Nat.le_refl _) fun n c hm => ⟨x.cell n c (lookup_of_mem_nodup (cellsFrom_names scope.names 0 (s.heap.objs.size + 1) [] [] rfl ▸ hnd) hm), x.above n c hm⟩
  refine hGoal ?_
  clear hGoal
  refine wpAny_mono (h _ h₁ tk cells (fun p hp => Heap.lt_size (hfr p hp).1) ⟨x.toInCall.ns, fun b o e => hk₁ b o (st b o e), hz⟩ (fun p hp => ?_) Y) (fun fl s' hl => hl) fun _ _ y => y.elim
  rcases List.mem_append.mp hp with hp | hp
  · refine ⟨(NC p hp).1, (NC p hp).2.1, ?_⟩
    cases q : hb.get? p.1 with
    | none => rfl
    | some o => have := st _ _ q; rw [(NC p hp).2.2] at this; cases this
  · exact ⟨hk₁ _ _ (hfr p hp).1, Nat.ne_of_lt (Heap.lt_size (hfr p hp).1), (hfr p hp).2⟩
end
section
variable {prog : Program} {w : World} {A : Around} {E : Value → Shared → Prop} {s : Shared} {env : Env} {h₀ : Heap} {body : List Stmt} {target : Expr} {Q : Flow → Shared → Prop} {σ : Type}
noncomputable def TEndU (h₀ : Heap) (L I : Addr) (oI : Obj) (Led : σ → List (Addr × Obj)) (P : σ → (Str → Option Value) → Prop) (s₁ : Shared) (f : Flow) (s₂ : Shared) : Prop :=
  f = .next ∧ ∃ h' tk' m' a, s₂ = { s₁ with heap := h', toks := tk' } ∧ Fr h₀ L h' m' ∧ News h₀ L h' ((I, oI) :: Led a) ∧ P a m'
theorem TEndU.intro {h₀ : Heap} {L I : Addr} {oI : Obj} {Led : σ → List (Addr × Obj)} {P : σ → (Str → Option Value) → Prop} {s₁ : Shared} {h' : Heap} {tk' : Nat} {m' : Str → Option Value} (a : σ)
    (F : Fr h₀ L h' m') (N : News h₀ L h' ((I, oI) :: Led a)) (p : P a m') : TEndU h₀ L I oI Led P s₁ .next { s₁ with heap := h', toks := tk' } := ⟨rfl, h', tk', m', a, rfl, F, N, p⟩
theorem it_rangeT {n : Nat} {r : Addr} {t u v : Tok} {m₀ : Str → Option Value} (Led : σ → List (Addr × Obj)) (P : Nat → σ → (Str → Option Value) → Prop) (a₀ : σ)
    (hh : A.handled = none) (hr : IsRange s.heap r 0 n 1 t u v) (hn : n < 1000)
    (F : Fr h₀ env.locals s.heap m₀) (N : News h₀ env.locals s.heap (Led a₀)) (hlt : ∀ a, ∀ p ∈ Led a, p.1 < s.heap.objs.size) (hj : P 0 a₀ m₀)
    (hgo : ∀ I v, letOwnedTupleGo target (.ref I) v = pure ())
    (turn : ∀ (s₁ : Shared) I oI i t a m₁ h tk, i < n → P i a m₁ → (∀ p ∈ Led a, p.1 < I) → Fr h₀ env.locals h m₁ → News h₀ env.locals h ((I, oI) :: Led a) →
      wpAny (model prog w) A (assign target env (.int (i : Nat) t)) (fun _ s₃ => wpAny (model prog w) A (execs body env) (TEndU h₀ env.locals I oI Led (P (i + 1)) { s₁ with heap := h, toks := tk }) E s₃) E { s₁ with heap := h, toks := tk })
    (done : ∀ a m₁ h tk, P n a m₁ → Fr h₀ env.locals h m₁ → News h₀ env.locals h (Led a) → Q .next { s with heap := h, toks := tk }) :
    wpAny (model prog w) A (pyIter (.ref r)) (fun it s₂ => LoopAtT prog w A h₀ env target body Q E it s₂) E s := by
  have hsz : Builtin.Range.rangeSize 0 n 1 = (n : Int) := by rw [rangeSize_one]; split <;> omega
  have hsm : Builtin.Range.small 0 n 1 = true := small_one (by decide) (by decide) (by omega) (by omega)
  refine wpAny_pyIter_range hr hsm ?_
  have W := Walks.range (prog := prog) (w := w) hh s.heap.objs.size 0 1 n
  refine ⟨s.heap.objs.size, _, _, n, _, _, m₀, Led a₀, fun i m news => ∃ a, news = Led a ∧ P i a m, rfl, W, (fun hm => absurd F.ns.lt ((List.mem_singleton.mp hm) ▸ Nat.lt_irrefl _)), fun b hb => (List.mem_singleton.mp hb) ▸ next_is_new F,
    fun p hp hw => Nat.ne_of_lt (hlt a₀ p hp) (List.mem_singleton.mp hw), by show IsRangeIter _ _ _ _ _; rw [hsz]; simpa using Heap.get?_push_size _ rfl, F.push _, fun p hp => ⟨Heap.get?_push_of_some _ (N p hp).1, (N p hp).2⟩, fun i s' v Q' _ q => wpAny_of_eq (hgo _ _) q, ⟨a₀, rfl, hj⟩, ?_, ?_⟩
  · rintro i v m₁ news₁ ⟨h, gens, drawn, tk, os⟩ own hi ⟨t', rfl⟩ ⟨a, rfl, hP⟩ hoff hof hoh hin hst₁ F₁ N₁
    refine hide fun hGoal => ?_
    obtain ⟨oI, hoI⟩ : ∃ oI, h.get? s.heap.objs.size = some oI := ⟨_, hst₁⟩
    refine hGoal ?_
    clear hGoal
    have mI : (s.heap.objs.size, oI) ∈ own := hin _ (.head _) (next_is_new F) _ hoI
    have N₂ : News h₀ env.locals h ((s.heap.objs.size, oI) :: Led a) := fun p hp => N₁ p (by
      rcases List.mem_cons.mp hp with rfl | hp
      · exact List.mem_append_left _ mI
      · exact List.mem_append_right _ hp)
    have e : (0 + (i : Int) * 1) = (i : Nat) := by omega
    rw [e]
    refine wpAny_mono (turn ⟨h, gens, drawn, tk, os⟩ _ _ i t' a m₁ h tk hi hP (fun q hq => hlt a q hq) F₁ N₂) (fun _ s₃ q => wpAny_mono q (fun f s₂ t => ?_) fun _ _ e => e) fun _ _ e => e
    refine hide fun hGoal => ?_
    obtain ⟨rfl, h', tk', m', a', rfl, F', N', p'⟩ := t
    refine hGoal ?_
    clear hGoal
    refine ⟨rfl, h', tk', m', Led a', rfl, F', fun p hp => ?_, fun p hp hw => Nat.ne_of_lt (hlt a' p hp) (List.mem_singleton.mp hw), a', rfl, p'⟩
    rcases List.mem_append.mp hp with hp | hp
    · have e1 := List.mem_singleton.mp (hof p hp)
      have : p = (s.heap.objs.size, oI) := Prod.ext e1 (Option.some.inj ((hoh p hp).symm.trans (e1.symm ▸ hoI)))
      rw [this]
      exact N' _ (.head _)
    · exact N' p (.tail _ hp)
  · rintro h' tk m' news' F' N' _ ⟨a, rfl, p⟩
    exact done a m' h' tk p F' N'
end
end PartEnt

section PartLm
section
variable {prog : Program} {w : World} {A : Around} {E : Value → Shared → Prop} {s : Shared}
theorem len_L {l : Addr} {vs : List Value} {Q : Value → Shared → Prop} (hl : s.heap.IsList l vs.toArray) (hfit : vs.length < 2 ^ 62)
    (h : Q (.int (vs.length : Nat) (s.toks + 1)) { s with toks := s.toks + 1 + 1 }) : wpAny (model prog w) A (call (.builtin "len") [.ref l]) Q E s := by
  refine len_list hl (by rw [List.size_toArray]; omega) ?_
  rw [List.size_toArray]
  exact h
theorem item_L {value slice : PySem.Expr} {la : Addr} {vs : List Value} {k : Int} {j : Nat} {u : Tok} {v : Value} {Q : Value → Shared → Prop} (hl : s.heap.IsList la vs.toArray) (hj : k = (j : Nat)) (hhi : j < 2 ^ 62) (hx : vs[j]? = some v) (h : Q v s)
    (hs : subscripted slice false (.ref la) (.int k u) = operate [.ref la, .int k u] (getItem (.ref la) (.int k u))) :
    wpAny (model prog w) A (subscriptTail value slice (.ref la) (.int k u)) Q E s := by
  subst hj
  exact idx_in hl hhi hx h hs
theorem nameQ {env : Env} {g : Heap} {C : Addr} {m : Str → Option Value} {x : Str} {pos : Pos} {v : Value} {Q : Value → Shared → Prop} (F : Fr g C s.heap m) (hC : env.locals = C) (hv : m x = some v) (h : Q v s) (hk : env.scope.kind = .function) (hx : env.kindOf x = some .local) (hd : (x == ("__debug__" : Str)) = false) :
    wpAny (model prog w) A (eval (.Name x pos) env) Q E s := by
  subst hC
  exact wpAny_Name (wpAny_loadName_local hk hx F.ns hv h) hd
end
end PartLm

section PartCw
section
variable {prog : Program} {w : World} {A : Around} {E : Value → Shared → Prop} {env : Env} {s : Shared} {h₀ : Heap} {m : Str → Option Value} {news : List (Addr × Obj)}
  {scope : Scope} {cl : List (Str × Addr)} {x : Str} {ifs : List Expr} {elt : Expr}
noncomputable def TestEnd (g : Heap) (C : Addr) (m₃ : Str → Option Value) (led : List (Addr × Obj)) (s₃ : Shared) (b ok : Bool) (s₄ : Shared) : Prop :=
  ok = b ∧ ∃ h tk led', s₄ = { s₃ with heap := h, toks := tk } ∧ Fr g C h m₃ ∧ News g C h led' ∧ ∀ q ∈ led, q ∈ led'
noncomputable def EltEnd (g : Heap) (C : Addr) (m₃ : Str → Option Value) (led : List (Addr × Obj)) (s₃ : Shared) (F : Value → List (Addr × Obj) → Prop) (y : Value) (s₄ : Shared) : Prop :=
  ∃ h tk own, s₄ = { s₃ with heap := h, toks := tk } ∧ Fr g C h m₃ ∧ News g C h (own ++ led) ∧ (∀ q ∈ own, ∀ r ∈ led, r.1 ≠ q.1) ∧ F y own
structure TurnW (prog : Program) (w : World) (A : Around) (env : Env) (scope : Scope) (cl : List (Str × Addr)) (x : Str) (ifs : List Expr) (elt : Expr) (h₀ : Heap) (news : List (Addr × Obj))
    (Pv : Value → Prop) (p : Value → Bool) (F : Value → Value → List (Addr × Obj) → Prop) : Prop where
  tests : ∀ g C rest v s₃ m₃ E', Pv v → h₀.StaysIn g → Fr g C s₃.heap m₃ → m₃ x = some v → News g C s₃.heap (news ++ rest) →
    wpAny (model prog w) A (testsOf ifs (compEnvC scope cl C env)) (TestEnd g C m₃ (news ++ rest) s₃ (p v)) E' s₃
  elt : ∀ g C rest v s₃ m₃ E', Pv v → p v = true → h₀.StaysIn g → Fr g C s₃.heap m₃ → m₃ x = some v → News g C s₃.heap (news ++ rest) →
    wpAny (model prog w) A (eval elt (compEnvC scope cl C env)) (EltEnd g C m₃ (news ++ rest) s₃ (F v)) E' s₃

theorem ground_c {H : Heap} {C : Addr} {s₃ : Shared} {m₃ : Str → Option Value} (F : Fr H C s₃.heap m₃) (Fm : Fr h₀ env.locals H m) (N : News h₀ env.locals H news) (N₃ : News h₀ env.locals s₃.heap news) :
    ∃ g rest, h₀.StaysIn g ∧ Fr g C s₃.heap m₃ ∧ News g C s₃.heap (news ++ rest) ∧ ∀ b o, b ≠ C → s₃.heap.get? b = some o → g.get? b = some o ∨ (b, o) ∈ news ++ rest := by
  have nmem : ∀ b o, h₀.get? b = some o → b ∉ news.map (·.1) := fun b o e q => by
    refine hide fun hGoal => ?_
    obtain ⟨p, hp, rfl⟩ := List.mem_map.mp q
    refine hGoal ?_
    clear hGoal
    rw [(N p hp).2.2] at e; cases e
  have hCn : H.get? C = none := by
    cases q : H.get? C with
    | none => rfl
    | some o => exact absurd (Nat.lt_of_lt_of_le (Heap.lt_size q) F.above) (Nat.lt_irrefl _)
  refine ⟨hideAll H (news.map (·.1)), (List.range s₃.heap.objs.size).filterMap (fun b => if b = C then none else if (H.get? b).isSome then none else (s₃.heap.get? b).map fun o => (b, o)), fun b o e => hideAll_get _ (Fm.keep b o e) (nmem b o e),
    ⟨F.ns, fun b o e => F.keep b o (of_hideAll _ e), by rw [hideAll_size]; exact F.above⟩, fun p hp => ?_, fun b o hbC e => ?_⟩
  · rcases List.mem_append.mp hp with hp | hp
    · refine ⟨(N₃ p hp).1, fun q => ?_, hideAll_none _ (List.mem_map_of_mem hp)⟩
      have := (N p hp).1
      rw [q, hCn] at this; cases this
    · refine hide fun hGoal => ?_
      obtain ⟨b, hb, q⟩ := List.mem_filterMap.mp hp
      refine hGoal ?_
      clear hGoal
      by_cases c1 : b = C
      · rw [if_pos c1] at q; cases q
      · rw [if_neg c1] at q
        by_cases c2 : (H.get? b).isSome = true
        · rw [if_pos c2] at q; cases q
        · rw [if_neg c2] at q
          cases r : s₃.heap.get? b with
          | none => rw [r] at q; cases q
          | some o =>
            rw [r] at q
            obtain rfl := Option.some.inj q
            refine ⟨r, c1, ?_⟩
            cases t : (hideAll H (news.map (·.1))).get? b with
            | none => rfl
            | some o' => have := of_hideAll _ t; rw [this] at c2; exact absurd rfl c2
  · cases r : H.get? b with
    | some o' =>
      by_cases hm : b ∈ news.map (·.1)
      · refine hide fun hGoal => ?_
        obtain ⟨p, hp, rfl⟩ := List.mem_map.mp hm
        refine hGoal ?_
        clear hGoal
        have := (N₃ p hp).1
        rw [e] at this
        obtain rfl := Option.some.inj this
        exact .inr (List.mem_append_left _ hp)
      · have := F.keep b o' r
        rw [e] at this
        obtain rfl := Option.some.inj this
        exact .inl (hideAll_get _ r hm)
    | none =>
      refine .inr (List.mem_append_right _ (List.mem_filterMap.mpr ⟨b, List.mem_range.mpr (Heap.lt_size e), ?_⟩))
      rw [if_neg hbC, r, e]
      rfl

theorem turn_of {H : Heap} {Pv : Value → Prop} {p : Value → Bool} {F : Value → Value → List (Addr × Obj) → Prop} (Fm : Fr h₀ env.locals H m) (N : News h₀ env.locals H news) (T : TurnW prog w A env scope cl x ifs elt h₀ news Pv p F) :
    Turn prog w A env scope cl x ifs elt h₀ m news H Pv p F := by
  refine ⟨fun C v s₃ m₃ E' hv F₃ hm Fm₃ N₃ => ?_, fun C v s₃ m₃ E' hv hp F₃ hm Fm₃ N₃ => ?_⟩
  · refine hide fun hGoal => ?_
    obtain ⟨g, rest, st, Fg, Ng, all⟩ := ground_c F₃ Fm N N₃
    refine hGoal ?_
    clear hGoal
    refine wpAny_mono (T.tests g C rest v s₃ m₃ E' hv st Fg hm Ng) (fun ok s₄ h => ?_) fun _ _ e => e
    refine hide fun hGoal => ?_
    obtain ⟨rfl, h, tk, led', rfl, Fh, Nh, sub⟩ := h
    refine hGoal ?_
    clear hGoal
    refine ⟨rfl, h, tk, rfl, fun b o hbC e => ?_, Fh.ns⟩
    rcases all b o hbC e with e' | e'
    · exact Fh.keep b o e'
    · exact (Nh _ (sub _ e')).1
  · refine hide fun hGoal => ?_
    obtain ⟨g, rest, st, Fg, Ng, all⟩ := ground_c F₃ Fm N N₃
    refine hGoal ?_
    clear hGoal
    refine wpAny_mono (T.elt g C rest v s₃ m₃ E' hv hp st Fg hm Ng) (fun y s₄ h => ?_) fun _ _ e => e
    refine hide fun hGoal => ?_
    obtain ⟨h, tk, own, rfl, Fh, Nh, off, hF⟩ := h
    refine hGoal ?_
    clear hGoal
    refine ⟨⟨h, tk, rfl, fun b o hbC e => ?_, Fh.ns⟩, own, hF, fun q hq => ⟨?_, (Nh _ (List.mem_append_left _ hq)).1⟩⟩
    · rcases all b o hbC e with e' | e'
      · exact Fh.keep b o e'
      · exact (Nh _ (List.mem_append_right _ e')).1
    · cases r : s₃.heap.get? q.1 with
      | none => rfl
      | some o =>
        have n := Nh _ (List.mem_append_left _ hq)
        rcases all q.1 o n.2.1 r with e' | e'
        · rw [n.2.2] at e'; cases e'
        · exact (off q hq (q.1, o) e' rfl).elim
end
section
variable {prog : Program} {w : World} {A : Around} {E : Value → Shared → Prop} {env : Env} {s : Shared} {h₀ : Heap} {m : Str → Option Value} {news : List (Addr × Obj)}
  {scope : Scope} {cl : List (Str × Addr)} {x y : Str} {ifs : List Expr} {elt : Expr}
noncomputable def CAtG (prog : Program) (w : World) (A : Around) (E : Value → Shared → Prop) (env : Env) (scope : Scope) (cl : List (Str × Addr)) (x : Str) (ifs : List Expr) (elt : Expr) (y : Str) (py : Pos) (Q : Flow → Shared → Prop) (it : Value) (s₂ : Shared) : Prop :=
  CAt prog w A env scope cl x ifs elt (fun wr n P p F => ∀ D C m' h' tk tr, s₂.heap.get? C = none → D ≠ C → h'.Ns C m' → CDone s₂ wr n P p F D h' tr → (∀ t ∈ tr, ∀ q ∈ t.2.2, q.1 ≠ C) →
    wpAny (model prog w) A (assign (.Name y py) env (.ref D)) (fun _ s₃ => s₃.heap.Ns C m' ∧ ∀ h₃, Heap.SameBut C s₃.heap h₃ → Q .next { s₃ with heap := h₃ }) E { s₂ with heap := h', toks := tk }) it s₂
end
section
variable {α β : Type} {R : Value → α → Prop} {R' : Value → β → Prop}
theorem Reps.consI {v : Value} {x : α} {vs : List Value} {xs : List α} (r : R v x) (h : Reps R vs xs) : Reps R (v :: vs) (x :: xs) := ⟨by simp [h.1], fun k u y hu hy => by
  cases k with
  | zero => simp at hu hy; subst hu hy; exact r
  | succ k => exact h.2 k u y (by simpa using hu) (by simpa using hy)⟩
theorem Reps.consE {v : Value} {x : α} {vs : List Value} {xs : List α} (h : Reps R (v :: vs) (x :: xs)) : R v x ∧ Reps R vs xs := ⟨h.2 0 v x rfl rfl, by have := h.1; simpa using this, fun k u y hu hy => h.2 (k + 1) u y (by simpa using hu) (by simpa using hy)⟩
theorem Reps.filter {p : Value → Bool} {pp : α → Bool} (hp : ∀ v x, R v x → p v = pp x) : ∀ {vs : List Value} {xs : List α}, Reps R vs xs → Reps R (vs.filter p) (xs.filter pp)
  | [], [], _ => Reps.nil
  | v :: vs, x :: xs, h => by
    refine hide fun hGoal => ?_
    obtain ⟨r, h'⟩ := h.consE
    refine hGoal ?_
    clear hGoal
    rw [List.filter_cons, List.filter_cons, hp v x r]
    split
    · exact Reps.consI r (h'.filter hp)
    · exact h'.filter hp
  | [], _ :: _, h => by have := h.1; simp at this
  | _ :: _, [], h => by have := h.1; simp at this
theorem reps_tr {f : α → β} : ∀ {tr : List Tr} {xs : List α}, Reps R (tr.map (·.1)) xs → (∀ t ∈ tr, ∀ x, R t.1 x → R' t.2.1 (f x)) → Reps R' (tr.map (·.2.1)) (xs.map f)
  | [], [], _, _ => Reps.nil
  | t :: tr, x :: xs, h, g => by
    refine hide fun hGoal => ?_
    obtain ⟨r, h'⟩ := Reps.consE (v := t.1) (vs := tr.map (·.1)) h
    refine hGoal ?_
    clear hGoal
    exact Reps.consI (g t (.head _) x r) (reps_tr h' fun t ht => g t (.tail _ ht))
  | [], _ :: _, h, _ => by have := h.1; simp at this
  | _ :: _, [], h, _ => by have := h.1; simp at this
theorem comp_reps {p : Value → Bool} {pp : α → Bool} {f : α → β} {vs : List Value} {xs : List α} {tr : List Tr} (hs : Reps R vs xs) (hp : ∀ v x, R v x → p v = pp x) (h1 : tr.map (·.1) = vs.filter p) (hf : ∀ t ∈ tr, ∀ x, R t.1 x → R' t.2.1 (f x)) :
    Reps R' (tr.map (·.2.1)) ((xs.filter pp).map f) := reps_tr (by rw [h1]; exact hs.filter hp) hf
end
theorem flat_nil {tr : List Tr} (h : ∀ t ∈ tr, t.2.2 = []) : tr.flatMap (·.2.2) = [] := by
  induction tr with
  | nil => rfl
  | cons t tr ih => rw [List.flatMap_cons, h t (.head _), ih fun t ht => h t (.tail _ ht)]; rfl
theorem list_of_get {n : Nat} {vs us : List Value} (hl : us.length = n) (hv : vs.length = n) (h : ∀ (j : Nat) (v : Value), us[j]? = some v → vs[j]? = some v) : us = vs := by
  refine List.ext_getElem? fun i => ?_
  by_cases c : i < us.length
  · rw [List.getElem?_eq_getElem c, h i _ (List.getElem?_eq_getElem c)]
  · rw [List.getElem?_eq_none (by omega), List.getElem?_eq_none (by omega)]
end PartCw

section PartPl
noncomputable def lone (rest row : List Nat) : Nat := ((rest.filter (fun k => !row.contains k)).min?).getD 0
noncomputable def restAt (r : List Nat) : Nat → List Nat
  | 0 => List.range (r.length + 2)
  | i + 1 => (restAt r i).erase (lone (restAt r i) (r.drop i))
noncomputable def loneAt (r : List Nat) (i : Nat) : Nat := lone (restAt r i) (r.drop i)
noncomputable def prsAt (r : List Nat) : Nat → List (Nat × Nat)
  | 0 => []
  | i + 1 => prsAt r i ++ [(loneAt r i, r.getD i 0)]
noncomputable def prs (r : List Nat) : List (Nat × Nat) := prsAt r r.length ++ [((restAt r r.length).getD 0 0, (restAt r r.length).getD 1 0)]

theorem restAt_nodup (r : List Nat) : ∀ i, (restAt r i).Nodup
  | 0 => List.nodup_range
  | i + 1 => (restAt_nodup r i).erase _
theorem restAt_sorted (r : List Nat) : ∀ i, (restAt r i).Pairwise (· < ·)
  | 0 => List.pairwise_lt_range
  | i + 1 => (restAt_sorted r i).sublist List.erase_sublist
theorem restAt_lt (r : List Nat) : ∀ i, ∀ k ∈ restAt r i, k < r.length + 2
  | 0, k, h => List.mem_range.mp h
  | i + 1, k, h => restAt_lt r i k (List.mem_of_mem_erase h)
theorem nodup_len : ∀ (l m : List Nat), l.Nodup → (∀ k ∈ l, k ∈ m) → l.length ≤ m.length
  | [], _, _, _ => Nat.zero_le _
  | a :: l, m, hn, hs => by
    have hn' := List.nodup_cons.mp hn
    have ha := hs a (.head _)
    have ih := nodup_len l (m.erase a) hn'.2 fun k hk => (List.mem_erase_of_ne (fun e : k = a => hn'.1 (e ▸ hk))).mpr (hs k (.tail _ hk))
    rw [List.length_erase_of_mem ha] at ih
    have := List.length_pos_of_mem ha
    rw [List.length_cons]
    omega
theorem lone_spec {rest row : List Nat} (hn : rest.Nodup) (hl : row.length < rest.length) : lone rest row ∈ rest ∧ lone rest row ∉ row ∧ ∀ k ∈ rest, k ∉ row → lone rest row ≤ k := by
  have hex : ∃ k ∈ rest, k ∉ row := by
    refine Classical.byContradiction fun h => ?_
    have := nodup_len rest row hn fun k hk => Classical.byContradiction fun q => h ⟨k, hk, q⟩
    omega
  obtain ⟨k₀, h1, h2⟩ := hex
  have hm : k₀ ∈ rest.filter (fun k => !row.contains k) := List.mem_filter.mpr ⟨h1, by simpa using h2⟩
  unfold lone
  cases e : (rest.filter (fun k => !row.contains k)).min? with
  | none => rw [List.min?_eq_none_iff] at e; rw [e] at hm; cases hm
  | some a =>
    obtain ⟨ha, hb⟩ := List.min?_eq_some_iff.mp e
    obtain ⟨a1, a2⟩ := List.mem_filter.mp ha
    exact ⟨a1, by simpa using a2, fun k k1 k2 => hb k (List.mem_filter.mpr ⟨k1, by simpa using k2⟩)⟩
theorem restAt_len (r : List Nat) : ∀ i, i ≤ r.length → (restAt r i).length + i = r.length + 2
  | 0, _ => by simp [restAt]
  | i + 1, h => by
    have ih := restAt_len r i (by omega)
    have hm := (lone_spec (restAt_nodup r i) (row := r.drop i) (by rw [List.length_drop]; omega)).1
    rw [restAt, List.length_erase_of_mem hm]
    have := List.length_pos_of_mem hm
    omega
theorem loneAt_spec (r : List Nat) {i : Nat} (h : i < r.length) : loneAt r i ∈ restAt r i ∧ loneAt r i ∉ r.drop i ∧ ∀ k ∈ restAt r i, k ∉ r.drop i → loneAt r i ≤ k :=
  lone_spec (restAt_nodup r i) (by have := restAt_len r i (by omega); rw [List.length_drop]; omega)
theorem prsAt_len (r : List Nat) : ∀ i, (prsAt r i).length = i
  | 0 => rfl
  | i + 1 => by rw [prsAt, List.length_append, prsAt_len r i]; rfl
theorem prsAt_keys (r : List Nat) : ∀ i, ∀ p ∈ prsAt r i, p.1 ∉ restAt r i
  | 0, p, h => by cases h
  | i + 1, p, h => by
    rw [prsAt] at h
    rw [restAt]
    rcases List.mem_append.mp h with h | h
    · exact fun q => prsAt_keys r i p h (List.mem_of_mem_erase q)
    · rw [List.mem_singleton.mp h]
      exact fun q => ((restAt_nodup r i).mem_erase_iff.mp q).1 rfl
theorem last_two (r : List Nat) : ∃ a b, restAt r r.length = [a, b] ∧ a < b := by
  have := restAt_len r r.length (Nat.le_refl _)
  have hs := restAt_sorted r r.length
  match h : restAt r r.length, this, hs with
  | [a, b], _, hs => exact ⟨a, b, rfl, by simpa using hs⟩
  | [], e, _ => simp at e
  | [a], e, _ => simp at e; omega
  | a :: b :: c :: l, e, _ => simp at e; omega
end PartPl

section PartNt
noncomputable def RN (v : Value) (k : Nat) : Prop := ∃ t, v = .int (k : Nat) t
noncomputable def RS (v : Value) (x : Str) : Prop := ∃ t, v = .str x t
section
variable {α : Type} {R : Value → α → Prop} {vs us : List Value} {xs ys : List α}
theorem Reps.cons {v : Value} {x : α} (r : R v x) (h : Reps R vs xs) : Reps R (v :: vs) (x :: xs) := ⟨by simp [h.1], fun k u y hu hy => by
  cases k with
  | zero => simp at hu hy; subst hu hy; exact r
  | succ k => exact h.2 k u y (by simpa using hu) (by simpa using hy)⟩
theorem Reps.uncons {v : Value} {x : α} (h : Reps R (v :: vs) (x :: xs)) : R v x ∧ Reps R vs xs := ⟨h.2 0 v x rfl rfl, by have := h.1; simpa using this, fun k u y hu hy => h.2 (k + 1) u y (by simpa using hu) (by simpa using hy)⟩
theorem Reps.eraseIdx (h : Reps R vs xs) (j : Nat) : Reps R (vs.eraseIdx j) (xs.eraseIdx j) := by
  rw [List.eraseIdx_eq_take_drop_succ, List.eraseIdx_eq_take_drop_succ]
  exact (h.take j).append (h.drop (j + 1))
theorem Reps.at (h : Reps R vs xs) {k : Nat} {x : α} (hx : xs[k]? = some x) : ∃ v, vs[k]? = some v ∧ R v x := by
  have hk : k < vs.length := by rw [h.1]; exact (List.getElem?_eq_some_iff.mp hx).1
  exact ⟨vs[k], List.getElem?_eq_getElem hk, h.2 k _ x (List.getElem?_eq_getElem hk) hx⟩
theorem Reps.of_map {β : Type} {R' : Value → β → Prop} {f : α → β} (h : Reps R vs xs) (g : ∀ v x, R v x → R' v (f x)) : Reps R' vs (xs.map f) := h.map g
end
theorem Reps.ints : ∀ {vs : List Value} {r : List Nat}, Reps RN vs r → IntsAre vs (r.map fun k : Nat => (k : Int))
  | [], [], _ => .nil
  | v :: vs, k :: r, h => by
    refine hide fun hGoal => ?_
    obtain ⟨⟨t, rfl⟩, h'⟩ := h.uncons
    refine hGoal ?_
    clear hGoal
    exact .cons _ _ h'.ints
  | [], _ :: _, h => by have := h.1; simp at this
  | _ :: _, [], h => by have := h.1; simp at this
theorem Reps.strs : ∀ {vs : List Value} {r : List Str}, Reps RS vs r → StrsAre vs r
  | [], [], _ => .nil
  | v :: vs, k :: r, h => by
    refine hide fun hGoal => ?_
    obtain ⟨⟨t, rfl⟩, h'⟩ := h.uncons
    refine hGoal ?_
    clear hGoal
    exact .cons _ _ h'.strs
  | [], _ :: _, h => by have := h.1; simp at this
  | _ :: _, [], h => by have := h.1; simp at this
theorem reps_ints : ∀ {vs : List Value} {r : List Nat}, IntsAre vs (r.map fun k : Nat => (k : Int)) → Reps RN vs r
  | _, [], h => by cases h; exact Reps.nil
  | _, k :: r, h => by
    cases h with
    | cons _ _ h' => exact Reps.cons ⟨_, rfl⟩ (reps_ints h')
theorem reps_strs : ∀ {vs : List Value} {r : List Str}, StrsAre vs r → Reps RS vs r
  | _, [], h => by cases h; exact Reps.nil
  | _, k :: r, h => by
    cases h with
    | cons _ _ h' => exact Reps.cons ⟨_, rfl⟩ (reps_strs h')
theorem any_cast (r : List Nat) (k : Nat) : (r.map fun k : Nat => (k : Int)).any (· == (k : Int)) = r.contains k := by
  induction r with
  | nil => rfl
  | cons a r ih =>
    rw [List.map_cons, List.any_cons, ih, List.contains_cons]
    congr 1
    by_cases c : a = k
    · simp [c]
    · have c' : ¬ k = a := fun e => c e.symm
      have : ¬ ((a : Int) = (k : Int)) := by omega
      rw [beq_eq_false_iff_ne.mpr c']
      exact beq_eq_false_iff_ne.mpr this
theorem any_str (r : List Str) (k : Str) : r.any (· == k) = r.contains k := by
  induction r with
  | nil => rfl
  | cons a r ih =>
    rw [List.any_cons, ih, List.contains_cons]
    congr 1
    exact BEq.comm
section
variable {prog : Program} {w : World} {A : Around} {E : Value → Shared → Prop} {s : Shared} {h₀ : Heap} {L : Addr} {m : Str → Option Value} {news own rest : List (Addr × Obj)}
theorem in_N {l : Addr} {vs : List Value} {r : List Nat} {k : Nat} {t : Tok} {Q : Value → Shared → Prop} (hl : s.heap.IsList l vs.toArray) (hi : Reps RN vs r)
    (h : Q (.bool (r.contains k)) s) : wpAny (model prog w) A (compareOp .In (.int (k : Nat) t) (.ref l)) Q E s := in_list_ints hl hi.ints (by rw [any_cast]; exact h)
theorem notin_N {l : Addr} {vs : List Value} {r : List Nat} {k : Nat} {t : Tok} {Q : Value → Shared → Prop} (hl : s.heap.IsList l vs.toArray) (hi : Reps RN vs r)
    (h : Q (.bool (!(r.contains k))) s) : wpAny (model prog w) A (compareOp .NotIn (.int (k : Nat) t) (.ref l)) Q E s := notin_list_ints hl hi.ints (by rw [any_cast]; exact h)
theorem notin_S {l : Addr} {vs : List Value} {r : List Str} {k : Str} {t : Tok} {Q : Value → Shared → Prop} (hl : s.heap.IsList l vs.toArray) (hi : Reps RS vs r)
    (h : Q (.bool (!(r.contains k))) s) : wpAny (model prog w) A (compareOp .NotIn (.str k t) (.ref l)) Q E s := notin_list_strs hl hi.strs (by rw [← any_str] at h; exact h)
theorem min_N {l : Addr} {vs : List Value} {r : List Nat} {Q : Value → Shared → Prop} (F : Fr h₀ L s.heap m) (N : News h₀ L s.heap news) (hl : s.heap.IsList l vs.toArray) (hi : Reps RN vs r) (hne : 0 < r.length) (hh : A.handled = none)
    (h : ∀ h' (t : Tok) tk, Fr h₀ L h' m → News h₀ L h' news → Q (.int ((r.min?.getD 0 : Nat) : Int) t) { s with heap := h', toks := tk }) : wpAny (model prog w) A (call (.builtin "min") [.ref l]) Q E s := by
  refine kso_min F N hl hi.ints (by simpa using hne) hh fun h' M t tk F' N' hM hle => ?_
  refine hide fun hGoal => ?_
  obtain ⟨k, hk, rfl⟩ := List.mem_map.mp hM
  refine hGoal ?_
  clear hGoal
  have e : r.min? = some k := List.min?_eq_some_iff.mpr ⟨hk, fun b hb => by have := hle _ (List.mem_map_of_mem hb); omega⟩
  have := h h' t tk F' N'
  rw [e] at this
  exact this
theorem rem_in {D : Addr} {ys : List Value} {n : Nat} {x : Value} {Q : Value → Shared → Prop} (e : Value → Bool) (he : ∀ y, y ∈ ys → MeetsSeq.EqGives y x (e y)) {j : Nat} {y : Value} (hj : ys[j]? = some y) (hit : e y = true) (hno : ∀ k z, k < j → ys[k]? = some z → e z = false)
    (F : Fr h₀ L s.heap m) (N : News h₀ L s.heap (own ++ (D, listOf ys.toArray n) :: rest)) (hown : ∀ p ∈ own, p.1 ≠ D) (hap : ∀ p ∈ rest, p.1 ≠ D) (hsz : ys.length < 1000)
    (h : ∀ h' n', Fr h₀ L h' m → News h₀ L h' (own ++ (D, listOf (ys.eraseIdx j).toArray n') :: rest) → Q .none { s with heap := h' }) :
    wpAny (model prog w) A (call (.builtin "list.remove") [.ref D, x]) Q E s := by
  have z := N (D, listOf ys.toArray n) (List.mem_append_right _ (.head _))
  have hjl := (List.getElem?_eq_some_iff.mp hj).1
  refine call_meets PySem.F.slot_list_remove ⟨_, z.1, rfl⟩ PySem.F.entry_list_remove (PySem.F.args_list_remove_2 _ _) (MeetsSeq.list_remove D ys.toArray n x e (fun y hy => he y (by simpa using hy)) j (by simpa using hjl) ?_ ?_ (by rw [List.size_toArray, sizeLine_eq]; omega))
    ⟨z.1, h _ _ (F.change (Heap.SameBut.update ..) z.2.1 z.2.2) (kl_turn (its' := (ys.eraseIdx j).toArray) _ N hown hap ?_ ?_)⟩
  · have := (List.getElem?_eq_some_iff.mp hj).2
    simpa [this] using hit
  · intro k hk hkj
    exact hno k _ hkj (by simp)
  · apply Array.toList_inj.mp
    simp [List.eraseIdx_toArray]
  · simp [List.length_eraseIdx, hjl]
    omega
theorem remove_N {D : Addr} {ys : List Value} {r : List Nat} {n k : Nat} {t : Tok} {Q : Value → Shared → Prop} (hi : Reps RN ys r) (hk : k ∈ r)
    (F : Fr h₀ L s.heap m) (N : News h₀ L s.heap (own ++ (D, listOf ys.toArray n) :: rest)) (hown : ∀ p ∈ own, p.1 ≠ D) (hap : ∀ p ∈ rest, p.1 ≠ D) (hsz : ys.length < 1000)
    (h : ∀ h' ys' n', Fr h₀ L h' m → News h₀ L h' (own ++ (D, listOf ys'.toArray n') :: rest) → Reps RN ys' (r.erase k) → Q .none { s with heap := h' }) :
    wpAny (model prog w) A (call (.builtin "list.remove") [.ref D, .int (k : Nat) t]) Q E s := by
  have hlt := List.idxOf_lt_length_of_mem hk
  refine hide fun hGoal => ?_
  obtain ⟨v, hv, t', rfl⟩ := hi.at (List.getElem?_eq_getElem hlt)
  refine hGoal ?_
  clear hGoal
  have hkk : r[r.idxOf k] = k := List.getElem_idxOf hlt
  refine rem_in (isInt k) (fun y hy => eq_isInt _ _ hi.ints y hy) hv (by simp [isInt, hkk]) (fun i z hij hz => ?_) F N hown hap hsz fun h' n' F' N' => h h' _ n' F' N' ?_
  · refine hide fun hGoal => ?_
    obtain ⟨a, ha, t'', rfl⟩ := hi.get hz
    refine hGoal ?_
    clear hGoal
    have : a ≠ k := fun e => by
      subst e
      have := List.not_of_lt_findIdx (p := (· == a)) (xs := r) (i := i) hij
      refine hide fun hGoal => ?_
      obtain ⟨h1, h2⟩ := List.getElem?_eq_some_iff.mp ha
      refine hGoal ?_
      clear hGoal
      simp [h2] at this
    show isInt k (.int (a : Nat) t'') = false
    simp only [isInt, beq_eq_false_iff_ne]
    omega
  · have := hi.eraseIdx (r.idxOf k)
    rwa [← List.erase_eq_eraseIdx_of_idxOf rfl] at this
end
theorem News.absorb {h₀ h h' : Heap} {L D : Addr} {o : Obj} {m : Str → Option Value} {news : List (Addr × Obj)} (F : Fr h₀ L h m) (N : News h₀ L h' news) (hD : h.objs.size ≤ D) (ho : h'.get? D = some o) : News h₀ L h' ((D, o) :: news) := fun p hp => by
  rcases List.mem_cons.mp hp with rfl | hp
  · refine ⟨ho, fun q => Nat.lt_irrefl _ (Nat.lt_of_lt_of_le F.ns.lt (q ▸ hD)), ?_⟩
    cases q : h₀.get? D with
    | none => rfl
    | some x => exact absurd (Nat.lt_of_lt_of_le (Heap.lt_size (F.keep _ _ q)) hD) (Nat.lt_irrefl _)
  · exact N p hp
theorem News.below {h₀ h : Heap} {L D : Addr} {news : List (Addr × Obj)} (N : News h₀ L h news) (hD : h.objs.size ≤ D) : ∀ p ∈ news, @LT.lt Nat _ p.1 D := fun p hp => Nat.lt_of_lt_of_le (Heap.lt_size (N p hp).1) hD
section
variable {prog : Program} {w : World} {A : Around} {E : Value → Shared → Prop} {s : Shared} {h₀ : Heap} {L d : Addr} {m : Str → Option Value} {news : List (Addr × Obj)} {g : Obj → List (Addr × Obj)} {o : Obj} {kvs : List (Int × Value)} {k : Nat} {t : Tok} {v : Value}
theorem in_D {Q : Value → Shared → Prop} (N : News h₀ L s.heap news) (hp : (d, o) ∈ news) (hd : o.IsDictOf (intKind prog w) kvs) (lo : (d == sysModules) = false) (b : Bool) (hb : (valueAt kvs (k : Int)).isSome = b) (h : Q (.bool b) { s with toks := s.toks + 1 }) :
    wpAny (model prog w) A (compareOp .In (.int (k : Nat) t) (.ref d)) Q E s := kda_in (knd := intKind prog w) N hp hd lo (intKind_is prog w _ _) b hb h
theorem get_D {value slice : PySem.Expr} {Q : Value → Shared → Prop} (N : News h₀ L s.heap news) (hp : (d, o) ∈ news) (hd : o.IsDictOf (intKind prog w) kvs) (hl : valueAt kvs (k : Int) = some v) (h : Q v { s with toks := s.toks + 1 })
    (hs : subscripted slice false (.ref d) (.int (k : Nat) t) = operate [.ref d, .int (k : Nat) t] (getItem (.ref d) (.int (k : Nat) t))) (hg : ∀ r, letTemporaryGo value (.ref d) r = pure ()) :
    wpAny (model prog w) A (subscriptTail value slice (.ref d) (.int (k : Nat) t)) Q E s := kda_item (knd := intKind prog w) N hp hd (intKind_is prog w _ _) hl h hs hg
theorem set_D {Q : Unit → Shared → Prop} (F : Fr h₀ L s.heap m) (N : News h₀ L s.heap news) (U : UpdF d o news g) (hd : o.IsDictOf (intKind prog w) kvs) (hsz : kvs.length < 1000)
    (h : ∀ h' o', Fr h₀ L h' m → News h₀ L h' (g o') → o'.IsDictOf (intKind prog w) (stored kvs (k : Int) v) → Q () { s with heap := h', toks := s.toks + 1 }) : wpAny (model prog w) A (setItem (.ref d) (.int (k : Nat) t) v) Q E s :=
  kda_set (knd := intKind prog w) F N U hd (intKind_is prog w _ _) (by rw [sizeLine_eq]; omega) h
end
section
variable {prog : Program} {w : World} {A : Around} {E : Value → Shared → Prop} {s : Shared} {h₀ : Heap} {L l : Addr} {m : Str → Option Value} {news : List (Addr × Obj)}
theorem rev_L {value slice : PySem.Expr} {vs : List Value} {vk : Value} {ops : List Value} {Q : Value → Shared → Prop} (F : Fr h₀ L s.heap m) (N : News h₀ L s.heap news) (hl : s.heap.IsList l vs.toArray) (pk : IsPart vk (some (-1)))
    (h : ∀ D h', Fr h₀ L h' m → News h₀ L h' ((D, listOf vs.reverse.toArray 0) :: news) → (∀ p ∈ news, p.1 < D) → Q (.ref D) { s with heap := h' })
    (hs : subscripted slice false (.ref l) (.ref s.heap.objs.size) = operate ops (getItem (.ref l) (.ref s.heap.objs.size))) (ht : ∀ r, letTemporaryGo value (.ref l) r = pure ()) (hz : vs.length < 1000) :
    wpAny (model prog w) A (subscriptTail value slice (.ref l) (.ref s.heap.objs.size)) Q E { s with heap := s.heap.push { cls := .type "slice", data := .fields #[.none, .none, vk] } } :=
  krv_lit (its := vs.toArray) (zs := vs.reverse) F N hl pk rfl h hs ht (by rw [List.size_toArray, sizeLine_eq]; omega)
end
theorem star_L {prog : Program} {w : World} {A : Around} {E : Value → Shared → Prop} {s : Shared} {h₀ : Heap} {L a : Addr} {m : Str → Option Value} {news : List (Addr × Obj)} {vs : List Value} {n : Nat} {Q : List Value → Shared → Prop} (F : Fr h₀ L s.heap m) (N : News h₀ L s.heap news) (ha : (a, listOf vs.toArray n) ∈ news)
    (hz : vs.length < 1000) (h : ∀ h', Fr h₀ L h' m → News h₀ L h' news → Q vs { s with heap := h' }) : StarOf (model prog w) A E (.ref a) Q s :=
  star_seq (o := listOf vs.toArray n) F N ha rfl rfl (.inl rfl) rfl (by rw [List.size_toArray, sizeLine_eq]; omega) h
theorem Reps.rev {α : Type} {R : Value → α → Prop} : ∀ {vs : List Value} {xs : List α}, Reps R vs xs → Reps R vs.reverse xs.reverse
  | [], [], _ => Reps.nil
  | v :: vs, x :: xs, h => by
    refine hide fun hGoal => ?_
    obtain ⟨r, h'⟩ := h.uncons
    refine hGoal ?_
    clear hGoal
    rw [List.reverse_cons, List.reverse_cons]
    exact h'.rev.snoc r
  | [], _ :: _, h => by have := h.1; simp at this
  | _ :: _, [], h => by have := h.1; simp at this
end PartNt

local macro_rules | `(tactic| walk_at "StarOf ref") => `(tactic| (k_here; k_dflt (refine' star_L ?k1 ?k2 ?m ?z ?_; (case k1 => k_asm); (case k2 => k_asm); (case m => k_mem); (case z => walk_at "mine len"); k_whole); intro h' F' N'; (try k_sweep)))
local macro_rules | `(tactic| walk_at "subscriptTail Name Slice ref ref") => `(tactic| (k_here; (with_reducible show wpAny _ _ (subscriptTail _ (PySem.Expr.Slice none none (some _) _) (Value.ref _) (Value.ref _)) _ _ _); k_dflt (refine' rev_L ?F ?N ?l ?k ?_ ?s ?t ?z; (case F => k_asm); (case N => k_asm); (case l => walk_at "mine list"); (case k => exact IsPart.int _ _); (case s => with_unfolding_all rfl); (case t => kmk_pure); (case z => walk_at "mine len")); intro D' h' F' N' l1; (try k_lt l1); (try k_sweep)))
local macro_rules | `(tactic| walk_at "mine list") => `(tactic| first | (with_reducible assumption) | exact Fr.lst (by k_asm) (by assumption) | exact News.isList (by k_asm) (by k_mem))
local macro_rules | `(tactic| walk_at "call builtin:len") => `(tactic| (k_here; (with_reducible show wpAny _ _ (call (Value.builtin "len") [Value.ref _]) _ _ _); refine' len_L (vs := _) ?hl ?hf ?_; (case hl => walk_at "mine list"); (case hf => walk_at "mine len")))
local macro_rules | `(tactic| walk_at "eval Name") => `(tactic| (k_here; (with_reducible show wpAny _ _ (eval (Expr.Name _ _) (envOfC _ _ _ _ _)) _ _ _); k_dflt (refine' nameX_L ?F ?v ?_ ?a ?b; (case F => k_asm); (case a => rfl); (case b => rfl); (case v => assumption); k_whole)))
local macro_rules | `(tactic| walk_at "eval Name") => `(tactic| (k_here; (with_reducible show wpAny _ _ (eval (Expr.Name _ _) (compEnvC _ _ _ _)) _ _ _); k_dflt (refine' nameQ ?F ?c ?v ?_ ?a ?b ?d; (case F => k_asm); (case c => exact rfl); (case v => assumption); (case a => exact rfl); (case b => exact rfl); (case d => decide); k_whole)))
section PartPa
inductive KVs : List (Int × Value) → List (Nat × Nat) → Prop
  | nil : KVs [] []
  | cons (k p : Nat) (t : Tok) {kvs ps} : KVs kvs ps → KVs (((k : Int), .int (p : Nat) t) :: kvs) ((k, p) :: ps)
theorem KVs.snoc {k p : Nat} {t : Tok} : ∀ {kvs ps}, KVs kvs ps → KVs (kvs ++ [((k : Int), .int (p : Nat) t)]) (ps ++ [(k, p)])
  | _, _, .nil => .cons k p t .nil
  | _, _, .cons a b u h => .cons a b u h.snoc
theorem KVs.len : ∀ {kvs ps}, KVs kvs ps → kvs.length = ps.length
  | _, _, .nil => rfl
  | _, _, .cons a b u h => by simp [h.len]
theorem KVs.any {k : Nat} : ∀ {kvs ps}, KVs kvs ps → (∀ p ∈ ps, p.1 ≠ k) → (kvs.any fun kv => kv.1 = (k : Int)) = false
  | _, _, .nil, _ => rfl
  | _, _, .cons a b u h, hn => by
    have := hn _ (.head _)
    rw [List.any_cons, h.any fun p hp => hn p (.tail _ hp)]
    simp only [Bool.or_false, decide_eq_false_iff_not]
    simp at this
    omega
theorem KVs.stored {k p : Nat} {t : Tok} {kvs ps} (h : KVs kvs ps) (hn : ∀ q ∈ ps, q.1 ≠ k) : KVs (PySem.stored kvs (k : Int) (.int (p : Nat) t)) (ps ++ [(k, p)]) := by
  unfold PySem.stored
  rw [if_neg (by rw [h.any hn]; simp)]
  exact h.snoc
noncomputable def natP (q : Nat → Bool) (v : Value) : Bool := match v with | .int z _ => q z.toNat | _ => false
theorem natP_of {q : Nat → Bool} {v : Value} {k : Nat} (h : RN v k) : natP q v = q k := by
  refine hide fun hGoal => ?_
  obtain ⟨t, rfl⟩ := h
  refine hGoal ?_
  clear hGoal
  simp [natP]
structure AbS where
  oc : Obj
  od : Obj
  vr : List Value
  er : Nat
noncomputable def AbP (w : World) (r : List Nat) (D Rr : Addr) (i : Nat) (a : AbS) (m : Str → Option Value) : Prop :=
  m (Str.ofString "above") = some (.ref D) ∧ m (Str.ofString "rest") = some (.ref Rr) ∧ (∃ v, a.oc.data = .cell v) ∧ Reps RN a.vr (restAt r i) ∧ ∃ kvs, Obj.IsDictOf (intKind PySem.Challenge.rw_il0061_01.row.prog w) a.od kvs ∧ KVs kvs (prsAt r i)
noncomputable def AbovePost (w : World) (r : List Nat) (v : Value) (h h' : Heap) : Prop :=
  ∃ (D : Addr) (o : Obj) (kvs : List (Int × Value)), v = .ref D ∧ h.objs.size ≤ D ∧ h'.get? D = some o ∧ Obj.IsDictOf (intKind PySem.Challenge.rw_il0061_01.row.prog w) o kvs ∧ KVs kvs (prs r) ∧ (D == sysModules) = false
local macro_rules
  | `(tactic| walk_at $k:str) => if ["pyIter ref", "call builtin:min", "call builtin:sum", "setItem ref int", "exec For Name Call cons nil", "eval ListComp", "subscriptTail Name Constant ref int", "call builtin:list.remove", "subscriptTail Name Name ref int", "compareOp NotIn int ref"].contains k.getString then `(tactic| (refine hold_it ?_)) else Lean.Macro.throwUnsupported
set_option maxHeartbeats 8000000 in
theorem d_above (w : World) (R1 : Addr) (vs : List Value) (r : List Nat) (hv : Reps RN vs r) (hn : r.length ≤ 6) : DoesW w 167 6 120 [.ref R1] (fun h => h.IsList R1 vs.toArray) (fun v h h' => AbovePost w r v h h') := by
  have hl : vs.length = r.length := hv.1
  intro mean mg mb dp un gd cn cs a ccd cl outer h₀ L m s Q E F X T hk hd hu hp hret
  k_dflt (refine' enterC (binds := [(Str.ofString "row", .ref R1)]) F X T ?k6 ?k7 ?k8 ?k9 ?kB ?kD ?_ ?c2 ?c3 ?c4; (case k6 => k_is); (case k7 => k_is); (case k8 => (show dp < _; omega)); (case k9 => exact BindsTo.of_eq rfl); (case kB => exact rfl); (case kD => decide +kernel); (case c2 => exact rfl); (case c3 => exact rfl); (case c4 => exact rfl); k_whole)
  intro g L' h₁ tk cells hg F' N' Y' X' T'
  clear F X T
  subst hg
  try dsimp only
  k_cells Y'
  (try simp only [List.cons_append, List.nil_append] at N')
  with_reducible show wpAny _ _ _ _ _ _
  k_fold
  k_steps
  show wpAny _ _ _ _ _ _
  refine For_invT s.heap ?_ (fun _ => by with_unfolding_all rfl)
  k_steps
  rename_i oP oR dP dR D _ od lo _ _ hD _ lD h2 h3 tk3 t3 u3 v3 rg3 ke3 Rr vr er h4 tk4 hI lR h5 F5 N5 h6 tk6 t6 u6 v6 rg6 F6 N6 ke6
  show wpAny _ _ _ _ _ _
  clear N5 F5
  have hI' : Reps RN vr (restAt r 0) := reps_ints (by
    rw [hl] at hI
    have e : rangeKs 0 ((r.length : Int) + 2 - 0).toNat = (restAt r 0).map fun k : Nat => (k : Int) := by
      rw [show ((r.length : Int) + 2 - 0).toNat = r.length + 2 from by omega]
      simp [rangeKs, restAt]
    rw [← e]; exact hI)
  have lo1 : ∀ p ∈ [(Rr, W.listOf vr.toArray er), (D, od), (L' + 1 + 1, oP), (L' + 1, oR)], p.1 < h6.objs.size := fun p hp => Heap.lt_size (N6 p hp).1
  refine it_rangeT (σ := AbS) (n := vs.length) (fun a => [(Rr, W.listOf a.vr.toArray a.er), (D, a.od), (L' + 1 + 1, a.oc), (L' + 1, oR)]) (fun i a m => AbP w r D Rr i a m) ⟨oP, od, vr, er⟩ rfl rg6 (by omega) F6 N6 ?lt ⟨rfl, rfl, ⟨_, dP⟩, hI', [], hD, .nil⟩ (fun _ _ => by with_unfolding_all rfl) ?turn ?done
  case lt =>
    intro a p hp
    have := lo1 (Rr, W.listOf vr.toArray er) (.head _)
    have := lo1 (D, od) (.tail _ (.head _))
    have := lo1 (L' + 1 + 1, oP) (.tail _ (.tail _ (.head _)))
    have := lo1 (L' + 1, oR) (.tail _ (.tail _ (.tail _ (.head _))))
    simp only [List.mem_cons, List.not_mem_nil, or_false] at hp
    rcases hp with rfl | rfl | rfl | rfl <;> assumption
  case turn =>
    intro s₁ I oI i t a m₁ h tk hi hP hlt F N
    refine hide fun hGoal => ?_
    obtain ⟨oc, od, vr, er⟩ := a
    refine hGoal ?_
    clear hGoal
    refine hide fun hGoal => ?_
    obtain ⟨ma, mr, ⟨v, hc⟩, hvr, kvs, hd, hkv⟩ := hP
    refine hGoal ?_
    clear hGoal
    have i1 : @LT.lt Nat _ Rr I := hlt _ (.head _)
    have i2 : @LT.lt Nat _ D I := hlt _ (.tail _ (.head _))
    have i3 : @LT.lt Nat _ (L' + 1 + 1) I := hlt _ (.tail _ (.tail _ (.head _)))
    have i4 : @LT.lt Nat _ (L' + 1) I := hlt _ (.tail _ (.tail _ (.tail _ (.head _))))
    clear hlt
    dsimp only at hc hd hvr
    replace F : Fr s.heap L' h m₁ := F
    replace N : News s.heap L' h [(I, oI), (Rr, W.listOf vr.toArray er), (D, od), (L' + 1 + 1, oc), (L' + 1, oR)] := N
    clear N6 F6
    with_reducible show wpAny _ _ _ _ _ _
    k_fold
    k_steps
    rename_i h' oc' F N dc
    show wpAny _ _ _ _ _ _
    have hls : h'.IsList Rr vr.toArray := News.isList N (.tail _ (.head _))
    have hvl : vr.length = (restAt r i).length := hvr.1
    have hrl := restAt_len r i (by omega)
    refine' comp_eval (cl := ?cl) ?h1 ?h2 ?h3 ?h4 ?h5 ?h6 ?_
    case h1 => exact rfl
    case h2 => decide
    case h3 => rfl
    case h4 => decide
    case h5 => rfl
    case h6 => intro _; with_unfolding_all rfl
    k_steps
    show wpAny _ _ _ _ _ _
    refine' wpAny_pyIter_list ?hlsx ?_
    case hlsx => exact hls
    refine catE (Pv := fun v => ∃ k, RN v k) (p := natP fun k => !((r.drop i).contains k)) (F := fun v y own => y = v ∧ own = []) (src_list rfl hls) (by rw [sizeLine_eq]; omega) (fun j v hj => ?_) F N (turn_of F N ⟨?tests, ?elt⟩) (fun D2 e2 h2 tk2 tr F2 G => ?_)
    · obtain ⟨x, _, hx⟩ := hvr.get hj; exact ⟨x, hx⟩
    case tests =>
      intro g C rest v s₃ m₃ E' hv' st Fc hm Nc
      refine hide fun hGoal => ?_
      obtain ⟨k, tk', rfl⟩ := hv'
      refine hGoal ?_
      clear hGoal
      have Xg := X'.keeps st
      have Tg := T'.keeps st
      have hpg : g.IsList R1 vs.toArray := hp.at fun o e => st _ _ e
      simp only [List.cons_append, List.nil_append] at Nc
      clear F N hls hI rg3 rg6 ke3 ke6 lo1 hI' X' T'
      with_reducible show wpAny _ _ _ _ _ _
      k_fold
      k_steps
      rename_i h'' Fh Nh
      show wpAny _ _ _ _ _ _
      have hsl : h''.IsList (s₃.heap.objs.size + 1) (vs.drop i).toArray := by
        have := News.isList Nh (.head _)
        rwa [slicePick_from', List.toList_toArray] at this
      refine' notin_N (r := r.drop i) (vs := vs.drop i) ?hlx (hv.drop i) ?_
      case hlx => exact hsl
      k_steps
      exact ⟨by simp [natP], h'', _, _, rfl, Fh, Nh, fun q hq => .tail _ hq⟩
    case elt =>
      intro g C rest v s₃ m₃ E' hv' hpv st Fc hm Nc
      refine hide fun hGoal => ?_
      obtain ⟨k, tk', rfl⟩ := hv'
      refine hGoal ?_
      clear hGoal
      have Xg := X'.keeps st
      have Tg := T'.keeps st
      clear F N hls hI rg3 rg6 ke3 ke6 lo1 hI' X' T'
      with_reducible show wpAny _ _ _ _ _ _
      k_fold
      k_steps
      exact ⟨_, _, [], rfl, Fc, Nc, (fun _ h => nomatch h), rfl, rfl⟩
    clear F N hls
    have hnil : ∀ t ∈ tr, t.2.2 = [] := fun t ht => (G.each t ht).2
    have N2 : News s.heap L' h2 [(D2, W.listOf (tr.map (·.2.1)).toArray e2), (I, oI), (Rr, W.listOf vr.toArray er), (D, od), (L' + 1 + 1, oc'), (L' + 1, oR)] := by
      have := G.led
      rw [flat_nil hnil] at this
      exact this
    refine hide fun hGoal => ?_
    obtain ⟨us, hus1, hus2, hus3⟩ := G.src
    refine hGoal ?_
    clear hGoal
    obtain rfl : us = vr := list_of_get hus1 rfl hus2
    have hrep : Reps RN (tr.map (·.2.1)) (((restAt r i).filter (fun k => !(r.drop i).contains k)).map id) := comp_reps hvr (fun v x h => natP_of h) hus3 (fun t ht x h => by rw [(G.each t ht).1]; exact h)
    rw [List.map_id] at hrep
    have d1 : @LT.lt Nat _ I D2 := G.lt (I, oI) (.head _)
    have hlen2 : (tr.map (·.2.1)).length ≤ us.length := by rw [hrep.1, hus1, hvl]; exact List.length_filter_le _ _
    have hsp := loneAt_spec r (i := i) (by omega)
    have hlone : ((restAt r i).filter (fun k => !(r.drop i).contains k)).min?.getD 0 = loneAt r i := rfl
    have hpos : 0 < ((restAt r i).filter (fun k => !(r.drop i).contains k)).length := List.length_pos_of_mem (a := loneAt r i) (List.mem_filter.mpr ⟨hsp.1, by simpa using hsp.2.1⟩)
    replace F2 : Fr s.heap L' h2 m₁ := F2
    clear G
    generalize tr.map (·.2.1) = vm at N2 hrep hlen2
    k_steps
    show wpAny _ _ _ _ _ _
    refine' min_N (news := [(D2, W.listOf vm.toArray e2), (I, oI), (Rr, W.listOf us.toArray er), (D, od), (L' + 1 + 1, oc'), (L' + 1, oR)]) (vs := vm) F2 N2 ?hlx hrep hpos rfl ?_
    case hlx => exact News.isList N2 (.head _)
    rw [hlone]
    intro h3 t3 tk3 F3 N3
    clear F2 N2
    k_steps
    rename_i h4 F4 N4
    show wpAny _ _ _ _ _ _
    have hlt2 : i < r.length := by omega
    refine hide fun hGoal => ?_
    obtain ⟨v4, hv4, t4, rfl⟩ := hv.at (List.getElem?_eq_getElem hlt2)
    refine hGoal ?_
    clear hGoal
    refine' idx_in ?hlx (by omega) hv4 ?_ (by with_unfolding_all rfl)
    case hlx => exact Fr.lst F4 hp
    k_steps
    show wpAny _ _ _ _ _ _
    have hkl := hkv.len
    rw [prsAt_len] at hkl
    have hnk : ∀ q ∈ prsAt r i, q.1 ≠ loneAt r i := fun q hq e => prsAt_keys r i q hq (e ▸ hsp.1)
    refine' set_D (v := .int (r[i] : Nat) t4) F4 N4 ?hU hd (by omega) ?_
    case hU => k_updF
    intro h5 o5 F5 N5 d5
    try dsimp only at N5
    clear F4 N4
    k_steps
    show wpAny _ _ _ _ _ _
    refine' remove_N (k := loneAt r i) (own := [(D2, W.listOf vm.toArray e2), (I, oI)]) (rest := [(D, o5), (L' + 1 + 1, oc'), (L' + 1, oR)]) (ys := us) hvr hsp.1 F5 N5 ?hown ?hap (by omega) ?_
    case hown => k_all
    case hap => k_all
    intro h6 ys6 n6 F6 N6 hy6
    clear F5 N5
    k_steps
    refine TEndU.intro ⟨oc', o5, ys6, n6⟩ F6 (News.perm N6 fun p hp => .tail _ hp) ⟨ma, mr, ⟨_, dc⟩, hy6, _, d5, ?_⟩
    have e1 : prsAt r (i + 1) = prsAt r i ++ [(loneAt r i, r[i])] := by rw [prsAt, List.getD_eq_getElem?_getD, List.getElem?_eq_getElem hlt2]; rfl
    rw [e1]
    exact hkv.stored hnk
  case done =>
    intro a m₁ h tk hP F N
    refine hide fun hGoal => ?_
    obtain ⟨oc, od, vr, er⟩ := a
    refine hGoal ?_
    clear hGoal
    refine hide fun hGoal => ?_
    obtain ⟨ma, mr, ⟨v, hc⟩, hvr, kvs, hd, hkv⟩ := hP
    refine hGoal ?_
    clear hGoal
    dsimp only at hc hd hvr
    replace F : Fr s.heap L' h m₁ := F
    replace N : News s.heap L' h [(Rr, W.listOf vr.toArray er), (D, od), (L' + 1 + 1, oc), (L' + 1, oR)] := N
    clear N6 F6
    with_reducible show wpAny _ _ _ _ _ _
    try k_fold
    k_steps
    show wpAny _ _ _ _ _ _
    refine hide fun hGoal => ?_
    obtain ⟨x0, y0, hr2, hxy⟩ := last_two r
    refine hGoal ?_
    clear hGoal
    rw [hl] at hvr hkv
    rw [hr2] at hvr
    refine hide fun hGoal => ?_
    obtain ⟨v0, hv0, t0, rfl⟩ := hvr.at (k := 0) (x := x0) rfl
    refine hGoal ?_
    clear hGoal
    refine hide fun hGoal => ?_
    obtain ⟨v1, hv1, t1, rfl⟩ := hvr.at (k := 1) (x := y0) rfl
    refine hGoal ?_
    clear hGoal
    refine' item_L (j := 1) ?hlx rfl (by decide) hv1 ?_ (by with_unfolding_all rfl)
    case hlx => exact News.isList N (.head _)
    k_steps
    show wpAny _ _ _ _ _ _
    refine' item_L (j := 0) ?hlx rfl (by decide) hv0 ?_ (by with_unfolding_all rfl)
    case hlx => exact News.isList N (.head _)
    k_steps
    show wpAny _ _ _ _ _ _
    have hkl := hkv.len
    rw [prsAt_len] at hkl
    have hnk : ∀ q ∈ prsAt r r.length, q.1 ≠ x0 := fun q hq e => prsAt_keys r r.length q hq (by rw [hr2, e]; exact .head _)
    refine' set_D (v := .int (y0 : Nat) t1) F N ?hU hd (by omega) ?_
    case hU => k_updF
    intro h5 o5 F5 N5 d5
    try dsimp only at N5
    clear F N
    k_steps
    refine hret _ _ _ F5.keep ⟨D, o5, _, rfl, Nat.le_trans F5.above (Nat.le_trans (Nat.le_succ _) (Nat.le_of_lt lD.2)), (N5 _ (.tail _ (.head _))).1, d5, ?_, lo⟩
    have e1 : prs r = prsAt r r.length ++ [(x0, y0)] := by rw [prs, hr2]; rfl
    rw [e1]
    exact hkv.stored hnk
end PartPa

section PartPl2
noncomputable def par (r : List Nat) (k : Nat) : Option Nat := (prs r).lookup k
noncomputable def keys (r : List Nat) : List Nat := (prs r).map (·.1)
noncomputable def chainF (r : List Nat) : Nat → Nat → List Nat
  | 0, k => [k]
  | f + 1, k => match par r k with
    | none => [k]
    | some p => k :: chainF r f p
noncomputable def chain (r : List Nat) (k : Nat) : List Nat := chainF r (r.length + 1) k
theorem prs_len (r : List Nat) : (prs r).length = r.length + 1 := by rw [prs, List.length_append, prsAt_len]; rfl
theorem prsAt_get (r : List Nat) : ∀ n i, i < n → (prsAt r n)[i]? = some (loneAt r i, r.getD i 0)
  | 0, i, h => absurd h (by omega)
  | n + 1, i, h => by
    rw [prsAt]
    by_cases c : i < n
    · rw [List.getElem?_append_left (by rw [prsAt_len]; exact c), prsAt_get r n i c]
    · have : i = n := by omega
      subst this
      rw [List.getElem?_append_right (by rw [prsAt_len]; exact Nat.le_refl _), prsAt_len]
      simp
theorem restAt_sub (r : List Nat) : ∀ i j k, k ∈ restAt r (i + j) → k ∈ restAt r i
  | i, 0, k, h => h
  | i, j + 1, k, h => restAt_sub r i j k (List.mem_of_mem_erase (by simpa [restAt] using h))
theorem lone_gone (r : List Nat) {i j : Nat} (h : i < j) : loneAt r i ∉ restAt r j := fun q => by
  obtain ⟨d, rfl⟩ : ∃ d, j = i + 1 + d := ⟨j - (i + 1), by omega⟩
  have := restAt_sub r (i + 1) d _ q
  exact ((restAt_nodup r i).mem_erase_iff.mp this).1 rfl
theorem lone_inj (r : List Nat) {i j : Nat} (hi : i < r.length) (hj : j < r.length) (e : loneAt r i = loneAt r j) : i = j := by
  rcases Nat.lt_trichotomy i j with c | c | c
  · exact absurd (loneAt_spec r hj).1 (e ▸ lone_gone r c)
  · exact c
  · exact absurd (loneAt_spec r hi).1 (e ▸ lone_gone r c)
theorem prs_get (r : List Nat) {i : Nat} (h : i < r.length) : (prs r)[i]? = some (loneAt r i, r.getD i 0) := by
  rw [prs, List.getElem?_append_left (by rw [prsAt_len]; exact h), prsAt_get r _ i h]
theorem prs_last (r : List Nat) : (prs r)[r.length]? = some ((restAt r r.length).getD 0 0, (restAt r r.length).getD 1 0) := by
  rw [prs, List.getElem?_append_right (by rw [prsAt_len]; exact Nat.le_refl _), prsAt_len]; simp
theorem lookup_some : ∀ {l : List (Nat × Nat)} {k p : Nat}, l.lookup k = some p → ∃ i : Nat, l[i]? = some (k, p) ∧ ∀ j q, j < i → l[j]? = some q → q.1 ≠ k
  | [], _, _, h => by cases h
  | (a, b) :: l, k, p, h => by
    rw [List.lookup_cons] at h
    by_cases c : k = a
    · subst c
      simp at h
      subst h
      exact ⟨0, rfl, fun j q h => absurd h (by omega)⟩
    · rw [beq_eq_false_iff_ne.mpr c] at h
      obtain ⟨i, h1, h2⟩ := lookup_some h
      refine ⟨i + 1, h1, fun j q hj hq => ?_⟩
      cases j with
      | zero => simp at hq; subst hq; exact fun e => c e.symm
      | succ j => exact h2 j q (by omega) (by simpa using hq)
theorem lookup_get : ∀ {l : List (Nat × Nat)} {k p i : Nat}, l[i]? = some (k, p) → (∀ j q, j < i → l[j]? = some q → q.1 ≠ k) → l.lookup k = some p
  | [], _, _, _, h, _ => by simp at h
  | (a, b) :: l, k, p, 0, h, _ => by simp at h; obtain ⟨rfl, rfl⟩ := h; simp
  | (a, b) :: l, k, p, i + 1, h, h2 => by
    have := h2 0 (a, b) (by omega) rfl
    rw [List.lookup_cons, beq_eq_false_iff_ne.mpr (fun e => this e.symm)]
    exact lookup_get (i := i) (by simpa using h) fun j q hj hq => h2 (j + 1) q (by omega) (by simpa using hq)
noncomputable def outAt (r : List Nat) (k : Nat) : Nat := (keys r).idxOf k
theorem keys_get (r : List Nat) {i : Nat} (h : i < r.length) : (keys r)[i]? = some (loneAt r i) := by
  rw [keys, List.getElem?_map, prs_get r h]; rfl
theorem keys_last (r : List Nat) : (keys r)[r.length]? = some ((restAt r r.length).getD 0 0) := by
  rw [keys, List.getElem?_map, prs_last r]; rfl
theorem keys_len (r : List Nat) : (keys r).length = r.length + 1 := by rw [keys, List.length_map, prs_len]
theorem par_out (r : List Nat) {k p : Nat} (h : par r k = some p) : outAt r k < outAt r p := by
  obtain ⟨i, h1, h2⟩ := lookup_some h
  have hil : i < r.length + 1 := by rw [← prs_len]; exact (List.getElem?_eq_some_iff.mp h1).1
  have key : ∀ j, j ≤ i → (keys r)[j]? ≠ some p := fun j hj e => by
    by_cases c : j < r.length
    · rw [keys_get r c] at e
      have e := Option.some.inj e
      by_cases c2 : i < r.length
      · rw [prs_get r c2] at h1
        obtain ⟨rfl, rfl⟩ := Prod.mk.inj (Option.some.inj h1)
        refine (loneAt_spec r c).2.1 ?_
        rw [e, List.mem_drop_iff_getElem]
        refine ⟨i - j, by omega, ?_⟩
        simp [List.getD_eq_getElem?_getD, show j + (i - j) = i from by omega, c2]
      · obtain rfl : i = r.length := by omega
        rw [prs_last] at h1
        obtain ⟨a, b, hab, _⟩ := last_two r
        rw [hab] at h1
        obtain ⟨rfl, rfl⟩ := Prod.mk.inj (Option.some.inj h1)
        exact lone_gone r c (e ▸ by rw [hab]; simp)
    · have hj' : j = r.length := by omega
      obtain rfl : i = r.length := by omega
      subst hj'
      rw [keys_last] at e
      rw [prs_last] at h1
      obtain ⟨a, b, hab, hlt⟩ := last_two r
      rw [hab] at h1 e
      obtain ⟨rfl, rfl⟩ := Prod.mk.inj (Option.some.inj h1)
      have := Option.some.inj e
      simp at this
      omega
  have hk : outAt r k ≤ i := by
    have hg : (keys r)[i]? = some k := by rw [keys, List.getElem?_map, h1]; rfl
    obtain ⟨hl, he⟩ := List.getElem?_eq_some_iff.mp hg
    refine Classical.byContradiction fun c => ?_
    have := List.not_of_lt_findIdx (p := (· == k)) (xs := keys r) (i := i) (by unfold outAt List.idxOf at c; omega)
    simp [he] at this
  refine Nat.lt_of_le_of_lt hk ?_
  refine Classical.byContradiction fun c => ?_
  have hm : outAt r p < (keys r).length := by rw [keys_len]; omega
  exact key (outAt r p) (by omega) (by rw [List.getElem?_eq_getElem hm]; exact congrArg some (List.getElem_idxOf hm))
theorem outAt_le (r : List Nat) (k : Nat) : outAt r k ≤ r.length + 1 := by rw [← keys_len]; exact List.idxOf_le_length
theorem par_none (r : List Nat) {k : Nat} (h : outAt r k = r.length + 1) : par r k = none := by
  cases e : par r k with
  | none => rfl
  | some p => have := par_out r e; have := outAt_le r p; omega
theorem chainF_same (r : List Nat) : ∀ f g k, r.length + 1 - outAt r k ≤ f → f ≤ g → chainF r g k = chainF r f k
  | 0, 0, _, _, _ => rfl
  | 0, g + 1, k, h, _ => by
    have := par_none r (k := k) (by have := outAt_le r k; omega)
    simp [chainF, this]
  | f + 1, 0, _, _, h => absurd h (by omega)
  | f + 1, g + 1, k, h, hfg => by
    rw [chainF, chainF]
    cases e : par r k with
    | none => rfl
    | some p =>
      have := par_out r e
      simp only
      rw [chainF_same r f g p (by omega) (by omega)]
theorem chain_eq (r : List Nat) (k : Nat) : chain r k = match par r k with | none => [k] | some p => k :: chain r p := by
  rw [chain, chainF]
  cases e : par r k with
  | none => rfl
  | some p =>
    simp only
    have := par_out r e
    rw [chain, chainF_same r r.length (r.length + 1) p (by omega) (by omega)]
theorem chainF_len (r : List Nat) : ∀ f k, (chainF r f k).length ≤ f + 1
  | 0, k => by simp [chainF]
  | f + 1, k => by
    rw [chainF]
    cases par r k with
    | none => simp
    | some p => have := chainF_len r f p; simp; omega
theorem chain_len (r : List Nat) (k : Nat) : (chain r k).length ≤ r.length + 2 := chainF_len r _ k
theorem par_lt (r : List Nat) (hr : ∀ x ∈ r, x < r.length + 2) {k p : Nat} (h : par r k = some p) : p < r.length + 2 := by
  obtain ⟨i, h1, _⟩ := lookup_some h
  have hil : i < r.length + 1 := by rw [← prs_len]; exact (List.getElem?_eq_some_iff.mp h1).1
  by_cases c : i < r.length
  · rw [prs_get r c] at h1
    obtain ⟨_, rfl⟩ := Prod.mk.inj (Option.some.inj h1)
    rw [List.getD_eq_getElem?_getD, List.getElem?_eq_getElem c]
    exact hr _ (List.getElem_mem c)
  · obtain rfl : i = r.length := by omega
    rw [prs_last] at h1
    obtain ⟨a, b, hab, _⟩ := last_two r
    rw [hab] at h1
    obtain ⟨_, rfl⟩ := Prod.mk.inj (Option.some.inj h1)
    exact restAt_lt r r.length _ (by rw [hab]; simp)
theorem chain_cons (r : List Nat) (k : Nat) : chain r k = k :: (chain r k).tail := by
  rw [chain_eq]
  cases par r k <;> rfl
theorem chain_tail_some (r : List Nat) {k p : Nat} (h : par r k = some p) : (chain r k).tail = p :: (chain r p).tail := by
  rw [chain_eq, h, ← chain_cons]; rfl
theorem chain_tail_none (r : List Nat) {k : Nat} (h : par r k = none) : (chain r k).tail = [] := by
  rw [chain_eq, h]; rfl
end PartPl2

local macro_rules | `(tactic| walk_at "mine pad 2") => `(tactic| skip)
section PartPc
theorem KVs.none {k : Nat} : ∀ {kvs ps}, KVs kvs ps → ps.lookup k = none → valueAt kvs (k : Int) = none
  | _, _, .nil, _ => rfl
  | _, _, .cons a b u h, hl => by
    rw [List.lookup_cons] at hl
    by_cases c : k = a
    · subst c; simp at hl
    · rw [beq_eq_false_iff_ne.mpr c] at hl
      have := h.none hl
      unfold valueAt at this ⊢
      rw [List.find?_cons, decide_eq_false (by show ¬ ((a : Int) = (k : Int)); omega)]
      exact this
theorem KVs.some {k p : Nat} : ∀ {kvs ps}, KVs kvs ps → ps.lookup k = some p → ∃ t, valueAt kvs (k : Int) = some (.int (p : Nat) t)
  | _, _, .nil, hl => by cases hl
  | _, _, .cons a b u h, hl => by
    rw [List.lookup_cons] at hl
    by_cases c : k = a
    · subst c
      simp at hl
      subst hl
      exact ⟨u, by simp [valueAt]⟩
    · rw [beq_eq_false_iff_ne.mpr c] at hl
      refine hide fun hGoal => ?_
      obtain ⟨t, this⟩ := h.some hl
      refine hGoal ?_
      clear hGoal
      refine ⟨t, ?_⟩
      unfold valueAt at this ⊢
      rw [List.find?_cons, decide_eq_false (by show ¬ ((a : Int) = (k : Int)); omega)]
      exact this
local macro_rules
  | `(tactic| walk_at $k:str) => if ["pyIter ref", "call ref", "exec While Compare cons nil", "exec While Compare cons cons nil", "subscriptTail Name Name ref int", "compareOp In int ref", "eval Starred"].contains k.getString then `(tactic| (refine hold_it ?_)) else Lean.Macro.throwUnsupported
theorem joinS_len (x : Str) {xs : List Str} (h : ∀ y ∈ xs, y.length ≤ 3) : (joinS x xs).length ≤ x.length + 4 * xs.length := by
  induction xs generalizing x with
  | nil => simp [joinS]
  | cons y ys ih =>
    have h1 := ih (joinStep x y) fun z hz => h z (.tail _ hz)
    have h2 := h y (.head _)
    have h3 : (joinStep x y).length ≤ x.length + 4 := by
      unfold joinStep
      have := sep_len
      repeat' split
      all_goals try simp only [Str.length_append]
      all_goals omega
    show (joinS (joinStep x y) ys).length ≤ _
    rw [List.length_cons]
    omega
noncomputable def Six (n : Nat) : Prop := n ≤ 6
noncomputable def wayS (Ws : List Str) (r : List Nat) (k : Nat) : Str := joinS sep ((chain r k).reverse.map fun j => Ws.getD j sep)
noncomputable def WayJ (Ws : List Str) (r : List Nat) (W1 l D : Addr) (us : List Value) (eu : Nat) (oD : Obj) (I : Addr) (oI : Obj) (nl : Addr) (i : Nat) (n : Nat) (m : Str → Option Value) (news : List (Addr × Obj)) : Prop :=
  ∃ cur ts en dn, n = r.length + 1 - outAt r cur ∧ news = [(nl, W.listOf (List.toArray ts) en), (I, oI), (l, W.listOf us.toArray eu), (D, oD)] ∧ m (Str.ofString "names") = some (.ref nl) ∧ (∃ t, m (Str.ofString "number") = some (.int (cur : Nat) t)) ∧
    m (Str.ofString "ways") = some (.ref l) ∧ m (Str.ofString "above") = some (.ref D) ∧ m (Str.ofString "words") = some (.ref W1) ∧ cur < Ws.length ∧ Reps RS ts (dn.map fun j => Ws.getD j sep) ∧ dn ++ (chain r cur).tail = chain r i
set_option maxHeartbeats 8000000 in
theorem d_ways (w : World) (R1 W1 : Addr) (vs ws : List Value) (r : List Nat) (Ws : List Str) (hv : Reps RN vs r) (hn : Six r.length) (hr : ∀ x ∈ r, x < r.length + 2) (hw : Reps RS ws Ws) (hwl : Ws.length = r.length + 2) (hw3 : ∀ x ∈ Ws, x.length ≤ 3) :
    DoesW w 174 12 200 [.ref R1, .ref W1] (fun h => h.IsList R1 vs.toArray ∧ h.IsList W1 ws.toArray) (fun v h h' => ∃ D us e, v = .ref D ∧ h.objs.size ≤ D ∧ h'.get? D = some (W.listOf (List.toArray us) e) ∧ Reps RS us ((List.range (r.length + 2)).map (wayS Ws r))) := by
  have hl : vs.length = r.length := hv.1
  have hbig : ws.length < 1000 := by have := hw.1; unfold Six at hn; omega
  have hwl2 : ws.length = r.length + 2 := by rw [hw.1]; exact hwl
  intro mean mg mb dp un gd cn cs a ccd cl outer h₀ L m s Q E F X T hk hd hu hp hret
  refine hide fun hGoal => ?_
  obtain ⟨hp1, hp2⟩ := hp
  refine hGoal ?_
  clear hGoal
  k_dflt (refine' enterP (binds := [(Str.ofString "row", .ref R1), (Str.ofString "words", .ref W1)]) F X T ?k6 ?k7 ?k8 ?k9 ?kB ?_ ?c2 ?c3 ?c4 ?c5; (case k6 => k_is); (case k7 => k_is); (case k8 => (show dp < _; omega)); (case k9 => exact BindsTo.of_eq rfl); (case kB => exact locs rfl); (case c2 => exact rfl); (case c3 => exact rfl); (case c4 => exact rfl); (case c5 => decide); k_whole)
  intro g L' h₁ tk hg F' X' T'
  have N' : News g L' h₁ [] := News.nil
  clear F X T
  subst hg
  try dsimp only
  have hsz0 : s.heap.objs.size ≤ h₁.objs.size := Nat.le_of_lt (Nat.lt_of_le_of_lt F'.above F'.ns.lt)
  with_reducible show wpAny _ _ _ _ _ _
  k_fold
  k_steps
  show wpAny _ _ _ _ _ _
  k_dflt (refine' DoesW.use (d_above w R1 vs r hv hn) ?k2 ?k3 ?k4 ?k5 ?k6 ?kd ?ku ?kp ?_; (case k2 => k_asm); (case k3 => k_asm); (case k4 => k_asm); (case k5 => k_asm); (case k6 => first | exact rfl | assumption); (case kd => walk_at "mine room"); (case ku => walk_at "mine room"); (case kp => exact Fr.lst F' hp1); k_whole)
  intro v2 h2 tk2 F2 N2 st2 e
  refine hide fun hGoal => ?_
  obtain ⟨D, oD, kvs, rfl, hD, ho, hdd, hkv, lo⟩ := e
  refine hGoal ?_
  clear hGoal
  have N3 := News.absorb F' N2 hD ho
  clear N2 st2
  k_steps
  rename_i h4 tk4 l h5 lt5 h6 F6 N6 h7 tk7 t7 u7 v7 rg7 F7 N7 ke7
  show wpAny _ _ _ _ _ _
  clear F6 N6
  refine it_range (σ := List Value × Nat) (n := ws.length) (fun a => [(l, W.listOf a.1.toArray a.2), (D, oD)])
    (fun i a m => m (Str.ofString "ways") = some (.ref l) ∧ m (Str.ofString "above") = some (.ref D) ∧ m (Str.ofString "words") = some (.ref W1) ∧ Reps RS a.1 ((List.range i).map (wayS Ws r))) ([], 0) rfl rg7 hbig F7 N7 ?lt ⟨rfl, rfl, rfl, Reps.nil⟩ ?turn ?done
  case lt =>
    intro a p hp
    have := Heap.lt_size (N7 _ (.head _)).1
    have := Heap.lt_size (N7 _ (.tail _ (.head _))).1
    simp only [List.mem_cons, List.not_mem_nil, or_false] at hp
    rcases hp with rfl | rfl <;> assumption
  case turn =>
    intro I oI i t a m₁ h tk hi hP hlt F N
    refine hide fun hGoal => ?_
    obtain ⟨us, eu⟩ := a
    refine hGoal ?_
    clear hGoal
    refine hide fun hGoal => ?_
    obtain ⟨mw, ma, mo, hus⟩ := hP
    refine hGoal ?_
    clear hGoal
    have i1 : @LT.lt Nat _ l I := hlt _ (.head _)
    have i2 : @LT.lt Nat _ D I := hlt _ (.tail _ (.head _))
    clear hlt
    replace F : Fr s.heap L' h (fun y => if y = Str.ofString "start" then some (.int (i : Nat) t) else m₁ y) := F
    replace N : News s.heap L' h [(I, oI), (l, W.listOf us.toArray eu), (D, oD)] := N
    clear N7 F7
    with_reducible show wpAny _ _ _ _ _ _
    try k_fold
    k_steps
    rename_i h2 F2 N2
    show wpAny _ _ _ _ _ _
    have hiw : i < Ws.length := by rw [← hw.1]; exact hi
    refine hide fun hGoal => ?_
    obtain ⟨v2, hv2, t2, rfl⟩ := hw.at (List.getElem?_eq_getElem hiw)
    refine hGoal ?_
    clear hGoal
    refine' idx_in ?hlx (by omega) hv2 ?_ (by with_unfolding_all rfl)
    case hlx => exact Fr.lst F2 hp2
    k_steps
    rename_i nl h3 lt3 h4 F4 N4
    have hg : Ws.getD i sep = Ws[i] := by rw [List.getD_eq_getElem?_getD, List.getElem?_eq_getElem hiw]; rfl
    show wpAny _ _ _ _ _ _
    try clear F2 N2
    refine While_brk (n₀ := r.length + 1 - outAt r i) (WayJ Ws r W1 l D us eu oD I oI nl i) F4 N4 ⟨i, [.str Ws[i] t2], 0, [i], rfl, rfl, rfl, ⟨_, rfl⟩, mw, ma, mo, hiw, Reps.cons ⟨t2, congrArg (Value.str · t2) hg.symm⟩ Reps.nil, (chain_cons r i).symm⟩ (fun n m₁ led h₅ tk₅ F N hJ => ?_)
    refine hide fun hGoal => ?_
    obtain ⟨cur, ts, en, dn, rfl, rfl, mn, ⟨tn, mu⟩, mw, ma, mo, hcw, hts, hch⟩ := hJ
    refine hGoal ?_
    clear hGoal
    try clear F4 N4
    with_reducible show wpAny _ _ _ _ _ _
    try k_fold
    k_steps
    show wpAny _ _ _ _ _ _
    cases hpc : par r cur with
    | none =>
      refine' in_D N (.tail _ (.tail _ (.tail _ (.head _)))) hdd lo false (by rw [hkv.none hpc]; rfl) ?_
      have hdn : dn = chain r i := by rw [chain_tail_none r hpc, List.append_nil] at hch; exact hch
      subst hdn
      have hts1 : ts.length < 1000 := by have := hts.1; rw [List.length_map] at this; have := chain_len r i; unfold Six at hn; omega
      have hts2 : ts.reverse.length < 1000 := by rw [List.length_reverse]; exact hts1
      k_steps
      show wpAny _ _ _ _ _ _
      rw [List.append_nil]
      have hcl := chain_len r i
      have hrv : Reps RS ts.reverse ((chain r i).reverse.map fun j => Ws.getD j sep) := by rw [List.map_reverse]; exact hts.rev
      have hb3 : ∀ y ∈ (chain r i).reverse.map (fun j => Ws.getD j sep), y.length ≤ 3 := fun y hy => by
        refine hide fun hGoal => ?_
        obtain ⟨j, _, rfl⟩ := List.mem_map.mp hy
        refine hGoal ?_
        clear hGoal
        rw [List.getD_eq_getElem?_getD]
        cases e : Ws[j]? with
        | none => exact Nat.le_of_ble_eq_true rfl
        | some x => exact hw3 x (List.mem_of_getElem? e)
      k_dflt (refine' Does.use (d_join sep _ _ _ hrv.strs ?j1 ?j2 ?j3) ?k2 ?k3 ?k4 ?k5 ?k6 ?kd ?ku trivial ?_; (case k2 => k_asm); (case k3 => k_asm); (case k4 => k_asm); (case k5 => k_asm); (case k6 => first | exact rfl | assumption); (case kd => walk_at "mine room"); (case ku => walk_at "mine room"); k_whole)
      case j1 => have := hrv.1; simp only [List.length_map, List.length_reverse] at this ⊢; unfold Six at hn; omega
      case j2 =>
        intro q
        have := joinS_len sep (xs := ((chain r i).reverse.map fun j => Ws.getD j sep).take q) (fun y hy => hb3 y (List.mem_of_mem_take hy))
        have h2 : (((chain r i).reverse.map fun j => Ws.getD j sep).take q).length ≤ (chain r i).length := by rw [List.length_take, List.length_map, List.length_reverse]; omega
        have h3 : sep.length = 1 := by decide
        unfold Six at hn
        omega
      case j3 => exact fun y hy => Nat.le_trans (hb3 y hy) (by decide)
      intro v6 h6 tk6 F6 N6 st6 e
      refine hide fun hGoal => ?_
      obtain ⟨t6, rfl⟩ := e
      refine hGoal ?_
      clear hGoal
      clear st6
      have hus1 : us.length < 900 := by have := hus.1; rw [List.length_map, List.length_range] at this; show us.length < 900; unfold Six at hn; dsimp only at this; omega
      k_steps
      rename_i h7 F7 N7
      rw [List.push_toArray] at N7
      refine TEnd.next (us ++ [.str (wayS Ws r i) t6], eu + 1) F7 (News.perm N7 fun p hp => ?_) ⟨mw, ma, mo, ?_⟩
      · exact .tail _ (.tail _ hp)
      · rw [List.range_succ, List.map_append]
        exact hus.snoc ⟨t6, rfl⟩
    | some p =>
      refine hide fun hGoal => ?_
      obtain ⟨tp, hvp⟩ := hkv.some hpc
      refine hGoal ?_
      clear hGoal
      refine' in_D N (.tail _ (.tail _ (.tail _ (.head _)))) hdd lo true (by rw [hvp]; rfl) ?_
      k_steps
      show wpAny _ _ _ _ _ _
      refine' get_D N (.tail _ (.tail _ (.tail _ (.head _)))) hdd hvp ?_ (by with_unfolding_all rfl) (by intro _; with_unfolding_all rfl)
      have hplt : p < Ws.length := by rw [hwl]; exact par_lt r hr hpc
      refine hide fun hGoal => ?_
      obtain ⟨v5, hv5, t5, rfl⟩ := hw.at (List.getElem?_eq_getElem hplt)
      refine hGoal ?_
      clear hGoal
      k_steps
      rename_i h5 F5 N5
      show wpAny _ _ _ _ _ _
      refine' idx_in ?hlx (by unfold Six at hn; omega) hv5 ?_ (by with_unfolding_all rfl)
      case hlx => exact Fr.lst F5 hp2
      have hts1 : ts.length < 900 := by have := hts.1; rw [List.length_map] at this; have e := congrArg List.length hch; rw [List.length_append] at e; have := chain_len r i; unfold Six at hn; omega
      k_steps
      rename_i h6 F6 N6
      have ew : Ws.getD p sep = Ws[p] := by rw [List.getD_eq_getElem?_getD, List.getElem?_eq_getElem hplt]; rfl
      have hlt6 := par_out r hpc
      have hle6 := outAt_le r p
      refine ⟨h6, _, _, _, r.length + 1 - outAt r p, rfl, F6, N6, by omega, p, ts ++ [.str Ws[p] t5], en + 1, dn ++ [p], rfl, ?_, mn, ⟨_, rfl⟩, mw, ma, mo, hplt, ?_, ?_⟩
      · rw [List.push_toArray]
      · rw [List.map_append]
        exact hts.snoc ⟨t5, congrArg (Value.str · t5) ew.symm⟩
      · rw [chain_tail_some r hpc] at hch
        simpa using hch
  case done =>
    intro a m₁ h tk hP F N
    refine hide fun hGoal => ?_
    obtain ⟨us, eu⟩ := a
    refine hGoal ?_
    clear hGoal
    refine hide fun hGoal => ?_
    obtain ⟨mw, ma, mo, hus⟩ := hP
    refine hGoal ?_
    clear hGoal
    replace F : Fr s.heap L' h m₁ := F
    replace N : News s.heap L' h [(l, W.listOf us.toArray eu), (D, oD)] := N
    try clear N7 F7
    with_reducible show wpAny _ _ _ _ _ _
    try k_fold
    k_steps
    refine hret _ _ _ F.keep ⟨l, us, eu, rfl, ?_, (N _ (.head _)).1, by rw [hwl2] at hus; exact hus⟩
    exact Nat.le_trans (Nat.le_trans hsz0 hD) (Nat.le_of_lt lt5)
end PartPc

section PartPf
noncomputable def HoldsAt (op : CmpOp) (h : Heap) (v v' : Value) (b : Bool) : Prop := CmpAt op h v v' b
theorem d_cmp (v v' : Value) (bg bl : Bool) : Does 42 4 150 [v, v'] (fun h => HoldsAt .Gt h v v' bg ∧ HoldsAt .Lt h v v' bl) (fun r _ _ => ∃ t, r = .int (b2i bg - b2i bl) t) := by
  intro w mean mg mb dp un gd cn cs a ccd cl outer h₀ L m s Q E F X T hk hd hu hp hret
  k_dflt (refine' enterP (binds := [(Str.ofString "x", v), (Str.ofString "y", v')]) F X T ?k6 ?k7 ?k8 ?k9 ?kB ?_ ?c2 ?c3 ?c4 ?c5; (case k6 => k_is); (case k7 => k_is); (case k8 => (show dp < _; omega)); (case k9 => exact BindsTo.of_eq rfl); (case kB => exact locs rfl); (case c2 => exact rfl); (case c3 => exact rfl); (case c4 => exact rfl); (case c5 => decide); k_whole)
  intro g L' h₁ tk hg F' X' T'
  have N' : News g L' h₁ [] := News.nil
  clear F X T
  subst hg
  try dsimp only
  with_reducible show wpAny _ _ _ _ _ _
  k_fold
  obtain ⟨hg, hl⟩ := hp
  k_steps
  refine hg _ _ _ _ _ _ (Fr.keep (by k_asm)) (by show un + 3 + 100 < cLine; omega) ?_
  k_steps
  refine hl _ _ _ _ _ _ (Fr.keep (by k_asm)) (by show un + 3 + 100 < cLine; omega) ?_
  k_steps
  exact hret _ _ _ (Fr.keep (by k_asm)) ⟨_, rfl⟩
end PartPf

section PartNu
section
variable {prog : Program} {w : World} {A : Around} {E : Value → Shared → Prop} {s : Shared} {h₀ : Heap} {L l D : Addr} {m : Str → Option Value} {news own rest : List (Addr × Obj)}
theorem truthy_L {vs : List Value} {Q : Bool → Shared → Prop} (hl : s.heap.IsList l vs.toArray) (hz : vs.length < 1000) (h : Q (!vs.isEmpty) { s with toks := s.toks + 1 + 1 }) :
    wpAny (model prog w) A (truthy (.ref l)) Q E s := by
  refine wpAny_truthy_list hl (by rw [List.size_toArray]; omega) ?_
  rw [List.isEmpty_toArray]
  exact h
theorem pop_in {ys : List Value} {y : Value} {n : Nat} {Q : Value → Shared → Prop} (F : Fr h₀ L s.heap m) (N : News h₀ L s.heap (own ++ (D, listOf (ys ++ [y]).toArray n) :: rest)) (hown : ∀ p ∈ own, p.1 ≠ D) (hap : ∀ p ∈ rest, p.1 ≠ D) (hz : ys.length < 1000)
    (h : ∀ h', Fr h₀ L h' m → News h₀ L h' (own ++ (D, listOf ys.toArray (n + 1)) :: rest) → Q y { s with heap := h' }) : wpAny (model prog w) A (call (.builtin "list.pop") [.ref D]) Q E s := by
  have z := N _ (List.mem_append_right own (.head _))
  have hz' : (ys ++ [y]).toArray.size ≤ sizeLine := by rw [List.size_toArray, List.length_append, sizeLine_eq]; simp only [List.length_singleton]; omega
  have hk : (ys ++ [y]).toArray.size - 1 = ys.length := by rw [List.size_toArray, List.length_append]; rfl
  have hy : (ys ++ [y]).toArray[(ys ++ [y]).toArray.size - 1]? = some y := by rw [hk]; simp
  refine call_meets PySem.F.slot_list_pop ⟨_, z.1, rfl⟩ PySem.F.entry_list_pop (PySem.F.args_list_pop_1 _) (PySem.MeetsSeq.list_pop_last D _ n y hy hz') ⟨z.1, h _ (F.change (Heap.SameBut.update ..) z.2.1 z.2.2) (kl_turn _ N hown hap ?_ ?_)⟩
  · show (ys ++ [y]).toArray.eraseIdxIfInBounds ((ys ++ [y]).toArray.size - 1) = ys.toArray
    rw [hk, kl_erase, List.append_nil]
  · rw [List.size_toArray, List.size_toArray, List.length_append]
    simp
theorem remove_S {ys : List Value} {r : List Str} {n : Nat} {k : Str} {t : Tok} {Q : Value → Shared → Prop} (hi : Reps RS ys r) (hk : k ∈ r)
    (F : Fr h₀ L s.heap m) (N : News h₀ L s.heap (own ++ (D, listOf ys.toArray n) :: rest)) (hown : ∀ p ∈ own, p.1 ≠ D) (hap : ∀ p ∈ rest, p.1 ≠ D) (hsz : ys.length < 1000)
    (h : ∀ h' ys' n', Fr h₀ L h' m → News h₀ L h' (own ++ (D, listOf ys'.toArray n') :: rest) → Reps RS ys' (r.erase k) → Q .none { s with heap := h' }) :
    wpAny (model prog w) A (call (.builtin "list.remove") [.ref D, .str k t]) Q E s := by
  have hlt := List.idxOf_lt_length_of_mem hk
  obtain ⟨v, hv, t', rfl⟩ := hi.at (List.getElem?_eq_getElem hlt)
  have hkk : r[r.idxOf k] = k := List.getElem_idxOf hlt
  refine rem_in (isStrOf k) (fun y hy => eq_isStrOf _ _ hi.strs y hy) hv (by simp [isStrOf, hkk]) (fun i z hij hz => ?_) F N hown hap hsz fun h' n' F' N' => h h' _ n' F' N' ?_
  · obtain ⟨a, ha, t'', rfl⟩ := hi.get hz
    have : a ≠ k := fun e => by
      subst e
      have := List.not_of_lt_findIdx (p := (· == a)) (xs := r) (i := i) hij
      obtain ⟨h1, h2⟩ := List.getElem?_eq_some_iff.mp ha
      simp [h2] at this
    show isStrOf k (.str a t'') = false
    simpa [isStrOf] using this
  · have := hi.eraseIdx (r.idxOf k)
    rwa [← List.erase_eq_eraseIdx_of_idxOf rfl] at this
end
end PartNu

section PartPg
local macro_rules
  | `(tactic| walk_at $k:str) => if ["exec While Name cons nil", "call builtin:list.remove", "call builtin:list.pop", "exec Try cons cons nil nil", "truthy ref"].contains k.getString then `(tactic| (refine hold_it ?_)) else Lean.Macro.throwUnsupported
noncomputable def OldJ (E1 A1 l : Addr) (n : Nat) (m : Str → Option Value) (news : List (Addr × Obj)) : Prop :=
  ∃ vs us eE eA xs ys, n = vs.length ∧ news = [(l, W.listOf #[] 0), (E1, W.listOf (List.toArray vs) eE), (A1, W.listOf (List.toArray us) eA)] ∧ m (Str.ofString "expected") = some (.ref E1) ∧ m (Str.ofString "actual") = some (.ref A1) ∧ m (Str.ofString "missing") = some (.ref l) ∧
    Reps RS vs xs ∧ Reps RS us ys ∧ xs.Perm ys ∧ vs.length < 1000
noncomputable def OldQ (hb : Heap) (L : Addr) (m : Str → Option Value) (own : List (Addr × Obj)) (A1 : Addr) (s : Shared) (r : List Str) (f : Flow) (s₁ : Shared) : Prop :=
  f = .next ∧ ∃ h' us' n' tk', s₁ = { s with heap := h', toks := tk' } ∧ Fr hb L h' m ∧ News hb L h' (own ++ (A1, W.listOf (List.toArray us') n') :: []) ∧ Reps RS us' r
theorem d_old (w : World) (mean : ExcName → Option Value) (mg mb : Str → Option Value) (dp un : Nat) (gd : Option (List Code)) (cn : Str) (cs : Scope) (L a : Addr) (ccd : Value) (cl : List (Str × Addr)) (outer : List Env)
    (E1 A1 : Addr) (e1 a1 : Nat) (vs us : List Value) (xs ys : List Str) (hv : Reps RS vs xs) (hu' : Reps RS us ys) (hpm : xs.Perm ys) (hn : vs.length < 1000) (hne : E1 ≠ A1)
    (hb : Heap) (s : Shared) (Q E : Value → Shared → Prop) (st : hb.StaysIn s.heap) (hz : hb.objs.size ≤ s.heap.objs.size) (X : (hd.heap_39 w.params).In hb) (T : Tp mean mg mb hb)
    (hE : s.heap.get? E1 = some (W.listOf vs.toArray e1)) (hA : s.heap.get? A1 = some (W.listOf us.toArray a1)) (hEb : hb.get? E1 = none) (hAb : hb.get? A1 = none)
    (hd : dp + 4 < recursionLimit) (hu : un + 150 < cLine)
    (hret : ∀ (D M : Addr) h' tk' eM eA, hb.StaysIn h' → h'.get? D = some { cls := .type "tuple", data := .seq #[.ref M, .ref A1] } → h'.get? M = some (W.listOf #[] eM) → h'.get? A1 = some (W.listOf #[] eA) → hb.get? D = none → hb.get? M = none → Q (.ref D) { s with heap := h', toks := tk' }) :
    wpAny (model PySem.Challenge.rw_il0061_01.row.prog w) (ktrTop dp un gd cn cs L a ccd cl outer) (call (.ref 35) [.ref E1, .ref A1]) Q E s := by
  have hfr : ∀ p ∈ [(E1, W.listOf vs.toArray e1), (A1, W.listOf us.toArray a1)], s.heap.get? p.1 = some p.2 ∧ hb.get? p.1 = none := fun p hp => by
    simp only [List.mem_cons, List.not_mem_nil, or_false] at hp
    rcases hp with rfl | rfl
    · exact ⟨hE, hEb⟩
    · exact ⟨hA, hAb⟩
  k_dflt (refine' enterI (frs := [(E1, W.listOf vs.toArray e1), (A1, W.listOf us.toArray a1)]) (binds := [(Str.ofString "expected", .ref E1), (Str.ofString "actual", .ref A1)]) hfr st hz X T ?k6 ?k7 ?k8 ?k9 ?kB ?_ ?c2 ?c3 ?c4 ?c5; (case k6 => k_is); (case k7 => k_is); (case k8 => (show dp < _; omega)); (case k9 => exact BindsTo.of_eq rfl); (case kB => exact locs rfl); (case c2 => exact rfl); (case c3 => exact rfl); (case c4 => exact rfl); (case c5 => decide); k_whole)
  intro L' h₁ tk hlt F' N'
  have i1 : @LT.lt Nat _ E1 L' := hlt _ (.head _)
  have i2 : @LT.lt Nat _ A1 L' := hlt _ (.tail _ (.head _))
  have i3 : ¬ (@Eq Nat E1 A1) := hne
  try dsimp only
  with_reducible show wpAny _ _ _ _ _ _
  k_fold
  k_steps
  rename_i l h2 lt2 h3 F3 N3
  show wpAny _ _ _ _ _ _
  refine While_brk (n₀ := vs.length) (OldJ E1 A1 l) F3 N3 ⟨vs, us, e1, a1, xs, ys, rfl, rfl, rfl, rfl, rfl, hv, hu', hpm, hn⟩ (fun n m₁ led h₅ tk₅ F N hJ => ?_)
  refine hide fun hGoal => ?_
  obtain ⟨vs, us, eE, eA, xs, ys, rfl, rfl, mE, mA, mM, hv, hu', hpm, hn⟩ := hJ
  refine hGoal ?_
  clear hGoal
  try clear F3 N3
  try clear hE hA hfr
  with_reducible show wpAny _ _ _ _ _ _
  try k_fold
  k_steps
  show wpAny _ _ _ _ _ _
  refine' truthy_L (vs := vs) (News.isList N (.tail _ (.head _))) hn ?_
  rcases List.eq_nil_or_concat vs with rfl | ⟨vs0, v0, rfl⟩
  · have hx0 : xs = [] := List.eq_nil_of_length_eq_zero hv.1.symm
    subst hx0
    have hy0 := hpm.nil_eq
    subst hy0
    have hu0 : us = [] := List.eq_nil_of_length_eq_zero hu'.1
    subst hu0
    k_steps
    rename_i D h7 F7 N7 l7
    exact hret D l h7 _ 0 _ F7.keep (N7 _ (.head _)).1 (N7 _ (.tail _ (.head _))).1 (N7 _ (.tail _ (.tail _ (.tail _ (.head _))))).1 (N7 _ (.head _)).2.2 (N7 _ (.tail _ (.head _))).2.2
  · rw [List.concat_eq_append] at N hv hn
    rw [show (!(vs0.concat v0).isEmpty) = true from by rw [List.concat_eq_append]; simp]
    rcases List.eq_nil_or_concat xs with rfl | ⟨xs0, x0, rfl⟩
    · have := hv.1; simp at this
    rw [List.concat_eq_append] at hv hpm
    have hlen0 : vs0.length = xs0.length := by have := hv.1; simpa using this
    have hv0 : Reps RS vs0 xs0 := by
      have := hv.take vs0.length
      rw [List.take_left] at this
      rwa [hlen0, List.take_left] at this
    obtain ⟨t0, rfl⟩ : RS v0 x0 := by
      have := hv.drop vs0.length
      rw [List.drop_left] at this
      rw [hlen0, List.drop_left] at this
      exact this.2 0 v0 x0 rfl rfl
    have hn0 : vs0.length < 1000 := by rw [List.length_append] at hn; omega
    have hmem : x0 ∈ ys := hpm.subset (by simp)
    have hul : us.length < 1000 := by rw [hu'.1, ← hpm.length_eq, ← hv.1]; exact hn
    have hp0 : xs0.Perm (ys.erase x0) := by
      have h1 : (x0 :: xs0).Perm ys := (List.perm_append_singleton x0 xs0).symm.trans hpm
      have h2 := h1.erase x0
      rwa [List.erase_cons_head] at h2
    k_steps
    show wpAny _ _ _ _ _ _
    refine' pop_in (own := [(l, W.listOf #[] 0)]) (rest := [(A1, W.listOf us.toArray eA)]) F N ?hown ?hap hn0 ?_
    case hown => k_all
    case hap => k_all
    intro h6 F6 N6
    clear F N
    k_steps
    rename_i h7 F7 N7
    show wpAny _ _ _ _ _ _
    refine wpAny_Try_except (E := fun _ _ => False) (wpAny_mono (E := fun _ _ => False) (Q := OldQ hb L' (fun y => if y = Str.ofString "item" then some (.str x0 t0) else m₁ y) [(l, W.listOf #[] 0), (E1, W.listOf vs0.toArray (eE + 1))] A1 s (ys.erase x0)) ?_ (fun f s₁ q => ?_) fun _ _ x => x.elim)
    · k_steps
      show wpAny _ _ _ _ _ _
      refine' remove_S (own := [(l, W.listOf #[] 0), (E1, W.listOf vs0.toArray (eE + 1))]) (rest := []) hu' hmem F7 N7 ?hown ?hap hul ?_
      case hown => k_all
      case hap => k_all
      intro h8 us8 n8 F8 N8 hu8
      clear F7 N7
      k_steps
      exact ⟨rfl, h8, us8, n8, _, rfl, F8, N8, hu8⟩
    · refine hide fun hGoal => ?_
      obtain ⟨rfl, h', us', n', tk', rfl, F8, N8, hu8⟩ := q
      refine hGoal ?_
      clear hGoal
      try clear F7 N7
      refine wpAny_execs_nil ?_
      k_steps
      exact ⟨h', _, _, _, vs0.length, rfl, F8, N8, by simp, vs0, us', eE + 1, n', xs0, ys.erase x0, rfl, rfl, mE, mA, mM, hv0, hu8, hp0, hn0⟩
end PartPg

section PartMp
section facts
theorem slot_map_init : Slot "map" "__init__" "object.__init__" :=
  .of (owner := "object") (n := "__init__") (by rw [typeLookup_type, builtinLookup_eq_fast]; kernel_rfl) (by decide +kernel) (by decide +kernel) (by decide +kernel)
    (by first | exact .inl (by decide +kernel) | exact .inr (by decide +kernel)) (by rw [isSubtype_type]; kernel_rfl)
theorem slot_map_iter : Slot "map" "__iter__" "map.__iter__" :=
  .of (owner := "map") (n := "__iter__") (by rw [typeLookup_type, builtinLookup_eq_fast]; kernel_rfl) (by decide +kernel) (by decide +kernel) (by decide +kernel)
    (by first | exact .inl (by decide +kernel) | exact .inr (by decide +kernel)) (by rw [isSubtype_type]; kernel_rfl)
theorem slot_map_next : Slot "map" "__next__" "map.__next__" :=
  .of (owner := "map") (n := "__next__") (by rw [typeLookup_type, builtinLookup_eq_fast]; kernel_rfl) (by decide +kernel) (by decide +kernel) (by decide +kernel)
    (by first | exact .inl (by decide +kernel) | exact .inr (by decide +kernel)) (by rw [isSubtype_type]; kernel_rfl)
theorem entry_map_next : entryFor table "map.__next__" = some Builtin.«map.__next__» := entryFor_of_tree (by kernel_rfl)
theorem entry_map_new : entryFor table "map.__new__" = some Builtin.«map.__new__» := entryFor_of_tree (by kernel_rfl)
theorem entry_map_iter : entryFor table "map.__iter__" = some Builtin.«dict_keyiterator.__iter__» :=
  entryFor_alias (id' := "dict_keyiterator.__iter__") (by kernel_rfl) (by first | rfl | decide +kernel | (unfold String.splitOn; simp +decide [String.splitOnAux])) (by decide +kernel) (by kernel_rfl)
theorem mro_map : mroOf (.type "map") = pure [.type "map", .type "object"] := by rw [mroOf_type]; kernel_rfl
theorem lookup_map_new : typeLookup (.type "map") "__new__" = pure (some (.builtin "map.__new__")) := by rw [typeLookup_type, builtinLookup_eq_fast]; kernel_rfl
theorem called_map : TypeCalled "map" "map.__new__" "object.__init__" :=
  ⟨by decide +kernel, by decide +kernel, ⟨_, _, mro_map⟩, madeBy_type mro_map lookup_map_new (by decide +kernel), by decide +kernel, by rw [isSubtype_type]; kernel_rfl, slot_map_init⟩
theorem typeCall_map_2 (a b : Value) : checkTypeCall "map" ⟨[a, b], []⟩ = pure () := by kernel_rfl
theorem newCall_map_2 (a b : Value) : checkBuiltinCall "map.__new__" ⟨[.type "map", a, b], []⟩ = pure () := by kernel_rfl
theorem sub_map : isSubtype (.type "map") (.type "map") = pure true := by rw [isSubtype_type]; kernel_rfl
theorem map_no_len : typeLookup (.type "map") "__len__" = pure none := by rw [typeLookup_type, builtinLookup_eq_fast]; kernel_rfl
theorem map_no_hint : typeLookup (.type "map") "__length_hint__" = pure none := by rw [typeLookup_type, builtinLookup_eq_fast]; kernel_rfl
theorem args_map_next_1 (a : Value) : argsOk "map.__next__" ⟨[a], []⟩ := by unfold argsOk; kernel_rfl
theorem args_map_iter_1 (a : Value) : argsOk "map.__iter__" ⟨[a], []⟩ := by unfold argsOk; kernel_rfl
end facts
end PartMp

section PartMq
noncomputable abbrev IsMap (h : Heap) (z TI : Addr) (f : Value) : Prop := h.get? z = some { cls := .type "map", dict := none, data := .fields #[.ref TI, f], slots := #[] }
noncomputable abbrev IsOne (h : Heap) (T : Addr) (a : Value) : Prop := h.get? T = some { cls := .type "tuple", data := .seq #[a] }
noncomputable abbrev mapH1 (h : Heap) (l : Addr) : Heap := h.push { cls := .type "list_iterator", data := .fields #[.ref l, .int 0 0] }
noncomputable abbrev mapH2 (h : Heap) (l : Addr) : Heap := (mapH1 h l).push { cls := .type "tuple", data := .seq #[.ref h.objs.size] }
noncomputable abbrev mapH3 (h : Heap) (l : Addr) (f : Value) : Heap := (mapH2 h l).push { cls := .type "map", data := .fields #[.ref (mapH1 h l).objs.size, f] }
theorem meets_map_new (f : Value) (l : Addr) (xs : Array Value) :
    Meets (Builtin.«map.__new__» ⟨[.type "map", f, .ref l], []⟩) (fun _ R s => s.heap.IsList l xs ∧ R (.ok (.ret (.ref (mapH2 s.heap l).objs.size))) { s with heap := mapH3 s.heap l f }) :=
  .of_wp fun prog w A R s h => by
    obtain ⟨hp, g, d, tk, os⟩ := s; obtain ⟨hl1, h⟩ := h
    have hsub := sub_map
    have hL1 : Heap.IsList (Shared.heap ⟨hp, g, d, tk, os⟩) l xs := hl1
    wp_walk using wpAny_pyIter_list hL1
    exact ⟨_, rfl, h⟩
section
variable {prog : Program} {w : World} {A : Around} {E : Value → Shared → Prop} {s : Shared}
theorem args_object_init_3' (a b c : Value) : argsOk "object.__init__" ⟨[a, b, c], []⟩ := F.args_object_init_3 a b c
theorem call_map {f : Value} {l : Addr} {xs : Array Value} {Q : Value → Shared → Prop} (hl : s.heap.IsList l xs)
    (h : ∀ h', IsMap h' (s.heap.objs.size + 2) (s.heap.objs.size + 1) f → IsOne h' (s.heap.objs.size + 1) (.ref s.heap.objs.size) → h'.IsListIter s.heap.objs.size l 0 → h'.objs.size = s.heap.objs.size + 3 →
      (∀ c o, s.heap.get? c = some o → h'.get? c = some o) → Q (.ref (s.heap.objs.size + 2)) { s with heap := h' }) :
    wpAny (model prog w) A (call (.type "map") [f, .ref l]) Q E s := by
  refine callType_new called_map (by decide) (typeCall_map_2 _ _) (newCall_map_2 _ _) (fun obj => F.args_object_init_3 obj _ _) entry_map_new
    (meets_map_new f l xs) ⟨hl, ?_⟩
  have z1 : (mapH1 s.heap l).objs.size = s.heap.objs.size + 1 := Heap.size_push ..
  have z2 : (mapH2 s.heap l).objs.size = s.heap.objs.size + 2 := by rw [Heap.size_push, z1]
  have z3 : (mapH3 s.heap l f).objs.size = s.heap.objs.size + 3 := by rw [Heap.size_push, z2]
  have g3 : (mapH3 s.heap l f).get? (mapH2 s.heap l).objs.size = some _ := Heap.get?_push_size _ rfl
  have g2 : (mapH3 s.heap l f).get? (mapH1 s.heap l).objs.size = some _ := Heap.get?_push_of_some _ (Heap.get?_push_size _ rfl)
  have g1 : (mapH3 s.heap l f).get? s.heap.objs.size = some _ := Heap.get?_push_of_some _ (Heap.get?_push_of_some _ (Heap.get?_push_size _ rfl))
  show _ ∧ _
  rw [z2, z1] at g3
  rw [z1] at g2
  refine ⟨⟨_, by rw [z2]; exact g3, rfl⟩, ?_⟩
  rw [z2]
  exact h _ g3 g2 ⟨_, g1, rfl, rfl⟩ z3 fun c o e => Heap.get?_push_of_some _ (Heap.get?_push_of_some _ (Heap.get?_push_of_some _ e))
end
end PartMq

section PartMr
section
variable {prog : Program} {w : World} {A : Around} {E : Value → Shared → Prop} {s : Shared}
structure MapApart (z TI i1 l : Addr) : Prop where
  zi : z ≠ i1
  ti : TI ≠ i1
  li : l ≠ i1
theorem map_next_item {z TI i1 l : Addr} {f x y : Value} {k : Nat} {xs : Array Value} {Q : Value → Shared → Prop} (D : MapApart z TI i1 l)
    (hz : IsMap s.heap z TI f) (hT : IsOne s.heap TI (.ref i1)) (h1 : s.heap.IsListIter i1 l k) (hl : s.heap.IsList l xs) (hx : xs[k]? = some x)
    (hf : ∀ h₁ (Q' : Value → Shared → Prop), Heap.SameBut i1 s.heap h₁ → (∀ h' tk', h₁.StaysIn h' → Q' y { s with heap := h', toks := tk' }) → wpAny (model prog w) A (call f [x]) Q' E { s with heap := h₁ })
    (hQ : ∀ h' tk, IsMap h' z TI f → IsOne h' TI (.ref i1) → h'.IsListIter i1 l (k + 1) → (∀ c o, c ≠ i1 → s.heap.get? c = some o → h'.get? c = some o) → Q y { s with heap := h', toks := tk }) :
    wpAny (model prog w) A (Builtin.«map.__next__» ⟨[.ref z], []⟩) (fun fin s' => ∃ v, fin = .done (.ret v) ∧ Q v s') E s := by
  show wpAny _ _ (field (.ref z) 0 >>= _) _ _ _
  refine wpAny_bind (wpAny_field hz rfl (x := .ref TI) rfl ?_)
  refine wpAny_bind (wpAny_seqItems hT rfl ?_)
  refine wpAny_bind ?_
  refine wpAny_bind ?_
  show wpAny _ _ (holding [] (Builtin.SmallTypes.nextOf (.ref i1)) >>= fun v => pure (ForInStep.yield ((#[] : Array Value).push v))) _ _ _
  refine wpAny_bind (wpAny_holding (wpAny_nextOf_list_item h1 hl hx fun h₂ h1₂ hs₂ => wpAny_pure ?_))
  show wpAny _ _ (pure _) _ _ _
  refine wpAny_pure ?_
  have hz₂ : IsMap h₂ z TI f := hs₂.extBut _ _ D.zi hz
  have hT₂ : IsOne h₂ TI (.ref i1) := hs₂.extBut _ _ D.ti hT
  show wpAny _ _ (field (.ref z) 1 >>= _) _ _ _
  refine wpAny_bind (wpAny_field hz₂ rfl (x := f) rfl ?_)
  show wpAny _ _ (holding [x] (call f [x]) >>= _) _ _ _
  refine wpAny_bind (wpAny_holding (hf h₂ _ hs₂ fun h' tk' st => ?_))
  refine wpAny_bind (wpAny_letGo (wpAny_pure ?_))
  exact ⟨_, rfl, hQ h' tk' (st _ _ hz₂) (st _ _ hT₂) (h1₂.at fun o e => st _ o e) fun c o hc e => st _ _ (hs₂.extBut _ _ hc e)⟩
theorem map_next_end {z TI i1 l : Addr} {f : Value} {k : Nat} {xs : Array Value} {Q : PySem.Fin → Shared → Prop} (hh : A.handled = none)
    (hz : IsMap s.heap z TI f) (hT : IsOne s.heap TI (.ref i1)) (h1 : s.heap.IsListIter i1 l k) (hl : s.heap.IsList l xs) (hx : xs[k]? = none)
    (hE : ∀ h' e, (∀ c o, c ≠ i1 → s.heap.get? c = some o → h'.get? c = some o) → (∃ o, h'.get? e = some o ∧ o.cls = .type "StopIteration") → E (.ref e) { s with heap := h' }) :
    wpAny (model prog w) A (Builtin.«map.__next__» ⟨[.ref z], []⟩) Q E s := by
  show wpAny _ _ (field (.ref z) 0 >>= _) _ _ _
  refine wpAny_bind (wpAny_field hz rfl (x := .ref TI) rfl ?_)
  refine wpAny_bind (wpAny_seqItems hT rfl ?_)
  refine wpAny_bind ?_
  refine wpAny_bind ?_
  show wpAny _ _ (holding [] (Builtin.SmallTypes.nextOf (.ref i1)) >>= fun v => pure (ForInStep.yield ((#[] : Array Value).push v))) _ _ _
  refine wpAny_bind (wpAny_holding (wpAny_nextOf_list_end hh h1 hl hx fun h₂ e hs₂ he => ?_))
  exact hE h₂ e hs₂ he
theorem pyNext_map_item {z TI i1 l : Addr} {f x y : Value} {k : Nat} {xs : Array Value} {Q : Option Value → Shared → Prop} (D : MapApart z TI i1 l)
    (hz : IsMap s.heap z TI f) (hT : IsOne s.heap TI (.ref i1)) (h1 : s.heap.IsListIter i1 l k) (hl : s.heap.IsList l xs) (hx : xs[k]? = some x)
    (hf : ∀ E' h₁ (Q' : Value → Shared → Prop), Heap.SameBut i1 s.heap h₁ → (∀ h' tk', h₁.StaysIn h' → Q' y { s with heap := h', toks := tk' }) → wpAny (model prog w) A.in1 (call f [x]) Q' E' { s with heap := h₁ })
    (hQ : ∀ h' tk, IsMap h' z TI f → IsOne h' TI (.ref i1) → h'.IsListIter i1 l (k + 1) → (∀ c o, c ≠ i1 → s.heap.get? c = some o → h'.get? c = some o) → Q (some y) { s with heap := h', toks := tk }) :
    wpAny (model prog w) A (pyNext (.ref z)) Q E s := by
  have hTy : s.TypeIs (.ref z) "map" := ⟨_, hz, rfl⟩
  unfold pyNext
  exact wpAny_bind (wpAny_attempt (wpAny_callSpecial?_slot (name := Str.ofString "__next__") hTy slot_map_next
    (wpAny_call_entry slot_map_next hTy entry_map_next
      (map_next_item D hz hT h1 hl hx (fun h₁ Q' => hf _ h₁ Q') fun h' tk a1 a2 a3 a4 => wpAny_pure (hQ h' tk a1 a2 a3 a4)) (args_map_next_1 _))))
theorem pyNext_map_end {z TI i1 l : Addr} {f : Value} {k : Nat} {xs : Array Value} {Q : Option Value → Shared → Prop} (hh : A.handled = none)
    (hz : IsMap s.heap z TI f) (hT : IsOne s.heap TI (.ref i1)) (h1 : s.heap.IsListIter i1 l k) (hl : s.heap.IsList l xs) (hx : xs[k]? = none)
    (hQ : ∀ h', (∀ c o, c ≠ i1 → s.heap.get? c = some o → h'.get? c = some o) → Q none { s with heap := h' }) : wpAny (model prog w) A (pyNext (.ref z)) Q E s := by
  have hTy : s.TypeIs (.ref z) "map" := ⟨_, hz, rfl⟩
  unfold pyNext
  refine wpAny_bind (wpAny_attempt (wpAny_callSpecial?_slot (name := Str.ofString "__next__") hTy slot_map_next
    (wpAny_call_entry slot_map_next hTy entry_map_next (map_next_end hh hz hT h1 hl hx fun h' e hk he => ?_) (args_map_next_1 _))))
  obtain ⟨o, ho, hc⟩ := he
  refine wpAny_bind (wpAny_isInstance (T := "StopIteration") (b := true) ⟨o, ho, hc⟩ isSubtype_stop ?_)
  exact wpAny_pure (hQ _ hk)
theorem pyIter_map {z TI : Addr} {f : Value} {Q : Value → Shared → Prop} (hz : IsMap s.heap z TI f) (h : Q (.ref z) s) : wpAny (model prog w) A (pyIter (.ref z)) Q E s := by
  have hT : s.TypeIs (.ref z) "map" := ⟨_, hz, rfl⟩
  refine wpAny_pyIter_slot hT slot_map_iter (wpAny_call_entry slot_map_iter hT entry_map_iter ?_ (args_map_iter_1 _))
  show wpAny _ _ (ret (.ref z)) _ _ s
  exact wpAny_pure ⟨_, rfl, "map", _, hT, slot_map_next.lookup, h⟩
end
end PartMr

section PartMs
section
variable {prog : Program} {w : World} {A : Around} {E : Value → Shared → Prop} {s : Shared} {I : Addr} {fp wr : List Addr} {G : Array GenState → Array GenState → Prop} {n : Nat} {P : Nat → Value → Prop} {St : Nat → Shared → Prop}
theorem collect_map {Q : List Value → Shared → Prop} (W : WalksS prog w A.in1 I fp wr G n P St) (hT : ∀ i s, St i s → s.TypeIs (.ref I) "map") (hst : St 0 s) (hfp : ∀ b ∈ fp, b < s.heap.objs.size) (hI : I ∈ fp)
    (hQ : ∀ s' acc, Moved wr G s s' → ItemsOf P acc n → Q acc.toList s') (hn : n ≤ sizeLine) : wpAny (model prog w) A (collect (.ref I)) Q E s := by
  have hSf : s.heap.objs.size ∉ fp := fun hm => Nat.lt_irrefl _ (hfp _ hm)
  have hSI : s.heap.objs.size ≠ I := fun e => hSf (e ▸ hI)
  unfold collect
  refine wpAny_bind (wpAny_runValue (codeAny_builtin F.entry_proto_collect ?_))
  rw [Around.under_plainId F.plain_proto_collect _]
  refine wpAny_bind (wpAny_newObj_type ?_)
  refine wpAny_pure ⟨plainId_quiet F.plain_list_iadd _, codeAny_builtin F.entry_list_iadd ?_⟩
  rw [Around.under_plainId F.plain_list_iadd _]
  generalize hL : ({ cls := .type "list", data := .seq ([] : List Value).toArray } : Obj) = oL
  have hLf : oL.isFreed = false := by rw [← hL]; rfl
  have hst₁ := W.frame 0 s (s.heap.push oL) s.toks hst (Nat.le_refl _) fun b _ o e => Heap.get?_push_of_some _ e
  show wpAny _ A.in1 (Builtin.List.listExtendWith (.ref s.heap.objs.size) (.ref I) (.ref s.heap.objs.size)) _ _ _
  unfold Builtin.List.listExtendWith
  refine wpAny_bind (wpAny_typeOf (hT 0 _ hst₁) ?_)
  have h1 : Builtin.List.listSameRef (.ref s.heap.objs.size) (.ref I) = false := by simp [Builtin.List.listSameRef, hSI]
  rw [if_neg (by rw [h1]; decide)]
  refine wpAny_bind (W.self 0 _ _ _ hst₁ ?_)
  refine wpAny_bind (wpAny_holding ?_)
  unfold Builtin.List.listLengthHint
  refine wpAny_bind (wpAny_specialOf (hT 0 _ hst₁) map_no_len ?_)
  show wpAny _ A.in1 (specialOf (Value.ref I) (Str.ofString "__length_hint__") >>= _) _ _ _
  refine wpAny_bind (wpAny_specialOf (hT 0 _ hst₁) map_no_hint ?_)
  refine wpAny_pure ?_
  refine wpAny_bind (wpAny_rule ?_)
  have hS₁ : (s.heap.push oL).get? s.heap.objs.size = some oL := Heap.get?_push_size _ hLf
  refine wpAny_bind ?_
  show wpAny _ A.in1 (updateSeq s.heap.objs.size (·.push .none) >>= fun _ => updateSeq s.heap.objs.size (·.pop)) _ _ _
  subst hL
  refine wpAny_bind (wpAny_updateSeq hS₁ rfl ?_)
  have hS₂ := Heap.get?_update_self (Obj.mapSeq (·.push Value.none)) hS₁ rfl
  refine wpAny_updateSeq hS₂ rfl ?_
  have hS₃ := Heap.get?_update_self (Obj.mapSeq (·.pop)) hS₂ rfl
  have oth : ∀ b o, b ≠ s.heap.objs.size → (s.heap.push { cls := .type "list", data := .seq ([] : List Value).toArray }).get? b = some o →
      (((s.heap.push { cls := .type "list", data := .seq ([] : List Value).toArray }).update s.heap.objs.size (Obj.mapSeq (·.push Value.none))).update s.heap.objs.size (Obj.mapSeq (·.pop))).get? b = some o :=
    fun b o hb e => (Heap.get?_update_other _ _ (Ne.symm hb)).trans ((Heap.get?_update_other _ _ (Ne.symm hb)).trans e)
  refine wpAny_pure ⟨plainId_quiet F.plain_extend_loop _, codeAny_extend_loopS W hn _ hSf _ n 0 _ _ _ rfl (Nat.zero_le _)
    (W.frame 0 ({ s with heap := s.heap.push { cls := .type "list", data := .seq ([] : List Value).toArray } } : Shared) _ s.toks hst₁ (Nat.le_refl _) fun b hb o e => oth b o (fun h => hSf (h ▸ hb)) e) hS₃ (ItemsOf.nil P) fun s' acc' c' hm hS' hacc => ?_⟩
  show wpAny _ A (load s.heap.objs.size >>= _) _ _ s'
  refine wpAny_bind (wpAny_load hS' ?_)
  refine wpAny_pure (hQ s' acc' (Moved.drop_new (o := { cls := .type "list", data := .seq ([] : List Value).toArray }) (tk := s.toks) (Moved.trans W.gtrans ((Moved.refl W.grefl).then_heap (Nat.le_refl _) fun b o hb e => ?_) hm) (Nat.le_refl _)) hacc)
  exact oth b o (fun h => hb (h ▸ List.mem_cons_self)) e
theorem code_tuple_map {Q₁ : Value → Shared → Prop} (W : WalksS prog w A.in1.in1 I fp wr G n P St) (hT : ∀ i s, St i s → s.TypeIs (.ref I) "map") (hst : St 0 s) (hfp : ∀ b ∈ fp, b < s.heap.objs.size) (hI : I ∈ fp)
    (h : ∀ s' acc, Moved wr G s s' → ItemsOf P acc n → Q₁ (.ref s'.heap.objs.size) { s' with heap := s'.heap.push { cls := .type "tuple", data := .seq acc } }) (hsz : n ≤ sizeLine) :
    codeAny (model prog w) A (.call (.builtin "tuple.__new__") ⟨[.type "tuple", .ref I], []⟩) (wants Q₁ E) s := by
  refine codeAny_of_tree ?_
  show wpAny _ A.in1 (do checkBuiltinCall "tuple.__new__" ⟨[.type "tuple", .ref I], []⟩; again (.builtin "tuple.__new__" ⟨[.type "tuple", .ref I], []⟩)) _ _ s
  refine wpAny_bind (wpAny_of_eq (F.newCall_tuple_1 _) (wpAny_pure ⟨plainId_quiet F.plain_tuple_new _, codeAny_builtin F.entry_tuple_new ?_⟩))
  rw [Around.under_plainId F.plain_tuple_new _]
  have hsub := sub_tuple_self
  have hinit := init_tuple_lookup
  have hmh := madeHere_tuple
  have hTI := hT 0 s hst
  wp_walk using wpAny_typeOf hTI, collect_map (hn := hsz) W hT hst hfp hI
  intro s' acc hm hacc
  show wpAny _ _ (Builtin.Tuple.tupleExact acc.toList.toArray >>= fun v => ret v) _ _ _
  unfold Builtin.Tuple.tupleExact
  refine wpAny_bind (wpAny_newObj_type ?_ (by rw [Array.toArray_toList]; show acc.size ≤ sizeLine; rw [hacc.1]; exact hsz))
  refine wpAny_pure ?_
  rw [Array.toArray_toList]
  exact h s' acc hm hacc
theorem call_tuple_map {Q : Value → Shared → Prop} (W : WalksS prog w A.in1.in1.in1 I fp wr G n P St) (hT : ∀ i s, St i s → s.TypeIs (.ref I) "map") (hst : St 0 s) (hfp : ∀ b ∈ fp, b < s.heap.objs.size) (hI : I ∈ fp)
    (hQ : ∀ s' acc, Moved wr G s s' → ItemsOf P acc n → Q (.ref s'.heap.objs.size) { s' with heap := s'.heap.push { cls := .type "tuple", data := .seq acc } }) (hsz : n ≤ sizeLine) :
    wpAny (model prog w) A (call (.type "tuple") [.ref I]) Q E s := by
  refine callType_codes (Q₁ := fun obj s₁ => s₁.TypeIs obj "tuple" ∧ Q obj s₁) F.called_tuple (F.typeCall_tuple_1 _) F.entry_object_init
    (code_tuple_map (hsz := hsz) W hT hst hfp hI fun s' acc hm hacc => ⟨⟨_, Heap.get?_push_size _ rfl, rfl⟩, hQ s' acc hm hacc⟩) fun obj s₁ h₁ => ?_
  exact ⟨h₁.1, F.args_object_init_2 obj _, object_init_meets F.called_tuple.init.lookup F.called_tuple.made (by decide) prog w A.in1 _ s₁ ⟨h₁.1, rfl, h₁.2⟩⟩
end
end PartMs

section PartMt
section
variable {prog : Program} {w : World} {A : Around} {E : Value → Shared → Prop} {s : Shared} {h₀ : Heap} {L : Addr} {m : Str → Option Value} {news : List (Addr × Obj)}
theorem walks_map {H : Heap} {z TI i1 l : Addr} {f : Value} {vs us : List Value} (hh : A.handled = none) (D : MapApart z TI i1 l) (hz : IsMap H z TI f) (hT : IsOne H TI (.ref i1)) (hl : H.IsList l vs.toArray) (hi : i1 < H.objs.size) (hlen : us.length = vs.length)
    (hf : ∀ (i : Nat) v u, vs[i]? = some v → us[i]? = some u → ∀ (s₁ : Shared) (Q' : Value → Shared → Prop) (E' : Value → Shared → Prop), (∀ b o, b ≠ i1 → H.get? b = some o → s₁.heap.get? b = some o) → (∀ h' tk', s₁.heap.StaysIn h' → Q' u { s₁ with heap := h', toks := tk' }) → wpAny (model prog w) A.in1 (call f [v]) Q' E' s₁) :
    Walks prog w A z (List.range H.objs.size) [i1] us.length (fun i v => us[i]? = some v) (fun i h => h.IsListIter i1 l i ∧ ∀ b o, b ≠ i1 → H.get? b = some o → h.get? b = some o) where
  sub := fun b hb => by rw [List.mem_singleton.mp hb]; exact List.mem_range.mpr hi
  frame := fun i h h' st hk => by
    obtain ⟨o, ho, hc⟩ := st.1
    exact ⟨⟨o, hk i1 (List.mem_range.mpr hi) o ho, hc⟩, fun b o hb e => hk b (List.mem_range.mpr (Heap.lt_size e)) o (st.2 b o hb e)⟩
  item := fun i s Q E hi' st hQ => by
    have hv : vs[i]? = some (vs[i]'(hlen ▸ hi')) := List.getElem?_eq_getElem _
    have hu : us[i]? = some us[i] := List.getElem?_eq_getElem hi'
    refine pyNext_map_item D (st.2 _ _ D.zi hz) (st.2 _ _ D.ti hT) st.1 (hl.at fun o e => st.2 _ _ D.li e) (by simpa using hv) (fun E' h₁ Q' hs hq => hf i _ _ hv hu _ Q' E' (fun b o hb e => hs.extBut _ _ hb (st.2 b o hb e)) hq) fun h' tk _ _ hit hk => ?_
    exact hQ _ h' tk hu ⟨hit, fun b o hb e => hk _ _ hb (st.2 b o hb e)⟩ fun b o hb e => hk b o (fun q => hb (q ▸ .head _)) e
  done := fun s Q E st hQ => pyNext_map_end hh (st.2 _ _ D.zi hz) (st.2 _ _ D.ti hT) st.1 (hl.at fun o e => st.2 _ _ D.li e) (by simp [hlen]) fun h' hk => hQ h' s.toks fun b o hb e => hk b o (fun q => hb (q ▸ .head _)) e
  self := fun i s Q E st hQ => pyIter_map (st.2 _ _ D.zi hz) hQ
theorem tuple_map {z TI i1 l : Addr} {f : Value} {vs us : List Value} {Q : Value → Shared → Prop} (hh : A.handled = none) (D : MapApart z TI i1 l) (hz : IsMap s.heap z TI f) (hT : IsOne s.heap TI (.ref i1)) (h1 : s.heap.IsListIter i1 l 0) (hl : s.heap.IsList l vs.toArray) (hlen : us.length = vs.length) (hn : us.length < 1000)
    (F : Fr h₀ L s.heap m) (N : News h₀ L s.heap news) (hi1 : h₀.get? i1 = none) (hiL : i1 ≠ L) (hiN : ∀ p ∈ news, p.1 ≠ i1)
    (hf : ∀ (i : Nat) v u, vs[i]? = some v → us[i]? = some u → ∀ (s₁ : Shared) (Q' : Value → Shared → Prop) (E' : Value → Shared → Prop), Fr h₀ L s₁.heap m → News h₀ L s₁.heap news → (∀ h' tk', s₁.heap.StaysIn h' → Q' u { s₁ with heap := h', toks := tk' }) → wpAny (model prog w) A.in1.in1.in1.in1 (call f [v]) Q' E' s₁)
    (hQ : ∀ T h' tk, Fr h₀ L h' m → News h₀ L h' ((T, { cls := .type "tuple", data := .seq us.toArray }) :: news) → (∀ p ∈ news, @LT.lt Nat _ p.1 T) → Q (.ref T) { s with heap := h', toks := tk }) :
    wpAny (model prog w) A (call (.type "tuple") [.ref z]) Q E s := by
  obtain ⟨oi, hoi, _⟩ := id h1
  have up : ∀ h' : Heap, (∀ b o, b ≠ i1 → s.heap.get? b = some o → h'.get? b = some o) → Fr h₀ L h' m ∧ News h₀ L h' news := fun h' hk => by
    obtain ⟨oL, es, ep, hL, r⟩ := F.ns
    exact ⟨⟨⟨oL, es, ep, hk _ _ (Ne.symm hiL) hL, r⟩, fun b o e => hk _ _ (fun q => by rw [q, hi1] at e; cases e) (F.keep b o e), F.above⟩, fun p hp => ⟨hk _ _ (hiN p hp) (N p hp).1, (N p hp).2⟩⟩
  have W := walks_map (prog := prog) (w := w) (A := A.in1.in1.in1) (H := s.heap) (us := us) hh D hz hT hl (Heap.lt_size hoi) hlen fun i v u hv hu s₁ Q' E' hk hq => hf i v u hv hu s₁ Q' E' (up _ hk).1 (up _ hk).2 hq
  refine call_tuple_map W.toS (fun i s' st => ⟨_, st.2 _ _ D.zi hz, rfl⟩) ⟨h1, fun b o _ e => e⟩ (fun b hb => List.mem_range.mp hb) (List.mem_range.mpr (Heap.lt_size hz)) (fun s' acc hm hacc => ?_) (by rw [sizeLine_eq]; omega)
  obtain ⟨h', g, d, tk, os⟩ := s'
  obtain ⟨mh, mg, md, mo, _⟩ := hm
  have e1 : g = s.gens := mg
  have e2 : d = s.drawn := md
  have e3 : os = s.os := mo
  subst e1 e2 e3
  have hk : ∀ b o, b ≠ i1 → s.heap.get? b = some o → h'.get? b = some o := fun b o hb e => mh b o (fun q => hb (List.mem_singleton.mp q)) e
  obtain ⟨F', N'⟩ := up h' hk
  have ea : acc = us.toArray := by
    apply Array.ext_getElem?
    intro i
    by_cases c : i < acc.size
    · rw [Array.getElem?_eq_getElem c]
      have := hacc.2 i _ (Array.getElem?_eq_getElem c)
      simpa using this.symm
    · have : us.length ≤ i := by rw [← hacc.1]; omega
      rw [Array.getElem?_eq_none (by omega), Array.getElem?_eq_none (by simpa using this)]
  subst ea
  exact hQ h'.objs.size _ tk (F'.push _) (News.push F' N' _) fun p hp => Heap.lt_size (N' p hp).1
end
end PartMt

section PartSr
section
variable {prog : Program} {w : World} {A : Around} {E : Value → Shared → Prop} {s : Shared}
theorem src_tuple {l : Addr} {vs : List Value} (hh : A.handled = none) (hl : s.heap.IsTuple l vs.toArray) :
    Src prog w A s.heap s.heap.objs.size [s.heap.objs.size, l] [s.heap.objs.size] vs.length (fun i v => vs[i]? = some v) (fun i h => h.IsTupleIter s.heap.objs.size l i ∧ h.IsTuple l vs.toArray)
      { s with heap := s.heap.push { cls := .type "tuple_iterator", data := .fields #[.ref l, .int 0 0] } } := by
  obtain ⟨ol, hol, _⟩ := id hl
  have hlt := Heap.lt_size hol
  have W := Walks.tuple (prog := prog) (w := w) hh s.heap.objs.size l (Nat.ne_of_lt hlt) vs.toArray
  rw [List.size_toArray] at W
  have eP : (fun (i : Nat) (v : Value) => vs.toArray[i]? = some v) = fun i v => vs[i]? = some v := by funext i v; simp
  rw [eP] at W
  refine ⟨W, ⟨⟨_, Heap.get?_push_size _ rfl, rfl, rfl⟩, hl.push _⟩, fun b hb => ?_, fun b hb => List.mem_singleton.mp hb, fun i h st => by obtain ⟨o, ho, _⟩ := st.1; exact ⟨o, ho⟩, Nat.le_refl _, fun b o e => Heap.get?_push_of_some _ e⟩
  show b < (s.heap.push _).objs.size
  rw [Heap.size_push]
  rcases List.mem_cons.mp hb with rfl | hb
  · exact Nat.lt_succ_self _
  · rw [List.mem_singleton.mp hb]; exact Nat.lt_succ_of_lt hlt
end
end PartSr

section PartSt
noncomputable def pthL (xs : List Str) : List Nat := xs.flatMap fun x => 47 :: x.cps.toList
noncomputable def pth (xs : List Str) : Str := ⟨(pthL xs).toArray⟩
noncomputable def Nm (x : Str) : Prop := x.cps.toList ≠ [] ∧ ∀ c ∈ x.cps.toList, c ≠ 47 ∧ c ≠ 46
theorem sep_is : sep = ⟨#[47]⟩ := by decide
theorem str_toList {a b : Str} (h : a.cps.toList = b.cps.toList) : a = b := by
  obtain ⟨⟨a⟩⟩ := a; obtain ⟨⟨b⟩⟩ := b
  simp at h; subst h; rfl
theorem pthL_snoc (xs : List Str) (x : Str) : pthL (xs ++ [x]) = pthL xs ++ 47 :: x.cps.toList := by simp [pthL]
theorem pthL_cons (xs : List Str) (x : Str) : pthL (x :: xs) = 47 :: x.cps.toList ++ pthL xs := by simp [pthL]
theorem pth_toList (xs : List Str) : (pth xs).cps.toList = pthL xs := rfl
theorem app_toList (a b : Str) : (a ++ b).cps.toList = a.cps.toList ++ b.cps.toList := by
  show (a.cps ++ b.cps).toList = _; simp
theorem len_toList (a : Str) : a.length = a.cps.toList.length := by simp [Str.length]
theorem rfind_at {x : Str} {p q : List Nat} (h : x.cps.toList = p ++ 47 :: q) (hq : 47 ∉ q) : Txt.rfind x sep = (p.length : Nat) := by
  have hat : ∀ i, StrLaws.At x sep x.length i ↔ x.cps.toList[i]? = some 47 := fun i => by rw [sep_is]; exact StrLaws.subAt_one x 47 i
  rcases rfind_whole x sep with ⟨_, hn⟩ | ⟨i, hi, ha, hn⟩
  · exact absurd ((hat p.length).mpr (by rw [h]; simp)) (hn _)
  · rw [hi]
    have ha' := (hat i).mp ha
    rcases Nat.lt_trichotomy i p.length with c | c | c
    · exact absurd ((hat p.length).mpr (by rw [h]; simp)) (hn _ c)
    · rw [c]
    · rw [h, List.getElem?_append_right (by omega)] at ha'
      obtain ⟨d, hd⟩ : ∃ d, i - p.length = d + 1 := ⟨i - p.length - 1, by omega⟩
      rw [hd] at ha'
      exact absurd (List.mem_of_getElem? (by simpa using ha')) hq
theorem slice_from {x : Str} {p q : List Nat} (h : x.cps.toList = p ++ q) : Txt.slice x (some (p.length : Int)) none = ⟨q.toArray⟩ := by
  have := StrLaws.sliceText_from (x := x) (i := (p.length : Int)) ⟨by omega, by rw [h, List.length_append]; omega⟩
  refine Eq.trans this ?_
  rw [h]
  have e : ((((p ++ q).length : Nat) : Int) - (p.length : Int)).toNat = q.length := by rw [List.length_append]; omega
  rw [e]
  simp
theorem slice_to {x : Str} {p q : List Nat} (h : x.cps.toList = p ++ q) : Txt.slice x none (some (p.length : Int)) = ⟨p.toArray⟩ := by
  have := StrLaws.sliceText_to (x := x) (j := (p.length : Int)) ⟨by omega, by rw [h, List.length_append]; omega⟩
  refine Eq.trans this ?_
  rw [h]
  simp
theorem base_at {x : Str} {p q : List Nat} (h : x.cps.toList = p ++ 47 :: q) (hq : 47 ∉ q) : baseS x = ⟨q.toArray⟩ := by
  unfold baseS
  rw [rfind_at h hq]
  have := slice_from (x := x) (p := p ++ [47]) (q := q) (by rw [h]; simp)
  simpa using this
theorem head_at {x : Str} {p q : List Nat} (h : x.cps.toList = p ++ 47 :: q) (hq : 47 ∉ q) : headS x = ⟨(p ++ [47]).toArray⟩ := by
  unfold headS
  rw [rfind_at h hq]
  have := slice_to (x := x) (p := p ++ [47]) (q := q) (by rw [h]; simp)
  simpa using this
theorem rstrip_at {p : List Nat} {c : Nat} (hc : c ≠ 47) : Txt.rstripChars ⟨(p ++ [c, 47]).toArray⟩ sep = ⟨(p ++ [c]).toArray⟩ := by
  unfold Txt.rstripChars
  rw [PyProof.Rows.stripBy_eq]
  have hc' : sep.cps.contains c = false := by rw [sep_is]; simpa using hc
  have h47 : sep.cps.contains 47 = true := by rw [sep_is]; simp
  have e : stripHi sep.cps.contains true ⟨(p ++ [c, 47]).toArray⟩ 0 = p.length + 1 := by
    generalize sep.cps.contains = g at hc' h47
    have h1 : (((p ++ [c, 47]).drop 0).reverse.takeWhile g).length = 1 := by
      rw [List.drop_zero, List.reverse_append]
      show (List.takeWhile g (47 :: c :: p.reverse)).length = 1
      rw [List.takeWhile_cons, h47, if_pos rfl, List.takeWhile_cons, hc']; rfl
    show (p ++ [c, 47]).length - (((p ++ [c, 47]).drop 0).reverse.takeWhile g).length = _
    rw [h1, List.length_append]; rfl
  have e0 : stripLo sep.cps.contains false ⟨(p ++ [c, 47]).toArray⟩ = 0 := rfl
  rw [e0, e]
  apply str_toList
  rw [StrLaws.strSub_toList]
  have : p ++ [c, 47] = (p ++ [c]) ++ [47] := by simp
  show List.take (p.length + 1 - 0) (List.drop 0 (p ++ [c, 47])) = p ++ [c]
  rw [this, List.drop_zero, show p.length + 1 - 0 = (p ++ [c]).length by simp, List.take_left]
theorem mul_len (n : Int) : ∀ c ∈ (Txt.mul sep n).cps.toList, c = 47 := by
  intro c hc
  unfold Txt.mul at hc
  split at hc
  · simp [Str.empty] at hc
  split at hc
  · rw [sep_is] at hc; simpa using hc
  · have key : ∀ (k : Nat) (acc : Array Nat), (∀ c ∈ acc.toList, c = 47) → ∀ c ∈ ((List.replicate k sep.cps).foldl (· ++ ·) acc).toList, c = 47 := by
      intro k
      induction k with
      | zero => intro acc h; exact h
      | succ k ih =>
        intro acc h
        rw [List.replicate_succ, List.foldl_cons]
        refine ih _ fun c hc => ?_
        rw [Array.toList_append] at hc
        rcases List.mem_append.mp hc with hc | hc
        · exact h c hc
        · rw [sep_is] at hc; simpa using hc
    exact key _ #[] (by simp) c hc
theorem base_pth (xs : List Str) {x : Str} (hx : Nm x) : baseS (pth (xs ++ [x])) = x := by
  rw [base_at (x := pth (xs ++ [x])) (p := pthL xs) (q := x.cps.toList) (by rw [pth_toList, pthL_snoc]) (fun q => (hx.2 47 q).1 rfl)]
theorem dir_one {x : Str} (hx : Nm x) : dirS (pth [x]) = sep := by
  have hh : headS (pth [x]) = sep := by
    rw [head_at (x := pth [x]) (p := []) (q := x.cps.toList) (by rw [pth_toList, show ([x] : List Str) = [] ++ [x] from rfl, pthL_snoc]; rfl) (fun q => (hx.2 47 q).1 rfl), sep_is]; rfl
  unfold dirS
  rw [hh, if_neg (by rw [sep_is]; decide), if_neg (by rw [sep_is]; decide +kernel)]
theorem dir_pth (xs : List Str) {y x : Str} (hy : Nm y) (hx : Nm x) : dirS (pth (xs ++ [y] ++ [x])) = pth (xs ++ [y]) := by
  have hh : headS (pth (xs ++ [y] ++ [x])) = ⟨(pthL (xs ++ [y]) ++ [47]).toArray⟩ :=
    head_at (x := pth (xs ++ [y] ++ [x])) (p := pthL (xs ++ [y])) (q := x.cps.toList) (by rw [pth_toList, pthL_snoc]) (fun q => (hx.2 47 q).1 rfl)
  obtain ⟨z, c, hz⟩ : ∃ z c, y.cps.toList = z ++ [c] := by
    rcases List.eq_nil_or_concat y.cps.toList with h | ⟨z, c, h⟩
    · exact absurd h hy.1
    · exact ⟨z, c, by rw [h, List.concat_eq_append]⟩
  have hc : c ≠ 47 := (hy.2 c (by rw [hz]; simp)).1
  have e : pthL (xs ++ [y]) ++ [47] = (pthL xs ++ 47 :: z) ++ [c, 47] := by rw [pthL_snoc, hz]; simp
  unfold dirS
  rw [hh, e]
  rw [if_neg, if_pos, rstrip_at hc]
  · apply str_toList
    rw [pth_toList, pthL_snoc, hz]; simp
  · rw [bne_iff_ne]
    intro q
    refine hc (mul_len (((⟨(pthL xs ++ 47 :: z ++ [c, 47]).toArray⟩ : Str).length : Nat) : Int) c ?_)
    rw [← q]; simp
  · simp [Str.length]; omega
theorem base_sep : baseS sep = ⟨#[]⟩ := base_at (x := sep) (p := []) (q := []) (by rw [sep_is]; rfl) (by simp)
theorem starts_pth (x : Str) (xs : List Str) : Txt.startswith (pth (x :: xs)) sep = true := by
  unfold Txt.startswith
  have := (StrLaws.subAt_one (pth (x :: xs)) 47 0).mpr (by rw [pth_toList, pthL_cons]; rfl)
  rw [sep_is]
  simp [this.2]
  simpa using this.1
theorem starts_nm {x : Str} (h : 47 ∉ x.cps.toList) : Txt.startswith x sep = false := by
  unfold Txt.startswith
  cases e : (0 + sep.length ≤ x.length && Builtin.Str.subAt x sep 0 : Bool) with
  | false => rfl
  | true =>
    rw [sep_is, Bool.and_eq_true, decide_eq_true_eq] at e
    have := (StrLaws.subAt_one x 47 0).mp e
    exact absurd (List.mem_of_getElem? this) h
theorem join_one : ∀ (ps qs : List Str), ps ≠ [] → qs ≠ [] → (∀ p ∈ ps, 47 ∉ p.cps.toList) → (∀ p ∈ qs, 47 ∉ p.cps.toList) → (Str.join sep ps).cps.toList = (Str.join sep qs).cps.toList → ps = qs := by
  have hs : sep.cps.toList = [47] := by rw [sep_is]
  have hj : ∀ (x y : Str) (r : List Str), (Str.join sep (x :: y :: r)).cps.toList = x.cps.toList ++ 47 :: (Str.join sep (y :: r)).cps.toList := fun x y r => by
    show (x ++ sep ++ Str.join sep (y :: r)).cps.toList = _
    rw [app_toList, app_toList, hs]; simp
  have key : ∀ (a b u v : List Nat), 47 ∉ a → 47 ∉ b → a ++ 47 :: u = b ++ 47 :: v → a = b ∧ u = v := by
    intro a
    induction a with
    | nil =>
      intro b u v _ hb e
      cases b with
      | nil => simpa using e
      | cons c b => simp at e; exact absurd (by rw [← e.1]; exact .head _) hb
    | cons c a ih =>
      intro b u v ha hb e
      cases b with
      | nil => simp at e; exact absurd (by rw [e.1]; exact .head _) ha
      | cons d b =>
        simp only [List.cons_append, List.cons.injEq] at e
        obtain ⟨h1, h2⟩ := ih b u v (fun h => ha (.tail _ h)) (fun h => hb (.tail _ h)) e.2
        exact ⟨by rw [e.1, h1], h2⟩
  intro ps
  induction ps with
  | nil => intro qs h; exact absurd rfl h
  | cons x ps ih =>
    intro qs _ hq hp1 hp2 e
    cases qs with
    | nil => exact absurd rfl hq
    | cons y qs =>
      cases ps with
      | nil =>
        cases qs with
        | nil => rw [str_toList (a := x) (b := y) e]
        | cons z qs => rw [hj] at e; exact absurd (show 47 ∈ x.cps.toList by rw [show x.cps.toList = (Str.join sep [x]).cps.toList from rfl, e]; simp) (hp1 x (.head _))
      | cons x2 ps =>
        cases qs with
        | nil => rw [hj] at e; exact absurd (show 47 ∈ y.cps.toList by rw [show y.cps.toList = (Str.join sep [y]).cps.toList from rfl, ← e]; simp) (hp2 y (.head _))
        | cons y2 qs =>
          rw [hj, hj] at e
          obtain ⟨h1, h2⟩ := key _ _ _ _ (hp1 x (.head _)) (hp2 y (.head _)) e
          rw [str_toList h1, ih (y2 :: qs) (by simp) (by simp) (fun p hp => hp1 p (.tail _ hp)) (fun p hp => hp2 p (.tail _ hp)) h2]
theorem join_pth : ∀ (xs : List Str), xs ≠ [] → (Str.join sep (⟨#[]⟩ :: xs)).cps.toList = pthL xs
  | [], h => absurd rfl h
  | [x], _ => by
    show ((⟨#[]⟩ : Str) ++ sep ++ x).cps.toList = _
    rw [app_toList, app_toList, sep_is]; simp [pthL]
  | x :: y :: r, _ => by
    have ih := join_pth (y :: r) (by simp)
    have e1 : (Str.join sep ((⟨#[]⟩ : Str) :: y :: r)).cps.toList = 47 :: (Str.join sep (y :: r)).cps.toList := by
      show ((⟨#[]⟩ : Str) ++ sep ++ Str.join sep (y :: r)).cps.toList = _
      rw [app_toList, app_toList, sep_is]; simp
    show ((⟨#[]⟩ : Str) ++ sep ++ (x ++ sep ++ Str.join sep (y :: r))).cps.toList = _
    rw [app_toList, app_toList, app_toList, app_toList, pthL_cons, ← ih, e1, sep_is]; simp
theorem split_pth (xs : List Str) (hne : xs ≠ []) (hx : ∀ x ∈ xs, Nm x) : Txt.split (pth xs) sep = ⟨#[]⟩ :: xs := by
  have h1 := StrLaws.join_split (pth xs) sep
  refine join_one _ _ (fun e => ?_) (by simp) (fun p hp => ?_) (fun p hp => ?_) ?_
  · have := split_pos (pth xs) sep
    rw [e] at this; simp at this
  · have := StrLaws.split_free (pth xs) 47
    rw [← sep_is] at this
    exact this p hp
  · rcases List.mem_cons.mp hp with rfl | hp
    · simp
    · exact fun q => ((hx p hp).2 47 q).1 rfl
  · rw [h1, join_pth xs hne, pth_toList]
theorem joinS_pth (xs : List Str) (hx : ∀ x ∈ xs, Nm x) (hne : xs ≠ []) : joinS sep xs = pth xs := by
  have step : ∀ (ys : List Str), (∀ x ∈ ys, Nm x) → ∀ (ps : List Str) (p : Str), (∀ y ∈ ps, Nm y) → Nm p → ys.foldl joinStep (pth (ps ++ [p])) = pth (ps ++ [p] ++ ys) := by
    intro ys
    induction ys with
    | nil => intro _ ps p _ _; simp
    | cons y ys ih =>
      intro hy ps p hps hp
      have hyy := hy y (.head _)
      have e : joinStep (pth (ps ++ [p])) y = pth (ps ++ [p] ++ [y]) := by
        unfold joinStep
        rw [if_neg (by rw [starts_nm fun q => (hyy.2 47 q).1 rfl]; decide)]
        have hl : (pth (ps ++ [p])).length ≠ 0 := by rw [len_toList, pth_toList, pthL_snoc]; simp
        rw [if_neg (by omega)]
        have he : Txt.endswith (pth (ps ++ [p])) sep = false := by
          unfold Txt.endswith
          cases q : (0 + sep.length ≤ (pth (ps ++ [p])).length && Builtin.Str.subAt (pth (ps ++ [p])) sep ((pth (ps ++ [p])).length - sep.length) : Bool) with
          | false => rfl
          | true =>
            rw [sep_is, Bool.and_eq_true, decide_eq_true_eq] at q
            have h1 : (⟨#[47]⟩ : Str).length = 1 := rfl
            have := (StrLaws.subAt_one (pth (ps ++ [p])) 47 ((pth (ps ++ [p])).length - 1)).mp ⟨by rw [h1]; omega, q.2⟩
            rw [len_toList, pth_toList, ← List.getLast?_eq_getElem?, pthL_snoc] at this
            obtain ⟨z, c, hz⟩ : ∃ z c, p.cps.toList = z ++ [c] := by
              rcases List.eq_nil_or_concat p.cps.toList with h | ⟨z, c, h⟩
              · exact absurd h hp.1
              · exact ⟨z, c, by rw [h, List.concat_eq_append]⟩
            rw [hz, show pthL ps ++ 47 :: (z ++ [c]) = (pthL ps ++ 47 :: z) ++ [c] by simp, List.getLast?_concat] at this
            exact absurd (Option.some.inj this) (hp.2 c (by rw [hz]; simp)).1
        rw [if_neg (by rw [he]; decide)]
        apply str_toList
        rw [app_toList, app_toList, pth_toList, pth_toList, pthL_snoc (ps ++ [p]), sep_is]
        simp
      rw [List.foldl_cons, e, ih (fun x hx => hy x (.tail _ hx)) (ps ++ [p]) y (fun z hz => by rcases List.mem_append.mp hz with h | h; exact hps z h; rw [List.mem_singleton.mp h]; exact hp) hyy]
      simp
  cases xs with
  | nil => exact absurd rfl hne
  | cons x xs =>
    have hxx := hx x (.head _)
    have e : joinStep sep x = pth ([] ++ [x]) := by
      unfold joinStep
      rw [if_neg (by rw [starts_nm fun q => (hxx.2 47 q).1 rfl]; decide), if_neg (by rw [sep_is]; decide), if_pos (by rw [sep_is]; decide +kernel)]
      apply str_toList
      rw [app_toList, pth_toList, pthL_snoc, sep_is]; rfl
    show (x :: xs).foldl joinStep sep = _
    rw [List.foldl_cons, e, step xs (fun y hy => hx y (.tail _ hy)) [] x (by simp) hxx]
    simp
theorem pth_inj {xs ys : List Str} (hx : ∀ x ∈ xs, Nm x) (hy : ∀ y ∈ ys, Nm y) (h1 : xs ≠ []) (h2 : ys ≠ []) (h : pth xs = pth ys) : xs = ys := by
  have := split_pth xs h1 hx
  rw [h, split_pth ys h2 hy] at this
  simpa using this.symm
end PartSt

section PartLo
open PySem.MeetsSeq3
open AutoSeq1 (wpAny_loadPart')
theorem lo_loop_lt (l b : Addr) (items items2 : Array Value) (n n2 : Nat) (r : Bool) (k : Nat) :
    ∀ i : Nat, items.size - i = k → LexP .Lt (decide (items.size < items2.size)) ((items.toList.zip items2.toList).drop i) r → Meets (Builtin.«list.__eq__.loop» ⟨[.ref l, .ref b, rawInt i, rawInt 0], []⟩)
      (fun _ R s => s.heap.get? l = some { cls := .type "list", dict := none, data := .seq items n, slots := #[] } ∧ s.heap.get? b = some { cls := .type "list", dict := none, data := .seq items2 n2, slots := #[] } ∧
        R (.ok (.ret (.bool r))) s) := by
  induction k with
  | zero =>
    intro i hk hx prog w A R s h
    obtain ⟨hp, g, d, tk, os⟩ := s; obtain ⟨hl, hb, h⟩ := h
    wp_walk using wpAny_loadPart' hl, wpAny_loadPart' hb
    have hi1 : items[((i : Nat) : Int).toNat]? = none := by simp; omega
    have hd : (items.toList.zip items2.toList).drop i = [] := by simp; omega
    rw [hd] at hx
    cases hx
    rw [hi1]
    wp_walk using wpAny_loadPart' hl, wpAny_loadPart' hb
    exact h
  | succ k ih =>
    intro i hk hx prog w A R s h
    obtain ⟨hp, g, d, tk, os⟩ := s; obtain ⟨hl, hb, h⟩ := h
    wp_walk using wpAny_loadPart' hl, wpAny_loadPart' hb
    have hlt : i < items.size := by omega
    have hi1 : items[((i : Nat) : Int).toNat]? = some items[i] := by simp [hlt]
    have hc : ((i : Int) + 1) = ((i + 1 : Nat) : Int) := by push_cast; rfl
    by_cases hlt2 : i < items2.size
    · have hi2 : items2[((i : Nat) : Int).toNat]? = some items2[i] := by simp [hlt2]
      have hd : (items.toList.zip items2.toList).drop i = (items[i], items2[i]) :: (items.toList.zip items2.toList).drop (i + 1) := by
        rw [List.drop_eq_getElem_cons (by rw [List.length_zip]; simp; omega)]
        simp
      rw [hd] at hx
      rw [hi1, hi2]
      cases hx with
      | eq he hx =>
        refine wpAny_bind (he prog w _ _ _ _ ?_)
        wp_walk
        rw [hc]
        exact ⟨plainId_quiet plain_eq_loop _, codeAny_builtin entry_eq_loop (by
          rw [Around.under_plainId plain_eq_loop _]
          exact ih (i + 1) (by omega) hx prog w A R _ ⟨hl, hb, h⟩)⟩
      | ne he ho =>
        refine wpAny_bind (he prog w _ _ _ _ ?_)
        wp_walk using wpAny_loadPart' hl, wpAny_loadPart' hb
        rw [hi1, hi2]
        show wpAny _ _ (richCompare .Lt items[i] items2[i] >>= _) _ _ _
        refine wpAny_bind (ho prog w _ _ _ _ ?_)
        wp_walk
        exact h
    · have hi2 : items2[((i : Nat) : Int).toNat]? = none := by simp; omega
      have hd : (items.toList.zip items2.toList).drop i = [] := by simp; omega
      rw [hd] at hx
      cases hx
      rw [hi1, hi2]
      wp_walk using wpAny_loadPart' hl, wpAny_loadPart' hb
      exact h
theorem lo_lt_body (l b : Addr) (items items2 : Array Value) (n n2 : Nat) (r : Bool) (hx : LexP .Lt (decide (items.size < items2.size)) (items.toList.zip items2.toList) r) : Meets (Builtin.«list.__lt__» ⟨[.ref l, .ref b], []⟩)
      (fun _ R s => s.heap.get? l = some { cls := .type "list", dict := none, data := .seq items n, slots := #[] } ∧ s.heap.get? b = some { cls := .type "list", dict := none, data := .seq items2 n2, slots := #[] } ∧
        R (.ok (.ret (.bool r))) s) := by
  intro prog w A R s h
  obtain ⟨hp, g, d, tk, os⟩ := s; obtain ⟨hl, hb, h⟩ := h
  have f3 := AutoSeq1.sub_list_list
  wp_walk using wpAny_loadPart' hl, wpAny_loadPart' hb
  exact ⟨plainId_quiet plain_eq_loop _, codeAny_builtin entry_eq_loop (by
    rw [Around.under_plainId plain_eq_loop _]
    exact lo_loop_lt l b items items2 n n2 r _ 0 rfl hx prog w A R _ ⟨hl, hb, h⟩)⟩
noncomputable def lexLt : List Str → List Str → Bool
  | x :: xs, y :: ys => if x = y then lexLt xs ys else decide (x.cps.toList < y.cps.toList)
  | xs, ys => decide (xs.length < ys.length)
theorem lex_lexLt : ∀ {vs us : List Value} {xs ys : List Str} (n m : Nat), Reps RS vs xs → Reps RS us ys → LexP .Lt (decide (n + xs.length < n + ys.length)) (vs.zip us) (lexLt xs ys)
  | [], us, [], ys, n, m, _, _ => by
    have : lexLt [] ys = decide (n + ([] : List Str).length < n + ys.length) := by unfold lexLt; cases ys <;> simp
    rw [this]
    exact .nil
  | v :: vs, [], x :: xs, [], n, m, _, _ => by
    have : lexLt (x :: xs) [] = decide (n + (x :: xs).length < n + ([] : List Str).length) := by unfold lexLt; simp
    rw [this]
    exact .nil
  | v :: vs, u :: us, x :: xs, y :: ys, n, m, h1, h2 => by
    refine hide fun hGoal => ?_
    obtain ⟨⟨t, rfl⟩, h1'⟩ := h1.uncons
    refine hGoal ?_
    clear hGoal
    refine hide fun hGoal => ?_
    obtain ⟨⟨t', rfl⟩, h2'⟩ := h2.uncons
    refine hGoal ?_
    clear hGoal
    rw [List.zip_cons_cons, lexLt]
    have heq : MeetsSeq.EqGives (.str x t) (.str y t') (decide (x = y)) := fun prog w A E s Q h => wpAny_eqBool_str h
    by_cases c : x = y
    · rw [if_pos c]
      rw [decide_eq_true c] at heq
      have := lex_lexLt (n + 1) m h1' h2'
      have e : ∀ l : List Str, n + 1 + l.length = n + (l.length + 1) := fun l => by omega
      rw [e, e] at this
      exact .eq heq this
    · rw [if_neg c]
      rw [decide_eq_false c] at heq
      exact .ne heq (OrdGives.ltS x y t t')
  | [], _, _ :: _, _, _, _, h, _ => by have := h.1; simp at this
  | _ :: _, _, [], _, _, _, h, _ => by have := h.1; simp at this
  | _, [], _, _ :: _, _, _, _, h => by have := h.1; simp at this
  | _, _ :: _, _, [], _, _, _, h => by have := h.1; simp at this
section
variable {prog : Program} {w : World} {A : Around} {E : Value → Shared → Prop} {s : Shared}
theorem lo_lt {a b : Addr} {vs us : List Value} {xs ys : List Str} {n m : Nat} {Q : Value → Shared → Prop} (ha : s.heap.get? a = some (listOf vs.toArray n)) (hb : s.heap.get? b = some (listOf us.toArray m)) (h1 : Reps RS vs xs) (h2 : Reps RS us ys) (hu : A.units < cLine) (h : Q (.bool (lexLt xs ys)) s) :
    wpAny (model prog w) A (richCompare .Lt (.ref a) (.ref b)) Q E s := by
  have hx : LexP .Lt (decide (vs.toArray.size < us.toArray.size)) (vs.toArray.toList.zip us.toArray.toList) (lexLt xs ys) := by
    have := lex_lexLt 0 0 h1 h2
    simp only [Nat.zero_add] at this
    rw [List.size_toArray, List.size_toArray, h1.1, h2.1]
    exact this
  exact richCompare_meets_room (op := .Lt) ⟨_, ha, rfl⟩ ⟨_, hb, rfl⟩ F.slot_list_lt F.entry_list_lt (F.args_list_lt_2 _ _) (lo_lt_body a b _ _ n m _ hx) ⟨ha, hb, (fun e => nomatch e), h⟩ hu
end
theorem lo_loop_gt (l b : Addr) (items items2 : Array Value) (n n2 : Nat) (r : Bool) (k : Nat) :
    ∀ i : Nat, items.size - i = k → LexP .Gt (decide (items.size > items2.size)) ((items.toList.zip items2.toList).drop i) r → Meets (Builtin.«list.__eq__.loop» ⟨[.ref l, .ref b, rawInt i, rawInt 4], []⟩)
      (fun _ R s => s.heap.get? l = some { cls := .type "list", dict := none, data := .seq items n, slots := #[] } ∧ s.heap.get? b = some { cls := .type "list", dict := none, data := .seq items2 n2, slots := #[] } ∧
        R (.ok (.ret (.bool r))) s) := by
  induction k with
  | zero =>
    intro i hk hx prog w A R s h
    obtain ⟨hp, g, d, tk, os⟩ := s; obtain ⟨hl, hb, h⟩ := h
    wp_walk using wpAny_loadPart' hl, wpAny_loadPart' hb
    have hi1 : items[((i : Nat) : Int).toNat]? = none := by simp; omega
    have hd : (items.toList.zip items2.toList).drop i = [] := by simp; omega
    rw [hd] at hx
    cases hx
    rw [hi1]
    wp_walk using wpAny_loadPart' hl, wpAny_loadPart' hb
    exact h
  | succ k ih =>
    intro i hk hx prog w A R s h
    obtain ⟨hp, g, d, tk, os⟩ := s; obtain ⟨hl, hb, h⟩ := h
    wp_walk using wpAny_loadPart' hl, wpAny_loadPart' hb
    have hlt : i < items.size := by omega
    have hi1 : items[((i : Nat) : Int).toNat]? = some items[i] := by simp [hlt]
    have hc : ((i : Int) + 1) = ((i + 1 : Nat) : Int) := by push_cast; rfl
    by_cases hlt2 : i < items2.size
    · have hi2 : items2[((i : Nat) : Int).toNat]? = some items2[i] := by simp [hlt2]
      have hd : (items.toList.zip items2.toList).drop i = (items[i], items2[i]) :: (items.toList.zip items2.toList).drop (i + 1) := by
        rw [List.drop_eq_getElem_cons (by rw [List.length_zip]; simp; omega)]
        simp
      rw [hd] at hx
      rw [hi1, hi2]
      cases hx with
      | eq he hx =>
        refine wpAny_bind (he prog w _ _ _ _ ?_)
        wp_walk
        rw [hc]
        exact ⟨plainId_quiet plain_eq_loop _, codeAny_builtin entry_eq_loop (by
          rw [Around.under_plainId plain_eq_loop _]
          exact ih (i + 1) (by omega) hx prog w A R _ ⟨hl, hb, h⟩)⟩
      | ne he ho =>
        refine wpAny_bind (he prog w _ _ _ _ ?_)
        wp_walk using wpAny_loadPart' hl, wpAny_loadPart' hb
        rw [hi1, hi2]
        show wpAny _ _ (richCompare .Gt items[i] items2[i] >>= _) _ _ _
        refine wpAny_bind (ho prog w _ _ _ _ ?_)
        wp_walk
        exact h
    · have hi2 : items2[((i : Nat) : Int).toNat]? = none := by simp; omega
      have hd : (items.toList.zip items2.toList).drop i = [] := by simp; omega
      rw [hd] at hx
      cases hx
      rw [hi1, hi2]
      wp_walk using wpAny_loadPart' hl, wpAny_loadPart' hb
      exact h
theorem lo_gt_body (l b : Addr) (items items2 : Array Value) (n n2 : Nat) (r : Bool) (hx : LexP .Gt (decide (items.size > items2.size)) (items.toList.zip items2.toList) r) : Meets (Builtin.«list.__gt__» ⟨[.ref l, .ref b], []⟩)
      (fun _ R s => s.heap.get? l = some { cls := .type "list", dict := none, data := .seq items n, slots := #[] } ∧ s.heap.get? b = some { cls := .type "list", dict := none, data := .seq items2 n2, slots := #[] } ∧
        R (.ok (.ret (.bool r))) s) := by
  intro prog w A R s h
  obtain ⟨hp, g, d, tk, os⟩ := s; obtain ⟨hl, hb, h⟩ := h
  have f3 := AutoSeq1.sub_list_list
  wp_walk using wpAny_loadPart' hl, wpAny_loadPart' hb
  exact ⟨plainId_quiet plain_eq_loop _, codeAny_builtin entry_eq_loop (by
    rw [Around.under_plainId plain_eq_loop _]
    exact lo_loop_gt l b items items2 n n2 r _ 0 rfl hx prog w A R _ ⟨hl, hb, h⟩)⟩
noncomputable def lexGt : List Str → List Str → Bool
  | x :: xs, y :: ys => if x = y then lexGt xs ys else decide (y.cps.toList < x.cps.toList)
  | xs, ys => decide (xs.length > ys.length)
theorem lex_lexGt : ∀ {vs us : List Value} {xs ys : List Str} (n m : Nat), Reps RS vs xs → Reps RS us ys → LexP .Gt (decide (n + xs.length > n + ys.length)) (vs.zip us) (lexGt xs ys)
  | [], us, [], ys, n, m, _, _ => by
    have : lexGt [] ys = decide (n + ([] : List Str).length > n + ys.length) := by unfold lexGt; cases ys <;> simp
    rw [this]
    exact .nil
  | v :: vs, [], x :: xs, [], n, m, _, _ => by
    have : lexGt (x :: xs) [] = decide (n + (x :: xs).length > n + ([] : List Str).length) := by unfold lexGt; simp
    rw [this]
    exact .nil
  | v :: vs, u :: us, x :: xs, y :: ys, n, m, h1, h2 => by
    refine hide fun hGoal => ?_
    obtain ⟨⟨t, rfl⟩, h1'⟩ := h1.uncons
    refine hGoal ?_
    clear hGoal
    refine hide fun hGoal => ?_
    obtain ⟨⟨t', rfl⟩, h2'⟩ := h2.uncons
    refine hGoal ?_
    clear hGoal
    rw [List.zip_cons_cons, lexGt]
    have heq : MeetsSeq.EqGives (.str x t) (.str y t') (decide (x = y)) := fun prog w A E s Q h => wpAny_eqBool_str h
    by_cases c : x = y
    · rw [if_pos c]
      rw [decide_eq_true c] at heq
      have := lex_lexGt (n + 1) m h1' h2'
      have e : ∀ l : List Str, n + 1 + l.length = n + (l.length + 1) := fun l => by omega
      rw [e, e] at this
      exact .eq heq this
    · rw [if_neg c]
      rw [decide_eq_false c] at heq
      exact .ne heq (OrdGives.gtS x y t t')
  | [], _, _ :: _, _, _, _, h, _ => by have := h.1; simp at this
  | _ :: _, _, [], _, _, _, h, _ => by have := h.1; simp at this
  | _, [], _, _ :: _, _, _, _, h => by have := h.1; simp at this
  | _, _ :: _, _, [], _, _, _, h => by have := h.1; simp at this
section
variable {prog : Program} {w : World} {A : Around} {E : Value → Shared → Prop} {s : Shared}
theorem lo_gt {a b : Addr} {vs us : List Value} {xs ys : List Str} {n m : Nat} {Q : Value → Shared → Prop} (ha : s.heap.get? a = some (listOf vs.toArray n)) (hb : s.heap.get? b = some (listOf us.toArray m)) (h1 : Reps RS vs xs) (h2 : Reps RS us ys) (hu : A.units < cLine) (h : Q (.bool (lexGt xs ys)) s) :
    wpAny (model prog w) A (richCompare .Gt (.ref a) (.ref b)) Q E s := by
  have hx : LexP .Gt (decide (vs.toArray.size > us.toArray.size)) (vs.toArray.toList.zip us.toArray.toList) (lexGt xs ys) := by
    have := lex_lexGt 0 0 h1 h2
    simp only [Nat.zero_add] at this
    rw [List.size_toArray, List.size_toArray, h1.1, h2.1]
    exact this
  exact richCompare_meets_room (op := .Gt) ⟨_, ha, rfl⟩ ⟨_, hb, rfl⟩ F.slot_list_gt F.entry_list_gt (F.args_list_gt_2 _ _) (lo_gt_body a b _ _ n m _ hx) ⟨ha, hb, (fun e => nomatch e), h⟩ hu
end
section
variable {prog : Program} {w : World} {A : Around} {R : Result → Shared → Prop} {I : Addr} {fp wr : List Addr} {n : Nat} {P : Nat → Value → Prop} {St : Nat → Heap → Prop} {H : Heap}
theorem lo_min_loop (W : Walks prog w A.in1 I fp wr n P St) (bt : Nat → Nat → Bool) (S : Addr) (hSf : S ∉ fp)
    (hcmp : ∀ i j vi vj (s : Shared) (Q : Value → Shared → Prop) (E : Value → Shared → Prop), (∀ b o, b ∉ wr → b ≠ S → H.get? b = some o → s.heap.get? b = some o) → P i vi → P j vj → Q (.bool (bt i j)) s → wpAny (model prog w) A.in1 (richCompare .Lt vi vj) Q E s) :
    ∀ (k j : Nat) (s : Shared) (vb : Value) (c : Nat), n - (j + 1) = k → j + 1 ≤ n → St (j + 1) s.heap → P (argBest bt j) vb →
    s.heap.get? S = some { cls := .type "list", dict := none, data := .seq #[vb, vb] c, slots := #[] } → (∀ b o, b ∉ wr → b ≠ S → H.get? b = some o → s.heap.get? b = some o) →
    (∀ v h' tk, P (argBest bt (n - 1)) v → (∀ b o, b ∉ wr → b ≠ S → s.heap.get? b = some o → h'.get? b = some o) → R (.ok (.ret v)) { s with heap := h', toks := tk }) →
    codeAny (model prog w) A (.builtin "min.loop" ⟨[.ref I, .none, .ref S], []⟩) R s := by
  have hSw : S ∉ wr := fun h => hSf (W.sub _ h)
  have hname : (toString "min" ++ toString ".loop" : String) = "min.loop" := by decide
  intro k
  induction k with
  | zero =>
    intro j s vb c hk hj hst hPb hS hHs hR
    have hin : j + 1 = n := by omega
    refine codeAny_builtin F.entry_min_loop ?_
    rw [Around.under_plainId F.plain_min_loop _]
    show wpAny _ A.in1 (seqItems? (.ref S) >>= _) _ _ s
    refine wpAny_bind (wpAny_seqItems hS rfl ?_)
    show wpAny _ A.in1 (tryCatch (pyNext (.ref I)) _ >>= _) _ _ s
    refine wpAny_bind (wpAny_tryCatch (W.done s _ _ (hin ▸ hst) fun h' tk hk' => ?_))
    have hS' := hk' S _ hSw hS
    show wpAny _ A.in1 (updateSeq S (fun _ => #[]) >>= _) _ _ _
    refine wpAny_bind ?_
    refine wpAny_updateSeq hS' rfl (wpAny_bind (wpAny_letGo (wpAny_pure ?_)))
    exact hR vb _ tk (by rw [← hin]; exact hPb) fun b o hbw hbS e => (Heap.get?_update_other _ _ (Ne.symm hbS)).trans (hk' b o hbw e)
  | succ k ih =>
    intro j s vb c hk hj hst hPb hS hHs hR
    have hlt : j + 1 < n := by omega
    refine codeAny_builtin F.entry_min_loop ?_
    rw [Around.under_plainId F.plain_min_loop _]
    show wpAny _ A.in1 (seqItems? (.ref S) >>= _) _ _ s
    refine wpAny_bind (wpAny_seqItems hS rfl ?_)
    show wpAny _ A.in1 (tryCatch (pyNext (.ref I)) _ >>= _) _ _ s
    refine wpAny_bind (wpAny_tryCatch (W.item (j + 1) s _ _ hlt hst fun v h' tk hP hst' hk' => ?_))
    have hS' := hk' S _ hSw hS
    have hH' : ∀ b o, b ∉ wr → b ≠ S → H.get? b = some o → h'.get? b = some o := fun b o hw hbS e => hk' b o hw (hHs b o hw hbS e)
    show wpAny _ A.in1 (tryCatch (holding [v, v] (richCompare .Lt v vb >>= _)) _ >>= _) _ _ _
    refine wpAny_bind (wpAny_tryCatch (wpAny_holding (wpAny_bind (hcmp (j + 1) (argBest bt j) v vb _ _ _ hH' hP hPb ?_))))
    refine wpAny_bind (wpAny_holding (wpAny_truthy_bool ?_))
    refine wpAny_bind (wpAny_letGo (wpAny_pure ?_))
    cases hb : bt (j + 1) (argBest bt j) with
    | true =>
      simp only [if_true]
      refine wpAny_bind ?_
      refine wpAny_updateSeq hS' rfl (wpAny_bind (wpAny_letGo ?_))
      rw [hname]
      refine wpAny_pure ⟨plainId_quiet F.plain_min_loop _, ih (j + 1) _ v _ (by omega) hlt (W.frame _ _ _ hst' fun b hbf o e => ?_) (by simp only [argBest, hb, if_true]; exact hP) (Heap.get?_update_self _ hS' rfl)
        (fun b o hw hbS e => (Heap.get?_update_other _ _ (Ne.symm hbS)).trans (hH' b o hw hbS e)) fun v' h'' tk'' hP' hk'' => ?_⟩
      · exact (Heap.get?_update_other _ _ (fun h : S = b => hSf (by rw [h]; exact hbf))).trans e
      · exact hR v' h'' tk'' hP' fun b o hbw hbS e => hk'' b o hbw hbS ((Heap.get?_update_other _ _ (Ne.symm hbS)).trans (hk' b o hbw e))
    | false =>
      simp only [Bool.false_eq_true, if_false]
      refine wpAny_bind (wpAny_letGo ?_)
      rw [hname]
      refine wpAny_pure ⟨plainId_quiet F.plain_min_loop _, ih (j + 1) _ vb c (by omega) hlt hst' (by simp only [argBest, hb, Bool.false_eq_true, if_false]; exact hPb) hS' hH' fun v' h'' tk'' hP' hk'' => ?_⟩
      exact hR v' h'' tk'' hP' fun b o hbw hbS e => hk'' b o hbw hbS (hk' b o hbw e)
theorem lo_min_first (W : Walks prog w A.in1 I fp wr n P St) (bt : Nat → Nat → Bool) (S : Addr) (hSf : S ∉ fp)
    (hcmp : ∀ i j vi vj (s : Shared) (Q : Value → Shared → Prop) (E : Value → Shared → Prop), (∀ b o, b ∉ wr → b ≠ S → H.get? b = some o → s.heap.get? b = some o) → P i vi → P j vj → Q (.bool (bt i j)) s → wpAny (model prog w) A.in1 (richCompare .Lt vi vj) Q E s)
    (hn : 0 < n) {s : Shared} {c : Nat} (hst : St 0 s.heap) (hHs : ∀ b o, b ∉ wr → b ≠ S → H.get? b = some o → s.heap.get? b = some o)
    (hS : s.heap.get? S = some { cls := .type "list", dict := none, data := .seq #[] c, slots := #[] })
    (hR : ∀ v h' tk, P (argBest bt (n - 1)) v → (∀ b o, b ∉ wr → b ≠ S → s.heap.get? b = some o → h'.get? b = some o) → R (.ok (.ret v)) { s with heap := h', toks := tk }) :
    codeAny (model prog w) A (.builtin "min.loop" ⟨[.ref I, .none, .ref S], []⟩) R s := by
  have hSw : S ∉ wr := fun h => hSf (W.sub _ h)
  have hname : (toString "min" ++ toString ".loop" : String) = "min.loop" := by decide
  refine codeAny_builtin F.entry_min_loop ?_
  rw [Around.under_plainId F.plain_min_loop _]
  show wpAny _ A.in1 (seqItems? (.ref S) >>= _) _ _ s
  refine wpAny_bind (wpAny_seqItems hS rfl ?_)
  show wpAny _ A.in1 (tryCatch (pyNext (.ref I)) _ >>= _) _ _ s
  refine wpAny_bind (wpAny_tryCatch (W.item 0 s _ _ hn hst fun v h' tk hP hst' hk' => ?_))
  have hS' := hk' S _ hSw hS
  show wpAny _ A.in1 (updateSeq S (fun _ => #[v, v]) >>= _) _ _ _
  refine wpAny_bind ?_
  refine wpAny_updateSeq hS' rfl ?_
  rw [hname]
  refine wpAny_pure ⟨plainId_quiet F.plain_min_loop _, lo_min_loop W bt S hSf hcmp _ 0 _ v _ rfl hn (W.frame _ _ _ hst' fun b hbf o e => ?_) hP (Heap.get?_update_self _ hS' rfl)
    (fun b o hw hbS e => (Heap.get?_update_other _ _ (Ne.symm hbS)).trans (hk' b o hw (hHs b o hw hbS e))) fun v' h'' tk'' hP' hk'' => ?_⟩
  · exact (Heap.get?_update_other _ _ (fun h : S = b => hSf (by rw [h]; exact hbf))).trans e
  · exact hR v' h'' tk'' hP' fun b o hbw hbS e => hk'' b o hbw hbS ((Heap.get?_update_other _ _ (Ne.symm hbS)).trans (hk' b o hbw e))
theorem lo_min_call {s : Shared} {l : Addr} {vs : List Value} {cs : List (List Str)} {Q E : Value → Shared → Prop} (hh : A.handled = none) (hu : A.units + 5 < cLine) (hl : s.heap.IsList l vs.toArray) (hne : 0 < vs.length) (hlen : vs.length = cs.length)
    (hc : ∀ (i : Nat) v c, vs[i]? = some v → cs[i]? = some c → ∃ D us n, v = .ref D ∧ s.heap.get? D = some (listOf us.toArray n) ∧ Reps RS us c)
    (h : ∀ i v h' tk, i = argBest (fun i j => lexLt (cs.getD i []) (cs.getD j [])) (vs.length - 1) → vs[i]? = some v → s.heap.StaysIn h' → Q v { s with heap := h', toks := tk }) :
    wpAny (model prog w) A (call (.builtin "min") [.ref l]) Q E s := by
  have hname : (toString "min" ++ toString ".loop" : String) = "min.loop" := by decide
  refine hide fun hGoal => ?_
  obtain ⟨ol, hol, _⟩ := id hl
  refine hGoal ?_
  clear hGoal
  have hlt := Heap.lt_size hol
  refine call_function_tree F.kind_min F.plain_min F.entry_min (F.args_min1 _) ?_
  show wpAny _ A.in1 (Builtin.Builtins.bindParams "min" ["key", "default"] 0 ⟨[], []⟩ >>= _) _ _ s
  refine wpAny_bind (wpAny_of_eq (show Builtin.Builtins.bindParams "min" ["key", "default"] 0 ⟨[], []⟩ = pure [none, none] from rfl) ?_)
  refine wpAny_bind (wpAny_pure ?_)
  refine wpAny_bind (wpAny_pyIter_list hl ?_)
  refine wpAny_bind (wpAny_newObj_type ?_)
  rw [hname]
  have S := src_list (prog := prog) (w := w) (A := A.in1) hh hl
  have hne' : ∀ b, b < s.heap.objs.size → b ∉ [s.heap.objs.size] := fun b hb q => by rw [List.mem_singleton.mp q] at hb; exact Nat.lt_irrefl _ hb
  have hS : s.heap.objs.size + 1 = (s.heap.push { cls := .type "list_iterator", data := .fields #[.ref l, .int 0 0] }).objs.size := by rw [Heap.size_push]
  refine wpAny_pure ⟨plainId_quiet F.plain_min_loop _, lo_min_first (H := s.heap) S.W (fun i j => lexLt (cs.getD i []) (cs.getD j [])) _ (fun q => Nat.lt_irrefl _ (S.fp _ q)) (fun i j vi vj s' Q' E' hk hi hj hq => ?_) hne (S.W.frame _ _ _ S.st fun b _ o e => Heap.get?_push_of_some _ e)
    (fun b o _ _ e => Heap.get?_push_of_some _ (Heap.get?_push_of_some _ e)) (Heap.get?_push_size _ rfl) fun v h' tk hP hk => ?_⟩
  · have hic : cs[i]? = some (cs.getD i []) := by
      have := (List.getElem?_eq_some_iff.mp hi).1
      rw [List.getD_eq_getElem?_getD, List.getElem?_eq_getElem (by omega)]; rfl
    have hjc : cs[j]? = some (cs.getD j []) := by
      have := (List.getElem?_eq_some_iff.mp hj).1
      rw [List.getD_eq_getElem?_getD, List.getElem?_eq_getElem (by omega)]; rfl
    refine hide fun hGoal => ?_
    obtain ⟨D, us, n, rfl, hD, hr⟩ := hc i vi _ hi hic
    refine hGoal ?_
    clear hGoal
    refine hide fun hGoal => ?_
    obtain ⟨D', us', n', rfl, hD', hr'⟩ := hc j vj _ hj hjc
    refine hGoal ?_
    clear hGoal
    have lw : ∀ a o, s.heap.get? a = some o → s'.heap.get? a = some o := fun a o e => by
      have := Heap.lt_size e
      refine hk a o (hne' a this) (fun q => ?_) e
      rw [q, ← hS] at this
      exact Nat.lt_irrefl _ (Nat.lt_of_succ_lt this)
    exact lo_lt (lw _ _ hD) (lw _ _ hD') hr hr' (by show A.units + 1 < cLine; omega) hq
  · refine h _ v h' tk rfl hP fun b o e => ?_
    have := Heap.lt_size e
    exact hk b o (hne' b this) (fun q => by rw [q, ← hS] at this; exact Nat.lt_irrefl _ (Nat.lt_of_succ_lt this)) (Heap.get?_push_of_some _ (Heap.get?_push_of_some _ e))
theorem lo_max_loop (W : Walks prog w A.in1 I fp wr n P St) (bt : Nat → Nat → Bool) (S : Addr) (hSf : S ∉ fp)
    (hcmp : ∀ i j vi vj (s : Shared) (Q : Value → Shared → Prop) (E : Value → Shared → Prop), (∀ b o, b ∉ wr → b ≠ S → H.get? b = some o → s.heap.get? b = some o) → P i vi → P j vj → Q (.bool (bt i j)) s → wpAny (model prog w) A.in1 (richCompare .Gt vi vj) Q E s) :
    ∀ (k j : Nat) (s : Shared) (vb : Value) (c : Nat), n - (j + 1) = k → j + 1 ≤ n → St (j + 1) s.heap → P (argBest bt j) vb →
    s.heap.get? S = some { cls := .type "list", dict := none, data := .seq #[vb, vb] c, slots := #[] } → (∀ b o, b ∉ wr → b ≠ S → H.get? b = some o → s.heap.get? b = some o) →
    (∀ v h' tk, P (argBest bt (n - 1)) v → (∀ b o, b ∉ wr → b ≠ S → s.heap.get? b = some o → h'.get? b = some o) → R (.ok (.ret v)) { s with heap := h', toks := tk }) →
    codeAny (model prog w) A (.builtin "max.loop" ⟨[.ref I, .none, .ref S], []⟩) R s := by
  have hSw : S ∉ wr := fun h => hSf (W.sub _ h)
  have hname : (toString "max" ++ toString ".loop" : String) = "max.loop" := by decide
  intro k
  induction k with
  | zero =>
    intro j s vb c hk hj hst hPb hS hHs hR
    have hin : j + 1 = n := by omega
    refine codeAny_builtin F.entry_max_loop ?_
    rw [Around.under_plainId F.plain_max_loop _]
    show wpAny _ A.in1 (seqItems? (.ref S) >>= _) _ _ s
    refine wpAny_bind (wpAny_seqItems hS rfl ?_)
    show wpAny _ A.in1 (tryCatch (pyNext (.ref I)) _ >>= _) _ _ s
    refine wpAny_bind (wpAny_tryCatch (W.done s _ _ (hin ▸ hst) fun h' tk hk' => ?_))
    have hS' := hk' S _ hSw hS
    show wpAny _ A.in1 (updateSeq S (fun _ => #[]) >>= _) _ _ _
    refine wpAny_bind ?_
    refine wpAny_updateSeq hS' rfl (wpAny_bind (wpAny_letGo (wpAny_pure ?_)))
    exact hR vb _ tk (by rw [← hin]; exact hPb) fun b o hbw hbS e => (Heap.get?_update_other _ _ (Ne.symm hbS)).trans (hk' b o hbw e)
  | succ k ih =>
    intro j s vb c hk hj hst hPb hS hHs hR
    have hlt : j + 1 < n := by omega
    refine codeAny_builtin F.entry_max_loop ?_
    rw [Around.under_plainId F.plain_max_loop _]
    show wpAny _ A.in1 (seqItems? (.ref S) >>= _) _ _ s
    refine wpAny_bind (wpAny_seqItems hS rfl ?_)
    show wpAny _ A.in1 (tryCatch (pyNext (.ref I)) _ >>= _) _ _ s
    refine wpAny_bind (wpAny_tryCatch (W.item (j + 1) s _ _ hlt hst fun v h' tk hP hst' hk' => ?_))
    have hS' := hk' S _ hSw hS
    have hH' : ∀ b o, b ∉ wr → b ≠ S → H.get? b = some o → h'.get? b = some o := fun b o hw hbS e => hk' b o hw (hHs b o hw hbS e)
    show wpAny _ A.in1 (tryCatch (holding [v, v] (richCompare .Gt v vb >>= _)) _ >>= _) _ _ _
    refine wpAny_bind (wpAny_tryCatch (wpAny_holding (wpAny_bind (hcmp (j + 1) (argBest bt j) v vb _ _ _ hH' hP hPb ?_))))
    refine wpAny_bind (wpAny_holding (wpAny_truthy_bool ?_))
    refine wpAny_bind (wpAny_letGo (wpAny_pure ?_))
    cases hb : bt (j + 1) (argBest bt j) with
    | true =>
      simp only [if_true]
      refine wpAny_bind ?_
      refine wpAny_updateSeq hS' rfl (wpAny_bind (wpAny_letGo ?_))
      rw [hname]
      refine wpAny_pure ⟨plainId_quiet F.plain_max_loop _, ih (j + 1) _ v _ (by omega) hlt (W.frame _ _ _ hst' fun b hbf o e => ?_) (by simp only [argBest, hb, if_true]; exact hP) (Heap.get?_update_self _ hS' rfl)
        (fun b o hw hbS e => (Heap.get?_update_other _ _ (Ne.symm hbS)).trans (hH' b o hw hbS e)) fun v' h'' tk'' hP' hk'' => ?_⟩
      · exact (Heap.get?_update_other _ _ (fun h : S = b => hSf (by rw [h]; exact hbf))).trans e
      · exact hR v' h'' tk'' hP' fun b o hbw hbS e => hk'' b o hbw hbS ((Heap.get?_update_other _ _ (Ne.symm hbS)).trans (hk' b o hbw e))
    | false =>
      simp only [Bool.false_eq_true, if_false]
      refine wpAny_bind (wpAny_letGo ?_)
      rw [hname]
      refine wpAny_pure ⟨plainId_quiet F.plain_max_loop _, ih (j + 1) _ vb c (by omega) hlt hst' (by simp only [argBest, hb, Bool.false_eq_true, if_false]; exact hPb) hS' hH' fun v' h'' tk'' hP' hk'' => ?_⟩
      exact hR v' h'' tk'' hP' fun b o hbw hbS e => hk'' b o hbw hbS (hk' b o hbw e)
theorem lo_max_first (W : Walks prog w A.in1 I fp wr n P St) (bt : Nat → Nat → Bool) (S : Addr) (hSf : S ∉ fp)
    (hcmp : ∀ i j vi vj (s : Shared) (Q : Value → Shared → Prop) (E : Value → Shared → Prop), (∀ b o, b ∉ wr → b ≠ S → H.get? b = some o → s.heap.get? b = some o) → P i vi → P j vj → Q (.bool (bt i j)) s → wpAny (model prog w) A.in1 (richCompare .Gt vi vj) Q E s)
    (hn : 0 < n) {s : Shared} {c : Nat} (hst : St 0 s.heap) (hHs : ∀ b o, b ∉ wr → b ≠ S → H.get? b = some o → s.heap.get? b = some o)
    (hS : s.heap.get? S = some { cls := .type "list", dict := none, data := .seq #[] c, slots := #[] })
    (hR : ∀ v h' tk, P (argBest bt (n - 1)) v → (∀ b o, b ∉ wr → b ≠ S → s.heap.get? b = some o → h'.get? b = some o) → R (.ok (.ret v)) { s with heap := h', toks := tk }) :
    codeAny (model prog w) A (.builtin "max.loop" ⟨[.ref I, .none, .ref S], []⟩) R s := by
  have hSw : S ∉ wr := fun h => hSf (W.sub _ h)
  have hname : (toString "max" ++ toString ".loop" : String) = "max.loop" := by decide
  refine codeAny_builtin F.entry_max_loop ?_
  rw [Around.under_plainId F.plain_max_loop _]
  show wpAny _ A.in1 (seqItems? (.ref S) >>= _) _ _ s
  refine wpAny_bind (wpAny_seqItems hS rfl ?_)
  show wpAny _ A.in1 (tryCatch (pyNext (.ref I)) _ >>= _) _ _ s
  refine wpAny_bind (wpAny_tryCatch (W.item 0 s _ _ hn hst fun v h' tk hP hst' hk' => ?_))
  have hS' := hk' S _ hSw hS
  show wpAny _ A.in1 (updateSeq S (fun _ => #[v, v]) >>= _) _ _ _
  refine wpAny_bind ?_
  refine wpAny_updateSeq hS' rfl ?_
  rw [hname]
  refine wpAny_pure ⟨plainId_quiet F.plain_max_loop _, lo_max_loop W bt S hSf hcmp _ 0 _ v _ rfl hn (W.frame _ _ _ hst' fun b hbf o e => ?_) hP (Heap.get?_update_self _ hS' rfl)
    (fun b o hw hbS e => (Heap.get?_update_other _ _ (Ne.symm hbS)).trans (hk' b o hw (hHs b o hw hbS e))) fun v' h'' tk'' hP' hk'' => ?_⟩
  · exact (Heap.get?_update_other _ _ (fun h : S = b => hSf (by rw [h]; exact hbf))).trans e
  · exact hR v' h'' tk'' hP' fun b o hbw hbS e => hk'' b o hbw hbS ((Heap.get?_update_other _ _ (Ne.symm hbS)).trans (hk' b o hbw e))
theorem lo_max_call {s : Shared} {l : Addr} {vs : List Value} {cs : List (List Str)} {Q E : Value → Shared → Prop} (hh : A.handled = none) (hu : A.units + 5 < cLine) (hl : s.heap.IsList l vs.toArray) (hne : 0 < vs.length) (hlen : vs.length = cs.length)
    (hc : ∀ (i : Nat) v c, vs[i]? = some v → cs[i]? = some c → ∃ D us n, v = .ref D ∧ s.heap.get? D = some (listOf us.toArray n) ∧ Reps RS us c)
    (h : ∀ i v h' tk, i = argBest (fun i j => lexGt (cs.getD i []) (cs.getD j [])) (vs.length - 1) → vs[i]? = some v → s.heap.StaysIn h' → Q v { s with heap := h', toks := tk }) :
    wpAny (model prog w) A (call (.builtin "max") [.ref l]) Q E s := by
  have hname : (toString "max" ++ toString ".loop" : String) = "max.loop" := by decide
  refine hide fun hGoal => ?_
  obtain ⟨ol, hol, _⟩ := id hl
  refine hGoal ?_
  clear hGoal
  have hlt := Heap.lt_size hol
  refine call_function_tree F.kind_max F.plain_max F.entry_max (F.args_max1 _) ?_
  show wpAny _ A.in1 (Builtin.Builtins.bindParams "max" ["key", "default"] 0 ⟨[], []⟩ >>= _) _ _ s
  refine wpAny_bind (wpAny_of_eq (show Builtin.Builtins.bindParams "max" ["key", "default"] 0 ⟨[], []⟩ = pure [none, none] from rfl) ?_)
  refine wpAny_bind (wpAny_pure ?_)
  refine wpAny_bind (wpAny_pyIter_list hl ?_)
  refine wpAny_bind (wpAny_newObj_type ?_)
  rw [hname]
  have S := src_list (prog := prog) (w := w) (A := A.in1) hh hl
  have hne' : ∀ b, b < s.heap.objs.size → b ∉ [s.heap.objs.size] := fun b hb q => by rw [List.mem_singleton.mp q] at hb; exact Nat.lt_irrefl _ hb
  have hS : s.heap.objs.size + 1 = (s.heap.push { cls := .type "list_iterator", data := .fields #[.ref l, .int 0 0] }).objs.size := by rw [Heap.size_push]
  refine wpAny_pure ⟨plainId_quiet F.plain_max_loop _, lo_max_first (H := s.heap) S.W (fun i j => lexGt (cs.getD i []) (cs.getD j [])) _ (fun q => Nat.lt_irrefl _ (S.fp _ q)) (fun i j vi vj s' Q' E' hk hi hj hq => ?_) hne (S.W.frame _ _ _ S.st fun b _ o e => Heap.get?_push_of_some _ e)
    (fun b o _ _ e => Heap.get?_push_of_some _ (Heap.get?_push_of_some _ e)) (Heap.get?_push_size _ rfl) fun v h' tk hP hk => ?_⟩
  · have hic : cs[i]? = some (cs.getD i []) := by
      have := (List.getElem?_eq_some_iff.mp hi).1
      rw [List.getD_eq_getElem?_getD, List.getElem?_eq_getElem (by omega)]; rfl
    have hjc : cs[j]? = some (cs.getD j []) := by
      have := (List.getElem?_eq_some_iff.mp hj).1
      rw [List.getD_eq_getElem?_getD, List.getElem?_eq_getElem (by omega)]; rfl
    refine hide fun hGoal => ?_
    obtain ⟨D, us, n, rfl, hD, hr⟩ := hc i vi _ hi hic
    refine hGoal ?_
    clear hGoal
    refine hide fun hGoal => ?_
    obtain ⟨D', us', n', rfl, hD', hr'⟩ := hc j vj _ hj hjc
    refine hGoal ?_
    clear hGoal
    have lw : ∀ a o, s.heap.get? a = some o → s'.heap.get? a = some o := fun a o e => by
      have := Heap.lt_size e
      refine hk a o (hne' a this) (fun q => ?_) e
      rw [q, ← hS] at this
      exact Nat.lt_irrefl _ (Nat.lt_of_succ_lt this)
    exact lo_gt (lw _ _ hD) (lw _ _ hD') hr hr' (by show A.units + 1 < cLine; omega) hq
  · refine h _ v h' tk rfl hP fun b o e => ?_
    have := Heap.lt_size e
    exact hk b o (hne' b this) (fun q => by rw [q, ← hS] at this; exact Nat.lt_irrefl _ (Nat.lt_of_succ_lt this)) (Heap.get?_push_of_some _ (Heap.get?_push_of_some _ e))
end
theorem argBest_le (bt : Nat → Nat → Bool) : ∀ k, argBest bt k ≤ k
  | 0 => Nat.le_refl _
  | k + 1 => by
    unfold argBest
    have := argBest_le bt k
    split <;> omega
theorem best_least {α : Type} (lt : α → α → Bool) (c : Nat → α) (r : α) {i₀ N : Nat} (h₀ : c i₀ = r) (h1 : ∀ j, j ≤ N → c j ≠ r → lt r (c j) = true) (h2 : ∀ j, j ≤ N → lt (c j) r = false) : ∀ k, i₀ ≤ k → k ≤ N → c (argBest (fun i j => lt (c i) (c j)) k) = r
  | 0, h, _ => by
    have : i₀ = 0 := by omega
    subst this
    exact h₀
  | k + 1, h, hN => by
    have hb := argBest_le (fun i j => lt (c i) (c j)) k
    unfold argBest
    by_cases e : i₀ = k + 1
    · subst e
      rw [h₀]
      split
      · exact h₀
      · rename_i q
        refine Classical.byContradiction fun q' => ?_
        exact q (h1 _ (by omega) q')
    · have ih := best_least lt c r h₀ h1 h2 k (by omega) (by omega)
      rw [ih, if_neg (by rw [h2 _ hN]; decide)]
      exact ih
theorem lexLt_root (r : Str) (t : List Str) (h : t ≠ []) : lexLt [r] (r :: t) = true := by
  cases t with
  | nil => exact absurd rfl h
  | cons a t => simp [lexLt]
theorem lexLt_root' (r : Str) (t : List Str) : lexLt (r :: t) [r] = false := by
  cases t <;> simp [lexLt]
end PartLo

section PartSx
section facts
theorem slot_seti_next : Slot "set_iterator" "__next__" "set_iterator.__next__" :=
  .of (owner := "set_iterator") (n := "__next__") (by rw [typeLookup_type, builtinLookup_eq_fast]; kernel_rfl) (by decide +kernel) (by decide +kernel) (by decide +kernel)
    (by first | exact .inl (by decide +kernel) | exact .inr (by decide +kernel)) (by rw [isSubtype_type]; kernel_rfl)
theorem entry_seti_next : entryFor table "set_iterator.__next__" = some Builtin.«set_iterator.__next__» := entryFor_of_tree (by kernel_rfl)
theorem args_seti_next_1 (a : Value) : argsOk "set_iterator.__next__" ⟨[a], []⟩ := by unfold argsOk; kernel_rfl
theorem entry_set_iter : entryFor table "set.__iter__" = some Builtin.«frozenset.__iter__» :=
  entryFor_alias (id' := "frozenset.__iter__") (by kernel_rfl) (by first | rfl | decide +kernel | (unfold String.splitOn; simp +decide [String.splitOnAux])) (by decide +kernel) (by kernel_rfl)
end facts
noncomputable def setO (es : Array (Int × Value)) (ep : Nat) (t : SetTable) : Obj := { cls := .type "set", dict := none, data := .set es ep t }
noncomputable def tab1 (led : Bool) : SetTable := { mask := 7, place := #[1], dummies := #[], finger := 0, led := led, moves := 0, plain := true }
noncomputable def es1 : Array (Int × Value) := #[(1, .bool true)]
theorem tab1_fits (led : Bool) : (tab1 led).fits 1 = true := by cases led <;> decide +kernel
theorem tab0_fits (led : Bool) : (SetTable.fresh 0 0 led).fits 0 = true := by cases led <;> decide +kernel
theorem lay_first (led : Bool) : layNew (.fresh 0 0 led) #[] 1 (.bool true) = (es1, tab1 led, false, false) := by cases led <;> kernel_rfl
theorem tab1_full (led : Bool) : (tab1 led).tooFull = false := by cases led <;> decide +kernel
section
variable {prog : Program} {w : World} {A : Around} {E : Value → Shared → Prop} {s : Shared}
theorem pyHash_true {Q : Int → Shared → Prop} (h : Q 1 { s with toks := s.toks + 1 }) : wpAny (model prog w) A (pyHash (.bool true)) Q E s := by
  have hT : s.TypeIs (.bool true) "bool" := rfl
  unfold pyHash
  have hv : [Value.bool true].any Value.onHeap = false := rfl
  refine wpAny_bind ?_
  rw [cRoomFor, if_neg (by rw [hv]; exact Bool.false_ne_true)]; refine wpAny_pure ?_
  refine wpAny_bind (wpAny_specialOf hT PySem.F.slot_bool_hash.lookup ?_)
  show wpAny _ _ (if (some (Value.builtin "int.__hash__") == some Value.none) = true then _ else _) Q E s
  rw [if_neg (by rw [beq_builtin_none]; exact Bool.false_ne_true)]
  refine wpAny_bind (wpAny_specialOf hT PySem.F.slot_bool_hash.lookup ?_)
  show wpAny _ _ (callSpecialIfBoundUnlessNone? (.bool true) "__hash__" _ >>= _) Q E s
  refine wpAny_bind (wpAny_callSpecialIfBoundUnlessNone?_slot hT PySem.F.slot_bool_hash
    (wpAny_call_entry PySem.F.slot_bool_hash hT entry_int_hash
      (show wpAny _ _ (do ret (← mkInt 1)) _ _ s from wpAny_ret_mkInt ?_) (args_int_hash _)))
  show wpAny _ _ (if (decide (-(2 : Int) ^ 63 ≤ 1) && decide ((1 : Int) < 2 ^ 63)) = true then _ else _) Q E _
  rw [if_pos (by decide)]
  exact wpAny_pure h
theorem eqBool_true {Q : Bool → Shared → Prop} (h : Q true s) : wpAny (model prog w) A (eqBool (.bool true) (.bool true)) Q E s := by
  unfold eqBool
  refine wpAny_holding ?_
  rw [if_pos (show (Value.bool true == Value.bool true) = true from rfl)]
  exact wpAny_bind (wpAny_rule (wpAny_pure h))
theorem add_first {a : Addr} {ep : Nat} {led : Bool} {Q : Value → Shared → Prop} (hS : s.heap.get? a = some (setO #[] ep (.fresh 0 0 led)))
    (h : ∀ h', Heap.SameBut a s.heap h' → h'.get? a = some (setO es1 (ep + 1) (tab1 led)) → Q .none { s with heap := h', toks := s.toks + 1 }) :
    wpAny (model prog w) A (call (.builtin "set.add") [.ref a, .bool true]) Q E s := by
  refine wpAny_call_entry PySem.F.slot_set_add ⟨_, hS, rfl⟩ PySem.F.entry_set_add ?_ (PySem.F.args_set_add_2 _ _)
  unfold Builtin.«set.add» Builtin.Frozenset.oneOther
  simp only [List.isEmpty_nil, bind_assoc]
  unfold Builtin.Frozenset.addrOf setAdd
  refine wpAny_bind (wpAny_pure ?_)
  try dsimp only
  refine wpAny_bind (wpAny_pure ?_)
  try dsimp only
  refine wpAny_bind ?_
  refine wpAny_holding ?_
  refine wpAny_bind (pyHash_true ?_)
  unfold setAddHashed setAddHashedIn
  refine wpAny_holding (wpAny_bind (wpAny_setState_of (s := { s with toks := s.toks + 1 }) hS rfl (tab0_fits led) ?_))
  dsimp only
  rw [show byScan (.bool true) #[] = true from by decide +kernel]
  simp only [↓reduceIte]
  unfold setAddByScan
  refine wpAny_bind ?_
  refine wpAny_bind (wpAny_rule ?_)
  refine wpAny_bind (m := setScan _ _ _ _ _) (wpAny_pure ?_)
  dsimp only
  rw [lay_first]
  dsimp only
  refine wpAny_bind (wpAny_pure ?_)
  rw [if_pos (by rfl)]
  refine wpAny_bind (m := hashByValue 8 _) (wpAny_pure ?_)
  simp only [↓reduceIte]
  refine wpAny_bind (wpAny_storeSet_of (s := { s with toks := s.toks + 1 }) hS rfl ?_ (by rw [sizeLine_eq]; decide))
  rw [tab1_full]
  simp only [Bool.and_false, Bool.false_eq_true, ↓reduceIte]
  refine wpAny_pure (wpAny_pure ?_)
  show wpAny _ _ (ret Value.none) _ _ _
  refine wpAny_pure ⟨_, rfl, h _ (Heap.SameBut.update s.heap a _) ?_⟩
  exact Heap.get?_update_self (Obj.putSet es1 (tab1 led)) hS rfl
theorem add_again {a : Addr} {ep : Nat} {led : Bool} {Q : Value → Shared → Prop} (hS : s.heap.get? a = some (setO es1 ep (tab1 led)))
    (h : Q .none { s with toks := s.toks + 1 }) :
    wpAny (model prog w) A (call (.builtin "set.add") [.ref a, .bool true]) Q E s := by
  refine wpAny_call_entry PySem.F.slot_set_add ⟨_, hS, rfl⟩ PySem.F.entry_set_add ?_ (PySem.F.args_set_add_2 _ _)
  unfold Builtin.«set.add» Builtin.Frozenset.oneOther
  simp only [List.isEmpty_nil, bind_assoc]
  unfold Builtin.Frozenset.addrOf setAdd
  refine wpAny_bind (wpAny_pure ?_)
  try dsimp only
  refine wpAny_bind (wpAny_pure ?_)
  try dsimp only
  refine wpAny_bind ?_
  refine wpAny_holding ?_
  refine wpAny_bind (pyHash_true ?_)
  unfold setAddHashed setAddHashedIn
  refine wpAny_holding (wpAny_bind (wpAny_setState_of (s := { s with toks := s.toks + 1 }) hS rfl (tab1_fits led) ?_))
  dsimp only
  rw [show byScan (.bool true) es1 = true from by decide +kernel]
  simp only [↓reduceIte]
  unfold setAddByScan
  refine wpAny_bind ?_
  refine wpAny_bind (wpAny_rule ?_)
  refine wpAny_bind (m := setScan _ _ _ _ _) ?_
  show wpAny _ _ (setScanFrom a (.bool true) 1 true [(1, .bool true)] 0) _ _ _
  unfold setScanFrom
  rw [if_pos (by decide)]
  refine wpAny_bind (wpAny_setEpoch_of (s := { s with toks := s.toks + 1 }) hS rfl (tab1_fits led) ?_)
  refine wpAny_bind (eqBool_true ?_)
  simp only [Bool.and_self, ↓reduceIte]
  refine wpAny_pure ?_
  dsimp only
  refine wpAny_pure (wpAny_pure ?_)
  show wpAny _ _ (ret Value.none) _ _ _
  exact wpAny_pure ⟨_, rfl, h⟩
end
end PartSx

section PartSy
noncomputable def setIt (first i : Int) (a : Addr) (n ep : Int) : Obj := { cls := .type "set_iterator", dict := none, data := .fields #[rawInt first, rawInt i, .ref a, rawInt n, rawInt ep] }
section
variable {prog : Program} {w : World} {A : Around} {E : Value → Shared → Prop} {s : Shared}
theorem iter_set1 {a : Addr} {ep : Nat} {led : Bool} {Q : Value → Shared → Prop} (hS : s.heap.get? a = some (setO es1 ep (tab1 led)))
    (h : Q (.ref s.heap.objs.size) { s with heap := s.heap.push (setIt 0 0 a 1 ep) }) : wpAny (model prog w) A (pyIter (.ref a)) Q E s := by
  have hT : s.TypeIs (.ref a) "set" := ⟨_, hS, rfl⟩
  refine wpAny_pyIter_slot hT PySem.F.slot_set_iter (wpAny_call_entry PySem.F.slot_set_iter hT entry_set_iter ?_ (PySem.F.args_set_iter_1 _))
  show wpAny _ _ (Builtin.Frozenset.sizeOf a >>= _) _ _ s
  unfold Builtin.Frozenset.sizeOf
  refine wpAny_bind (wpAny_bind (wpAny_setEntries_of hS rfl (tab1_fits led) (wpAny_pure ?_)))
  refine wpAny_bind (m := setDrawn a) ?_
  unfold setDrawn setsByText
  refine wpAny_bind (wpAny_setState_of hS rfl (tab1_fits led) ?_)
  refine wpAny_bind (wpAny_bind (wpAny_askSetting (wpAny_pure (wpAny_pure ?_))))
  rw [if_neg (by cases led <;> (simp [tab1]; intro _; rfl))]
  refine wpAny_bind (wpAny_pure ?_)
  refine wpAny_bind (wpAny_setEpoch_of hS rfl (tab1_fits led) ?_)
  exact wpAny_bind (wpAny_newObj_type (wpAny_pure ⟨_, rfl, "set_iterator", _, ⟨_, Heap.get?_push_size _ rfl, rfl⟩, slot_seti_next.lookup, h⟩))
theorem below1 : SetTable.below #[1] 0 = 0 := by decide +kernel
theorem below2 : SetTable.below #[1] 2 = 1 := by decide +kernel
theorem pick1 (f : Nat → Nat) : pickOrder f es1 = es1 := by
  unfold pickOrder es1
  show pickOrder.go f 1 0 [(1, Value.bool true)] #[] = _
  unfold pickOrder.go
  rw [show f 0 % [((1 : Int), Value.bool true)].length = 0 from Nat.mod_one _]
  rfl
theorem setNext_item {a : Addr} {ep : Nat} {led : Bool} {Q : Option (Value × Nat) → Shared → Prop} (hS : s.heap.get? a = some (setO es1 ep (tab1 led))) (hled : w.params.followText "set-order" = true ∨ led = true)
    (h : ∀ k, k = 0 ∧ w.params.followText "set-order" = true ∨ k = 2 ∧ w.params.followText "set-order" = false → Q (some (.bool true, k)) s) : wpAny (model prog w) A (setNext a 0 0 ep) Q E s := by
  unfold setNext
  refine wpAny_bind (wpAny_setState_of hS rfl (tab1_fits led) ?_)
  dsimp only
  unfold setsByText
  refine wpAny_bind (wpAny_bind (wpAny_askSetting (wpAny_pure ?_)))
  show wpAny _ _ (if w.params.followText "set-order" = true then _ else _) _ _ _
  cases hb : w.params.followText "set-order" with
  | true =>
    rw [if_pos rfl, if_neg (by simp)]
    unfold setWalk setsByText
    refine wpAny_bind ?_
    refine wpAny_bind (wpAny_setState_of hS rfl (tab1_fits led) ?_)
    dsimp only
    refine wpAny_bind (wpAny_bind (wpAny_askSetting (wpAny_pure ?_)))
    show wpAny _ _ (if w.params.followText "set-order" = true then _ else _) _ _ _
    rw [hb, if_pos rfl]
    refine wpAny_bind (wpAny_askSetting (wpAny_pure ?_))
    rw [pick1]
    exact wpAny_pure (h 0 (.inl ⟨rfl, hb⟩))
  | false =>
    rw [if_neg (by decide)]
    have hl : led = true := by rcases hled with e | e; rw [hb] at e; cases e; exact e
    subst hl
    rw [if_neg (by simp [tab1]; rfl)]
    refine wpAny_bind (wpAny_of_eq (a := ()) rfl ?_)
    exact wpAny_pure (h 2 (.inr ⟨rfl, hb⟩))
theorem setNext_end {a : Addr} {ep k : Nat} {led : Bool} {Q : Option (Value × Nat) → Shared → Prop} (hS : s.heap.get? a = some (setO es1 ep (tab1 led))) (hled : w.params.followText "set-order" = true ∨ led = true)
    (hk : k = 0 ∧ w.params.followText "set-order" = true ∨ k = 2 ∧ w.params.followText "set-order" = false) (h : Q none s) : wpAny (model prog w) A (setNext a k 1 ep) Q E s := by
  unfold setNext
  refine wpAny_bind (wpAny_setState_of hS rfl (tab1_fits led) ?_)
  dsimp only
  unfold setsByText
  refine wpAny_bind (wpAny_bind (wpAny_askSetting (wpAny_pure ?_)))
  show wpAny _ _ (if w.params.followText "set-order" = true then _ else _) _ _ _
  cases hb : w.params.followText "set-order" with
  | true =>
    rw [if_pos rfl, if_neg (by simp)]
    unfold setWalk setsByText
    refine wpAny_bind ?_
    refine wpAny_bind (wpAny_setState_of hS rfl (tab1_fits led) ?_)
    dsimp only
    refine wpAny_bind (wpAny_bind (wpAny_askSetting (wpAny_pure ?_)))
    show wpAny _ _ (if w.params.followText "set-order" = true then _ else _) _ _ _
    rw [hb, if_pos rfl]
    refine wpAny_bind (wpAny_askSetting (wpAny_pure ?_))
    rw [pick1]
    exact wpAny_pure h
  | false =>
    rw [if_neg (by decide)]
    have hl : led = true := by rcases hled with e | e; rw [hb] at e; cases e; exact e
    subst hl
    obtain rfl : k = 2 := by
      rcases hk with ⟨_, e⟩ | ⟨e, _⟩
      · rw [hb] at e; cases e
      · exact e
    rw [if_neg (by simp [tab1]; rfl)]
    refine wpAny_bind (wpAny_of_eq (a := ()) rfl ?_)
    exact wpAny_pure h
theorem next_set_item {it a : Addr} {ep : Nat} {led : Bool} {Q : Option Value → Shared → Prop} (hit : s.heap.get? it = some (setIt 0 0 a 1 ep)) (hS : s.heap.get? a = some (setO es1 ep (tab1 led))) (hled : w.params.followText "set-order" = true ∨ led = true)
    (h : ∀ h' k, (k = 0 ∧ w.params.followText "set-order" = true ∨ k = 2 ∧ w.params.followText "set-order" = false) → h'.get? it = some (setIt (k : Nat) 1 a 1 ep) → Heap.SameBut it s.heap h' → Q (some (.bool true)) { s with heap := h' }) :
    wpAny (model prog w) A (pyNext (.ref it)) Q E s := by
  have hT : s.TypeIs (.ref it) "set_iterator" := ⟨_, hit, rfl⟩
  unfold pyNext
  refine wpAny_bind (wpAny_attempt (wpAny_callSpecial?_slot (name := Str.ofString "__next__") hT slot_seti_next
    (wpAny_call_entry slot_seti_next hT entry_seti_next ?_ (args_seti_next_1 _))))
  show wpAny _ _ (fieldsOf (.ref it) >>= _) _ _ s
  refine wpAny_bind (wpAny_fieldsOf hit rfl ?_)
  show wpAny _ _ (setEntries a >>= _) _ _ s
  refine wpAny_bind (wpAny_setEntries_of hS rfl (tab1_fits led) ?_)
  rw [if_neg (by decide +kernel)]
  show wpAny _ _ (setNext a 0 0 ep >>= _) _ _ s
  refine wpAny_bind (setNext_item hS hled fun k hk => ?_)
  dsimp only
  refine wpAny_bind (wpAny_setField hit rfl (by simp) ?_)
  have hit2 : (s.heap.update it (Obj.mapFields (·.setIfInBounds 0 (rawInt (k : Nat))))).get? it = some (setIt (k : Nat) 0 a 1 ep) := Heap.get?_update_self (Obj.mapFields (·.setIfInBounds 0 (rawInt (k : Nat)))) hit rfl
  refine wpAny_bind (wpAny_setField (s := { s with heap := _ }) hit2 rfl (by simp) (wpAny_pure ⟨.bool true, rfl, wpAny_pure (h _ k hk ?_ ((Heap.SameBut.update ..).trans (Heap.SameBut.update ..)))⟩))
  exact Heap.get?_update_self (Obj.mapFields (·.setIfInBounds 1 (rawInt (0 + 1)))) hit2 rfl
theorem next_set_end {it a : Addr} {ep k : Nat} {led : Bool} {Q : Option Value → Shared → Prop} (hh : A.handled = none) (hit : s.heap.get? it = some (setIt (k : Nat) 1 a 1 ep)) (hS : s.heap.get? a = some (setO es1 ep (tab1 led))) (hled : w.params.followText "set-order" = true ∨ led = true)
    (hk : k = 0 ∧ w.params.followText "set-order" = true ∨ k = 2 ∧ w.params.followText "set-order" = false) (h : ∀ h', Heap.ExtBut it s.heap h' → Q none { s with heap := h' }) :
    wpAny (model prog w) A (pyNext (.ref it)) Q E s := by
  have hT : s.TypeIs (.ref it) "set_iterator" := ⟨_, hit, rfl⟩
  unfold pyNext
  refine wpAny_bind (wpAny_attempt (wpAny_callSpecial?_slot (name := Str.ofString "__next__") hT slot_seti_next
    (wpAny_call_entry slot_seti_next hT entry_seti_next ?_ (args_seti_next_1 _))))
  show wpAny _ _ (fieldsOf (.ref it) >>= _) _ _ s
  refine wpAny_bind (wpAny_fieldsOf hit rfl ?_)
  show wpAny _ _ (setEntries a >>= _) _ _ s
  refine wpAny_bind (wpAny_setEntries_of hS rfl (tab1_fits led) ?_)
  rw [if_neg (by decide +kernel)]
  show wpAny _ _ (setNext a k 1 ep >>= _) _ _ s
  refine wpAny_bind (setNext_end hS hled hk ?_)
  dsimp only
  refine wpAny_bind (wpAny_setField hit rfl (by simp) ?_)
  show wpAny _ _ (newExc (.type "StopIteration") [] >>= _) _ _ _
  refine wpAny_bind ?_
  simp only [newExc, newTuple]
  refine wpAny_bind (wpAny_newObj_type ?_ (by size_fits))
  refine wpAny_bind (m := firstArgMember _ _) (wpAny_of_eq (a := Value.none) (by first | rfl | (simp only [firstArgMember]; rfl)) ?_)
  refine wpAny_newObj_type ?_ (by size_fits)
  simp only [raiseNew]
  refine wpAny_bind (wpAny_handled ?_)
  rw [show A.in1.handled = none from hh]
  refine wpAny_bind (wpAny_pure (wpAny_throw ?_))
  refine wpAny_bind (wpAny_isInstance (T := "StopIteration") (b := true) ⟨_, Heap.get?_push_size _ rfl, rfl⟩ isSubtype_stop ?_)
  exact wpAny_pure (h _ (((Heap.SameBut.update ..).extBut.push _).push _))
theorem unpack_set1 {a : Addr} {ep : Nat} {led : Bool} {Q : List Value → Shared → Prop} (hh : A.handled = none) (hS : s.heap.get? a = some (setO es1 ep (tab1 led))) (hled : w.params.followText "set-order" = true ∨ led = true)
    (h : ∀ h', s.heap.StaysIn h' → Q [.bool true] { s with heap := h' }) : wpAny (model prog w) A (unpackItems (.ref a) 1 none) Q E s := by
  have hT : s.TypeIs (.ref a) "set" := ⟨_, hS, rfl⟩
  have hlt : a ≠ s.heap.objs.size := Nat.ne_of_lt (Heap.lt_size hS)
  unfold unpackItems
  refine wpAny_bind ?_
  unfold notIterableAtAll
  refine wpAny_bind (wpAny_specialOf hT PySem.F.slot_set_iter.lookup ?_)
  refine wpAny_pure ?_
  simp only [Bool.false_eq_true, if_false]
  refine wpAny_bind (wpAny_holding (iter_set1 hS ?_))
  have hit : (s.heap.push (setIt 0 0 a 1 ep)).get? s.heap.objs.size = some (setIt 0 0 a 1 ep) := Heap.get?_push_size _ rfl
  have hS1 : (s.heap.push (setIt 0 0 a 1 ep)).get? a = some (setO es1 ep (tab1 led)) := Heap.get?_push_of_some _ hS
  refine wpAny_bind (wpAny_holding ?_)
  unfold draw
  refine wpAny_bind (next_set_item (s := { s with heap := _ }) hit hS1 hled fun h2 k hk hit2 hs2 => ?_)
  dsimp only
  refine wpAny_bind (wpAny_holding ?_)
  unfold draw
  refine wpAny_pure (wpAny_pure ?_)
  rw [if_neg (by decide)]
  have hS2 : h2.get? a = some (setO es1 ep (tab1 led)) := hs2.extBut a _ hlt hS1
  refine wpAny_bind (wpAny_holding (next_set_end (s := { s with heap := h2 }) hh hit2 hS2 hled hk fun h3 hs3 => ?_))
  simp only [Option.isSome_none, Bool.false_eq_true, if_false]
  refine wpAny_pure (h h3 fun b o e => ?_)
  have hb : b ≠ s.heap.objs.size := Nat.ne_of_lt (Heap.lt_size e)
  exact hs3 b o hb (hs2.extBut b o hb (Heap.get?_push_of_some _ e))
end
end PartSy

section PartSz
noncomputable def TrueE (_ y : Value) (own : List (Addr × Obj)) : Prop := y = .bool true ∧ own = []
section
variable {prog : Program} {w : World} {A : Around} {R : Result → Shared → Prop} {s : Shared}
theorem compTurn_setc (elt target iter : Expr) (scope : Scope) (pos : Pos) (it acc : Value) (env : Env) :
    compTurn (.SetComp elt [⟨target, iter, [], 0⟩] scope pos) 0 it acc env = (standAt iter.pos >>= fun _ => pyNext it >>= fun r => match r with
      | none => pure (.done .next)
      | some v => letOwnedTupleGo target it v >>= fun _ => assign target env v >>= fun _ =>
        (eval elt env >>= fun x => standAt elt.pos >>= fun _ => call (.builtin "set.add") [acc, x] >>= fun _ => pure ()) >>= fun _ =>
          again (.compLoop (.SetComp elt [⟨target, iter, [], 0⟩] scope pos) 0 it acc env)) := by rfl
theorem start_setc {elt target iter ifs rest scope pos it acc env}
    (h0 : codeAny (model prog w) A (.compLoop (.SetComp elt (⟨target, iter, ifs, 0⟩ :: rest) scope pos) 0 it acc env) R s)
    (h : wpAny (model prog w) A (pyIter it) (fun it' s' => codeAny (model prog w) A (.compLoop (.SetComp elt (⟨target, iter, ifs, 0⟩ :: rest) scope pos) 0 it' acc env) R s')
      (notedBy (model prog w) A env fun x s' => R (.error x) s') s) :
    codeAny (model prog w) A (.compStart (.SetComp elt (⟨target, iter, ifs, 0⟩ :: rest) scope pos) 0 it acc env) R s := by
  refine codeAny_of_tree ?_
  show wpAny _ _ ((compStart (.SetComp elt (⟨target, iter, ifs, 0⟩ :: rest) scope pos) 0 it acc env).onRaise (fun x => do noteFrame x env; standAt theWindowsPlace)) _ _ s
  refine wpAny_notedAt ?_
  unfold compStart
  show wpAny _ _ (ask >>= _) _ _ s
  refine wpAny_bind (wpAny_askSetting (wpAny_ite ?_))
  split
  · first
      | exact wpAny_bind (wpAny_pure (wpAny_pure (And.intro rfl h0)))
      | exact wpAny_pure (And.intro rfl h0)
  · refine wpAny_bind (wpAny_rule (wpAny_bind (wpAny_standAt (wpAny_bind (wpAny_mono h (fun it' s' h' => wpAny_pure ⟨rfl, h'⟩) fun _ _ x => x)))))
theorem loop_setc {elt iter : Expr} {x : Str} {px : Pos} {scope : Scope} {pos : Pos} {I D : Addr} {fp wr : List Addr} {n : Nat} {P : Nat → Value → Prop} {St : Nat → Heap → Prop} {led : Bool}
    {cenv : Env} {m : Str → Option Value} (W : Walks prog w A I fp wr n P St)
    (hx : cenv.kindOf x = some .local) (hp : (cenv.scope.kind == .class || (cenv.scope.kind == .module && cenv.locals != cenv.globals)) = false)
    (hDC : D ≠ cenv.locals) (hDf : D ∉ fp) (hCf : cenv.locals ∉ fp)
    (hst : St 0 s.heap) (hacc : s.heap.get? D = some (setO #[] 0 (.fresh 0 0 led))) (hn : s.heap.Ns cenv.locals m)
    (helt : ∀ i v s₂ m₂, P i v → s₂.heap.Ns cenv.locals m₂ → m₂ x = some v → (∀ b o, b ≠ cenv.locals → b ∉ wr → b ≠ D → s.heap.get? b = some o → s₂.heap.get? b = some o) →
      wpAny (model prog w) A (eval elt cenv) (fun y s₃ => KeepsC cenv.locals m₂ s₂ s₃ ∧ ∃ own, TrueE v y own ∧ ∀ q ∈ own, s₂.heap.get? q.1 = none ∧ s₃.heap.get? q.1 = some q.2) (notedBy (model prog w) A cenv fun e s' => R (.error e) s') s₂)
    (hR : ∀ h' tk m', h'.Ns cenv.locals m' → h'.get? D = some (if n = 0 then setO #[] 0 (.fresh 0 0 led) else setO es1 1 (tab1 led)) →
      (∀ b o, b ≠ cenv.locals → b ∉ wr → b ≠ D → s.heap.get? b = some o → h'.get? b = some o) → R (.ok .next) { s with heap := h', toks := tk }) :
    codeAny (model prog w) A (.compLoop (.SetComp elt [⟨.Name x px, iter, [], 0⟩] scope pos) 0 (.ref I) (.ref D) cenv) R s := by
  refine codeAny_loop rfl
    (fun k s' => ∃ h' tk m' i, s' = { s with heap := h', toks := tk } ∧ St i h' ∧ h'.get? D = some (if i = 0 then setO #[] 0 (.fresh 0 0 led) else setO es1 1 (tab1 led)) ∧ h'.Ns cenv.locals m' ∧
      i ≤ n ∧ k = n + 1 - i ∧ (∀ b o, b ≠ cenv.locals → b ∉ wr → b ≠ D → s.heap.get? b = some o → h'.get? b = some o)) (fun k s' hI => ?_) (n + 1)
    ⟨s.heap, s.toks, m, 0, rfl, hst, hacc, hn, Nat.zero_le _, rfl, fun _ _ _ _ _ e => e⟩
  refine hide fun hGoal => ?_
  obtain ⟨H, tk, m', i, rfl, hst', hacc', hn', hi, rfl, hk⟩ := hI
  refine hGoal ?_
  clear hGoal
  show wpAny _ A ((compTurn (.SetComp elt [⟨.Name x px, iter, [], 0⟩] scope pos) 0 (.ref I) (.ref D) cenv).onRaise (fun x => do noteFrame x cenv; theTreesLotGoes x)) _ _ _
  refine wpAny_noted ?_
  rw [compTurn_setc]
  have hCw : cenv.locals ∉ wr := fun h => hCf (W.sub _ h)
  have hDw : D ∉ wr := fun h => hDf (W.sub _ h)
  refine wpAny_bind (wpAny_standAt (wpAny_bind ?_))
  by_cases hlt : i < n
  · refine W.item i _ _ _ hlt hst' fun v h₁ tk₁ hPv hst₁ hk₁ => ?_
    dsimp only
    refine wpAny_bind (wpAny_of_eq (by rfl) ?_)
    refine wpAny_bind (wpAny_assign_Name (wpAny_storeName_local hx (hn'.at' fun o e => hk₁ _ o hCw e) (fun h₂ hn₂ hs₂ => ?_) hp))
    have up₂ : ∀ b o, b ≠ cenv.locals → b ∉ wr → H.get? b = some o → h₂.get? b = some o := fun b o hbC hbf e => hs₂.extBut b o hbC (hk₁ b o hbf e)
    have hst₂ : St (i + 1) h₂ := W.frame _ _ _ hst₁ fun b hb o e => hs₂.extBut b o (fun h => hCf (h ▸ hb)) e
    refine wpAny_bind (wpAny_bind (wpAny_mono (helt i v _ _ hPv hn₂ (by simp) (fun b o hbC hbf hbD e => up₂ b o hbC hbf (hk b o hbC hbf hbD e))) (fun y s₄ h₄ => ?_) fun _ _ e => e))
    refine hide fun hGoal => ?_
    obtain ⟨⟨h₄, tk₄, rfl, hk₄, hn₄⟩, own, ⟨rfl, rfl⟩, _⟩ := h₄
    refine hGoal ?_
    clear hGoal
    have hst₄ : St (i + 1) h₄ := W.frame _ _ _ hst₂ fun b hb o e => hk₄ b o (fun h => hCf (h ▸ hb)) e
    have hacc₄ : h₄.get? D = some (if i = 0 then setO #[] 0 (.fresh 0 0 led) else setO es1 1 (tab1 led)) := hk₄ _ _ hDC (up₂ _ _ hDC hDw hacc')
    refine wpAny_bind (wpAny_standAt (wpAny_bind ?_))
    have up₄ : ∀ b o, b ≠ cenv.locals → b ∉ wr → b ≠ D → s.heap.get? b = some o → h₄.get? b = some o := fun b o hbC hbf hbD e => hk₄ b o hbC (up₂ b o hbC hbf (hk b o hbC hbf hbD e))
    by_cases c : i = 0
    · rw [if_pos c] at hacc₄
      refine add_first (s := { s with heap := h₄, toks := tk₄ }) hacc₄ fun h₅ hs₅ hS₅ => wpAny_pure (wpAny_pure ⟨rfl, n + 1 - (i + 1), by omega, h₅, _, _, i + 1, rfl, W.frame _ _ h₅ hst₄ fun b hb o e => hs₅.extBut b o (fun h => hDf (h ▸ hb)) e, by rw [if_neg (by omega)]; exact hS₅, hn₄.sameBut hs₅ (Ne.symm hDC), hlt, rfl,
        fun b o hbC hbf hbD e => hs₅.extBut b o hbD (up₄ b o hbC hbf hbD e)⟩)
    · rw [if_neg c] at hacc₄
      exact add_again (s := { s with heap := h₄, toks := tk₄ }) hacc₄ (wpAny_pure (wpAny_pure ⟨rfl, n + 1 - (i + 1), by omega, h₄, _, _, i + 1, rfl, hst₄, by rw [if_neg (by omega)]; exact hacc₄, hn₄, hlt, rfl, up₄⟩))
  · have hin : i = n := by omega
    subst hin
    refine W.done _ _ _ hst' fun h₁ tk₁ hk₁ => ?_
    exact wpAny_pure (hR h₁ tk₁ m' (hn'.at' fun o e => hk₁ _ o hCw e) (hk₁ _ _ hDw hacc') fun b o hbC hbf hbD e => hk₁ b o hbf (hk b o hbC hbf hbD e))
end
section
variable {prog : Program} {w : World} {A : Around} {E : Value → Shared → Prop} {env : Env}
theorem newSet_led {s : Shared} {Q : Value → Shared → Prop}
    (h : Q (.ref s.heap.objs.size) { s with heap := s.heap.push (setO #[] 0 (.fresh 0 0 (!(w.params.followText "set-order")))) }) :
    wpAny (model prog w) A (newSet (.type "set")) Q E s := by
  unfold newSet setsByText
  refine wpAny_bind (wpAny_bind (wpAny_askSetting (wpAny_pure ?_)))
  dsimp only
  simp only [newObj]
  exact wpAny_bind (wpAny_alloc (wpAny_pure h))
noncomputable def CAtS (prog : Program) (w : World) (A : Around) (env : Env) (scope : Scope) (cl : List (Str × Addr)) (x : Str) (elt : Expr) (Q : Value → Shared → Prop) (it : Value) (s₂ : Shared) : Prop :=
  ∃ (I : Addr) (fp wr : List Addr) (n : Nat) (P : Nat → Value → Prop) (St : Nat → Heap → Prop), it = .ref I ∧ Walks prog w A I fp wr n P St ∧ 0 < n ∧ St 0 s₂.heap ∧
    (∀ b ∈ fp, b < s₂.heap.objs.size) ∧ QuietE prog w A env scope cl x [] elt wr P (fun _ => true) TrueE s₂ ∧
    ∀ D led h' tk, s₂.heap.get? D = none → s₂.heap.objs.size ≤ D → h'.get? D = some (setO es1 1 (tab1 led)) → (w.params.followText "set-order" = true ∨ led = true) → (∀ b o, b ∉ wr → s₂.heap.get? b = some o → h'.get? b = some o) → Q (.ref D) { s₂ with heap := h', toks := tk }
theorem comp_set {s : Shared} {elt iter : Expr} {x : Str} {px : Pos} {scope : Scope} {cl : List (Str × Addr)} {pos : Pos} {Q : Value → Shared → Prop}
    (hclos : closureFor scope env = pure cl) (hcell : ∀ y ∈ scope.names, y.2 ≠ .cell) (hkind : scope.kind = .function)
    (hnames : ∀ y ∈ scope.names, y.2 = .local → scope.names.lookup y.1 = some .local) (hx : scope.names.lookup x = some .local)
    (hs : ∀ x, foldedSetIterable iter env x = pure x)
    (h : wpAny (model prog w) A (eval iter env) (fun xv s₁ => wpAny (model prog w) A (pyIter xv) (fun it s₂ => CAtS prog w A env scope cl x elt Q it s₂) E s₁) E s) :
    wpAny (model prog w) A (eval (.SetComp elt [⟨.Name x px, iter, [], 0⟩] scope pos) env) Q E s := by
  rw [arm_eval_SetComp]
  refine wpAny_comprehension_free (use := none) rfl hs hclos hkind hnames (wpAny_mono h (fun xv s₁ h₁ => wpAny_mono h₁ (fun it s₂ h₂ => ?_) fun _ _ e => e) fun _ _ e => e)
  refine hide fun hGoal => ?_
  obtain ⟨I, fp, wr, n, P, St, rfl, W, hn0, hst, hfp, hq, hQ⟩ := h₂
  refine hGoal ?_
  clear hGoal
  refine newSet_led (wpAny_newFunctionEnv hcell (by intro y hy; simp at hy) (fun h₁ hns₁ hsb₁ => ?_) hkind)
  dsimp only at hns₁ hsb₁ ⊢
  generalize hH2 : s₂.heap.push (setO #[] 0 (.fresh 0 0 (!(w.params.followText "set-order")))) = H2 at hns₁ hsb₁ ⊢
  have hC : H2.objs.size = s₂.heap.objs.size + 1 := by rw [← hH2, Heap.size_push]
  have hDC : s₂.heap.objs.size ≠ H2.objs.size := by rw [hC]; exact Nat.ne_of_lt (Nat.lt_succ_self _)
  have hCle : s₂.heap.objs.size ≤ H2.objs.size := by rw [hC]; exact Nat.le_succ _
  have low : ∀ b, b < s₂.heap.objs.size → b ≠ H2.objs.size ∧ b ≠ s₂.heap.objs.size := fun b hb => ⟨by rw [hC]; exact Nat.ne_of_lt (Nat.lt_succ_of_lt hb), Nat.ne_of_lt hb⟩
  have hDf : s₂.heap.objs.size ∉ fp := fun hm => Nat.lt_irrefl _ (hfp _ hm)
  have hCf : H2.objs.size ∉ fp := fun hm => by have := hfp _ hm; rw [hC] at this; exact Nat.lt_irrefl _ (Nat.lt_of_succ_lt this)
  have old : ∀ b o, s₂.heap.get? b = some o → h₁.get? b = some o := fun b o e => hsb₁.extBut b o (low b (Heap.lt_size e)).1 (Heap.get?_push_of_some _ (hH2 ▸ Heap.get?_push_of_some _ e))
  have hacc : h₁.get? s₂.heap.objs.size = some (setO #[] 0 (.fresh 0 0 (!(w.params.followText "set-order")))) := hsb₁.extBut _ _ hDC (Heap.get?_push_of_some _ (hH2 ▸ Heap.get?_push_size _ rfl))
  have hst₁ : St 0 h₁ := W.frame _ _ _ hst fun b _ o e => old b o e
  have fresh : ∀ a, s₂.heap.objs.size ≤ a → s₂.heap.get? a = none := fun a ha => Heap.get?_none_of_le ha
  have loop : ∀ s₃ : Shared, s₃ = { s₂ with heap := h₁, toks := s₂.toks + ([] : List (Str × Value)).length } →
      codeAny (model prog w) A (.compLoop (.SetComp elt [⟨.Name x px, iter, [], 0⟩] scope pos) 0 (.ref I) (.ref s₂.heap.objs.size) (compEnvC scope cl H2.objs.size env))
        (compPost (model prog w) A E none Q (.ref s₂.heap.objs.size) H2.objs.size) s₃ := by
    rintro s₃ rfl
    refine loop_setc (cenv := compEnvC scope cl H2.objs.size env) W (lookup_relabel_local hx) (by simp [compEnvC, relabel, hkind]) hDC hDf hCf hst₁ hacc hns₁
      (fun i v s₃ m₃ hv hn hm hk => hq.elt _ i v s₃ m₃ _ hCle hv rfl hn hm (fun b o hbf e => hk b o (low b (Heap.lt_size e)).1 hbf (low b (Heap.lt_size e)).2 (old b o e))) fun h' tk m' hn' hD hk => ?_
    refine ⟨m', hn', fun h'' hs'' => hQ _ (!(w.params.followText "set-order")) h'' tk (fresh _ (Nat.le_refl _)) (Nat.le_refl _) ?_ ?_ fun b o hbf e => ?_⟩
    · rw [if_neg (by omega)] at hD
      exact hs''.extBut _ _ hDC hD
    · cases w.params.followText "set-order" <;> simp
    · exact hs''.extBut b o (low b (Heap.lt_size e)).1 (hk b o (low b (Heap.lt_size e)).1 hbf (low b (Heap.lt_size e)).2 (old b o e))
  exact start_setc (loop _ rfl) (W.self 0 _ _ _ hst₁ (loop _ rfl))
theorem assign_set1 {s : Shared} {y : Str} {py pos : Pos} {k : Nat} {a : Addr} {ep : Nat} {led : Bool} {Q : Unit → Shared → Prop} (hh : A.handled = none) (hS : s.heap.get? a = some (setO es1 ep (tab1 led))) (hled : w.params.followText "set-order" = true ∨ led = true)
    (h : ∀ h', s.heap.StaysIn h' → wpAny (model prog w) A (assign (.Name y py) env (.bool true)) Q E { s with heap := h' }) : wpAny (model prog w) A (assign (.Tuple [.Name y py] k pos) env (.ref a)) Q E s := by
  rw [arm_assign_Tuple]
  refine wpAny_bind (wpAny_standAt ?_)
  show wpAny _ _ (unpack (.ref a) [(false, assign (.Name y py) env)]) _ _ _
  unfold unpack
  refine wpAny_bind (wpAny_holding (unpack_set1 hh hS hled fun h' st => ?_))
  show wpAny _ _ (holding [Value.bool true] (assign (.Name y py) env (.bool true)) >>= _) _ _ _
  exact wpAny_bind (wpAny_holding (wpAny_mono (h h' st) (fun _ _ q => wpAny_pure q) fun _ _ e => e))
variable {s : Shared} {h₀ : Heap} {m : Str → Option Value} {news : List (Addr × Obj)} {scope : Scope} {cl : List (Str × Addr)} {x : Str} {elt : Expr}
theorem catS {I : Addr} {fp wr : List Addr} {n : Nat} {P : Nat → Value → Prop} {St : Nat → Heap → Prop} {s₂ : Shared} {Pv : Value → Prop} {Q : Value → Shared → Prop}
    (S : Src prog w A s.heap I fp wr n P St s₂) (hn : 0 < n) (hP : ∀ i v, P i v → Pv v) (Fm : Fr h₀ env.locals s.heap m) (N : News h₀ env.locals s.heap news) (T : Turn prog w A env scope cl x [] elt h₀ m news s.heap Pv (fun _ => true) TrueE)
    (done : ∀ D led h' tk, Fr h₀ env.locals h' m → News h₀ env.locals h' ((D, setO es1 1 (tab1 led)) :: news) → (∀ q ∈ news, @LT.lt Nat _ q.1 D) → (w.params.followText "set-order" = true ∨ led = true) → Q (.ref D) { s₂ with heap := h', toks := tk }) :
    CAtS prog w A env scope cl x elt Q (.ref I) s₂ := by
  refine ⟨I, fp, wr, n, P, St, rfl, S.W, hn, S.st, S.fp, quiet_of S hP Fm N T, fun D led h' tk hf ha hD hl hk => ?_⟩
  have off : ∀ b, b < s.heap.objs.size → b ∉ wr := fun b hb hw => Nat.lt_irrefl _ (Nat.lt_of_lt_of_le hb (S.wr b hw ▸ S.new))
  have up : ∀ b o, s.heap.get? b = some o → h'.get? b = some o := fun b o e => hk b o (off b (Heap.lt_size e)) (S.keep b o e)
  have F₂ := Fm.kept S.keep
  refine hide fun hGoal => ?_
  obtain ⟨oL, _, _, hL, _⟩ := F₂.ns
  refine hGoal ?_
  clear hGoal
  have hLt := Heap.lt_size hL
  refine done D led h' tk (Fm.kept up) (fun q hq => ?_) (fun q hq => Nat.lt_of_lt_of_le (Heap.lt_size (S.keep _ _ (N q hq).1)) ha) hl
  rcases List.mem_cons.mp hq with rfl | hq
  · refine ⟨hD, Nat.ne_of_gt (Nat.lt_of_lt_of_le hLt ha), ?_⟩
    cases r : h₀.get? D with
    | none => rfl
    | some o => have := F₂.keep D o r; rw [hf] at this; cases this
  · exact ⟨up _ _ (N q hq).1, (N q hq).2⟩
end
end PartSz

local macro_rules | `(tactic| walk_at "mine pad 3") => `(tactic| skip)
section PartPh
local macro_rules
  | `(tactic| walk_at $k:str) => if ["call builtin:min", "call builtin:max", "eval SetComp", "unpackItems ref", "call type:map", "call type:tuple", "exec Assign cons ListComp", "truthy ref", "subscriptTail Name Constant ref int", "eval ListComp", "exec Try cons cons nil nil", "pyIter ref"].contains k.getString then `(tactic| (refine hold_it ?_)) else Lean.Macro.throwUnsupported
theorem Reps.unique : ∀ {vs : List Value} {xs ys : List Str}, Reps RS vs xs → Reps RS vs ys → xs = ys
  | [], [], [], _, _ => rfl
  | v :: vs, x :: xs, y :: ys, h1, h2 => by
    refine hide fun hGoal => ?_
    obtain ⟨⟨t, e1⟩, h1'⟩ := h1.uncons
    refine hGoal ?_
    clear hGoal
    refine hide fun hGoal => ?_
    obtain ⟨⟨t', e2⟩, h2'⟩ := h2.uncons
    refine hGoal ?_
    clear hGoal
    rw [e1] at e2
    injection e2 with e2
    rw [e2, h1'.unique h2']
  | [], _ :: _, _, h, _ => by have := h.1; simp at this
  | [], _, _ :: _, _, h => by have := h.1; simp at this
  | _ :: _, [], _, h, _ => by have := h.1; simp at this
  | _ :: _, _, [], _, h => by have := h.1; simp at this
theorem pthL_mem : ∀ {xs : List Str} {x : Str}, x ∈ xs → x.cps.toList.length ≤ (pthL xs).length
  | y :: xs, x, h => by
    rw [pthL_cons, List.length_append, List.length_cons]
    rcases List.mem_cons.mp h with rfl | h
    · omega
    · have := pthL_mem h; omega
noncomputable def CutOf (f : Str → List Str) (v y : Value) (own : List (Addr × Obj)) : Prop := ∃ D us n, y = .ref D ∧ own = [(D, W.listOf us.toArray n)] ∧ ∀ x, RS v x → Reps RS us (f x)
theorem mem_swap {α : Type} (a : α) (xs ys : List α) : ∀ p ∈ a :: (xs ++ ys), p ∈ a :: (ys ++ xs) := fun p hp => by
  simp only [List.mem_cons, List.mem_append] at hp ⊢
  rcases hp with h | h | h
  · exact .inl h
  · exact .inr (.inr h)
  · exact .inr (.inl h)
noncomputable def InQ (hb : Heap) (L : Addr) (m : Str → Option Value) (news : List (Addr × Obj)) (s : Shared) (f : Flow) (s₁ : Shared) : Prop := f = .next ∧ ∃ h' tk', s₁ = { s with heap := h', toks := tk' } ∧ Fr hb L h' m ∧ News hb L h' news
noncomputable def InL (own : List (Addr × Obj)) (v : Value) (c : List Str) : Prop := ∃ D us n, v = .ref D ∧ (D, W.listOf us.toArray n) ∈ own ∧ Reps RS us c
noncomputable def ComQ (s : Shared) (r : Str) (f : Flow) (s₁ : Shared) : Prop := ∃ t h' tk', f = .ret (.str (pth [r]) t) ∧ s₁ = { s with heap := h', toks := tk' } ∧ s.heap.StaysIn h'
theorem InL.inj {h₀ : Heap} {L : Addr} {h : Heap} {own : List (Addr × Obj)} {v : Value} {c c' : List Str} (N : News h₀ L h own) (h1 : InL own v c) (h2 : InL own v c') : c = c' := by
  refine hide fun hGoal => ?_
  obtain ⟨D, us, n, rfl, m1, r1⟩ := h1
  refine hGoal ?_
  clear hGoal
  refine hide fun hGoal => ?_
  obtain ⟨D', us', n', e, m2, r2⟩ := h2
  refine hGoal ?_
  clear hGoal
  obtain rfl : D = D' := by injection e
  have e1 := (N _ m1).1.symm.trans (N _ m2).1
  have e2 : us = us' := by
    have := Option.some.inj e1
    injection this with _ _ h3
    injection h3 with h3
    have h4 := congrArg Array.toList h3
    simpa using h4
  subst e2
  exact r1.unique r2
noncomputable def CutIn (own0 : List (Addr × Obj)) (r : Str) (rs : List (List Str)) (v y : Value) (own : List (Addr × Obj)) : Prop := ∃ D us n t, t ∈ rs ∧ y = .ref D ∧ own = [(D, W.listOf us.toArray n)] ∧ Reps RS us (r :: t) ∧ InL own0 v ((⟨#[]⟩ : Str) :: r :: t)
theorem pthL_len : ∀ xs : List Str, xs.length ≤ (pthL xs).length
  | [] => Nat.le_refl _
  | x :: xs => by have := pthL_len xs; rw [pthL_cons, List.length_cons, List.length_append, List.length_cons]; omega
noncomputable def strP (f : Str → Bool) : Value → Bool
  | .str x _ => f x
  | _ => false
theorem strP_of {f : Str → Bool} {v : Value} {x : Str} (h : RS v x) : strP f v = f x := by obtain ⟨t, rfl⟩ := h; rfl
set_option maxHeartbeats 8000000 in
theorem d_common (w : World) (P1 : Addr) (vs : List Value) (r : Str) (rs : List (List Str)) (hv : Reps RS vs (rs.map fun t => pth (r :: t))) (hr : Nm r) (hrs : ∀ t ∈ rs, ∀ x ∈ t, Nm x) (hsz : ∀ t ∈ rs, (pth (r :: t)).length ≤ 1000) (hmem : [] ∈ rs) (hn : rs.length < 100) :
    DoesW w 162 6 150 [.ref P1] (fun h => h.IsList P1 vs.toArray) (fun v _ _ => ∃ t, v = .str (pth [r]) t) := by
  refine hide fun hGoal => ?_
  obtain ⟨ps, eps⟩ : ∃ ps, ps = rs.map fun t => pth (r :: t) := ⟨_, rfl⟩
  refine hGoal ?_
  clear hGoal
  have hp0 : 0 < ps.length := by rw [eps, List.length_map]; exact List.length_pos_of_mem hmem
  have hpl : ∀ x ∈ ps, x.length ≤ 1000 := fun x hx => by
    rw [eps] at hx
    refine hide fun hGoal => ?_
    obtain ⟨t, ht, rfl⟩ := List.mem_map.mp hx
    refine hGoal ?_
    clear hGoal
    exact hsz t ht
  rw [← eps] at hv
  have hn' : vs.length < 1000 := by rw [hv.1, eps, List.length_map]; omega
  have hlen : ∀ t ∈ rs, t.length ≤ 1000 := fun t ht => by
    have h1 := hsz t ht
    have h2 := pthL_len (r :: t)
    rw [len_toList, pth_toList] at h1
    rw [List.length_cons] at h2
    omega
  have hwl : ∀ t ∈ rs, ∀ x ∈ r :: t, x.length ≤ 1000 := fun t ht x hx => by
    have h1 := hsz t ht
    have h2 := pthL_mem hx
    rw [len_toList, pth_toList] at h1
    rw [len_toList]
    omega
  clear hsz
  intro mean mg mb dp un gd cn cs a ccd cl outer h₀ L m s Q E F X T hk hd hu hp hret
  k_dflt (refine' enterC (binds := [(Str.ofString "paths", .ref P1)]) F X T ?k6 ?k7 ?k8 ?k9 ?kB ?kD ?_ ?c2 ?c3 ?c4; (case k6 => k_is); (case k7 => k_is); (case k8 => (show dp < _; omega)); (case k9 => exact BindsTo.of_eq rfl); (case kB => exact rfl); (case kD => decide +kernel); (case c2 => exact rfl); (case c3 => exact rfl); (case c4 => exact rfl); k_whole)
  intro g L' h₁ tk cells hg F' N' Y' X' T'
  clear F X T
  subst hg
  try dsimp only
  k_cells Y'
  (try simp only [List.cons_append, List.nil_append] at N')
  with_reducible show wpAny _ _ _ _ _ _
  k_fold
  k_steps
  show wpAny _ _ _ _ _ _
  have hl1 : Heap.IsList h₁ P1 vs.toArray := Fr.lst F' hp
  refine' call_map (xs := vs.toArray) ?hlx ?_
  case hlx => exact hl1
  intro h2 hz hT hi1 hs2 hk2
  have F2 := F'.kept hk2
  have N2 : News s.heap L' h2 _ := N'.grown hk2
  have hl2 : h2.IsList P1 vs.toArray := hl1.at fun o e => hk2 _ o e
  have a1 : s.heap.get? h₁.objs.size = none := next_is_new F'
  have a2 : @LT.lt Nat _ L' h₁.objs.size := F'.ns.lt
  have a3 := fun p hp => Heap.lt_size (N' p hp).1
  have a4 : @LT.lt Nat _ P1 h₁.objs.size := by obtain ⟨o, ho, _⟩ := id hl1; exact Heap.lt_size ho
  clear N' F'
  k_steps
  show wpAny _ _ _ _ _ _
  refine tuple_map (vs := vs) (us := vs) rfl ⟨Nat.ne_of_gt (Nat.lt_succ_of_lt (Nat.lt_succ_self _)), Nat.ne_of_gt (Nat.lt_succ_self _), Nat.ne_of_lt a4⟩ hz hT hi1 hl2 rfl hn' F2 N2 a1 (Nat.ne_of_gt a2) (fun p hp => Nat.ne_of_lt (a3 p hp)) (fun i v u hv1 hu1 s₁ Q' E' Fs Ns hq => ?_) (fun TP h3 tk3 F3 N3 l3 => ?_)
  · obtain rfl : v = u := Option.some.inj (hv1.symm.trans hu1)
    refine hide fun hGoal => ?_
    obtain ⟨x, hx, tx, rfl⟩ := hv.get hv1
    refine hGoal ?_
    clear hGoal
    k_dflt (refine' Does.use (d_fspath _ _) ?k2 ?k3 ?k4 ?k5 ?k6 ?kd ?ku trivial ?_; (case k2 => k_asm); (case k3 => k_asm); (case k4 => k_asm); (case k5 => k_asm); (case k6 => first | exact rfl | assumption); (case kd => walk_at "mine room"); (case ku => walk_at "mine room"); k_whole)
    intro r h' tk' F' N' st e
    subst e
    exact hq h' tk' st
  k_steps
  rename_i h4 F4 N4
  show wpAny _ _ _ _ _ _
  have hv0 : 0 < vs.length := by rw [hv.1]; exact hp0
  have hne : (!(vs.toArray.isEmpty)) = true := by cases vs with | nil => simp at hv0 | cons a b => rfl
  refine truthy_tuple (News.isTup N4 (.head _)) (by rw [List.size_toArray]; omega) ?_
  rw [hne]
  k_steps
  show wpAny _ _ _ _ _ _
  refine hide fun hGoal => ?_
  obtain ⟨x0, hx0⟩ : ∃ x0, ps[0]? = some x0 := ⟨ps[0], List.getElem?_eq_getElem hp0⟩
  refine hGoal ?_
  clear hGoal
  refine hide fun hGoal => ?_
  obtain ⟨v0, hv00, t0, rfl⟩ := hv.at hx0
  refine hGoal ?_
  clear hGoal
  have hjj : seqIndex? 0 vs.length = some 0 := by simp [seqIndex?, hv0]
  refine item_tupleT (l := vs) (News.isTup N4 (.head _)) (by decide) (by decide) hjj hv00 ?_ (by with_unfolding_all rfl)
  k_steps
  rename_i h5 oS F5 N5 dS h6 oC F6 N6 dC
  show wpAny _ _ _ _ _ _
  clear N5 F5
  refine wpAny_Try_except (wpAny_mono (E := fun _ _ => False) (Q := ComQ s r) ?_ (fun f s₁ q => ?_) (fun _ _ x => x.elim))
  rotate_left
  · refine hide fun hGoal => ?_
    obtain ⟨t, h', tk', rfl, rfl, st⟩ := q
    refine hGoal ?_
    clear hGoal
    exact hret _ h' tk' st ⟨t, rfl⟩
  k_steps
  show wpAny _ _ _ _ _ _
  refine' comp_assign (cl := ?cl) ?h0 ?h1 ?h2 ?h3 ?h4 ?h5 ?h7 ?h8 ?h6 ?_
  case h0 => exact rfl
  case h1 => exact rfl
  case h2 => decide
  case h3 => rfl
  case h4 => decide
  case h5 => rfl
  case h6 => intro _; with_unfolding_all rfl
  case h7 => rfl
  case h8 => rfl
  k_steps
  show wpAny _ _ _ _ _ _
  have htp : Heap.IsTuple h6 TP vs.toArray := ⟨_, (N6 _ (.head _)).1, rfl, _, rfl⟩
  replace N6 : News s.heap L' h6 [(TP, { cls := Value.type "tuple", data := Data.seq vs.toArray }), (L' + 1 + 1, oC), (L' + 1, oS)] := N6
  refine' wpAny_pyIter_tuple ?hlx ?_
  case hlx => exact htp
  refine catA (Pv := fun v => ∃ x ∈ ps, RS v x) (p := fun _ => true) (F := CutOf fun x => Txt.split x sep) (src_tuple rfl htp) (by rw [sizeLine_eq]; omega) (fun j v hj => ?_) F6 N6 (turn_of F6 N6 ⟨?tests, ?elt⟩) (fun D2 e2 h7 tk7 tr F7 G => ?_)
  · obtain ⟨x, hx0, hx⟩ := hv.get hj; exact ⟨x, List.mem_of_getElem? hx0, hx⟩
  case tests =>
    intro g C rest v s₃ m₃ E' hv' st Fc hm Nc
    exact wpAny_pure ⟨rfl, _, _, _, rfl, Fc, Nc, fun q hq => hq⟩
  case elt =>
    intro g C rest v s₃ m₃ E' hv' hpv st Fc hm Nc
    refine hide fun hGoal => ?_
    obtain ⟨x, hxm, tx, rfl⟩ := hv'
    refine hGoal ?_
    clear hGoal
    have Xg := X'.keeps st
    have Tg := T'.keeps st
    simp only [List.cons_append, List.nil_append] at Nc
    clear F6 N6 X' T'
    with_reducible show wpAny _ _ _ _ _ _
    k_fold
    k_steps
    show wpAny _ _ _ _ _ _
    have hl1000 := hpl x hxm
    refine splitN1A (y := Str.ofString "/") Fc Nc (by decide) (fun l h8 k8 el hs8 hle8 hl8 F8 N8 => ?_) (by rw [sizeLine_eq]; omega)
    refine ⟨h8, k8, [(s₃.heap.objs.size, W.listOf (strValues l).toArray 0)], rfl, F8, N8, fun q hq r hr => ?_, _, _, 0, rfl, rfl, fun x' hx' => ?_⟩
    · rw [List.mem_singleton.mp hq]
      exact Nat.ne_of_lt (Heap.lt_size (Nc r hr).1)
    · refine hide fun hGoal => ?_
      obtain ⟨t', e'⟩ := hx'
      refine hGoal ?_
      clear hGoal
      refine hide fun hGoal => ?_
      obtain ⟨rfl, _⟩ := Value.str.inj e'
      refine hGoal ?_
      clear hGoal
      rw [show sep = Str.ofString "/" from rfl]
      show Reps RS (strValues l) (Txt.split x (Str.ofString "/"))
      rw [← el]
      exact reps_strs hs8
  have hs1 : Reps (InL (tr.flatMap (·.2.2))) (tr.map (·.2.1)) (rs.map fun t => (⟨#[]⟩ : Str) :: r :: t) := by
    refine hide fun hGoal => ?_
    obtain ⟨us, hus1, hus2, hus3⟩ := G.src
    refine hGoal ?_
    clear hGoal
    obtain rfl : us = vs := list_of_get hus1 rfl hus2
    have := comp_reps (R' := InL (tr.flatMap (·.2.2))) (p := fun _ => true) (pp := fun _ => true) (f := fun x => Txt.split x sep) hv (fun _ _ _ => rfl) hus3 (fun t ht x hx => by
      refine hide fun hGoal => ?_
      obtain ⟨D, us, n, e1, e2, e3⟩ := G.each t ht
      refine hGoal ?_
      clear hGoal
      exact ⟨D, us, n, e1, List.mem_flatMap.mpr ⟨t, ht, by rw [e2]; exact .head _⟩, e3 x hx⟩)
    rw [List.filter_eq_self.mpr (fun _ _ => rfl), eps, List.map_map] at this
    have e : rs.map ((fun x => Txt.split x sep) ∘ fun t => pth (r :: t)) = rs.map fun t => (⟨#[]⟩ : Str) :: r :: t := List.map_congr_left fun t ht =>
      split_pth (r :: t) (by simp) fun x hx => by
        rcases List.mem_cons.mp hx with rfl | hx
        · exact hr
        · exact hrs t ht x hx
    rw [e] at this
    exact this
  have N7 : News s.heap L' h7 ((D2, W.listOf (tr.map (·.2.1)).toArray e2) :: (TP, { cls := Value.type "tuple", data := Data.seq vs.toArray }) :: (L' + 1 + 1, oC) :: (L' + 1, oS) :: tr.flatMap (·.2.2)) := News.perm G.led (mem_swap _ [_, _, _] _)
  have dlt : @LT.lt Nat _ TP D2 := G.lt (TP, _) (.head _)
  clear N6 F6 htp G
  generalize tr.map (·.2.1) = vl at N7 hs1
  generalize tr.flatMap (·.2.2) = own at N7 hs1
  refine hide fun hGoal => ?_
  obtain ⟨m7, em7, F7'⟩ : ∃ m7, m7 = _ ∧ Fr s.heap L' h7 m7 := ⟨_, rfl, F7⟩
  refine hGoal ?_
  clear hGoal
  have mP : m7 (Str.ofString "paths") = some (.ref TP) := by rw [em7]; rfl
  have mS : m7 (Str.ofString "split_paths") = some (.ref D2) := by rw [em7]; rfl
  clear F7 em7
  k_steps
  show wpAny _ _ _ _ _ _
  refine wpAny_Try_except (wpAny_mono (E := fun _ _ => False) (Q := InQ s.heap L' (fun z => if z = Str.ofString "isabs" then some (.bool true) else m7 z) ((D2, W.listOf vl.toArray e2) :: (TP, { cls := Value.type "tuple", data := Data.seq vs.toArray }) :: (L' + 1 + 1, oC) :: (L' + 1, oS) :: own) s) ?_ (fun f s₁ q => ?_) (fun _ _ x => x.elim))
  · k_steps
    show wpAny _ _ _ _ _ _
    refine' comp_set (cl := ?clC) ?h0 ?h1 ?h2 ?h3 ?h4 ?h5 ?_
    case h0 => exact rfl
    case h1 => decide
    case h2 => rfl
    case h3 => decide
    case h4 => rfl
    case h5 => intro _; with_unfolding_all rfl
    k_steps
    show wpAny _ _ _ _ _ _
    have htp : Heap.IsTuple h7 TP vs.toArray := ⟨_, (N7 _ (.tail _ (.head _))).1, rfl, _, rfl⟩
    refine' wpAny_pyIter_tuple ?hlx ?_
    case hlx => exact htp
    refine catS (Pv := fun v => ∃ x ∈ ps, RS v x) (src_tuple rfl htp) hv0 (fun j v hj => ?_) F7' N7 (turn_of F7' N7 ⟨?testsS, ?eltS⟩) (fun D8 led8 h8 tk8 F8 N8 lt8 hled8 => ?_)
    · obtain ⟨x, hx0, hx⟩ := hv.get hj; exact ⟨x, List.mem_of_getElem? hx0, hx⟩
    case testsS =>
      intro g C rest v s₃ m₃ E' hv' st Fc hm Nc
      exact wpAny_pure ⟨rfl, _, _, _, rfl, Fc, Nc, fun q hq => hq⟩
    case eltS =>
      intro g C rest v s₃ m₃ E' hv' hpv st Fc hm Nc
      refine hide fun hGoal => ?_
      obtain ⟨x, hxm, tx, rfl⟩ := hv'
      refine hGoal ?_
      clear hGoal
      have hst : Txt.startswith x (Str.ofString "/") = true := by
        rw [eps] at hxm
        refine hide fun hGoal => ?_
        obtain ⟨t, _, rfl⟩ := List.mem_map.mp hxm
        refine hGoal ?_
        clear hGoal
        exact starts_pth r t
      have Xg := X'.keeps st
      have Tg := T'.keeps st
      clear F7' N7 X' T'
      with_reducible show wpAny _ _ _ _ _ _
      k_fold
      k_steps
      exact ⟨_, _, [], rfl, Fc, Nc, (fun _ h => nomatch h), congrArg Value.bool hst, rfl⟩
    have dlt8 : @LT.lt Nat _ D2 D8 := lt8 _ (.head _)
    clear F7' N7
    k_steps
    show wpAny _ _ _ _ _ _
    refine assign_set1 rfl (N8 _ (.head _)).1 hled8 fun h9 st9 => ?_
    have F9 := F8.kept st9
    have N9 : News s.heap L' h9 ((D2, W.listOf vl.toArray e2) :: (TP, { cls := Value.type "tuple", data := Data.seq vs.toArray }) :: (L' + 1 + 1, oC) :: (L' + 1, oS) :: own) := fun p hp => N8.grown st9 p (.tail _ hp)
    clear F8 N8
    k_steps
    exact ⟨rfl, _, _, rfl, by assumption, by assumption⟩
  · refine hide fun hGoal => ?_
    obtain ⟨rfl, h9, tk9, rfl, F9, N9⟩ := q
    refine hGoal ?_
    clear hGoal
    try clear F7' N7
    k_steps
    show wpAny _ _ _ _ _ _
    refine' comp_assign (cl := ?clA) ?g0 ?g1 ?g2 ?g3 ?g4 ?g5 ?g7 ?g8 ?g6 ?_
    case g0 => exact rfl
    case g1 => exact rfl
    case g2 => decide
    case g3 => rfl
    case g4 => decide
    case g5 => rfl
    case g6 => intro _; with_unfolding_all rfl
    case g7 => rfl
    case g8 => rfl
    k_steps
    show wpAny _ _ _ _ _ _
    have hls : Heap.IsList h9 D2 vl.toArray := News.isList N9 (.head _)
    refine' wpAny_pyIter_list ?hlx ?_
    case hlx => exact hls
    refine catA (Pv := fun v => ∃ t ∈ rs, InL own v ((⟨#[]⟩ : Str) :: r :: t)) (p := fun _ => true) (F := CutIn own r rs) (src_list rfl hls) (by rw [sizeLine_eq, hs1.1, List.length_map]; omega) (fun j v hj => ?_) F9 N9 (turn_of F9 N9 ⟨?testsL, ?eltL⟩) (fun D10 e10 h10 tk10 tr F10 G => ?_)
    · refine hide fun hGoal => ?_
      obtain ⟨c, hc0, hc⟩ := hs1.get hj
      refine hGoal ?_
      clear hGoal
      refine hide fun hGoal => ?_
      obtain ⟨t, ht, rfl⟩ := List.mem_map.mp (List.mem_of_getElem? hc0)
      refine hGoal ?_
      clear hGoal
      exact ⟨t, ht, hc⟩
    case testsL =>
      intro g C rest v s₃ m₃ E' hv' st Fc hm Nc
      exact wpAny_pure ⟨rfl, _, _, _, rfl, Fc, Nc, fun q hq => hq⟩
    case eltL =>
      intro g C rest v s₃ m₃ E' hv' hpv st Fc hm Nc
      refine hide fun hGoal => ?_
      obtain ⟨t, ht, Ds, us, nn, rfl, hDs, hus⟩ := hv'
      refine hGoal ?_
      clear hGoal
      have Xg := X'.keeps st
      have Tg := T'.keeps st
      clear F9 N9 X' T'
      with_reducible show wpAny _ _ _ _ _ _
      k_fold
      k_steps
      show wpAny _ _ _ _ _ _
      refine' comp_eval (cl := ?clB) ?f1 ?f2 ?f3 ?f4 ?f5 ?f6 ?_
      case f1 => exact rfl
      case f2 => decide
      case f3 => rfl
      case f4 => decide
      case f5 => rfl
      case f6 => intro _; with_unfolding_all rfl
      k_steps
      show wpAny _ _ _ _ _ _
      have hls3 : Heap.IsList s₃.heap Ds us.toArray := News.isList Nc (List.mem_append_left _ (.tail _ (.tail _ (.tail _ (.tail _ hDs)))))
      refine' wpAny_pyIter_list ?hly ?_
      case hly => exact hls3
      have hul : us.length ≤ sizeLine := by
        rw [sizeLine_eq, hus.1, List.length_cons, List.length_cons]
        have := hlen t ht
        omega
      refine catE (Pv := fun v => ∃ x, (x = ⟨#[]⟩ ∨ Nm x ∧ x.length ≤ 1000) ∧ RS v x) (p := strP fun x => decide (x ≠ ⟨#[]⟩)) (F := fun v y own => y = v ∧ own = []) (src_list rfl hls3) hul (fun j v hj => ?_) Fc Nc (turn_of Fc Nc ⟨?testsM, ?eltM⟩) (fun D12 e12 h12 tk12 tr F12 G => ?_)
      · refine hide fun hGoal => ?_
        obtain ⟨x, hx0, hx⟩ := hus.get hj
        refine hGoal ?_
        clear hGoal
        rcases List.mem_cons.mp (List.mem_of_getElem? hx0) with rfl | hx1
        · exact ⟨_, .inl rfl, hx⟩
        · rcases List.mem_cons.mp hx1 with rfl | hx1
          · exact ⟨_, .inr ⟨hr, hwl t ht _ (.head _)⟩, hx⟩
          · exact ⟨x, .inr ⟨hrs t ht x hx1, hwl t ht _ (.tail _ hx1)⟩, hx⟩
      case testsM =>
        intro g2 C2 rest2 v s₄ m₄ E2 hv2 st2 Fd hm2 Nd
        refine hide fun hGoal => ?_
        obtain ⟨x, hx, tx, rfl⟩ := hv2
        refine hGoal ?_
        clear hGoal
        have Xg2 := Xg.keeps st2
        have Tg2 := Tg.keeps st2
        clear Fc Nc Xg Tg
        rcases hx with rfl | ⟨hx, hxl⟩
        · with_reducible show wpAny _ _ _ _ _ _
          k_fold
          k_steps
          exact ⟨by simp [strP], _, _, _, rfl, Fd, Nd, fun q hq => hq⟩
        · have hx1 : ¬ (x.length : Int) = 0 := by
            rw [len_toList]
            have := List.length_pos_iff.mpr hx.1
            omega
          have hx2 : (x != Str.ofString ".") = true := bne_iff_ne.mpr fun e => (hx.2 46 (by rw [e]; decide +kernel)).2 rfl
          have hx3 : x ≠ ⟨#[]⟩ := fun e => hx.1 (by rw [e])
          with_reducible show wpAny _ _ _ _ _ _
          k_fold
          k_steps
          · exact ⟨(decide_eq_true hx3).symm, _, _, _, rfl, Fd, Nd, fun q hq => hq⟩
          all_goals (exfalso; omega)
      case eltM =>
        intro g2 C2 rest2 v s₄ m₄ E2 hv2 hpv2 st2 Fd hm2 Nd
        refine hide fun hGoal => ?_
        obtain ⟨x, hx, tx, rfl⟩ := hv2
        refine hGoal ?_
        clear hGoal
        have Xg2 := Xg.keeps st2
        have Tg2 := Tg.keeps st2
        clear Fc Nc Xg Tg
        with_reducible show wpAny _ _ _ _ _ _
        k_fold
        k_steps
        exact ⟨_, _, [], rfl, Fd, Nd, (fun _ h => nomatch h), rfl, rfl⟩
      have hnil : ∀ t ∈ tr, t.2.2 = [] := fun t ht => (G.each t ht).2
      refine hide fun hGoal => ?_
      obtain ⟨us', hus1, hus2, hus3⟩ := G.src
      refine hGoal ?_
      clear hGoal
      obtain rfl : us' = us := list_of_get hus1 rfl hus2
      have hrep : Reps RS (tr.map (·.2.1)) (((⟨#[]⟩ :: r :: t).filter (fun x => decide (x ≠ ⟨#[]⟩))).map id) := comp_reps hus (fun v x h => strP_of h) hus3 (fun t ht x h => by rw [(G.each t ht).1]; exact h)
      rw [List.map_id] at hrep
      have hfil : ((⟨#[]⟩ : Str) :: r :: t).filter (fun x => decide (x ≠ ⟨#[]⟩)) = r :: t := by
        rw [List.filter_cons_of_neg (by simp), List.filter_eq_self.mpr]
        intro x hx
        have : Nm x := by
          rcases List.mem_cons.mp hx with rfl | hx
          · exact hr
          · exact hrs t ht x hx
        exact decide_eq_true fun e => this.1 (by rw [e])
      rw [hfil] at hrep
      have N12 := G.led
      rw [flat_nil hnil] at N12
      have lt12 := G.lt
      clear G
      show EltEnd _ _ _ _ _ _ _ _
      refine ⟨h12, tk12, [(D12, W.listOf (tr.map (·.2.1)).toArray e12)], rfl, ?_, ?_, ?_, D12, _, e12, t, ht, rfl, rfl, hrep, Ds, us', nn, rfl, hDs, hus⟩
      · exact F12
      · exact N12
      · intro q hq r' hr'
        rw [List.mem_singleton.mp hq]
        exact Nat.ne_of_lt (lt12 r' hr')
    have hs2 : Reps (InL (tr.flatMap (·.2.2))) (tr.map (·.2.1)) (rs.map fun t => r :: t) := by
      refine hide fun hGoal => ?_
      obtain ⟨us, hus1, hus2, hus3⟩ := G.src
      refine hGoal ?_
      clear hGoal
      obtain rfl : us = vl := list_of_get hus1 rfl hus2
      have := comp_reps (R' := InL (tr.flatMap (·.2.2))) (p := fun _ => true) (pp := fun _ => true) (f := List.tail) hs1 (fun _ _ _ => rfl) hus3 (fun t ht c hc => by
        refine hide fun hGoal => ?_
        obtain ⟨D, us, n, t', _, e1, e2, e3, e4⟩ := G.each t ht
        refine hGoal ?_
        clear hGoal
        have : c = (⟨#[]⟩ : Str) :: r :: t' := InL.inj (fun q hq => N9 q (.tail _ (.tail _ (.tail _ (.tail _ hq))))) hc e4
        subst this
        exact ⟨D, us, n, e1, List.mem_flatMap.mpr ⟨t, ht, by rw [e2]; exact .head _⟩, e3⟩)
      rw [List.filter_eq_self.mpr (fun _ _ => rfl), List.map_map] at this
      exact this
    have N10 : News s.heap L' h10 ((D10, W.listOf (tr.map (·.2.1)).toArray e10) :: (TP, { cls := Value.type "tuple", data := Data.seq vs.toArray }) :: (L' + 1 + 1, oC) :: (L' + 1, oS) :: tr.flatMap (·.2.2)) := News.perm G.led fun p hp => by
      simp only [List.mem_cons, List.mem_append] at hp ⊢
      rcases hp with h | h | h | h | h
      · exact .inl h
      · exact .inr (.inr (.inr (.inl h)))
      · exact .inr (.inr (.inr (.inr (.inl h))))
      · exact .inr (.inr (.inr (.inr (.inr (.inl h)))))
      · exact .inr (.inl h)
    have dlt10 : @LT.lt Nat _ TP D10 := G.lt (TP, _) (.tail _ (.head _))
    refine hide fun hGoal => ?_
    obtain ⟨m10, em10, F10'⟩ : ∃ m10, m10 = _ ∧ Fr s.heap L' h10 m10 := ⟨_, rfl, F10⟩
    refine hGoal ?_
    clear hGoal
    have mI : m10 (Str.ofString "isabs") = some (.bool true) := by rw [em10]; rfl
    have mS2 : m10 (Str.ofString "split_paths") = some (.ref D10) := by rw [em10]; rfl
    clear F10 em10 N9 F9 hls G hs1 mP mS
    generalize tr.map (·.2.1) = vm at N10 hs2
    generalize tr.flatMap (·.2.2) = own2 at N10 hs2
    clear tr own
    k_steps
    show wpAny _ _ _ _ _ _
    have hcm : ∀ (i : Nat) v c, vm[i]? = some v → (rs.map fun t => r :: t)[i]? = some c → ∃ D us n, v = .ref D ∧ h10.get? D = some (W.listOf us.toArray n) ∧ Reps RS us c := fun i v c h1 h2 => by
      refine hide fun hGoal => ?_
      obtain ⟨D, us, n, e1, e2, e3⟩ := hs2.2 i v c h1 h2
      refine hGoal ?_
      clear hGoal
      exact ⟨D, us, n, e1, (N10 _ (.tail _ (.tail _ (.tail _ (.tail _ e2))))).1, e3⟩
    have hvm : vm.length = (rs.map fun t => r :: t).length := hs2.1
    have hvm0 : 0 < vm.length := by rw [hvm, List.length_map]; exact List.length_pos_of_mem hmem
    have hcget : ∀ j, j < rs.length → ∃ t, t ∈ rs ∧ (rs.map fun t => r :: t).getD j [] = r :: t := fun j hj => ⟨rs[j], List.getElem_mem hj, by rw [List.getD_eq_getElem?_getD, List.getElem?_map, List.getElem?_eq_getElem hj]; rfl⟩
    have hvl : vm.length = rs.length := by rw [hvm, List.length_map]
    refine hide fun hGoal => ?_
    obtain ⟨i₀, hi₀, hri⟩ := List.getElem_of_mem hmem
    refine hGoal ?_
    clear hGoal
    refine lo_min_call rfl (by show un + 3 + 5 < cLine; omega) (News.isList N10 (.head _)) hvm0 hvm hcm fun i v h11 tk11 hi hvi st11 => ?_
    have hin : i < rs.length := by rw [← hvl]; exact (List.getElem?_eq_some_iff.mp hvi).1
    have hci : (rs.map fun t => r :: t)[i]? = some [r] := by
      have h1 : (rs.map fun t => r :: t).getD i [] = [r] := by
        rw [hi]
        refine best_least lexLt (fun i => (rs.map fun t => r :: t).getD i []) [r] (i₀ := i₀) (N := vm.length - 1) ?_ (fun j hj hne => ?_) (fun j hj => ?_) _ (by omega) (Nat.le_refl _)
        · show (rs.map fun t => r :: t).getD i₀ [] = [r]
          rw [List.getD_eq_getElem?_getD, List.getElem?_map, List.getElem?_eq_getElem hi₀, hri]; rfl
        · refine hide fun hGoal => ?_
          obtain ⟨t, _, e⟩ := hcget j (by omega)
          refine hGoal ?_
          clear hGoal
          rw [e] at hne ⊢
          exact lexLt_root r t fun q => hne (by rw [q])
        · refine hide fun hGoal => ?_
          obtain ⟨t, _, e⟩ := hcget j (by omega)
          refine hGoal ?_
          clear hGoal
          rw [e]
          exact lexLt_root' r t
      rw [List.getD_eq_getElem?_getD, List.getElem?_eq_getElem (by rw [List.length_map]; exact hin)] at h1
      rw [List.getElem?_eq_getElem (by rw [List.length_map]; exact hin)]
      exact congrArg some h1
    refine hide fun hGoal => ?_
    obtain ⟨D1, us1, n1, rfl, hm1, hr1⟩ := hs2.2 i v _ hvi hci
    refine hGoal ?_
    clear hGoal
    obtain ⟨w1, t1, rfl, rfl⟩ : ∃ w1 t1, us1 = [w1] ∧ w1 = .str r t1 := by
      match us1, hr1 with
      | [w1], h => obtain ⟨⟨t1, e⟩, _⟩ := h.uncons; exact ⟨w1, t1, rfl, e⟩
      | [], h => have := h.1; simp at this
      | _ :: _ :: _, h => have := h.1; simp at this
    have F11 := F10'.kept st11
    have N11 := N10.grown st11
    have hvmM : ∀ j v, vm[j]? = some v → ∃ t D us n, v = Value.ref D ∧ (D, W.listOf us.toArray n) ∈ own2 ∧ Reps RS us (r :: t) := fun j v hj => by
      refine hide fun hGoal => ?_
      obtain ⟨c, hc0, D, us, n, e1, e2, e3⟩ := hs2.get hj
      refine hGoal ?_
      clear hGoal
      refine hide fun hGoal => ?_
      obtain ⟨t, ht, rfl⟩ := List.mem_map.mp (List.mem_of_getElem? hc0)
      refine hGoal ?_
      clear hGoal
      exact ⟨t, D, us, n, e1, e2, e3⟩
    clear F10' N10
    k_steps
    rename_i hA FA NA
    show wpAny _ _ _ _ _ _
    have hcm : ∀ (h : Heap) (N : News s.heap L' h ((D10, W.listOf vm.toArray e10) :: (TP, { cls := Value.type "tuple", data := Data.seq vs.toArray }) :: (L' + 1 + 1, oC) :: (L' + 1, oS) :: own2)) (i : Nat) v c, vm[i]? = some v → (rs.map fun t => r :: t)[i]? = some c → ∃ D us n, v = .ref D ∧ h.get? D = some (W.listOf us.toArray n) ∧ Reps RS us c := fun h N i v c h1 h2 => by
      refine hide fun hGoal => ?_
      obtain ⟨D, us, n, e1, e2, e3⟩ := hs2.2 i v c h1 h2
      refine hGoal ?_
      clear hGoal
      exact ⟨D, us, n, e1, (N _ (.tail _ (.tail _ (.tail _ (.tail _ e2))))).1, e3⟩
    refine lo_max_call (cs := rs.map fun t => r :: t) rfl (by show un + 3 + 5 < cLine; omega) (News.isList (by assumption) (.head _)) hvm0 hvm (hcm _ (by assumption)) fun i2 v2 h12 tk12 hi2 hvi2 st12 => ?_
    refine hide fun hGoal => ?_
    obtain ⟨t2, Dm, us2, n2, rfl, hm2, hr2⟩ := hvmM i2 v2 hvi2
    refine hGoal ?_
    clear hGoal
    obtain ⟨tm, us3, rfl⟩ : ∃ tm us3, us2 = .str r tm :: us3 := by
      match us2, hr2 with
      | w :: us3, h => obtain ⟨⟨tm, e⟩, _⟩ := h.uncons; exact ⟨tm, us3, by rw [e]⟩
      | [], h => have := h.1; simp at this
    have F12 := FA.kept st12
    have N12 : News s.heap L' h12 [(D1, W.listOf #[Value.str r t1] n1), (Dm, W.listOf (Value.str r tm :: us3).toArray n2), (L' + 1 + 1, oC), (L' + 1, oS)] := fun p hp => by
      refine NA.grown st12 p ?_
      simp only [List.mem_cons, List.not_mem_nil, or_false] at hp
      rcases hp with rfl | rfl | rfl | rfl
      · exact .tail _ (.tail _ (.tail _ (.tail _ hm1)))
      · exact .tail _ (.tail _ (.tail _ (.tail _ hm2)))
      · exact .tail _ (.tail _ (.head _))
      · exact .tail _ (.tail _ (.tail _ (.head _)))
    have hrl : r.length ≤ 1000 := hwl _ hmem r (.head _)
    clear FA NA
    k_steps
    all_goals (try (exact absurd (show (r != r) = true by assumption) (by simp)))
    have ej : Txt.join (Str.ofString "/") [r] = r := by
      apply str_toList
      simp [Txt.join, Builtin.Str.glued]
    have e : Str.ofString "/" ++ Txt.join (Str.ofString "/") [r] = pth [r] := by
      rw [ej]
      apply str_toList
      rw [app_toList, pth_toList]
      rw [show Str.ofString "/" = ⟨#[47]⟩ from sep_is]
      simp [pthL]
    have el : (Str.ofString "/").length + (Txt.join (Str.ofString "/") [r]).length ≤ sizeLine := by
      rw [ej, sizeLine_eq, show (Str.ofString "/").length = 1 from by decide]
      omega
    refine PyProof.Rows.add_str (fun t9 k9 => ?_) el
    exact ⟨t9, _, _, congrArg (fun x => Flow.ret (Value.str x t9)) e, rfl, Fr.keep (by assumption)⟩
end PartPh

section PartSo
structure Ord {α : Type} (lt : α → α → Bool) : Prop where
  irr : ∀ a, lt a a = false
  tr : ∀ a b c, lt a b = true → lt b c = true → lt a c = true
  neg : ∀ a b c, lt a b = true → lt a c = true ∨ lt c b = true
section
variable {α : Type} {lt : α → α → Bool}
noncomputable def rkOf (lt : α → α → Bool) (xs : List α) (x0 : α) (i : Nat) : Int := ((xs.countP fun y => lt y (xs.getD i x0) : Nat) : Int)
theorem countP_lt {p q : α → Bool} : ∀ {xs : List α}, (∀ x ∈ xs, p x = true → q x = true) → (∃ x ∈ xs, q x = true ∧ p x = false) → xs.countP p < xs.countP q
  | [], _, ⟨x, hx, _⟩ => by cases hx
  | a :: xs, h, ⟨x, hx, h1, h2⟩ => by
    have hle : xs.countP p ≤ xs.countP q := List.countP_mono_left fun y hy => h y (.tail _ hy)
    rw [List.countP_cons, List.countP_cons]
    rcases List.mem_cons.mp hx with rfl | hx
    · rw [if_pos h1, if_neg (by rw [h2]; decide)]; omega
    · have ih := countP_lt (fun y hy => h y (.tail _ hy)) ⟨x, hx, h1, h2⟩
      have := h a (.head _)
      split <;> split <;> first | omega | (exfalso; rename_i c c'; exact c' (this c))
theorem rk_lt (O : Ord lt) {xs : List α} {x0 : α} {i j : Nat} (hi : i < xs.length) (_hj : j < xs.length) : decide (rkOf lt xs x0 i < rkOf lt xs x0 j) = lt (xs.getD i x0) (xs.getD j x0) := by
  have hmi : xs.getD i x0 ∈ xs := by rw [List.getD_eq_getElem?_getD, List.getElem?_eq_getElem hi]; exact List.getElem_mem hi
  cases c : lt (xs.getD i x0) (xs.getD j x0) with
  | true =>
    have := countP_lt (p := fun y => lt y (xs.getD i x0)) (q := fun y => lt y (xs.getD j x0)) (xs := xs) (fun y _ h => O.tr _ _ _ h c) ⟨_, hmi, c, O.irr _⟩
    exact decide_eq_true (by unfold rkOf; omega)
  | false =>
    have : xs.countP (fun y => lt y (xs.getD j x0)) ≤ xs.countP (fun y => lt y (xs.getD i x0)) := List.countP_mono_left fun y _ h => by
      rcases O.neg _ _ (xs.getD i x0) h with h | h
      · exact h
      · rw [c] at h; cases h
    exact decide_eq_false (by unfold rkOf; omega)
theorem sort_perm (O : Ord lt) {xs : List α} {x0 : α} {p : Array Nat} (hp : Pl xs.length p) (hu : Up (rkOf lt xs x0) p xs.length) :
    (p.toList.map fun i => xs.getD i x0).Perm xs ∧ (p.toList.map fun i => xs.getD i x0).Pairwise fun a b => lt b a = false := by
  have hperm : p.toList.Perm (List.range xs.length) := by
    have := hp.perm
    exact Array.perm_iff_toList_perm.mp this
  have hlen : p.toList.length = xs.length := by rw [Array.length_toList, hp.size]
  refine ⟨?_, ?_⟩
  · have h1 := hperm.map (fun i => xs.getD i x0)
    have h2 : (List.range xs.length).map (fun i => xs.getD i x0) = xs := by
      refine List.ext_getElem (by simp) fun i h1 h2 => ?_
      simp
      rw [List.getElem?_eq_getElem h2]; rfl
    rw [h2] at h1
    exact h1
  · rw [List.pairwise_iff_getElem]
    intro a b ha hb hab
    rw [List.length_map] at ha hb
    rw [List.getElem_map, List.getElem_map]
    have h1 := hu a b (Nat.le_of_lt hab) (by omega)
    have hpa : p.getD a 0 = p.toList[a] := by rw [Array.getD, dif_pos (by rw [Array.length_toList] at ha; exact ha)]; simp
    have hpb : p.getD b 0 = p.toList[b] := by rw [Array.getD, dif_pos (by rw [Array.length_toList] at hb; exact hb)]; simp
    unfold rkAt at h1
    rw [hpa, hpb] at h1
    have ma : p.toList[a] < xs.length := List.mem_range.mp (hperm.mem_iff.mp (List.getElem_mem ha))
    have mb : p.toList[b] < xs.length := List.mem_range.mp (hperm.mem_iff.mp (List.getElem_mem hb))
    have := rk_lt O (x0 := x0) mb ma
    rw [decide_eq_false (by omega)] at this
    exact this.symm
end
section
variable {α : Type} {lt : α → α → Bool} {R : Value → α → Prop} {prog : Program} {w : World} {A : Around} {E : Value → Shared → Prop} {s : Shared} {h₀ : Heap} {L : Addr} {m : Str → Option Value} {news : List (Addr × Obj)} {vs : List Value} {xs : List α}
theorem Reps.getD (h : Reps R vs xs) {i : Nat} (hi : i < xs.length) (x0 : α) : vs[i]? = some (vs.getD i Value.none) ∧ xs[i]? = some (xs.getD i x0) ∧ R (vs.getD i Value.none) (xs.getD i x0) := by
  have hv : i < vs.length := by rw [h.1]; exact hi
  have e1 : vs[i]? = some (vs.getD i Value.none) := by rw [List.getD_eq_getElem?_getD, List.getElem?_eq_getElem hv]; rfl
  have e2 : xs[i]? = some (xs.getD i x0) := by rw [List.getD_eq_getElem?_getD, List.getElem?_eq_getElem hi]; rfl
  exact ⟨e1, e2, h.2 i _ _ e1 e2⟩
theorem Reps.maps (h : Reps R vs xs) (x0 : α) : ∀ (p : List Nat), (∀ i ∈ p, i < xs.length) → Reps R (p.map fun i => vs.getD i Value.none) (p.map fun i => xs.getD i x0)
  | [], _ => Reps.nil
  | i :: p, hp => Reps.cons (h.getD (hp i (.head _)) x0).2.2 (h.maps x0 p fun j hj => hp j (.tail _ hj))
theorem sorted_G {l : Addr} {κ : SortKind} {Q : Value → Shared → Prop} (O : Ord lt) (F : Fr h₀ L s.heap m) (N : News h₀ L s.heap news) (hl : s.heap.IsList l vs.toArray) (hr : Reps R vs xs) (h2 : 2 ≤ xs.length) (h64 : xs.length < 64)
    (hk : ∀ (s' : Shared) (Q' : SortKind → Shared → Prop), Fr h₀ L s'.heap m → News h₀ L s'.heap news → Q' κ s' → wpAny (model prog w) A.in1.in1 (keyKind' vs.toArray) Q' (fun _ _ => False) s')
    (hlt : ∀ (s' : Shared) (x y : α) (v u : Value) (C : Bool → Shared → Prop), v ∈ vs → u ∈ vs → R v x → R u y → Fr h₀ L s'.heap m → News h₀ L s'.heap news → C (lt x y) s' → wpAny (model prog w) A.in1.in1 (keyLt' κ v u) C (fun _ _ => False) s')
    (h : ∀ D c h' ys us, Fr h₀ L h' m → News h₀ L h' ((D, listOf us.toArray c) :: news) → (∀ q ∈ news, @LT.lt Nat _ q.1 D) → Reps R us ys → ys.Perm xs → (ys.Pairwise fun a b => lt b a = false) → us.length = vs.length → Q (.ref D) { s with heap := h' }) :
    wpAny (model prog w) A (call (.builtin "sorted") [.ref l]) Q E s := by
  have hvl : vs.length = xs.length := hr.1
  obtain ⟨x0, hx0⟩ : ∃ x0, x0 ∈ xs := by
    match xs, h2 with
    | x :: _, _ => exact ⟨x, .head _⟩
    | [], h => simp at h
  refine kat_sorted F N hl (by omega) (by omega) fun D e1 h' F' N' hD => ?_
  refine hk _ _ F' (fun p hp => N' p (.tail _ hp)) ?_
  refine hide fun hGoal => ?_
  obtain ⟨p, kr, hp, hu⟩ := k_sort (rkOf lt xs x0) (N := vs.length) (by omega)
  refine hGoal ?_
  clear hGoal
  refine kr.wp (fun i j C hi hj hC => ?_) ?_
  · refine hide fun hGoal => ?_
    obtain ⟨a1, a2, a3⟩ := hr.getD (i := i) (by omega) x0
    refine hGoal ?_
    clear hGoal
    refine hide fun hGoal => ?_
    obtain ⟨b1, b2, b3⟩ := hr.getD (i := j) (by omega) x0
    refine hGoal ?_
    clear hGoal
    refine hlt _ _ _ _ _ _ (List.mem_of_getElem? a1) (List.mem_of_getElem? b1) a3 b3 F' (fun p hp => N' p (.tail _ hp)) ?_
    rw [← rk_lt O (x0 := x0) (by omega) (by omega)]
    exact hC
  · rw [hvl] at hp hu
    refine hide fun hGoal => ?_
    obtain ⟨q1, q2⟩ := sort_perm O hp hu
    refine hGoal ?_
    clear hGoal
    refine KasFin.intro (g := fun o' => (D, o') :: news) F' N' (.head fun q hq => Nat.ne_of_lt (hD q hq)) fun h'' c F'' N'' => ?_
    refine h D c h'' _ _ F'' N'' hD (hr.maps x0 p.toList fun i hi => ?_) q1 q2 (by rw [List.length_map, Array.length_toList, hp.size, hvl])
    have : i ∈ List.range xs.length := (Array.perm_iff_toList_perm.mp hp.perm).mem_iff.mp hi
    exact List.mem_range.mp this
theorem sorted_1 {l : Addr} {v : Value} {Q : Value → Shared → Prop} (F : Fr h₀ L s.heap m) (N : News h₀ L s.heap news) (hl : s.heap.IsList l [v].toArray)
    (h : ∀ D c h', Fr h₀ L h' m → News h₀ L h' ((D, listOf [v].toArray c) :: news) → (∀ q ∈ news, @LT.lt Nat _ q.1 D) → Q (.ref D) { s with heap := h' }) :
    wpAny (model prog w) A (call (.builtin "sorted") [.ref l]) Q E s := by
  refine Calls.call_function_entry kind_sorted plain_sorted entry_sorted (args_sorted1 _) ?_
  unfold Builtin.«sorted»
  refine wpAny_bind (m := checkCount "sorted" 1 1 _) (wpAny_pure ?_)
  refine wpAny_bind (collect_list hl ?_ (by rw [sizeLine_eq]; show 1 ≤ 16777216; omega))
  refine wpAny_bind (wpAny_newList ?_ (by rw [sizeLine_eq]; show 1 ≤ 16777216; omega))
  generalize hH : (s.heap.push (seqObj "list" #[] 0)).update s.heap.objs.size (Obj.mapSeq (· ++ [v].toArray)) = H1
  have hsz : H1.objs.size = s.heap.objs.size + 1 := by
    rw [← hH, Heap.size_update, size_push']
  have hoL : (H1.push (seqObj "list" [v].toArray 0)).get? (s.heap.objs.size + 1) = some (seqObj "list" [v].toArray 0) := by
    rw [← hsz]; exact Heap.get?_push_size _ rfl
  have keep : ∀ b o, s.heap.get? b = some o → (H1.push (seqObj "list" [v].toArray 0)).get? b = some o := fun b o q => by
    have hlt : b < s.heap.objs.size := Heap.lt_size q
    rw [Heap.get?_push_ne _ _ _ (by rw [hsz]; exact Nat.ne_of_lt (Nat.lt_succ_of_lt hlt)), ← hH, Heap.get?_update_ne _ _ _ _ (Nat.ne_of_lt hlt), Heap.get?_push_ne _ _ _ (Nat.ne_of_lt hlt)]
    exact q
  have hL : L < s.heap.objs.size := F.ns.lt
  have F0 : Fr h₀ L (H1.push (seqObj "list" [v].toArray 0)) m := F.kept keep
  have N0 : News h₀ L (H1.push (seqObj "list" [v].toArray 0)) news := N.grown keep
  show wpAny _ _ _ _ _ { s with heap := H1.push (seqObj "list" [v].toArray 0) }
  rw [hsz]
  have haL : s.heap.objs.size + 1 ≠ L := Nat.ne_of_gt (Nat.lt_succ_of_lt hL)
  have ha0 : h₀.get? (s.heap.objs.size + 1) = none := Heap.get?_none_of_le (Nat.le_trans F.above (Nat.le_succ_of_le (Nat.le_of_lt hL)))
  have hna : ∀ p ∈ news, p.1 ≠ s.heap.objs.size + 1 := fun p hp => Nat.ne_of_lt (Nat.lt_succ_of_lt (Heap.lt_size (N p hp).1))
  have hlo : ∀ p ∈ news, @LT.lt Nat _ p.1 (s.heap.objs.size + 1) := fun p hp => Nat.lt_succ_of_lt (Heap.lt_size (N p hp).1)
  refine wpAny_bind (wpAny_holding (wpAny_call_entry slot_list_sort ⟨_, hoL, rfl⟩ entry_list_sort ?body (args_list_sort _)))
  case body =>
    generalize hH2 : H1.push (seqObj "list" [v].toArray 0) = H2 at hoL F0 N0 ⊢
    generalize s.heap.objs.size + 1 = a at hoL haL ha0 hna hlo ⊢
    have s1 := Heap.SameBut.update H2 a (Obj.mapSeq fun _ => (#[] : Array Value))
    refine hide fun hGoal => ?_
    obtain ⟨e1, ho1⟩ : ∃ e1, (H2.update a (Obj.mapSeq fun _ => (#[] : Array Value))).get? a = some (seqObj "list" #[] e1) := ⟨_, get?_update_seq hoL fun _ => #[]⟩
    refine hGoal ?_
    clear hGoal
    have ha : a < H2.objs.size := Heap.lt_size hoL
    generalize hH3 : ((H2.update a (Obj.mapSeq fun _ => (#[] : Array Value))).push (seqObj "tuple" [v].toArray 0)).push (seqObj "list" #[] 0) = H3
    have F3 : Fr h₀ L H3 m := hH3 ▸ ((kas_fr F0 s1 haL ha0).push _).push _
    have N2 : News h₀ L H3 news := hH3 ▸ (kas_news N0 s1 hna).grown fun b x e => Heap.get?_push_of_some _ (Heap.get?_push_of_some _ e)
    have ho3 : H3.get? a = some (seqObj "list" #[] e1) := hH3 ▸ Heap.get?_push_of_some _ (Heap.get?_push_of_some _ ho1)
    rw [list_sort_plain]
    refine wpAny_bind (listItems_at (s := { s with heap := H2 }) hoL rfl ?_)
    refine wpAny_bind (listUpdate_at (s := { s with heap := H2 }) hoL rfl ?_ (by rw [sizeLine_eq]; show 1 ≤ 16777216; omega) (Nat.zero_le _))
    refine wpAny_bind (seqEpoch_at (s := { s with heap := _ }) ho1 rfl ?_)
    refine wpAny_bind (wpAny_newTuple ?_ (by rw [sizeLine_eq]; show 1 ≤ 16777216; omega))
    refine wpAny_bind (wpAny_newList ?_ (Nat.zero_le _))
    refine wpAny_holding ?_
    show wpAny (model prog w) _ _ _ _ { s with heap := ((H2.update a (Obj.mapSeq fun _ => (#[] : Array Value))).push (seqObj "tuple" [v].toArray 0)).push (seqObj "list" #[] 0) }
    rw [hH3]
    dsimp only
    rw [if_pos (show #[v].size < 2 from Nat.lt_succ_self 1), if_pos (show #[v].size < 2 from Nat.lt_succ_self 1)]
    refine wpAny_bind (wpAny_pure ?_)
    refine wpAny_bind (m := StateT.run (pure ()) _) (wpAny_pure ?_)
    dsimp only
    have earr : Array.map (fun x => x.2) (arrOf (SortSt.mk' general' (#[v].zip #[v]) #[] 7 none)) = #[v] := by show Array.map (fun x => x.2) (#[v].zip #[v]) = #[v]; simp
    rw [earr]
    have s2 := Heap.SameBut.update H3 a (Obj.mapSeq fun _ => [v].toArray)
    refine hide fun hGoal => ?_
    obtain ⟨c2, hc2⟩ : ∃ c2, (H3.update a (Obj.mapSeq fun _ => [v].toArray)).get? a = some (seqObj "list" [v].toArray c2) := ⟨_, get?_update_seq ho3 fun _ => [v].toArray⟩
    refine hGoal ?_
    clear hGoal
    refine wpAny_bind (seqEpoch_at (s := { s with heap := H3 }) ho3 rfl ?_)
    refine wpAny_bind (listUpdate_at (s := { s with heap := H3 }) ho3 rfl ?_ (Nat.zero_le _) (by show 1 ≤ sizeLine + 1; omega))
    dsimp only
    simp only [bne_self_eq_false, Bool.false_eq_true, if_false]
    refine wpAny_pure ?_
    refine ⟨_, rfl, wpAny_pure ⟨_, rfl, h a c2 _ (kas_fr F3 s2 haL ha0) ?_ ?_⟩⟩
    · intro p hp
      rcases List.mem_cons.mp hp with rfl | hp
      · exact ⟨hc2, haL, ha0⟩
      · exact kas_news N2 s2 hna p hp
    · exact hlo
end
end PartSo

section PartSp
open PySem.SeqAt
noncomputable def ltK (x y : Str) : Bool := decide (x.length < y.length) || (decide (x.length = y.length) && decide (x.cps.toList < y.cps.toList))
noncomputable def ltS (x y : Str) : Bool := decide (x.cps.toList < y.cps.toList)
theorem ltS_tri (x y : Str) (h1 : ltS x y = false) (h2 : ltS y x = false) : x = y := by
  unfold ltS at *
  rw [decide_eq_false_iff_not] at h1 h2
  exact str_toList (List.le_antisymm (List.not_lt.mp h2) (List.not_lt.mp h1))
theorem ord_S : Ord ltS where
  irr := fun a => decide_eq_false (List.lt_irrefl _)
  tr := fun a b c h1 h2 => by
    unfold ltS at *
    rw [decide_eq_true_eq] at *
    exact List.lt_trans h1 h2
  neg := fun a b c h => by
    unfold ltS at *
    rw [decide_eq_true_eq] at *
    by_cases q : a.cps.toList < c.cps.toList
    · exact .inl q
    · exact .inr (decide_eq_true (List.lt_of_le_of_lt (List.not_lt.mp q) h))
theorem ltK_iff {x y : Str} : ltK x y = true ↔ x.length < y.length ∨ (x.length = y.length ∧ ltS x y = true) := by
  unfold ltK ltS
  simp
theorem ord_K : Ord ltK where
  irr := fun a => by
    cases h : ltK a a with
    | false => rfl
    | true =>
      rcases ltK_iff.mp h with h | ⟨_, h⟩
      · omega
      · rw [ord_S.irr] at h; cases h
  tr := fun a b c h1 h2 => by
    rw [ltK_iff] at *
    rcases h1 with h1 | ⟨e1, h1⟩ <;> rcases h2 with h2 | ⟨e2, h2⟩
    · left; omega
    · left; omega
    · left; omega
    · right; exact ⟨by omega, ord_S.tr _ _ _ h1 h2⟩
  neg := fun a b c h => by
    rw [ltK_iff] at h ⊢
    rw [ltK_iff]
    rcases h with h | ⟨e, h⟩
    · by_cases q : a.length < c.length
      · exact .inl (.inl q)
      · exact .inr (.inl (by omega))
    · rcases Nat.lt_trichotomy a.length c.length with q | q | q
      · exact .inl (.inl q)
      · rcases ord_S.neg _ _ c h with h | h
        · exact .inl (.inr ⟨q, h⟩)
        · exact .inr (.inr ⟨by omega, h⟩)
      · exact .inr (.inl (by omega))
theorem ltK_tri (x y : Str) (h1 : ltK x y = false) (h2 : ltK y x = false) : x = y := by
  have a : ¬ (x.length < y.length ∨ (x.length = y.length ∧ ltS x y = true)) := fun h => by rw [ltK_iff.mpr h] at h1; cases h1
  have b : ¬ (y.length < x.length ∨ (y.length = x.length ∧ ltS y x = true)) := fun h => by rw [ltK_iff.mpr h] at h2; cases h2
  have e : x.length = y.length := by omega
  refine ltS_tri x y ?_ ?_
  · cases q : ltS x y with
    | false => rfl
    | true => exact absurd (.inr ⟨e, q⟩) a
  · cases q : ltS y x with
    | false => rfl
    | true => exact absurd (.inr ⟨e.symm, q⟩) b
noncomputable def tupK (x : Str) (t u : Tok) : Obj := { cls := .type "tuple", data := .seq #[.int (x.length : Int) t, .str x u] }
noncomputable def TupAt (h : Heap) (v : Value) (x : Str) : Prop := ∃ D t u, v = .ref D ∧ h.get? D = some (tupK x t u)
noncomputable def InT (own : List (Addr × Obj)) (v : Value) (x : Str) : Prop := ∃ D t u, v = .ref D ∧ (D, tupK x t u) ∈ own
theorem TupAt.up {h h' : Heap} {v : Value} {x : Str} (a : TupAt h v x) (k : h.StaysIn h') : TupAt h' v x := by
  obtain ⟨D, t, u, rfl, e⟩ := a
  exact ⟨D, t, u, rfl, k _ _ e⟩
theorem eqI (a b : Int) (t u : Tok) : MeetsSeq.EqGives (.int a t) (.int b u) (decide (a = b)) := fun _ _ _ _ _ _ h => wpAny_eqBool_int (by rw [show (a == b) = decide (a = b) from rfl]; exact h)
theorem eqS (a b : Str) (t u : Tok) : MeetsSeq.EqGives (.str a t) (.str b u) (decide (a = b)) := fun prog w A E s Q h => wpAny_eqBool_str h
theorem lexK_lt (x y : Str) (t u t' u' : Tok) : LexP .Lt false [(.int (x.length : Int) t, .int (y.length : Int) t'), (.str x u, .str y u')] (ltK x y) := by
  by_cases e : x.length = y.length
  · have h1 := eqI (x.length : Int) (y.length : Int) t t'
    rw [decide_eq_true (by omega)] at h1
    refine .eq h1 ?_
    by_cases e2 : x = y
    · subst e2
      have h2 := eqS x x u u'
      rw [decide_eq_true rfl] at h2
      rw [ord_K.irr]
      exact .eq h2 .nil
    · have h2 := eqS x y u u'
      rw [decide_eq_false e2] at h2
      have : ltK x y = decide (x.cps.toList < y.cps.toList) := by unfold ltK; simp [e]
      rw [this]
      exact .ne h2 (OrdGives.ltS x y u u')
  · have h1 := eqI (x.length : Int) (y.length : Int) t t'
    rw [decide_eq_false (by omega)] at h1
    have : ltK x y = decide ((x.length : Int) < (y.length : Int)) := by unfold ltK; simp [e]
    rw [this]
    exact .ne h1 (OrdGives.ltI _ _ t t')
theorem lexK_gt (x y : Str) (t u t' u' : Tok) : LexP .Gt false [(.int (x.length : Int) t, .int (y.length : Int) t'), (.str x u, .str y u')] (ltK y x) := by
  by_cases e : x.length = y.length
  · have h1 := eqI (x.length : Int) (y.length : Int) t t'
    rw [decide_eq_true (by omega)] at h1
    refine .eq h1 ?_
    by_cases e2 : x = y
    · subst e2
      have h2 := eqS x x u u'
      rw [decide_eq_true rfl] at h2
      rw [ord_K.irr]
      exact .eq h2 .nil
    · have h2 := eqS x y u u'
      rw [decide_eq_false e2] at h2
      have : ltK y x = decide (y.cps.toList < x.cps.toList) := by unfold ltK; simp [e]
      rw [this]
      exact .ne h2 (OrdGives.gtS x y u u')
  · have h1 := eqI (x.length : Int) (y.length : Int) t t'
    rw [decide_eq_false (by omega)] at h1
    have e' : ¬ y.length = x.length := fun q => e q.symm
    have : ltK y x = decide ((y.length : Int) < (x.length : Int)) := by unfold ltK; simp [e']
    rw [this]
    exact .ne h1 (OrdGives.gtI _ _ t t')
theorem cmpT_lt {h : Heap} {v v' : Value} {x y : Str} (a : TupAt h v x) (b : TupAt h v' y) : CmpAt .Lt h v v' (ltK x y) := fun prog w A E s Q k hu hq => by
  obtain ⟨D, t, u, rfl, e⟩ := a
  obtain ⟨D', t', u', rfl, e'⟩ := b
  exact tup_lt (k _ _ e) rfl rfl (k _ _ e') rfl rfl (lexK_lt x y t u t' u') (by omega) hq
theorem cmpT_gt {h : Heap} {v v' : Value} {x y : Str} (a : TupAt h v x) (b : TupAt h v' y) : CmpAt .Gt h v v' (ltK y x) := fun prog w A E s Q k hu hq => by
  obtain ⟨D, t, u, rfl, e⟩ := a
  obtain ⟨D', t', u', rfl, e'⟩ := b
  exact tup_gt (k _ _ e) rfl rfl (k _ _ e') rfl rfl (lexK_gt x y t u t' u') (by omega) hq
noncomputable def eK (x y : Str) (j : Nat) : Bool := if j = 0 then decide ((x.length : Int) = (y.length : Int)) else decide (x = y)
theorem eK_all (x y : Str) : ((List.range (min 2 2)).all (eK x y) && (2 == 2)) = decide (x = y) := by
  by_cases e : x = y
  · subst e; simp [eK, List.range_succ]
  · have : (List.range (min 2 2)).all (eK x y) = false := by
      simp [eK, List.range_succ, e]
    rw [this, decide_eq_false e]; rfl
theorem rcT_eq {A : Around} {s : Shared} {v v' : Value} {x y : Str} (a : TupAt s.heap v x) (b : TupAt s.heap v' y) (hu : A.units < cLine) : RcAt A s v v' (decide (x = y)) := by
  obtain ⟨D, t, u, rfl, e⟩ := a
  obtain ⟨D', t', u', rfl, e'⟩ := b
  have := RcAt.tuples (A := A) (s := s) (l := D) (b := D') (items := #[.int (x.length : Int) t, .str x u]) (items2 := #[.int (y.length : Int) t', .str y u']) (e := eK x y) ⟨_, e, rfl, _, rfl⟩ ⟨_, e', rfl, _, rfl⟩ hu fun j h1 h2 => by
    match j, h1, h2 with
    | 0, _, _ => exact (eqI _ _ t t').at _ _
    | 1, _, _ => exact (eqS _ _ u u').at _ _
  rw [← eK_all]
  exact this
theorem eqT_at {A : Around} {s : Shared} {v v' : Value} {x y : Str} (a : TupAt s.heap v x) (b : TupAt s.heap v' y) (hu : A.units < cLine) : EqAt A s v v' (decide (x = y)) := by
  have h := rcT_eq a b hu
  obtain ⟨D, t, u, rfl, e⟩ := a
  obtain ⟨D', t', u', rfl, e'⟩ := b
  by_cases q : D = D'
  · subst q
    rw [e] at e'
    have : x = y := by
      have := Option.some.inj e'
      unfold tupK at this
      injection this with _ _ h3
      injection h3 with h3
      have h4 := congrArg (fun a : Array Value => a.toList) h3
      simp at h4
      exact h4.2.1
    rw [decide_eq_true this]
    exact EqAt.same _
  · exact EqAt.of_refs q h
theorem cmpT_eq {h : Heap} {v v' : Value} {x y : Str} (a : TupAt h v x) (b : TupAt h v' y) : CmpAt .Eq h v v' (decide (x = y)) := fun prog w A E s Q k hu hq =>
  rcT_eq (a.up k) (b.up k) (by omega) prog w E Q hq
theorem all_eq_reps {xs ys : List Str} (hl : xs.length = ys.length) : ((List.range xs.length).all fun j => decide (xs.getD j ⟨#[]⟩ = ys.getD j ⟨#[]⟩)) = decide (xs = ys) := by
  by_cases e : xs = ys
  · subst e; simp
  · rw [decide_eq_false e]
    cases q : (List.range xs.length).all fun j => decide (xs.getD j ⟨#[]⟩ = ys.getD j ⟨#[]⟩) with
    | false => rfl
    | true =>
      exfalso
      apply e
      rw [List.all_eq_true] at q
      refine List.ext_getElem hl fun j h1 h2 => ?_
      have := q j (List.mem_range.mpr h1)
      rw [decide_eq_true_eq, List.getD_eq_getElem?_getD, List.getD_eq_getElem?_getD, List.getElem?_eq_getElem h1, List.getElem?_eq_getElem h2] at this
      exact this
section
variable {prog : Program} {w : World} {A : Around} {E : Value → Shared → Prop} {s : Shared} {h₀ : Heap} {L : Addr} {m : Str → Option Value} {news own : List (Addr × Obj)} {vs us : List Value} {xs ys : List Str}
theorem lists_ne {R : Value → Str → Prop} {l b : Addr} {Q : Value → Shared → Prop} (hl : s.heap.IsList l vs.toArray) (hb : s.heap.IsList b us.toArray) (r1 : Reps R vs xs) (r2 : Reps R us ys) (hu : A.units < cLine)
    (he : ∀ v x v' y, R v x → R v' y → EqAt A.in1 s v v' (decide (x = y))) (h : Q (.bool (!decide (xs = ys))) s) : wpAny (model prog w) A (compareOp .NotEq (.ref l) (.ref b)) Q E s := by
  by_cases hz : xs.length = ys.length
  · have := RcNeAt.lists (A := A) (s := s) (l := l) (b := b) (e := fun j => decide (xs.getD j ⟨#[]⟩ = ys.getD j ⟨#[]⟩)) hl hb (by rw [List.size_toArray, List.size_toArray, r1.1, r2.1, hz]) hu fun j h1 h2 => by
      rw [List.size_toArray] at h1 h2
      have a := r1.getD (i := j) (by rw [← r1.1]; exact h1) ⟨#[]⟩
      have b := r2.getD (i := j) (by rw [← r2.1]; exact h2) ⟨#[]⟩
      have e1 : vs.toArray[j] = vs.getD j Value.none := by
        have := a.1
        rw [List.getElem?_eq_getElem h1] at this
        simpa using Option.some.inj this
      have e2 : us.toArray[j] = us.getD j Value.none := by
        have := b.1
        rw [List.getElem?_eq_getElem h2] at this
        simpa using Option.some.inj this
      rw [e1, e2]
      exact he _ _ _ _ a.2.2 b.2.2
    rw [List.size_toArray, r1.1, all_eq_reps hz] at this
    exact this prog w E Q h
  · have := RcNeAt.lists_lengths (A := A) (s := s) (l := l) (b := b) hl hb (by rw [List.size_toArray, List.size_toArray, r1.1, r2.1]; simpa using hz) hu
    rw [decide_eq_false (fun e => hz (by rw [e]))] at h
    exact this prog w E Q h
theorem tups_of (N : News h₀ L s.heap news) (ho : ∀ p ∈ own, p ∈ news) : ∀ {vs : List Value} {xs : List Str}, Reps (InT own) vs xs → ∃ fs, KatTups s.heap vs fs ∧ fs.length = vs.length ∧ ∀ v ∈ fs, ∃ i t, v = Value.int i t
  | [], [], _ => ⟨[], KatTups.nil, rfl, fun _ h => nomatch h⟩
  | v :: vs, x :: xs, h => by
    obtain ⟨⟨D, t, u, rfl, hm⟩, h'⟩ := h.uncons
    obtain ⟨fs, k, hl, hf⟩ := tups_of N ho h'
    exact ⟨.int (x.length : Int) t :: fs, KatTups.cons (N _ (ho _ hm)).1 rfl rfl rfl k, by simp [hl], fun w hw => by
      rcases List.mem_cons.mp hw with rfl | hw
      · exact ⟨_, _, rfl⟩
      · exact hf w hw⟩
  | [], _ :: _, h => by have := h.1; simp at this
  | _ :: _, [], h => by have := h.1; simp at this
theorem keyLt_K {D D' : Addr} {x y : Str} {t u t' u' : Tok} {C : Bool → Shared → Prop} (e : s.heap.get? D = some (tupK x t u)) (e' : s.heap.get? D' = some (tupK y t' u')) (h : C (ltK x y) s) :
    wpAny (model prog w) A (keyLt' (tuples' true) (.ref D) (.ref D')) C E s := by
  refine kat_lt e rfl e' rfl ?_
  show KatLex prog w A true _ C [(Value.int (x.length : Int) t, Value.int (y.length : Int) t'), (Value.str x u, Value.str y u')] 0 s
  refine kat_cons (eqI _ _ t t' _ _ _ _ _ _ ?_)
  by_cases q : x.length = y.length
  · have hd : decide ((x.length : Int) = (y.length : Int)) = true := decide_eq_true (by omega)
    rw [hd]
    refine kat_yes (kat_cons (eqS _ _ u u' _ _ _ _ _ _ ?_))
    by_cases q2 : x = y
    · subst q2
      rw [decide_eq_true rfl]
      refine kat_yes (kat_nil ?_)
      rw [ord_K.irr] at h
      exact h
    · rw [decide_eq_false q2]
      refine kat_no (kat_one _ _ (PyProof.Rows.lt_str ?_))
      have : ltK x y = decide (x.cps.toList < y.cps.toList) := by unfold ltK; simp [q]
      rw [this] at h
      exact h
  · have hd : decide ((x.length : Int) = (y.length : Int)) = false := decide_eq_false (by omega)
    rw [hd]
    refine kat_no ?_
    show wpAny (model prog w) A (oneLt' true (Value.int (x.length : Int) t) (Value.int (y.length : Int) t')) C (fun _ _ => False) s
    refine oneLt_int ?_
    have : ltK x y = decide ((x.length : Int) < (y.length : Int)) := by unfold ltK; simp [q]
    rw [this] at h
    exact h
theorem sorted_K {l : Addr} {Q : Value → Shared → Prop} (F : Fr h₀ L s.heap m) (N : News h₀ L s.heap news) (ho : ∀ p ∈ own, p ∈ news) (hl : s.heap.IsList l vs.toArray) (hr : Reps (InT own) vs xs) (h2 : 2 ≤ xs.length) (h64 : xs.length < 64)
    (h : ∀ D c h' ys us, Fr h₀ L h' m → News h₀ L h' ((D, listOf us.toArray c) :: news) → (∀ q ∈ news, @LT.lt Nat _ q.1 D) → Reps (InT own) us ys → ys.Perm xs → (ys.Pairwise fun a b => ltK b a = false) → us.length = vs.length → Q (.ref D) { s with heap := h' }) :
    wpAny (model prog w) A (call (.builtin "sorted") [.ref l]) Q E s := by
  refine sorted_G (κ := tuples' true) ord_K F N hl hr h2 h64 (fun s' Q' F' N' hq => ?_) (fun s' x y v u C _ _ rx ry F' N' hC => ?_) h
  · obtain ⟨fs, k, hf, hi⟩ := tups_of N' ho hr
    exact kat_kind (T := .type "int") k (by rw [hf, hr.1]; omega) (fun v hv => by obtain ⟨i, t, rfl⟩ := hi v hv; exact Looks.of_pure rfl) (by decide +kernel) hq
  · obtain ⟨D, t, u, rfl, hm⟩ := rx
    obtain ⟨D', t', u', rfl, hm'⟩ := ry
    exact keyLt_K (N' _ (ho _ hm)).1 (N' _ (ho _ hm')).1 hC
theorem sorted_S {l : Addr} {Q : Value → Shared → Prop} (F : Fr h₀ L s.heap m) (N : News h₀ L s.heap news) (hl : s.heap.IsList l vs.toArray) (hr : Reps RS vs xs) (h2 : 2 ≤ xs.length) (h64 : xs.length < 64)
    (h : ∀ D c h' ys us, Fr h₀ L h' m → News h₀ L h' ((D, listOf us.toArray c) :: news) → (∀ q ∈ news, @LT.lt Nat _ q.1 D) → Reps RS us ys → ys.Perm xs → (ys.Pairwise fun a b => ltS b a = false) → us.length = vs.length → Q (.ref D) { s with heap := h' }) :
    wpAny (model prog w) A (call (.builtin "sorted") [.ref l]) Q E s := by
  refine sorted_G (κ := oneType') ord_S F N hl hr h2 h64 (fun s' Q' F' N' hq => ?_) (fun s' x y v u C _ _ rx ry F' N' hC => ?_) h
  · refine kas_kind (T := .type "str") (by rw [hr.1]; exact h2) (fun v hv => ?_) (by decide +kernel) (by decide +kernel) hq
    obtain ⟨i, hi⟩ := List.getElem?_of_mem hv
    obtain ⟨x, _, t, rfl⟩ := hr.get hi
    exact Looks.of_pure rfl
  · obtain ⟨t, rfl⟩ := rx
    obtain ⟨u, rfl⟩ := ry
    exact kas_lt_str hC
end
end PartSp

section PartDu
noncomputable abbrev belowH (h : Heap) (L : Addr) (frs : List (Addr × Obj)) : Heap := hideAll h (L :: frs.map (·.1))
theorem below_get {h : Heap} {L b : Addr} {frs : List (Addr × Obj)} {o : Obj} (e : h.get? b = some o) (h1 : b ≠ L) (h2 : ∀ p ∈ frs, p.1 ≠ b) : (belowH h L frs).get? b = some o :=
  hideAll_get _ e fun q => by
    rcases List.mem_cons.mp q with q | q
    · exact h1 q
    · refine hide fun hGoal => ?_
      obtain ⟨p, hp, e⟩ := List.mem_map.mp q
      refine hGoal ?_
      clear hGoal
      exact h2 p hp e
theorem DoesX.use {f : Addr} {kd ku : Nat} {vs : List Value} {Pre : Heap → Prop} {Post : Value → (Addr → Prop) → Heap → Prop} (D : DoesX f kd ku vs Pre Post)
    {w : World} {mean : ExcName → Option Value} {mg mb : Str → Option Value} {dp un : Nat} {gd : Option (List Code)} {cn : Str} {cs : Scope} {a : Addr} {ccd : Value} {cl : List (Str × Addr)} {outer : List Env}
    {h₀ : Heap} {L : Addr} {m : Str → Option Value} {s : Shared} {Q E : Value → Shared → Prop} {new frs : List (Addr × Obj)}
    (F : Fr h₀ L s.heap m) (X : (hd.heap_39 w.params).In h₀) (N : News h₀ L s.heap (new ++ frs)) (T : Tp mean mg mb h₀) (Fs : Frs outer frs) (hap : ∀ p ∈ new, ∀ q ∈ frs, q.1 ≠ p.1) (hk : cs.kind = .function) (hd : dp + kd < recursionLimit) (hu : un + ku < cLine)
    (hp : Pre (belowH s.heap L frs))
    (h : ∀ r h' tk' frs', SameUp frs frs' → Frs outer frs' → Fr h₀ L h' m → News h₀ L h' (new ++ frs') → (∀ D, (belowH s.heap L frs).get? D = none ∧ (∀ p ∈ frs, p.1 ≠ D) ∧ D ≠ L → h₀.get? D = none ∧ (∀ p ∈ new, p.1 ≠ D)) →
      Post r (fun D => (belowH s.heap L frs).get? D = none ∧ (∀ p ∈ frs, p.1 ≠ D) ∧ D ≠ L) h' → Q r { s with heap := h', toks := tk' }) 
    (hpost : ∀ r f g h', (∀ D, f D → g D) → Post r f h' → Post r g h') :
    wpAny (model PySem.Challenge.rw_il0061_01.row.prog w) (ktrTop dp un gd cn cs L a ccd cl outer) (call (.ref f) vs) Q E s := by
  refine hide fun hGoal => ?_
  obtain ⟨oL, es, ep, hL, hLd, hLk, hLf⟩ := F.ns
  refine hGoal ?_
  clear hGoal
  have nlt : ∀ b o, h₀.get? b = some o → b ≠ L := fun b o e q => by
    have := Heap.lt_size e
    rw [q] at this
    exact absurd (Nat.lt_of_lt_of_le this F.above) (Nat.lt_irrefl _)
  have nfr : ∀ b o, h₀.get? b = some o → ∀ p ∈ frs, p.1 ≠ b := fun b o e p hp q => by
    have := (N p (List.mem_append_right _ hp)).2.2
    rw [q, e] at this; cases this
  have k0 : h₀.StaysIn (belowH s.heap L frs) := fun b o e => below_get (F.keep b o e) (nlt b o e) (nfr b o e)
  have knew : ∀ p ∈ new, (belowH s.heap L frs).get? p.1 = some p.2 := fun p hp => below_get (N p (List.mem_append_left _ hp)).1 (N p (List.mem_append_left _ hp)).2.1 (hap p hp)
  refine D w mean mg mb dp un gd cn cs L a ccd cl outer (belowH s.heap L frs) ((L, oL) :: frs) s Q E ⟨?_, rfl, ⟨es, ep, hLd⟩, Fs⟩ (fun p hp => ?_) (fun b o e => of_hideAll _ e) (by rw [hideAll_size]; exact Nat.le_refl _) (X.keeps k0) (T.keeps k0) hd hu hp ?_
  · show cs.kind ≠ .module
    rw [hk]; decide
  · rcases List.mem_cons.mp hp with rfl | hp
    · exact ⟨hL, hideAll_none _ (.head _)⟩
    · exact ⟨(N p (List.mem_append_right _ hp)).1, hideAll_none _ (.tail _ (List.mem_map_of_mem hp))⟩
  · intro r h' tk' frs2 su Fs2 hfr2 st2 post
    match frs2, su, Fs2 with
    | (L2, oL2) :: frs', ⟨e1, ⟨sl, e2⟩, su'⟩, ⟨_, _, _, Fs'⟩ =>
      dsimp only at e1 e2
      subst e1 e2
      have F' : Fr h₀ L2 h' m := ⟨⟨_, es, ep, hfr2 _ (.head _), hLd, hLk, hLf⟩, fun b o e => st2 b o (k0 b o e), F.above⟩
      refine h r h' tk' frs' su' Fs' F' (fun p hp => ?_) (fun D hD => ⟨?_, fun p hp q => ?_⟩) (hpost _ _ _ _ (fun D hD => ⟨hD.1, fun p hp => hD.2 p (.tail _ hp), fun q => hD.2 _ (.head _) q.symm⟩) post)
      · rcases List.mem_append.mp hp with hp | hp
        · exact ⟨st2 _ _ (knew p hp), (N p (List.mem_append_left _ hp)).2⟩
        · refine hide fun hGoal => ?_
          obtain ⟨x, hx, e⟩ := SameUp.fwd su' p hp
          refine hGoal ?_
          clear hGoal
          have := (N x (List.mem_append_right _ hx)).2
          exact ⟨hfr2 p (.tail _ hp), by rw [e]; exact this⟩
      · cases q : h₀.get? D with
        | none => rfl
        | some o => have := k0 D o q; rw [hD.1] at this; cases this
      · have := knew p hp
        rw [q, hD.1] at this; cases this
end PartDu

section PartPe
set_option linter.unusedSectionVars false
noncomputable def tl (p : List Str) : Str := p.getLastD ⟨#[]⟩
noncomputable def up (p : List Str) : Str := p.dropLast.getLastD ⟨#[]⟩
structure OkP (ps : List (List Str)) : Prop where
  ne : ∀ p ∈ ps, p ≠ []
  nm : ∀ p ∈ ps, ∀ x ∈ p, Nm x
  nd : (ps.map tl).Nodup
  cl : ∀ p ∈ ps, 2 ≤ p.length → p.dropLast ∈ ps
  sz : ∀ p ∈ ps, (pth p).length ≤ 1000
  rt : ∀ p ∈ ps, ∀ q ∈ ps, p.length = 1 → q.length = 1 → p = q
theorem snoc_of {p : List Str} (h : p ≠ []) : p = p.dropLast ++ [tl p] := by
  unfold tl
  rcases List.eq_nil_or_concat p with e | ⟨q, x, e⟩
  · exact absurd e h
  · rw [e, List.concat_eq_append]; simp
theorem tl_mem {p : List Str} (h : p ≠ []) : tl p ∈ p := by
  rw [snoc_of h]
  unfold tl; simp
theorem base_tl {p : List Str} (h : p ≠ []) (hn : ∀ x ∈ p, Nm x) : baseS (pth p) = tl p := by
  have := base_pth p.dropLast (hn _ (tl_mem h))
  rwa [← snoc_of h] at this
theorem base_up {p : List Str} (h : p ≠ []) (hn : ∀ x ∈ p, Nm x) : baseS (dirS (pth p)) = up p := by
  have e := snoc_of h
  by_cases q : p.dropLast = []
  · rw [q] at e
    have : dirS (pth p) = sep := by
      rw [e]
      exact dir_one (hn _ (tl_mem h))
    rw [this, base_sep]
    unfold up
    rw [q]; rfl
  · have e2 := snoc_of q
    have hq : ∀ x ∈ p.dropLast, Nm x := fun x hx => hn x (List.dropLast_subset _ hx)
    have : dirS (pth p) = pth p.dropLast := by
      have := dir_pth p.dropLast.dropLast (hq _ (tl_mem q)) (hn _ (tl_mem h))
      rw [← e2, ← e] at this
      exact this
    rw [this, base_tl q hq]
    rfl
theorem dir_root {p : List Str} (h : p ≠ []) (hn : ∀ x ∈ p, Nm x) : dirS (pth p) = sep ↔ p.length = 1 := by
  have e := snoc_of h
  by_cases q : p.dropLast = []
  · rw [q] at e
    refine ⟨fun _ => by rw [e]; rfl, fun _ => ?_⟩
    rw [e]
    exact dir_one (hn _ (tl_mem h))
  · have e2 := snoc_of q
    have hq : ∀ x ∈ p.dropLast, Nm x := fun x hx => hn x (List.dropLast_subset _ hx)
    have hd : dirS (pth p) = pth p.dropLast := by
      have := dir_pth p.dropLast.dropLast (hq _ (tl_mem q)) (hn _ (tl_mem h))
      rw [← e2, ← e] at this
      exact this
    rw [hd]
    have hl : 1 ≤ p.dropLast.length := List.length_pos_iff.mpr q
    have hl2 : p.length = p.dropLast.length + 1 := by rw [List.length_dropLast]; have := List.length_pos_iff.mpr h; omega
    refine ⟨fun k => ?_, fun k => by omega⟩
    exfalso
    have h1 : (pth p.dropLast).cps.toList = [47] := by rw [k, sep_is]
    rw [pth_toList, e2, pthL_snoc] at h1
    have h2 := congrArg List.length h1
    rw [List.length_append, List.length_cons] at h2
    have h3 := List.length_pos_iff.mpr (hq _ (tl_mem q)).1
    simp only [List.length_cons, List.length_nil] at h2
    omega
theorem up_nil {p : List Str} (h : p ≠ []) (hn : ∀ x ∈ p, Nm x) : up p = ⟨#[]⟩ ↔ p.length = 1 := by
  unfold up
  by_cases q : p.dropLast = []
  · have hl : p.length = 1 := by
      have := congrArg List.length q
      rw [List.length_dropLast] at this
      have := List.length_pos_iff.mpr h
      simp at *; omega
    rw [q]
    exact ⟨fun _ => hl, fun _ => rfl⟩
  · have e2 := snoc_of q
    have hq : ∀ x ∈ p.dropLast, Nm x := fun x hx => hn x (List.dropLast_subset _ hx)
    have hl : 1 ≤ p.dropLast.length := List.length_pos_iff.mpr q
    have hl2 : p.length = p.dropLast.length + 1 := by rw [List.length_dropLast]; have := List.length_pos_iff.mpr h; omega
    refine ⟨fun k => ?_, fun k => by omega⟩
    have := (hq _ (tl_mem q)).1
    unfold tl at this
    rw [k] at this
    exact absurd rfl this
noncomputable def bareL (ps : List (List Str)) : List Str := (ps.map tl).filter fun x => !(ps.map up).contains x
theorem bare_ne {ps : List (List Str)} (h : OkP ps) (hne : ps ≠ []) : bareL ps ≠ [] := by
  obtain ⟨p, hp, hmax⟩ : ∃ p ∈ ps, ∀ q ∈ ps, q.length ≤ p.length := by
    clear h
    induction ps with
    | nil => exact absurd rfl hne
    | cons a ps ih =>
      by_cases e : ps = []
      · subst e
        exact ⟨a, .head _, fun q hq => by rw [List.mem_singleton.mp hq]; exact Nat.le_refl _⟩
      · obtain ⟨p, hp, hm⟩ := ih e
        by_cases c : p.length ≤ a.length
        · exact ⟨a, .head _, fun q hq => by
            rcases List.mem_cons.mp hq with rfl | hq
            · exact Nat.le_refl _
            · exact Nat.le_trans (hm q hq) c⟩
        · exact ⟨p, .tail _ hp, fun q hq => by
            rcases List.mem_cons.mp hq with rfl | hq
            · omega
            · exact hm q hq⟩
  intro e
  have hm : tl p ∈ bareL ps := by
    refine List.mem_filter.mpr ⟨List.mem_map_of_mem hp, ?_⟩
    rw [Bool.not_eq_true', ← Bool.not_eq_true, List.contains_iff_mem]
    intro hu
    obtain ⟨q, hq, eq⟩ := List.mem_map.mp hu
    have hpn := h.ne p hp
    have hlen : 2 ≤ q.length := by
      have h1 := up_nil (h.ne q hq) (h.nm q hq)
      have h2 := List.length_pos_iff.mpr (h.ne q hq)
      have : ¬ q.length = 1 := fun k => by
        have := h1.mpr k
        rw [eq] at this
        exact absurd (by rw [this]) (h.nm p hp _ (tl_mem hpn)).1
      omega
    have hd := h.cl q hq hlen
    have e2 : q.dropLast = p := by
      have e3 : tl q.dropLast = tl p := eq
      have := h.nd
      exact inj_of_nodup this hd hp e3
    have := hmax q hq
    have h4 : q.dropLast.length = q.length - 1 := List.length_dropLast
    rw [e2] at h4
    omega
  rw [e] at hm
  cases hm
where
  inj_of_nodup {ps : List (List Str)} (h : (ps.map tl).Nodup) {p q : List Str} (hp : p ∈ ps) (hq : q ∈ ps) (e : tl p = tl q) : p = q := by
    induction ps with
    | nil => cases hp
    | cons a ps ih =>
      rw [List.map_cons, List.nodup_cons] at h
      rcases List.mem_cons.mp hp with e1 | hp1 <;> rcases List.mem_cons.mp hq with e2 | hq1
      · rw [e1, e2]
      · rw [e1] at e
        exact absurd (e ▸ List.mem_map_of_mem hq1) h.1
      · rw [e2] at e
        exact absurd (e ▸ List.mem_map_of_mem hp1) h.1
      · exact ih h.2 hp1 hq1
noncomputable def StepP (ps : List (List Str)) (told : List Str) (ps' : List (List Str)) (told' : List Str) : Prop :=
  ∃ k p, ps[k]? = some p ∧ tl p ∈ bareL ps ∧ (∀ x ∈ bareL ps, x ≠ tl p → ltK (tl p) x = true) ∧ ps' = ps.eraseIdx k ∧ told' = told ++ [up p]
inductive RunP : List (List Str) → List Str → List (List Str) → List Str → Prop where
  | nil (ps told) : RunP ps told ps told
  | step {ps told ps' told' ps2 told2} : StepP ps told ps' told' → 2 < ps.length → RunP ps' told' ps2 told2 → RunP ps told ps2 told2
theorem RunP.snoc {ps told ps' told' ps2 told2} (h : RunP ps told ps' told') (g : StepP ps' told' ps2 told2) (hl : 2 < ps'.length) : RunP ps told ps2 told2 := by
  induction h with
  | nil => exact .step g hl (.nil _ _)
  | step a b _ ih => exact .step a b (ih g hl)
theorem OkP.step {ps told ps' told'} (h : OkP ps) (g : StepP ps told ps' told') : OkP ps' ∧ ps'.length + 1 = ps.length := by
  obtain ⟨k, p, hk, hb, _, rfl, rfl⟩ := g
  have hkl := (List.getElem?_eq_some_iff.mp hk).1
  have hsub : ∀ q ∈ ps.eraseIdx k, q ∈ ps := fun q hq => List.mem_of_mem_eraseIdx hq
  have hpm := List.mem_of_getElem? hk
  have hnd : ((ps.eraseIdx k).map tl).Nodup := h.nd.sublist ((List.eraseIdx_sublist ps k).map tl)
  have hnb : ∀ q ∈ ps, up q ≠ tl p := fun q hq e => by
    have := (List.mem_filter.mp hb).2
    rw [Bool.not_eq_true', ← Bool.not_eq_true, List.contains_iff_mem] at this
    exact this (e ▸ List.mem_map_of_mem hq)
  refine ⟨⟨fun q hq => h.ne q (hsub q hq), fun q hq => h.nm q (hsub q hq), hnd, fun q hq hl => ?_, fun q hq => h.sz q (hsub q hq), fun q hq q' hq' => h.rt q (hsub q hq) q' (hsub q' hq')⟩, by rw [List.length_eraseIdx, if_pos hkl]; omega⟩
  have hd := h.cl q (hsub q hq) hl
  have hne : q.dropLast ≠ p := fun e => hnb q (hsub q hq) (by unfold up; rw [e]; rfl)
  obtain ⟨j, hj⟩ := List.getElem?_of_mem hd
  have hjk : j ≠ k := fun e => hne (by rw [e, hk] at hj; exact (Option.some.inj hj).symm)
  rw [List.mem_iff_getElem?]
  rcases Nat.lt_or_gt_of_ne hjk with c | c
  · exact ⟨j, by rw [List.getElem?_eraseIdx, if_pos c]; exact hj⟩
  · exact ⟨j - 1, by rw [List.getElem?_eraseIdx, if_neg (by omega), show j - 1 + 1 = j by omega]; exact hj⟩
section
variable {lt : Str → Str → Bool} (O : Ord lt) (tri : ∀ x y, lt x y = false → lt y x = false → x = y)
include O tri
theorem rise_unique {xs ys : List Str} (p : xs.Perm ys) (h1 : xs.Pairwise fun a b => lt b a = false) (h2 : ys.Pairwise fun a b => lt b a = false) : xs = ys :=
  p.eq_of_pairwise (le := fun a b => lt b a = false) (fun a b _ _ h h' => tri a b h' h) h1 h2
theorem drop_head {xs : List Str} {x : Str} (h : x ∉ xs) : xs.dropWhile (fun z => decide (z = x)) = xs := by
  cases xs with
  | nil => rfl
  | cons a xs =>
    rw [List.dropWhile_cons, if_neg]
    intro e
    rw [decide_eq_true_eq] at e
    exact h (e ▸ .head _)
theorem sld_sub : ∀ (n : Nat) (xs ys : List Str), xs.length + ys.length ≤ n → xs.Nodup → (xs.Pairwise fun a b => lt b a = false) → (ys.Pairwise fun a b => lt b a = false) → (∀ y ∈ ys, y ∈ xs) →
    sldR lt (fun a b => decide (a = b)) xs ys = (xs.filter fun x => !ys.contains x, [])
  | n, [], ys, _, _, _, _, hs => by
    have : ys = [] := by
      cases ys with
      | nil => rfl
      | cons y ys => cases hs y (.head _)
    subst this
    rw [sldR_nil]; rfl
  | n, x :: xs, [], _, _, _, _, _ => by
    rw [sldR_nil']
    rw [List.filter_eq_self.mpr (fun a _ => by simp)]
  | 0, x :: xs, y :: ys, hl, _, _, _, _ => by simp at hl
  | n + 1, x :: xs, y :: ys, hl, hnd, h1, h2, hs => by
    simp only [List.length_cons] at hl
    obtain ⟨hx, hnd'⟩ := List.nodup_cons.mp hnd
    obtain ⟨hx1, h1'⟩ := List.pairwise_cons.mp h1
    obtain ⟨hy1, h2'⟩ := List.pairwise_cons.mp h2
    rw [sldR]
    cases c : lt x y with
    | true =>
      rw [if_pos rfl, drop_head O tri hx]
      have hxy : x ∉ y :: ys := fun hm => by
        rcases List.mem_cons.mp hm with e | hm
        · rw [← e, O.irr] at c; cases c
        · have := hy1 x hm
          rw [c] at this; cases this
      have hs' : ∀ z ∈ y :: ys, z ∈ xs := fun z hz => by
        rcases List.mem_cons.mp (hs z hz) with e | h
        · exact absurd (e ▸ hz) hxy
        · exact h
      rw [sld_sub n xs (y :: ys) (by simp only [List.length_cons]; omega) hnd' h1' h2 hs']
      rw [List.filter_cons, if_pos (by rw [Bool.not_eq_true', ← Bool.not_eq_true, List.contains_iff_mem]; exact hxy)]
    | false =>
      rw [if_neg (by decide)]
      have hyx : lt y x = false := by
        rcases List.mem_cons.mp (hs y (.head _)) with e | h
        · rw [e]; exact O.irr _
        · exact hx1 y h
      rw [hyx, if_neg (by decide)]
      have e : x = y := tri x y c hyx
      subst e
      rw [drop_head O tri hx]
      have hdl : (ys.dropWhile fun z => decide (z = x)).length ≤ ys.length := (List.dropWhile_sublist _).length_le
      have hmem : ∀ z, z ≠ x → (z ∈ ys.dropWhile (fun z => decide (z = x)) ↔ z ∈ ys) := fun z hz => by
        refine ⟨fun h => (List.dropWhile_sublist _).subset h, fun h => ?_⟩
        clear hs hl hdl h2 h2' hy1
        induction ys with
        | nil => cases h
        | cons a ys ih =>
          rw [List.dropWhile_cons]
          split
          · rename_i q
            rw [decide_eq_true_eq] at q
            rcases List.mem_cons.mp h with e | h
            · exact absurd (e.trans q) hz
            · exact ih h
          · exact h
      have hxd : x ∉ ys.dropWhile (fun z => decide (z = x)) := fun hm => by
        have hp : (ys.dropWhile fun z => decide (z = x)).Pairwise fun a b => lt b a = false := h2'.sublist (List.dropWhile_sublist _)
        cases q : ys.dropWhile (fun z => decide (z = x)) with
        | nil => rw [q] at hm; cases hm
        | cons a r =>
          have ha : a ≠ x := fun e => by
            have := List.head?_dropWhile_not (fun z => decide (z = x)) ys
            rw [q] at this
            simp [e] at this
          rw [q] at hm hp
          have ham : a ∈ ys := (List.dropWhile_sublist _).subset (by rw [q]; exact .head _)
          have hlt1 : lt a x = false := hy1 a ham
          rcases List.mem_cons.mp hm with e | hm
          · exact ha e.symm
          · have := (List.pairwise_cons.mp hp).1 x hm
            exact ha (tri a x hlt1 this)
      rw [sld_sub n xs (ys.dropWhile fun z => decide (z = x)) (by omega) hnd' h1' (h2'.sublist (List.dropWhile_sublist _)) (fun z hz => by
        have hzx : z ≠ x := fun e => hxd (e ▸ hz)
        rcases List.mem_cons.mp (hs z (.tail _ ((hmem z hzx).mp hz))) with e | h
        · exact absurd e hzx
        · exact h)]
      rw [List.filter_cons, if_neg (by simp)]
      congr 1
      refine List.filter_congr fun z hz => ?_
      have hzx : z ≠ x := fun e => hx (e ▸ hz)
      congr 1
      rw [Bool.eq_iff_iff, List.contains_iff_mem, List.contains_iff_mem]
      exact (hmem z hzx).trans ⟨fun h => .tail _ h, fun h => by
        rcases List.mem_cons.mp h with e | h
        · exact absurd e hzx
        · exact h⟩
theorem sld_same : ∀ (n : Nat) (xs ys : List Str), xs.length + ys.length ≤ n → xs.Nodup → ys.Nodup → (xs.Pairwise fun a b => lt b a = false) → (ys.Pairwise fun a b => lt b a = false) →
    (sldR lt (fun a b => decide (a = b)) xs ys = ([], []) ↔ xs = ys)
  | n, [], ys, _, _, _, _, _ => by
    rw [sldR_nil]
    simp [eq_comm]
  | n, x :: xs, [], _, _, _, _, _ => by rw [sldR_nil']; simp
  | 0, x :: xs, y :: ys, hl, _, _, _, _ => by simp at hl
  | n + 1, x :: xs, y :: ys, hl, n1, n2, h1, h2 => by
    simp only [List.length_cons] at hl
    rw [sldR]
    cases c : lt x y with
    | true =>
      rw [if_pos rfl]
      refine ⟨fun h => by simp at h, fun h => ?_⟩
      injection h with e _
      rw [e, O.irr] at c; cases c
    | false =>
      rw [if_neg (by decide)]
      cases d : lt y x with
      | true =>
        rw [if_pos rfl]
        refine ⟨fun h => by simp at h, fun h => ?_⟩
        injection h with e _
        rw [e, O.irr] at d; cases d
      | false =>
        rw [if_neg (by decide)]
        have e := tri x y c d
        subst e
        rw [drop_head O tri (List.nodup_cons.mp n1).1, drop_head O tri (List.nodup_cons.mp n2).1]
        rw [sld_same n xs ys (by omega) (List.nodup_cons.mp n1).2 (List.nodup_cons.mp n2).2 (List.pairwise_cons.mp h1).2 (List.pairwise_cons.mp h2).2]
        simp
end
theorem dir_len {p : List Str} (h : p ≠ []) (hn : ∀ x ∈ p, Nm x) (hz : (pth p).length ≤ 1000) : (dirS (pth p)).length ≤ 1000 := by
  have e := snoc_of h
  by_cases q : p.dropLast = []
  · rw [q] at e
    have : dirS (pth p) = sep := by
      rw [e]
      exact dir_one (hn _ (tl_mem h))
    rw [this]
    decide
  · have e2 := snoc_of q
    have hq : ∀ x ∈ p.dropLast, Nm x := fun x hx => hn x (List.dropLast_subset _ hx)
    have hd : dirS (pth p) = pth p.dropLast := by
      have := dir_pth p.dropLast.dropLast (hq _ (tl_mem q)) (hn _ (tl_mem h))
      rw [← e2, ← e] at this
      exact this
    rw [hd]
    have h1 : (pth p).cps.toList.length = (pthL p.dropLast).length + (47 :: (tl p).cps.toList).length := by
      rw [pth_toList]
      conv => lhs; rw [e]
      rw [pthL_snoc, List.length_append]
    rw [len_toList] at hz ⊢
    rw [h1] at hz
    rw [pth_toList]
    omega
theorem OkP.dir_len {ps : List (List Str)} (h : OkP ps) : ∀ x ∈ ps.map pth, x.length ≤ 1000 ∧ (dirS x).length ≤ 1000 := fun x hx => by
  obtain ⟨p, hp, rfl⟩ := List.mem_map.mp hx
  exact ⟨h.sz p hp, Mine.dir_len (h.ne p hp) (h.nm p hp) (h.sz p hp)⟩
theorem ups_count : ∀ {ps : List (List Str)}, ps.Nodup → (∀ p ∈ ps, p ≠ []) → (∀ p ∈ ps, ∀ x ∈ p, Nm x) → (∀ p ∈ ps, ∀ q ∈ ps, p.length = 1 → q.length = 1 → p = q) → ps.length ≤ ((ps.map up).filter fun x => decide (x ≠ ⟨#[]⟩)).length + 1
  | [], _, _, _, _ => Nat.zero_le _
  | p :: ps, hnd, hne, hnm, hrt => by
    obtain ⟨hp, hnd'⟩ := List.nodup_cons.mp hnd
    rw [List.map_cons, List.filter_cons]
    by_cases c : up p = ⟨#[]⟩
    · have h1 := (up_nil (hne p (.head _)) (hnm p (.head _))).mp c
      have : ((ps.map up).filter fun x => decide (x ≠ ⟨#[]⟩)) = ps.map up := List.filter_eq_self.mpr fun x hx => by
        obtain ⟨q, hq, rfl⟩ := List.mem_map.mp hx
        refine decide_eq_true fun e => hp ?_
        have h2 := (up_nil (hne q (.tail _ hq)) (hnm q (.tail _ hq))).mp e
        rw [hrt p (.head _) q (.tail _ hq) h1 h2]
        exact hq
      rw [if_neg (by simp [c]), this, List.length_map, List.length_cons]
      exact Nat.le_refl _
    · rw [if_pos (decide_eq_true c), List.length_cons, List.length_cons]
      have := ups_count hnd' (fun q hq => hne q (.tail _ hq)) (fun q hq => hnm q (.tail _ hq)) fun q hq q' hq' => hrt q (.tail _ hq) q' (.tail _ hq')
      omega
theorem OkP.nodup {ps : List (List Str)} (h : OkP ps) : ps.Nodup := by
  have h1 := h.nd
  exact List.Pairwise.of_map tl (fun a b hab e => hab (by rw [e])) h1
theorem OkP.ups {ps : List (List Str)} (h : OkP ps) : ps.length ≤ ((ps.map up).filter fun x => decide (x ≠ ⟨#[]⟩)).length + 1 := ups_count h.nodup h.ne h.nm h.rt
theorem OkP.sub {ps : List (List Str)} (h : OkP ps) : ∀ x ∈ (ps.map up).filter (fun x => decide (x ≠ ⟨#[]⟩)), x ∈ ps.map tl := fun x hx => by
  obtain ⟨hm, hne⟩ := List.mem_filter.mp hx
  rw [decide_eq_true_eq] at hne
  obtain ⟨p, hp, rfl⟩ := List.mem_map.mp hm
  have h1 := up_nil (h.ne p hp) (h.nm p hp)
  have h2 := List.length_pos_iff.mpr (h.ne p hp)
  have : 2 ≤ p.length := by
    rcases Nat.lt_or_ge p.length 2 with c | c
    · exact absurd (h1.mpr (by omega)) hne
    · exact c
  exact List.mem_map_of_mem (f := tl) (h.cl p hp this)
end PartPe

section PartPk0
noncomputable def DoesY (f : Addr) (kd ku : Nat) (vs : List Value) (P1 : Addr) (o1 : Obj) (Post : Value → (Addr → Prop) → Heap → Prop) : Prop :=
  ∀ (w : World) (mean : ExcName → Option Value) (mg mb : Str → Option Value) (dp un : Nat) (gd : Option (List Code)) (cn : Str) (cs : Scope) (L a : Addr) (ccd : Value) (cl : List (Str × Addr)) (outer : List Env)
    (hb : Heap) (frs : List (Addr × Obj)) (s : Shared) (Q E : Value → Shared → Prop),
    Frs (envX cn cs L a ccd cl :: outer) frs → (∀ p ∈ frs, s.heap.get? p.1 = some p.2 ∧ hb.get? p.1 = none) → s.heap.get? P1 = some o1 → hb.get? P1 = none → (∀ p ∈ frs, p.1 ≠ P1) → hb.StaysIn s.heap → hb.objs.size ≤ s.heap.objs.size → (hd.heap_39 w.params).In hb → Tp mean mg mb hb →
    dp + kd < recursionLimit → un + ku < cLine →
    (∀ r h' tk' frs', SameUp frs frs' → Frs (envX cn cs L a ccd cl :: outer) frs' → (∀ p ∈ frs', h'.get? p.1 = some p.2) → hb.StaysIn h' → Post r (fun D => hb.get? D = none ∧ ∀ p ∈ frs, p.1 ≠ D) h' → Q r { s with heap := h', toks := tk' }) →
    wpAny (model PySem.Challenge.rw_il0061_01.row.prog w) (ktrTop dp un gd cn cs L a ccd cl outer) (call (.ref f) vs) Q E s
noncomputable abbrev belowP (h : Heap) (L P1 : Addr) (frs : List (Addr × Obj)) : Heap := hideAll h (L :: P1 :: frs.map (·.1))
theorem DoesY.use {f : Addr} {kd ku : Nat} {vs : List Value} {P1 : Addr} {o1 : Obj} {Post : Value → (Addr → Prop) → Heap → Prop} (D : DoesY f kd ku vs P1 o1 Post)
    {w : World} {mean : ExcName → Option Value} {mg mb : Str → Option Value} {dp un : Nat} {gd : Option (List Code)} {cn : Str} {cs : Scope} {a : Addr} {ccd : Value} {cl : List (Str × Addr)} {outer : List Env}
    {h₀ : Heap} {L : Addr} {m : Str → Option Value} {s : Shared} {Q E : Value → Shared → Prop} {new frs : List (Addr × Obj)}
    (F : Fr h₀ L s.heap m) (X : (hd.heap_39 w.params).In h₀) (N : News h₀ L s.heap ((P1, o1) :: (new ++ frs))) (T : Tp mean mg mb h₀) (Fs : Frs outer frs) (hap : ∀ p ∈ new, p.1 ≠ P1 ∧ ∀ q ∈ frs, q.1 ≠ p.1) (hap1 : ∀ q ∈ frs, q.1 ≠ P1) (hk : cs.kind = .function) (hd : dp + kd < recursionLimit) (hu : un + ku < cLine)
    (h : ∀ r h' tk' frs', SameUp frs frs' → Frs outer frs' → Fr h₀ L h' m → News h₀ L h' (new ++ frs') →
      Post r (fun D => h₀.get? D = none ∧ (∀ p ∈ new, p.1 ≠ D) ∧ (∀ p ∈ frs, p.1 ≠ D) ∧ D ≠ L) h' → Q r { s with heap := h', toks := tk' }) 
    (hpost : ∀ r f g h', (∀ D, f D → g D) → Post r f h' → Post r g h') :
    wpAny (model PySem.Challenge.rw_il0061_01.row.prog w) (ktrTop dp un gd cn cs L a ccd cl outer) (call (.ref f) vs) Q E s := by
  refine hide fun hGoal => ?_
  obtain ⟨oL, es, ep, hL, hLd, hLk, hLf⟩ := F.ns
  refine hGoal ?_
  clear hGoal
  have Nf : ∀ p ∈ frs, s.heap.get? p.1 = some p.2 ∧ p.1 ≠ L ∧ h₀.get? p.1 = none := fun p hp => N p (.tail _ (List.mem_append_right _ hp))
  have Nn : ∀ p ∈ new, s.heap.get? p.1 = some p.2 ∧ p.1 ≠ L ∧ h₀.get? p.1 = none := fun p hp => N p (.tail _ (List.mem_append_left _ hp))
  have N1 := N _ (.head _)
  have nlt : ∀ b o, h₀.get? b = some o → b ≠ L := fun b o e q => by
    have := Heap.lt_size e
    rw [q] at this
    exact absurd (Nat.lt_of_lt_of_le this F.above) (Nat.lt_irrefl _)
  have get : ∀ b o, s.heap.get? b = some o → b ≠ L → b ≠ P1 → (∀ p ∈ frs, p.1 ≠ b) → (belowP s.heap L P1 frs).get? b = some o := fun b o e h1 h2 h3 => hideAll_get _ e fun q => by
    rcases List.mem_cons.mp q with q | q
    · exact h1 q
    · rcases List.mem_cons.mp q with q | q
      · exact h2 q
      · refine hide fun hGoal => ?_
        obtain ⟨p, hp, e⟩ := List.mem_map.mp q
        refine hGoal ?_
        clear hGoal
        exact h3 p hp e
  have k0 : h₀.StaysIn (belowP s.heap L P1 frs) := fun b o e => get b o (F.keep b o e) (nlt b o e) (fun q => by rw [q, N1.2.2] at e; cases e) fun p hp q => by rw [← q, (Nf p hp).2.2] at e; cases e
  have knew : ∀ p ∈ new, (belowP s.heap L P1 frs).get? p.1 = some p.2 := fun p hp => get _ _ (Nn p hp).1 (Nn p hp).2.1 (hap p hp).1 (hap p hp).2
  refine D w mean mg mb dp un gd cn cs L a ccd cl outer (belowP s.heap L P1 frs) ((L, oL) :: frs) s Q E ⟨?_, rfl, ⟨es, ep, hLd⟩, Fs⟩ (fun p hp => ?_) N1.1 (hideAll_none _ (.tail _ (.head _))) (fun p hp => ?_) (fun b o e => of_hideAll _ e) (by rw [hideAll_size]; exact Nat.le_refl _) (X.keeps k0) (T.keeps k0) hd hu ?_
  · show cs.kind ≠ .module
    rw [hk]; decide
  · rcases List.mem_cons.mp hp with rfl | hp
    · exact ⟨hL, hideAll_none _ (.head _)⟩
    · exact ⟨(Nf p hp).1, hideAll_none _ (.tail _ (.tail _ (List.mem_map_of_mem hp)))⟩
  · rcases List.mem_cons.mp hp with rfl | hp
    · exact Ne.symm N1.2.1
    · exact hap1 p hp
  · intro r h' tk' frs2 su Fs2 hfr2 st2 post
    match frs2, su, Fs2 with
    | (L2, oL2) :: frs', ⟨e1, ⟨sl, e2⟩, su'⟩, ⟨_, _, _, Fs'⟩ =>
      dsimp only at e1 e2
      subst e1 e2
      have F' : Fr h₀ L2 h' m := ⟨⟨_, es, ep, hfr2 _ (.head _), hLd, hLk, hLf⟩, fun b o e => st2 b o (k0 b o e), F.above⟩
      refine h r h' tk' frs' su' Fs' F' (fun p hp => ?_) (hpost _ _ _ _ (fun D hD => ⟨?_, fun p hp q => ?_, fun p hp => hD.2 p (.tail _ hp), fun q => hD.2 _ (.head _) q.symm⟩) post)
      · rcases List.mem_append.mp hp with hp | hp
        · exact ⟨st2 _ _ (knew p hp), (Nn p hp).2⟩
        · refine hide fun hGoal => ?_
          obtain ⟨x, hx, e⟩ := SameUp.fwd su' p hp
          refine hGoal ?_
          clear hGoal
          have := (Nf x hx).2
          exact ⟨hfr2 p (.tail _ hp), by rw [e]; exact this⟩
      · cases q : h₀.get? D with
        | none => rfl
        | some o => have := k0 D o q; rw [hD.1] at this; cases this
      · have := knew p hp
        rw [q, hD.1] at this; cases this
section
variable {prog : Program} {w : World} {A : Around} {E : Value → Shared → Prop} {env : Env} {s : Shared} {h₀ : Heap} {m : Str → Option Value} {news : List (Addr × Obj)}
  {scope : Scope} {cl : List (Str × Addr)} {x : Str} {ifs : List Expr} {elt : Expr}
structure TurnV (prog : Program) (w : World) (A : Around) (env : Env) (scope : Scope) (cl : List (Str × Addr)) (x : Str) (ifs : List Expr) (elt : Expr) (h₀ : Heap) (m : Str → Option Value) (news : List (Addr × Obj))
    (Pv : Value → Prop) (p : Value → Bool) (F : Value → Value → List (Addr × Obj) → Prop) : Prop where
  tests : ∀ g C rest v s₃ m₃ E', Pv v → h₀.StaysIn g → Fr g C s₃.heap m₃ → m₃ x = some v → News g C s₃.heap (news ++ rest) →
    wpAny (model prog w) A (testsOf ifs (compEnvC scope cl C env)) (TestEnd g C m₃ (news ++ rest) s₃ (p v)) E' s₃
  elt : ∀ g C rest v s₃ m₃ E', Pv v → p v = true → h₀.StaysIn g → Fr h₀ env.locals s₃.heap m → News h₀ env.locals s₃.heap news → Fr g C s₃.heap m₃ → m₃ x = some v → News g C s₃.heap (news ++ rest) →
    wpAny (model prog w) A (eval elt (compEnvC scope cl C env)) (EltEnd g C m₃ (news ++ rest) s₃ (F v)) E' s₃
theorem turn_ofV {H : Heap} {Pv : Value → Prop} {p : Value → Bool} {F : Value → Value → List (Addr × Obj) → Prop} (Fm : Fr h₀ env.locals H m) (N : News h₀ env.locals H news) (T : TurnV prog w A env scope cl x ifs elt h₀ m news Pv p F) :
    Turn prog w A env scope cl x ifs elt h₀ m news H Pv p F := by
  refine ⟨fun C v s₃ m₃ E' hv F₃ hm Fm₃ N₃ => ?_, fun C v s₃ m₃ E' hv hp F₃ hm Fm₃ N₃ => ?_⟩
  · refine hide fun hGoal => ?_
    obtain ⟨g, rest, st, Fg, Ng, all⟩ := ground_c F₃ Fm N N₃
    refine hGoal ?_
    clear hGoal
    refine wpAny_mono (T.tests g C rest v s₃ m₃ E' hv st Fg hm Ng) (fun ok s₄ h => ?_) fun _ _ e => e
    refine hide fun hGoal => ?_
    obtain ⟨rfl, h, tk, led', rfl, Fh, Nh, sub⟩ := h
    refine hGoal ?_
    clear hGoal
    refine ⟨rfl, h, tk, rfl, fun b o hbC e => ?_, Fh.ns⟩
    rcases all b o hbC e with e' | e'
    · exact Fh.keep b o e'
    · exact (Nh _ (sub _ e')).1
  · refine hide fun hGoal => ?_
    obtain ⟨g, rest, st, Fg, Ng, all⟩ := ground_c F₃ Fm N N₃
    refine hGoal ?_
    clear hGoal
    refine wpAny_mono (T.elt g C rest v s₃ m₃ E' hv hp st Fm₃ N₃ Fg hm Ng) (fun y s₄ h => ?_) fun _ _ e => e
    refine hide fun hGoal => ?_
    obtain ⟨h, tk, own, rfl, Fh, Nh, off, hF⟩ := h
    refine hGoal ?_
    clear hGoal
    refine ⟨⟨h, tk, rfl, fun b o hbC e => ?_, Fh.ns⟩, own, hF, fun q hq => ⟨?_, (Nh _ (List.mem_append_left _ hq)).1⟩⟩
    · rcases all b o hbC e with e' | e'
      · exact Fh.keep b o e'
      · exact (Nh _ (List.mem_append_right _ e')).1
    · cases r : s₃.heap.get? q.1 with
      | none => rfl
      | some o =>
        have n := Nh _ (List.mem_append_left _ hq)
        rcases all q.1 o n.2.1 r with e' | e'
        · rw [n.2.2] at e'; cases e'
        · exact (off q hq (q.1, o) e' rfl).elim
end
theorem assign_plain {prog : Program} {w : World} {A : Around} {E : Value → Shared → Prop} {env : Env} {s : Shared} {x : Str} {py pos : Pos} {value : Expr} {Q : Flow → Shared → Prop} (hs : swapsWith value (some (.Name x py)) pos.line env = pure false)
    (h : wpAny (model prog w) A (eval value env) (fun v s₁ => wpAny (model prog w) A (assign (.Name x py) env v) (fun _ s₂ => Q .next s₂) E s₁) E s) : wpAny (model prog w) A (exec (.Assign [.Name x py] value pos) env) Q E s := by
  rw [PySem.exec_Assign_Name env x py value pos hs]
  refine wpAny_bind (wpAny_standAt (wpAny_bind (wpAny_mono h (fun v s₁ h₁ => ?_) fun _ _ e => e)))
  rw [arm_assign_Name] at h₁
  have e : (do standAt py; bindName env x v; pure Flow.next : Sem Flow) = ((do standAt py; bindName env x v) >>= fun _ => pure .next) := by simp
  rw [e]
  exact wpAny_bind (wpAny_mono h₁ (fun _ _ q => wpAny_pure q) fun _ _ e => e)
theorem cell_put {prog : Program} {w : World} {A : Around} {E : Value → Shared → Prop} {env : Env} {s : Shared} {h₀ : Heap} {m : Str → Option Value} {own rest : List (Addr × Obj)} {c : Addr} {oc : Obj} {v : Value} {v₀ : Option Value} {y : Str} {Q : Unit → Shared → Prop}
    (F : Fr h₀ env.locals s.heap m) (N : News h₀ env.locals s.heap (own ++ (c, oc) :: rest)) (hown : ∀ p ∈ own, p.1 ≠ c) (hap : ∀ p ∈ rest, p.1 ≠ c) (hk : env.scope.kind = .function) (hy : env.kindOf y = some .cell) (hc : env.cells.lookup y = some c) (hd : oc.data = .cell v₀)
    (h : ∀ h' o', Fr h₀ env.locals h' m → News h₀ env.locals h' (own ++ (c, o') :: rest) → o'.data = .cell (some v) → Q () { s with heap := h' }) : wpAny (model prog w) A (storeName env y v) Q E s := by
  have z := N _ (List.mem_append_right own (.head _))
  refine wpAny_storeName_cell hk hy hc ⟨oc, z.1, hd⟩ fun h₂ hv hs₂ => ?_
  refine hide fun hGoal => ?_
  obtain ⟨o', ho', hd'⟩ := hv
  refine hGoal ?_
  clear hGoal
  exact h h₂ o' (F.change hs₂ z.2.1 z.2.2) (N.setIn hown hap hs₂ ho') hd'
theorem sorted_K' {prog : Program} {w : World} {A : Around} {E : Value → Shared → Prop} {s : Shared} {h₀ : Heap} {L : Addr} {m : Str → Option Value} {news own : List (Addr × Obj)} {vs : List Value} {xs : List Str} {l : Addr} {Q : Value → Shared → Prop}
    (F : Fr h₀ L s.heap m) (N : News h₀ L s.heap news) (ho : ∀ p ∈ own, p ∈ news) (hl : s.heap.IsList l vs.toArray) (hr : Reps (InT own) vs xs) (h1 : 1 ≤ xs.length) (h64 : xs.length < 64)
    (h : ∀ D c h' ys us, Fr h₀ L h' m → News h₀ L h' ((D, listOf us.toArray c) :: news) → (∀ q ∈ news, @LT.lt Nat _ q.1 D) → Reps (InT own) us ys → ys.Perm xs → (ys.Pairwise fun a b => ltK b a = false) → us.length = vs.length → Q (.ref D) { s with heap := h' }) :
    wpAny (model prog w) A (call (.builtin "sorted") [.ref l]) Q E s := by
  by_cases h2 : 2 ≤ xs.length
  · exact sorted_K F N ho hl hr h2 h64 h
  · have hv : vs.length = 1 := by rw [hr.1]; omega
    match vs, hv with
    | [v], _ =>
      refine sorted_1 F N hl fun D c h' F' N' lt => h D c h' xs [v] F' N' lt hr (.refl _) ?_ rfl
      match xs, h1, h2 with
      | [x], _, _ => simp
      | _ :: _ :: _, _, h2 => exact absurd (by simp) h2
theorem all_eq_G {α : Type} [DecidableEq α] (d : α) {xs ys : List α} (hl : xs.length = ys.length) : ((List.range xs.length).all fun j => decide (xs.getD j d = ys.getD j d)) = decide (xs = ys) := by
  by_cases e : xs = ys
  · subst e; simp
  · rw [decide_eq_false e]
    cases q : (List.range xs.length).all fun j => decide (xs.getD j d = ys.getD j d) with
    | false => rfl
    | true =>
      exfalso
      apply e
      rw [List.all_eq_true] at q
      refine List.ext_getElem hl fun j h1 h2 => ?_
      have := q j (List.mem_range.mpr h1)
      rw [decide_eq_true_eq, List.getD_eq_getElem?_getD, List.getD_eq_getElem?_getD, List.getElem?_eq_getElem h1, List.getElem?_eq_getElem h2] at this
      exact this
section
open PySem.SeqAt
variable {α : Type} [DecidableEq α] {prog : Program} {w : World} {A : Around} {E : Value → Shared → Prop} {s : Shared} {vs us : List Value} {xs ys : List α}
theorem lists_neG (d : α) {R : Value → α → Prop} {l b : Addr} {Q : Value → Shared → Prop} (hl : s.heap.IsList l vs.toArray) (hb : s.heap.IsList b us.toArray) (r1 : Reps R vs xs) (r2 : Reps R us ys) (hu : A.units < cLine)
    (he : ∀ v x v' y, R v x → R v' y → EqAt A.in1 s v v' (decide (x = y))) (h : Q (.bool (!decide (xs = ys))) s) : wpAny (model prog w) A (compareOp .NotEq (.ref l) (.ref b)) Q E s := by
  by_cases hz : xs.length = ys.length
  · have := RcNeAt.lists (A := A) (s := s) (l := l) (b := b) (e := fun j => decide (xs.getD j d = ys.getD j d)) hl hb (by rw [List.size_toArray, List.size_toArray, r1.1, r2.1, hz]) hu fun j h1 h2 => by
      rw [List.size_toArray] at h1 h2
      have a := r1.getD (i := j) (by rw [← r1.1]; exact h1) d
      have b := r2.getD (i := j) (by rw [← r2.1]; exact h2) d
      have e1 : vs.toArray[j] = vs.getD j Value.none := by
        have := a.1
        rw [List.getElem?_eq_getElem h1] at this
        simpa using Option.some.inj this
      have e2 : us.toArray[j] = us.getD j Value.none := by
        have := b.1
        rw [List.getElem?_eq_getElem h2] at this
        simpa using Option.some.inj this
      rw [e1, e2]
      exact he _ _ _ _ a.2.2 b.2.2
    rw [List.size_toArray, r1.1, all_eq_G d hz] at this
    exact this prog w E Q h
  · have := RcNeAt.lists_lengths (A := A) (s := s) (l := l) (b := b) hl hb (by rw [List.size_toArray, List.size_toArray, r1.1, r2.1]; simpa using hz) hu
    rw [decide_eq_false (fun e => hz (by rw [e]))] at h
    exact this prog w E Q h
theorem lists_eqG (d : α) {R : Value → α → Prop} {l b : Addr} {Q : Value → Shared → Prop} (hl : s.heap.IsList l vs.toArray) (hb : s.heap.IsList b us.toArray) (r1 : Reps R vs xs) (r2 : Reps R us ys) (hu : A.units < cLine)
    (he : ∀ v x v' y, R v x → R v' y → EqAt A.in1 s v v' (decide (x = y))) (h : Q (.bool (decide (xs = ys))) s) : wpAny (model prog w) A (compareOp .Eq (.ref l) (.ref b)) Q E s := by
  by_cases hz : xs.length = ys.length
  · have := RcAt.lists (A := A) (s := s) (l := l) (b := b) (e := fun j => decide (xs.getD j d = ys.getD j d)) hl hb (by rw [List.size_toArray, List.size_toArray, r1.1, r2.1, hz]) hu fun j h1 h2 => by
      rw [List.size_toArray] at h1 h2
      have a := r1.getD (i := j) (by rw [← r1.1]; exact h1) d
      have b := r2.getD (i := j) (by rw [← r2.1]; exact h2) d
      have e1 : vs.toArray[j] = vs.getD j Value.none := by
        have := a.1
        rw [List.getElem?_eq_getElem h1] at this
        simpa using Option.some.inj this
      have e2 : us.toArray[j] = us.getD j Value.none := by
        have := b.1
        rw [List.getElem?_eq_getElem h2] at this
        simpa using Option.some.inj this
      rw [e1, e2]
      exact he _ _ _ _ a.2.2 b.2.2
    rw [List.size_toArray, r1.1, all_eq_G d hz] at this
    exact this prog w E Q h
  · have := RcAt.lists_lengths (A := A) (s := s) (l := l) (b := b) hl hb (by rw [List.size_toArray, List.size_toArray, r1.1, r2.1]; simpa using hz) hu
    rw [decide_eq_false (fun e => hz (by rw [e]))] at h
    exact this prog w E Q h
end
noncomputable def RI (v : Value) (k : Int) : Prop := ∃ t, v = .int k t
theorem RI_eq {A : Around} {s : Shared} (v : Value) (x : Int) (v' : Value) (y : Int) (h : RI v x) (h' : RI v' y) : PySem.SeqAt.EqAt A s v v' (decide (x = y)) := by
  refine hide fun hGoal => ?_
  obtain ⟨t, rfl⟩ := h
  refine hGoal ?_
  clear hGoal
  refine hide fun hGoal => ?_
  obtain ⟨u, rfl⟩ := h'
  refine hGoal ?_
  clear hGoal
  exact (eqI x y t u).at _ _
theorem InT.inj {h₀ : Heap} {L : Addr} {h : Heap} {own : List (Addr × Obj)} {v : Value} {x y : Str} (N : News h₀ L h own) (h1 : InT own v x) (h2 : InT own v y) : x = y := by
  refine hide fun hGoal => ?_
  obtain ⟨D, t, u, rfl, m1⟩ := h1
  refine hGoal ?_
  clear hGoal
  refine hide fun hGoal => ?_
  obtain ⟨D', t', u', e, m2⟩ := h2
  refine hGoal ?_
  clear hGoal
  obtain rfl : D = D' := by injection e
  have e1 := Option.some.inj ((N _ m1).1.symm.trans (N _ m2).1)
  unfold tupK at e1
  injection e1 with _ _ h3
  injection h3 with h3
  have h4 := congrArg (fun a : Array Value => a.toList) h3
  simp at h4
  exact h4.2.1
theorem fold_rep (v : Value) : ∀ (k : Nat) (acc : Array Value), List.foldl (fun x1 x2 => x1 ++ x2) acc (List.replicate k #[v]) = acc ++ (List.replicate k v).toArray
  | 0, acc => by simp
  | k + 1, acc => by
    rw [List.replicate_succ, List.foldl_cons, fold_rep v k, List.replicate_succ]
    apply Array.toList_inj.mp
    simp
theorem reps_rep {α : Type} {R : Value → α → Prop} {v : Value} {x : α} (h : R v x) : ∀ k, Reps R (List.replicate k v) (List.replicate k x)
  | 0 => Reps.nil
  | k + 1 => Reps.cons h (reps_rep h k)
section
variable {prog : Program} {w : World} {A : Around} {E : Value → Shared → Prop} {s : Shared} {h₀ : Heap} {L : Addr} {m : Str → Option Value} {news : List (Addr × Obj)}
theorem mul_own {l : Addr} {v : Value} {k n : Nat} {x : Int} {u : Tok} {Q : Value → Shared → Prop} (F : Fr h₀ L s.heap m) (N : News h₀ L s.heap news) (hl : s.heap.get? l = some (listOf #[v] k)) (hx : x = (n : Int)) (hn : n < 1000)
    (h : ∀ D h', Fr h₀ L h' m → News h₀ L h' ((D, listOf (List.replicate n v).toArray 0) :: news) → (∀ q ∈ news, @LT.lt Nat _ q.1 D) → Q (.ref D) { s with heap := h' }) : wpAny (model prog w) A (binaryOp .Mult (.ref l) (.int x u)) Q E s := by
  subst hx
  refine mul_list F N hl (by omega) (by omega) (by show 1 * _ ≤ _; rw [Int.toNat_natCast]; omega) fun h' F' N' => h _ h' F' ?_ fun q hq => Heap.lt_size (N q hq).1
  rw [show (if (#[v] : Array Value).isEmpty = true then 0 else ((n : Int)).toNat) = n from by rw [if_neg (by simp)]; simp, fold_rep, show (#[] : Array Value) ++ (List.replicate n v).toArray = (List.replicate n v).toArray from by simp] at N'
  exact N'
theorem add_own {l b : Addr} {vs ws : List Value} {Q : Value → Shared → Prop} (F : Fr h₀ L s.heap m) (N : News h₀ L s.heap news) (hl : s.heap.IsList l vs.toArray) (hb : s.heap.IsList b ws.toArray) (hsz : vs.length + ws.length < 1000)
    (h : ∀ D h', Fr h₀ L h' m → News h₀ L h' ((D, listOf (vs ++ ws).toArray 0) :: news) → (∀ q ∈ news, @LT.lt Nat _ q.1 D) → Q (.ref D) { s with heap := h' }) : wpAny (model prog w) A (binaryOp .Add (.ref l) (.ref b)) Q E s :=
  add_lists F N hl hb (fun h' F' N' => h _ h' F' N' fun q hq => Heap.lt_size (N q hq).1) (by rw [sizeLine_eq]; omega)
end
section
variable {prog : Program} {w : World} {A : Around} {E : Value → Shared → Prop} {s : Shared} {h₀ : Heap} {L : Addr} {m : Str → Option Value} {own rest : List (Addr × Obj)}
theorem index_S {l : Addr} {vs : List Value} {xs : List Str} {n j : Nat} {k : Str} {t : Tok} {Q : Value → Shared → Prop} (hl : s.heap.get? l = some (listOf vs.toArray n)) (hr : Reps RS vs xs) (hj : xs[j]? = some k) (hno : ∀ i x, i < j → xs[i]? = some x → x ≠ k) (hsz : vs.length < 1000)
    (h : ∀ t' tk, Q (.int (j : Nat) t') { s with toks := tk }) : wpAny (model prog w) A (call (.builtin "list.index") [.ref l, .str k t]) Q E s := by
  refine hide fun hGoal => ?_
  obtain ⟨v, hv, t', rfl⟩ := hr.at hj
  refine hGoal ?_
  clear hGoal
  have hjl : j < vs.length := (List.getElem?_eq_some_iff.mp hv).1
  refine call_meets PySem.F.slot_list_index ⟨_, hl, rfl⟩ PySem.F.entry_list_index (PySem.F.args_list_index_2 _ _) (PySem.SeqAt.list_indexAt l vs.toArray n none #[] (.str k t) (isStrOf k) j (by rw [List.size_toArray]; exact hjl) (by omega) ?_ fun i hi hij => ?_) ⟨hl, fun y hy => ?_, h _ _⟩
  · have e : vs.toArray[j] = .str k t' := by
      rw [List.getElem?_eq_getElem hjl] at hv
      simpa using Option.some.inj hv
    rw [e]
    simp [isStrOf]
  · rw [List.size_toArray] at hi
    have e1 : vs[i]? = some vs[i] := List.getElem?_eq_getElem hi
    refine hide fun hGoal => ?_
    obtain ⟨x, hx, tx, ex⟩ := hr.get e1
    refine hGoal ?_
    clear hGoal
    have e : vs.toArray[i] = .str x tx := by simpa using ex
    rw [e]
    have := hno i x hij hx
    show isStrOf k (.str x tx) = false
    simpa [isStrOf] using this
  · exact (eq_isStrOf _ _ hr.strs y (by simpa using hy)).at _ _
theorem append_in {D : Addr} {ys : List Value} {n : Nat} {x : Value} {Q : Value → Shared → Prop} (F : Fr h₀ L s.heap m) (N : News h₀ L s.heap (own ++ (D, listOf ys.toArray n) :: rest)) (hown : ∀ p ∈ own, p.1 ≠ D) (hap : ∀ p ∈ rest, p.1 ≠ D) (hsz : ys.length < 1000)
    (h : ∀ h' n', Fr h₀ L h' m → News h₀ L h' (own ++ (D, listOf (ys ++ [x]).toArray n') :: rest) → Q .none { s with heap := h' }) : wpAny (model prog w) A (call (.builtin "list.append") [.ref D, x]) Q E s := by
  have z := N _ (List.mem_append_right own (.head _))
  refine wpAny_list_append_plain (items := ys.toArray) (hsz := by rw [List.size_toArray, sizeLine_eq]; omega) ⟨_, z.1⟩ fun h' hpl hs => ?_
  refine hide fun hGoal => ?_
  obtain ⟨n', hn'⟩ := hpl
  refine hGoal ?_
  clear hGoal
  have e : ys.toArray.push x = (ys ++ [x]).toArray := by simp
  rw [e] at hn'
  exact h h' n' (F.change hs z.2.1 z.2.2) (N.setIn hown hap hs hn')
end
noncomputable def Hid (P : Prop) : Prop := P
end PartPk0

local macro_rules | `(tactic| walk_at "mine pad 4") => `(tactic| skip)
section PartPk
local macro_rules
  | `(tactic| walk_at $k:str) => if ["subscriptTail Name Slice ref ref", "call ref", "call builtin:list.index", "call builtin:list.append", "binaryOp Mult ref int", "binaryOp Add ref ref", "subscriptTail Name Constant ref int", "subscriptTail Name Name ref int", "compareOp NotIn str ref", "compareOp NotEq ref ref", "exec While Compare cons nil", "exec Assign cons ListComp", "eval ListComp", "call builtin:sorted", "truthy ref"].contains k.getString then `(tactic| (refine hold_it ?_)) else Lean.Macro.throwUnsupported
noncomputable def TxtE (f : Str → Str) (v y : Value) (own : List (Addr × Obj)) : Prop := own = [] ∧ ∀ x, RS v x → RS y (f x)
noncomputable def TupE (v y : Value) (own : List (Addr × Obj)) : Prop := ∀ x, RS v x → ∃ D t u, y = Value.ref D ∧ own = [(D, tupK x t u)]
theorem off_one {D : Addr} {o : Obj} {led : List (Addr × Obj)} (h : AllLt D led) : ∀ q ∈ [(D, o)], ∀ r ∈ led, r.1 ≠ q.1 := fun q hq r hr => by
  rw [List.mem_singleton.mp hq]
  exact Nat.ne_of_lt (allLt_all h r hr)
theorem tup_here (x : Str) (D : Addr) (t u : Tok) : TupE (.str x u) (.ref D) [(D, tupK x t u)] := fun x' hx' => by
  refine hide fun hGoal => ?_
  obtain ⟨t', e'⟩ := hx'
  refine hGoal ?_
  clear hGoal
  refine hide fun hGoal => ?_
  obtain ⟨rfl, _⟩ := Value.str.inj e'
  refine hGoal ?_
  clear hGoal
  exact ⟨D, t, u, rfl, rfl⟩
noncomputable def PeelPost (ps₀ : List (List Str)) (v : Value) (fresh : Addr → Prop) (h : Heap) : Prop :=
  ∃ T A B us ws told ps' eA eB, v = Value.ref T ∧ h.get? T = some { cls := .type "tuple", data := .seq #[.ref A, .ref B] } ∧ h.get? A = some (W.listOf (List.toArray us) eA) ∧ h.get? B = some (W.listOf (List.toArray ws) eB) ∧
    Reps RS us told ∧ Reps RS ws (ps'.map pth) ∧ RunP ps₀ [] ps' told ∧ ps'.length ≤ 2 ∧ fresh T ∧ fresh A ∧ fresh B
noncomputable def PeelJ (outer : List Env) (hb : Heap) (frs₀ : List (Addr × Obj)) (ps₀ : List (List Str)) (Dt U B : Addr) (n : Nat) (m : Str → Option Value) (news : List (Addr × Obj)) : Prop :=
  ∃ Wd ws ew ts et oU oB frs' ps told, n = ps.length ∧ news = (Wd, W.listOf (List.toArray ws) ew) :: (Dt, W.listOf (List.toArray ts) et) :: (U, oU) :: (B, oB) :: frs' ∧ SameUp frs₀ frs' ∧ Frs outer frs' ∧
    m (Str.ofString "ways") = some (.ref Wd) ∧ m (Str.ofString "told") = some (.ref Dt) ∧ (∃ x, oU.data = .cell x) ∧ (∃ x, oB.data = .cell x) ∧ Reps RS ws (ps.map pth) ∧ Reps RS ts told ∧ OkP ps ∧ RunP ps₀ [] ps told ∧ ps.length + told.length ≤ 8 ∧
    (∀ q ∈ frs', q.1 ≠ Wd) ∧ @Ne Nat Wd U ∧ @Ne Nat Wd B ∧ @Ne Nat Wd Dt
set_option maxHeartbeats 8000000 in
theorem d_peel (P1 : Addr) (ws : List Value) (e1 : Nat) (ps : List (List Str)) (hw : Reps RS ws (ps.map pth)) (hok : OkP ps) (hn : ps.length ≤ 8) : DoesY 179 12 300 [.ref P1] P1 (W.listOf ws.toArray e1) (PeelPost ps) := by
  intro w mean mg mb dp un gd cn cs L a ccd cl outer hb frs s Q E Fs hfr hP1 hP0 hPf st hz X T hd hu hret
  have hfr' : ∀ p ∈ (P1, W.listOf ws.toArray e1) :: frs, s.heap.get? p.1 = some p.2 ∧ hb.get? p.1 = none := fun p hp => by
    rcases List.mem_cons.mp hp with rfl | hp
    · exact ⟨hP1, hP0⟩
    · exact hfr p hp
  k_dflt (refine' enterIC (frs := (P1, W.listOf ws.toArray e1) :: frs) (binds := [(Str.ofString "listing", .ref P1)]) hfr' st hz X T ?k6 ?k7 ?k8 ?k9 ?kB ?kD ?_ ?c2 ?c3 ?c4; (case k6 => k_is); (case k7 => k_is); (case k8 => (show dp < _; omega)); (case k9 => exact BindsTo.of_eq rfl); (case kB => exact rfl); (case kD => decide +kernel); (case c2 => exact rfl); (case c3 => exact rfl); (case c4 => exact rfl); k_whole)
  intro L' h₁ tk cells hlt F' N' Y'
  try dsimp only
  k_cells Y'
  (try simp only [List.cons_append, List.nil_append] at N')
  with_reducible show wpAny _ _ _ _ _ _
  k_fold
  k_steps
  rename_i o1 o2 c1 c2 h2 Dt h3 lt3 h4 F4 N4
  show wpAny _ _ _ _ _ _
  refine hide fun hGoal => ?_
  obtain ⟨lt3a, lt3b, lt3c, lt3d⟩ := lt3
  refine hGoal ?_
  clear hGoal
  have hPL : @LT.lt Nat _ P1 L' := hlt _ (.head _)
  have N5 : News hb L' h4 ((P1, W.listOf ws.toArray e1) :: (Dt, W.listOf #[] 0) :: (L' + 1, o2) :: (L' + 1 + 1, o1) :: frs) := News.perm N4 fun p hp => by
    simp only [List.mem_cons] at hp ⊢
    rcases hp with h | h | h | h | h
    · exact .inr (.inr (.inr (.inl h)))
    · exact .inl h
    · exact .inr (.inr (.inl h))
    · exact .inr (.inl h)
    · exact .inr (.inr (.inr (.inr h)))
  refine While_brk (n₀ := ps.length) (PeelJ (envX cn cs L a ccd cl :: outer) hb frs ps Dt (L' + 1) (L' + 1 + 1)) F4 N5 ⟨P1, ws, e1, [], 0, _, _, frs, ps, [], rfl, rfl, SameUp.refl frs, Fs, rfl, rfl, ⟨_, c2⟩, ⟨_, c1⟩, hw, Reps.nil, hok, .nil _ _, hn, hPf, Nat.ne_of_lt (Nat.lt_succ_of_lt hPL), Nat.ne_of_lt (Nat.lt_succ_of_lt (Nat.lt_succ_of_lt hPL)), Nat.ne_of_lt lt3c⟩ (fun n m₁ led h₅ tk₅ F N hJ => ?_)
  refine hide fun hGoal => ?_
  obtain ⟨W1, ws1, ew, ts, et, oU, oB, frs', ps1, told, rfl, rfl, su, Fs', mW, mT, ⟨xU, dU⟩, ⟨xB, dB⟩, hw1, hts, hok1, hrun, hn12, hWf, hWU, hWB, hWD⟩ := hJ
  refine hGoal ?_
  clear hGoal
  have hn1 : ps1.length ≤ 8 := by omega
  have hn2 : told.length ≤ 8 := by omega
  clear hw hok hn F4 N4 N5 hfr' hP1 hfr
  have hltf : ∀ q ∈ frs', @LT.lt Nat _ q.1 L' := fun q hq => by
    refine hide fun hGoal => ?_
    obtain ⟨p, hp, e⟩ := SameUp.fwd su q hq
    refine hGoal ?_
    clear hGoal
    rw [e]
    exact hlt p (.tail _ hp)
  have hwl : ws1.length = ps1.length := by rw [hw1.1, List.length_map]
  with_reducible show wpAny _ _ _ _ _ _
  k_fold
  k_steps
  rotate_left
  · rename_i hle tk6 T6 h6 F6 N6 lt6
    have hfr0 : ∀ D, (∀ p ∈ frs', p.1 ≠ D) → ∀ p ∈ frs, p.1 ≠ D := fun D k p hp => by
      refine hide fun hGoal => ?_
      obtain ⟨sl, hq⟩ := SameUp.back su p hp
      refine hGoal ?_
      clear hGoal
      have := k _ hq
      exact this
    refine hret _ h6 _ frs' su Fs' (fun p hp => (N6 p (.tail _ (.tail _ (.tail _ (.tail _ (.tail _ hp)))))).1) F6.keep ?_
    have n0 := N6 _ (.head _)
    have n1 := N6 _ (.tail _ (.head _))
    have n2 := N6 _ (.tail _ (.tail _ (.head _)))
    exact ⟨T6, Dt, W1, ts, ws1, told, ps1, et, ew, rfl, n0.1, n2.1, n1.1, hts, hw1, hrun, by omega, ⟨n0.2.2, hfr0 _ fun p hp => Nat.ne_of_lt (allLt_all lt6.2.2.2.2 p hp)⟩, ⟨n2.2.2, fun p hp => Nat.ne_of_lt (allLt_all lt3d p hp)⟩, ⟨n1.2.2, hfr0 _ hWf⟩⟩
  rename_i hgt tk6
  show wpAny _ _ _ _ _ _
  refine' comp_assign (cl := ?clA) ?h0 ?h1 ?h2 ?h3 ?h4 ?h5 ?h7 ?h8 ?h6 ?_
  case h0 => exact rfl
  case h1 => exact rfl
  case h2 => decide
  case h3 => rfl
  case h4 => decide
  case h5 => rfl
  case h6 => intro _; with_unfolding_all rfl
  case h7 => rfl
  case h8 => rfl
  k_steps
  show wpAny _ _ _ _ _ _
  have hls : Heap.IsList h₅ W1 ws1.toArray := News.isList N (.head _)
  refine' wpAny_pyIter_list ?hlx ?_
  case hlx => exact hls
  refine catA (Pv := fun v => ∃ x ∈ ps1.map pth, RS v x) (p := fun _ => true) (F := TxtE baseS) (src_list rfl hls) (by rw [sizeLine_eq, hwl]; omega) (fun j v hj => ?_) F N (turn_ofV F N ⟨?testsA, ?eltA⟩) (fun D7 e7 h7 tk7 tr F7 G => ?_)
  · obtain ⟨x, hx0, hx⟩ := hw1.get hj; exact ⟨x, List.mem_of_getElem? hx0, hx⟩
  case testsA =>
    intro g C rest v s₃ m₃ E' hv' st Fc hm Nc
    exact wpAny_pure ⟨rfl, _, _, _, rfl, Fc, Nc, fun q hq => hq⟩
  case eltA =>
    intro g C rest v s₃ m₃ E' hv' hpv st Fm Nm Fc hm Nc
    refine hide fun hGoal => ?_
    obtain ⟨x, hxm, tx, rfl⟩ := hv'
    refine hGoal ?_
    clear hGoal
    refine hide fun hGoal => ?_
    obtain ⟨hx1, hx2⟩ := hok1.dir_len x hxm
    refine hGoal ?_
    clear hGoal
    have Xg := X.keeps st
    have Tg := T.keeps st
    simp only [List.cons_append, List.nil_append] at Nc
    have HF : Hid (Fr hb L' s₃.heap m₁) := Fm
    have HN : Hid (News hb L' s₃.heap _) := Nm
    have HX : Hid ((Mine.hd.heap_39 w.params).In hb) := X
    have HT : Hid (Tp mean mg mb hb) := T
    clear F N X T Fm Nm
    with_reducible show wpAny _ _ _ _ _ _
    k_fold
    k_steps
    show wpAny _ _ _ _ _ _
    k_dflt (refine' Does.use (d_basename x tx hx1) ?k2 ?k3 ?k4 ?k5 ?k6 ?kd ?ku trivial ?_; (case k2 => exact HF); (case k3 => exact HX); (case k4 => exact HN); (case k5 => exact HT); (case k6 => first | exact rfl | assumption); (case kd => walk_at "mine room"); (case ku => walk_at "mine room"); k_whole)
    intro r h' tk' F' N' st' e
    clear F' N' HF HN
    have Fc' := Fc.kept st'
    have Nc' := Nc.grown st'
    clear Fc Nc
    refine hide fun hGoal => ?_
    obtain ⟨t8, rfl⟩ := e
    refine hGoal ?_
    clear hGoal
    k_steps
    exact ⟨_, _, [], rfl, Fc', Nc', (fun _ h => nomatch h), rfl, fun x' hx' => by
      refine hide fun hGoal => ?_
      obtain ⟨t', e'⟩ := hx'
      refine hGoal ?_
      clear hGoal
      refine hide fun hGoal => ?_
      obtain ⟨rfl, _⟩ := Value.str.inj e'
      refine hGoal ?_
      clear hGoal
      exact ⟨_, rfl⟩⟩
  have hta : Reps RS (tr.map (·.2.1)) (ps1.map tl) := by
    refine hide fun hGoal => ?_
    obtain ⟨us, hus1, hus2, hus3⟩ := G.src
    refine hGoal ?_
    clear hGoal
    obtain rfl : us = ws1 := list_of_get hus1 rfl hus2
    have := comp_reps (R' := RS) (p := fun _ => true) (pp := fun _ => true) (f := baseS) hw1 (fun _ _ _ => rfl) hus3 (fun t ht x hx => (G.each t ht).2 x hx)
    have e : (ps1.map pth).map baseS = ps1.map tl := by rw [List.map_map]; exact List.map_congr_left fun p hp => base_tl (hok1.ne p hp) (hok1.nm p hp)
    rw [List.filter_eq_self.mpr (fun _ _ => rfl), e] at this
    exact this
  have N7 : News hb L' h7 ((D7, W.listOf (tr.map (·.2.1)).toArray e7) :: (W1, W.listOf ws1.toArray ew) :: (Dt, W.listOf ts.toArray et) :: (L' + 1, oU) :: (L' + 1 + 1, oB) :: frs') := by
    have := G.led
    rw [flat_nil fun t ht => (G.each t ht).1] at this
    exact this
  have dlt7 := G.lt
  refine hide fun hGoal => ?_
  obtain ⟨m7, em7, F7'⟩ : ∃ m7, m7 = _ ∧ Fr hb L' h7 m7 := ⟨_, rfl, F7⟩
  refine hGoal ?_
  clear hGoal
  have mW7 : m7 (Str.ofString "ways") = some (.ref W1) := by rw [em7]; exact mW
  have mT7 : m7 (Str.ofString "told") = some (.ref Dt) := by rw [em7]; exact mT
  have mA7 : m7 (Str.ofString "tails") = some (.ref D7) := by rw [em7]; rfl
  clear F7 em7 N F hls G mW mT
  generalize tr.map (·.2.1) = ta at N7 hta
  clear tr
  k_steps
  show wpAny _ _ _ _ _ _
  refine' assign_plain ?f0 ?_
  case f0 => with_unfolding_all rfl
  refine' comp_eval (cl := ?clB) ?f1 ?f2 ?f3 ?f4 ?f5 ?f6 ?_
  case f1 => exact rfl
  case f2 => decide
  case f3 => rfl
  case f4 => decide
  case f5 => rfl
  case f6 => intro _; with_unfolding_all rfl
  k_steps
  show wpAny _ _ _ _ _ _
  have hls : Heap.IsList h7 W1 ws1.toArray := News.isList N7 (.tail _ (.head _))
  refine' wpAny_pyIter_list ?hly ?_
  case hly => exact hls
  refine catE (Pv := fun v => ∃ x ∈ ps1.map pth, RS v x) (p := fun _ => true) (F := TxtE fun x => baseS (dirS x)) (src_list rfl hls) (by rw [sizeLine_eq, hwl]; omega) (fun j v hj => ?_) F7' N7 (turn_ofV F7' N7 ⟨?testsB, ?eltB⟩) (fun D8 e8 h8 tk8 tr F8 G => ?_)
  · obtain ⟨x, hx0, hx⟩ := hw1.get hj; exact ⟨x, List.mem_of_getElem? hx0, hx⟩
  case testsB =>
    intro g C rest v s₃ m₃ E' hv' st Fc hm Nc
    exact wpAny_pure ⟨rfl, _, _, _, rfl, Fc, Nc, fun q hq => hq⟩
  case eltB =>
    intro g C rest v s₃ m₃ E' hv' hpv st Fm Nm Fc hm Nc
    refine hide fun hGoal => ?_
    obtain ⟨x, hxm, tx, rfl⟩ := hv'
    refine hGoal ?_
    clear hGoal
    refine hide fun hGoal => ?_
    obtain ⟨hx1, hx2⟩ := hok1.dir_len x hxm
    refine hGoal ?_
    clear hGoal
    have Xg := X.keeps st
    have Tg := T.keeps st
    simp only [List.cons_append, List.nil_append] at Nc
    have HF : Hid (Fr hb L' s₃.heap m7) := Fm
    have HN : Hid (News hb L' s₃.heap _) := Nm
    have HX : Hid ((Mine.hd.heap_39 w.params).In hb) := X
    have HT : Hid (Tp mean mg mb hb) := T
    clear F7' N7 X T Fm Nm
    with_reducible show wpAny _ _ _ _ _ _
    k_fold
    k_steps
    show wpAny _ _ _ _ _ _
    k_dflt (refine' Does.use (d_dirname x tx hx1) ?k2 ?k3 ?k4 ?k5 ?k6 ?kd ?ku trivial ?_; (case k2 => exact HF); (case k3 => exact HX); (case k4 => exact HN); (case k5 => exact HT); (case k6 => first | exact rfl | assumption); (case kd => walk_at "mine room"); (case ku => walk_at "mine room"); k_whole)
    intro r h' tk' F' N' st' e
    have HF' : Hid (Fr hb L' h' m7) := F'
    have HN' : Hid (News hb L' h' _) := N'
    clear F' N' HF HN
    have Fc' := Fc.kept st'
    have Nc' := Nc.grown st'
    clear Fc Nc
    refine hide fun hGoal => ?_
    obtain ⟨t8, rfl⟩ := e
    refine hGoal ?_
    clear hGoal
    k_steps
    show wpAny _ _ _ _ _ _
    k_dflt (refine' Does.use (d_basename _ _ hx2) ?k2 ?k3 ?k4 ?k5 ?k6 ?kd ?ku trivial ?_; (case k2 => exact HF'); (case k3 => exact HX); (case k4 => exact HN'); (case k5 => exact HT); (case k6 => first | exact rfl | assumption); (case kd => walk_at "mine room"); (case ku => walk_at "mine room"); k_whole)
    intro r h'' tk'' F'' N'' st'' e
    clear F'' N'' HF' HN'
    have Fc'' := Fc'.kept st''
    have Nc'' := Nc'.grown st''
    clear Fc' Nc'
    refine hide fun hGoal => ?_
    obtain ⟨t9, rfl⟩ := e
    refine hGoal ?_
    clear hGoal
    k_steps
    exact ⟨_, _, [], rfl, Fc'', Nc'', (fun _ h => nomatch h), rfl, fun x' hx' => by
      refine hide fun hGoal => ?_
      obtain ⟨t', e'⟩ := hx'
      refine hGoal ?_
      clear hGoal
      refine hide fun hGoal => ?_
      obtain ⟨rfl, _⟩ := Value.str.inj e'
      refine hGoal ?_
      clear hGoal
      exact ⟨_, rfl⟩⟩
  have hua : Reps RS (tr.map (·.2.1)) (ps1.map up) := by
    refine hide fun hGoal => ?_
    obtain ⟨us, hus1, hus2, hus3⟩ := G.src
    refine hGoal ?_
    clear hGoal
    obtain rfl : us = ws1 := list_of_get hus1 rfl hus2
    have := comp_reps (R' := RS) (p := fun _ => true) (pp := fun _ => true) (f := fun x => baseS (dirS x)) hw1 (fun _ _ _ => rfl) hus3 (fun t ht x hx => (G.each t ht).2 x hx)
    have e : (ps1.map pth).map (fun x => baseS (dirS x)) = ps1.map up := by rw [List.map_map]; exact List.map_congr_left fun p hp => base_up (hok1.ne p hp) (hok1.nm p hp)
    rw [List.filter_eq_self.mpr (fun _ _ => rfl), e] at this
    exact this
  have N8 : News hb L' h8 ((D8, W.listOf (tr.map (·.2.1)).toArray e8) :: (D7, W.listOf ta.toArray e7) :: (W1, W.listOf ws1.toArray ew) :: (Dt, W.listOf ts.toArray et) :: (L' + 1, oU) :: (L' + 1 + 1, oB) :: frs') := by
    have := G.led
    rw [flat_nil fun t ht => (G.each t ht).1] at this
    exact this
  have dlt8 := G.lt
  replace F8 : Fr hb L' h8 m7 := F8
  clear F7' N7 hls G
  generalize tr.map (·.2.1) = ua at N8 hua
  clear tr
  k_steps
  show wpAny _ _ _ _ _ _
  have l87 : @LT.lt Nat _ D7 D8 := dlt8 _ (.head _)
  have l8W : @LT.lt Nat _ W1 D8 := dlt8 _ (.tail _ (.head _))
  have l8D : @LT.lt Nat _ Dt D8 := dlt8 _ (.tail _ (.tail _ (.head _)))
  have l8U : @LT.lt Nat _ (L' + 1) D8 := dlt8 _ (.tail _ (.tail _ (.tail _ (.head _))))
  have l8B : @LT.lt Nat _ (L' + 1 + 1) D8 := dlt8 _ (.tail _ (.tail _ (.tail _ (.tail _ (.head _)))))
  have l8f : ∀ q ∈ frs', @LT.lt Nat _ q.1 D8 := fun q hq => dlt8 q (.tail _ (.tail _ (.tail _ (.tail _ (.tail _ hq)))))
  have l7W : @LT.lt Nat _ W1 D7 := dlt7 _ (.head _)
  have l7D : @LT.lt Nat _ Dt D7 := dlt7 _ (.tail _ (.head _))
  have l7U : @LT.lt Nat _ (L' + 1) D7 := dlt7 _ (.tail _ (.tail _ (.head _)))
  have l7B : @LT.lt Nat _ (L' + 1 + 1) D7 := dlt7 _ (.tail _ (.tail _ (.tail _ (.head _))))
  have l7f : ∀ q ∈ frs', @LT.lt Nat _ q.1 D7 := fun q hq => dlt7 q (.tail _ (.tail _ (.tail _ (.tail _ hq))))
  clear dlt7 dlt8
  refine cell_put (own := [(D8, W.listOf ua.toArray e8), (D7, W.listOf ta.toArray e7), (W1, W.listOf ws1.toArray ew), (Dt, W.listOf ts.toArray et)]) (rest := (L' + 1 + 1, oB) :: frs') F8 N8 (fun p hp => ?_) (fun p hp => ?_) rfl rfl rfl dU fun h9 oU9 F9 N9 dU9 => ?_
  · simp only [List.mem_cons, List.not_mem_nil, or_false] at hp
    rcases hp with rfl | rfl | rfl | rfl
    · exact Nat.ne_of_gt l8U
    · exact Nat.ne_of_gt l7U
    · exact hWU
    · exact Nat.ne_of_gt lt3b
  · rcases List.mem_cons.mp hp with rfl | hp
    · exact Nat.ne_of_gt (Nat.lt_succ_self _)
    · exact Nat.ne_of_lt (Nat.lt_succ_of_lt (hltf p hp))
  clear F8 N8 dU
  replace F9 : Fr hb L' h9 m7 := F9
  replace N9 : News hb L' h9 ((D8, W.listOf ua.toArray e8) :: (D7, W.listOf ta.toArray e7) :: (W1, W.listOf ws1.toArray ew) :: (Dt, W.listOf ts.toArray et) :: (L' + 1, oU9) :: (L' + 1 + 1, oB) :: frs') := N9
  k_steps
  show wpAny _ _ _ _ _ _
  refine' comp_eval (cl := ?clC) ?fa ?fb ?fc ?fd ?fe ?ff ?_
  case fa => exact rfl
  case fb => decide
  case fc => rfl
  case fd => decide
  case fe => rfl
  case ff => intro _; with_unfolding_all rfl
  k_steps
  show wpAny _ _ _ _ _ _
  have hlt9 : Heap.IsList h9 D7 ta.toArray := News.isList N9 (.tail _ (.head _))
  have htl : ta.length = ps1.length := by rw [hta.1, List.length_map]
  have hlen9 : ∀ x ∈ ps1.map tl, x.length ≤ 1000 := fun x hx => by
    refine hide fun hGoal => ?_
    obtain ⟨p, hp, rfl⟩ := List.mem_map.mp hx
    refine hGoal ?_
    clear hGoal
    have h1 := pthL_mem (tl_mem (hok1.ne p hp))
    have h2 := hok1.sz p hp
    rw [len_toList, pth_toList] at h2
    rw [len_toList]
    omega
  refine' wpAny_pyIter_list ?hlz ?_
  case hlz => exact hlt9
  refine catE (Pv := fun v => ∃ x ∈ ps1.map tl, RS v x) (p := fun _ => true) (F := TupE) (src_list rfl hlt9) (by rw [sizeLine_eq, htl]; omega) (fun j v hj => ?_) F9 N9 (turn_of F9 N9 ⟨?testsC, ?eltC⟩) (fun D10 e10 h10 tk10 tr10 F10 G10 => ?_)
  · obtain ⟨x, hx0, hx⟩ := hta.get hj; exact ⟨x, List.mem_of_getElem? hx0, hx⟩
  case testsC =>
    intro g C rest v s₃ m₃ E' hv' st Fc hm Nc
    exact wpAny_pure ⟨rfl, _, _, _, rfl, Fc, Nc, fun q hq => hq⟩
  case eltC =>
    intro g C rest v s₃ m₃ E' hv' hpv st Fc hm Nc
    refine hide fun hGoal => ?_
    obtain ⟨x, hxm, tx, rfl⟩ := hv'
    refine hGoal ?_
    clear hGoal
    have hx1 := hlen9 x hxm
    have Xg := X.keeps st
    have Tg := T.keeps st
    simp only [List.cons_append, List.nil_append] at Nc
    clear F9 N9 X T
    with_reducible show wpAny _ _ _ _ _ _
    k_fold
    k_steps
    rename_i Dn hn Fn Nn ln
    exact ⟨hn, _, [(Dn, tupK x _ tx)], rfl, Fn, Nn, off_one ln, tup_here x Dn _ tx⟩
  have hs10 : Reps (InT (tr10.flatMap (·.2.2))) (tr10.map (·.2.1)) (ps1.map tl) := by
    refine hide fun hGoal => ?_
    obtain ⟨us, hus1, hus2, hus3⟩ := G10.src
    refine hGoal ?_
    clear hGoal
    obtain rfl : us = ta := list_of_get hus1 rfl hus2
    have := comp_reps (R' := InT (tr10.flatMap (·.2.2))) (p := fun _ => true) (pp := fun _ => true) (f := id) hta (fun _ _ _ => rfl) hus3 (fun t ht x hx => by
      refine hide fun hGoal => ?_
      obtain ⟨D, t1, u1, e1, e2⟩ := G10.each t ht x hx
      refine hGoal ?_
      clear hGoal
      exact ⟨D, t1, u1, e1, List.mem_flatMap.mpr ⟨t, ht, by rw [e2]; exact .head _⟩⟩)
    rw [List.filter_eq_self.mpr (fun _ _ => rfl), List.map_id] at this
    exact this
  replace F10 : Fr hb L' h10 m7 := F10
  have N10 : News hb L' h10 ((D10, W.listOf (tr10.map (·.2.1)).toArray e10) :: (tr10.flatMap (·.2.2) ++ (D8, W.listOf ua.toArray e8) :: (D7, W.listOf ta.toArray e7) :: (W1, W.listOf ws1.toArray ew) :: (Dt, W.listOf ts.toArray et) :: (L' + 1, oU9) :: (L' + 1 + 1, oB) :: frs')) := G10.led
  have off10 : ∀ q ∈ tr10.flatMap (·.2.2), ∀ r ∈ frs', r.1 ≠ q.1 := fun q hq r hr => by
    refine hide fun hGoal => ?_
    obtain ⟨t, ht, hq⟩ := List.mem_flatMap.mp hq
    refine hGoal ?_
    clear hGoal
    exact (G10.off t ht q hq).2 r (.tail _ (.tail _ (.tail _ (.tail _ (.tail _ (.tail _ hr))))))
  have offU10 : ∀ q ∈ tr10.flatMap (·.2.2), @Ne Nat q.1 (L' + 1 + 1) := fun q hq => by
    refine hide fun hGoal => ?_
    obtain ⟨t, ht, hq⟩ := List.mem_flatMap.mp hq
    refine hGoal ?_
    clear hGoal
    exact Ne.symm ((G10.off t ht q hq).2 _ (.tail _ (.tail _ (.tail _ (.tail _ (.tail _ (.head _)))))))
  clear G10 F9 N9 hlt9
  generalize tr10.map (·.2.1) = va at N10 hs10
  generalize tr10.flatMap (·.2.2) = own1 at N10 hs10 off10 offU10
  clear tr10
  have hval : va.length = ps1.length := by rw [hs10.1, List.length_map]
  have hps3 : 2 < ps1.length := by omega
  k_steps
  show wpAny _ _ _ _ _ _
  refine sorted_K (own := own1) F10 N10 (fun p hp => .tail _ (List.mem_append_left _ hp)) (News.isList N10 (.head _)) hs10 (by rw [List.length_map]; omega) (by rw [List.length_map]; omega) (fun D11 c11 h11 xs1 vs1 F11 N11 lt11 hr11 hp11 ho11 hl11 => ?_)
  have N12 : News hb L' h11 ((D11, W.listOf vs1.toArray c11) :: (D8, W.listOf ua.toArray e8) :: (D7, W.listOf ta.toArray e7) :: (W1, W.listOf ws1.toArray ew) :: (Dt, W.listOf ts.toArray et) :: (L' + 1, oU9) :: (L' + 1 + 1, oB) :: (own1 ++ frs')) := News.perm N11 fun p hp => by
    simp only [List.mem_cons, List.mem_append] at hp ⊢
    rcases hp with h | h | h | h | h | h | h | h | h
    · exact .inl h
    · exact .inr (.inr (.inr (.inl h)))
    · exact .inr (.inr (.inr (.inr (.inl h))))
    · exact .inr (.inr (.inr (.inr (.inr (.inl h)))))
    · exact .inr (.inr (.inr (.inr (.inr (.inr (.inl h))))))
    · exact .inr (.inr (.inr (.inr (.inr (.inr (.inr (.inl h)))))))
    · exact .inr (.inr (.inr (.inr (.inr (.inr (.inr (.inr (.inl h))))))))
    · exact .inr (.inr (.inl h))
    · exact .inr (.inr (.inr (.inr (.inr (.inr (.inr (.inr (.inr h))))))))
  have l11B : @LT.lt Nat _ (L' + 1 + 1) D11 := lt11 (L' + 1 + 1, oB) (.tail _ (List.mem_append_right _ (.tail _ (.tail _ (.tail _ (.tail _ (.tail _ (.head _))))))))
  have l11f : ∀ q ∈ frs', @LT.lt Nat _ q.1 D11 := fun q hq => lt11 q (.tail _ (List.mem_append_right _ (.tail _ (.tail _ (.tail _ (.tail _ (.tail _ (.tail _ hq))))))))
  clear N10 F10 N11 lt11 hs10
  k_steps
  show wpAny _ _ _ _ _ _
  refine' comp_eval (cl := ?clD) ?ga ?gb ?gc ?gd ?ge ?gf ?_
  case ga => exact rfl
  case gb => decide
  case gc => rfl
  case gd => decide
  case ge => rfl
  case gf => intro _; with_unfolding_all rfl
  k_steps
  show wpAny _ _ _ _ _ _
  have hlu : Heap.IsList h11 D8 ua.toArray := News.isList N12 (.tail _ (.head _))
  have hul : ua.length = ps1.length := by rw [hua.1, List.length_map]
  refine' wpAny_pyIter_list ?hlw ?_
  case hlw => exact hlu
  refine catE (Pv := fun v => ∃ x ∈ ps1.map up, (x = ⟨#[]⟩ ∨ Nm x ∧ x.length ≤ 1000) ∧ RS v x) (p := strP fun x => decide (x ≠ ⟨#[]⟩)) (F := TupE) (src_list rfl hlu) (by rw [sizeLine_eq, hul]; omega) (fun j v hj => ?_) F11 N12 (turn_of F11 N12 ⟨?testsD, ?eltD⟩) (fun D20 e20 h20 tk20 tr20 F20 G20 => ?_)
  · refine hide fun hGoal => ?_
    obtain ⟨x, hx0, hx⟩ := hua.get hj
    refine hGoal ?_
    clear hGoal
    have hxm := List.mem_of_getElem? hx0
    refine ⟨x, hxm, ?_, hx⟩
    by_cases e : x = ⟨#[]⟩
    · exact .inl e
    · have hm := hok1.sub x (List.mem_filter.mpr ⟨hxm, decide_eq_true e⟩)
      refine hide fun hGoal => ?_
      obtain ⟨p, hp, rfl⟩ := List.mem_map.mp hm
      refine hGoal ?_
      clear hGoal
      exact .inr ⟨hok1.nm p hp _ (tl_mem (hok1.ne p hp)), hlen9 _ hm⟩
  case testsD =>
    intro g C rest v s₃ m₃ E' hv' st Fc hm Nc
    refine hide fun hGoal => ?_
    obtain ⟨x, hxm, hx, tx, rfl⟩ := hv'
    refine hGoal ?_
    clear hGoal
    have Xg := X.keeps st
    have Tg := T.keeps st
    clear F11 N12 X T
    rcases hx with rfl | ⟨hx, hxl⟩
    · with_reducible show wpAny _ _ _ _ _ _
      k_fold
      k_steps
      exact ⟨by simp [strP], _, _, _, rfl, Fc, Nc, fun q hq => hq⟩
    · have hx1 : ¬ (x.length : Int) = 0 := by
        rw [len_toList]
        have := List.length_pos_iff.mpr hx.1
        omega
      have hx3 : x ≠ ⟨#[]⟩ := fun e => hx.1 (by rw [e])
      with_reducible show wpAny _ _ _ _ _ _
      k_fold
      k_steps
      have hb1 : ((x.length : Int) != 0) = true := bne_iff_ne.mpr hx1
      rw [hb1]
      exact ⟨(decide_eq_true hx3).symm, _, _, _, rfl, Fc, Nc, fun q hq => hq⟩
  case eltD =>
    intro g C rest v s₃ m₃ E' hv' hpv st Fc hm Nc
    refine hide fun hGoal => ?_
    obtain ⟨x, hxm, hx, tx, rfl⟩ := hv'
    refine hGoal ?_
    clear hGoal
    have hx1 : x.length ≤ 1000 := by
      rcases hx with rfl | hx
      · exact Nat.zero_le _
      · exact hx.2
    have Xg := X.keeps st
    have Tg := T.keeps st
    simp only [List.cons_append, List.nil_append] at Nc
    clear F11 N12 X T
    with_reducible show wpAny _ _ _ _ _ _
    k_fold
    k_steps
    rename_i Dn hn Fn Nn ln
    exact ⟨hn, _, [(Dn, tupK x _ tx)], rfl, Fn, Nn, off_one ln, tup_here x Dn _ tx⟩
  have hs20 : Reps (InT (tr20.flatMap (·.2.2))) (tr20.map (·.2.1)) ((ps1.map up).filter fun x => decide (x ≠ ⟨#[]⟩)) := by
    refine hide fun hGoal => ?_
    obtain ⟨us, hus1, hus2, hus3⟩ := G20.src
    refine hGoal ?_
    clear hGoal
    obtain rfl : us = ua := list_of_get hus1 rfl hus2
    have := comp_reps (R' := InT (tr20.flatMap (·.2.2))) (p := strP fun x => decide (x ≠ ⟨#[]⟩)) (pp := fun x => decide (x ≠ ⟨#[]⟩)) (f := id) hua (fun v x h => strP_of h) hus3 (fun t ht x hx => by
      refine hide fun hGoal => ?_
      obtain ⟨D, t1, u1, e1, e2⟩ := G20.each t ht x hx
      refine hGoal ?_
      clear hGoal
      exact ⟨D, t1, u1, e1, List.mem_flatMap.mpr ⟨t, ht, by rw [e2]; exact .head _⟩⟩)
    rw [List.map_id] at this
    exact this
  replace F20 : Fr hb L' h20 m7 := F20
  have N20 : News hb L' h20 ((D20, W.listOf (tr20.map (·.2.1)).toArray e20) :: (tr20.flatMap (·.2.2) ++ (D11, W.listOf vs1.toArray c11) :: (D8, W.listOf ua.toArray e8) :: (D7, W.listOf ta.toArray e7) :: (W1, W.listOf ws1.toArray ew) :: (Dt, W.listOf ts.toArray et) :: (L' + 1, oU9) :: (L' + 1 + 1, oB) :: (own1 ++ frs'))) := G20.led
  have off20 : ∀ q ∈ tr20.flatMap (·.2.2), ∀ r ∈ frs', r.1 ≠ q.1 := fun q hq r hr => by
    refine hide fun hGoal => ?_
    obtain ⟨t, ht, hq⟩ := List.mem_flatMap.mp hq
    refine hGoal ?_
    clear hGoal
    exact (G20.off t ht q hq).2 r (.tail _ (.tail _ (.tail _ (.tail _ (.tail _ (.tail _ (.tail _ (List.mem_append_right _ hr))))))))
  have offU20 : ∀ q ∈ tr20.flatMap (·.2.2), @Ne Nat q.1 (L' + 1 + 1) := fun q hq => by
    refine hide fun hGoal => ?_
    obtain ⟨t, ht, hq⟩ := List.mem_flatMap.mp hq
    refine hGoal ?_
    clear hGoal
    exact Ne.symm ((G20.off t ht q hq).2 _ (.tail _ (.tail _ (.tail _ (.tail _ (.tail _ (.tail _ (.head _))))))))
  clear G20 F11 N12 hlu
  generalize tr20.map (·.2.1) = vb at N20 hs20
  generalize tr20.flatMap (·.2.2) = own2 at N20 hs20 off20 offU20
  clear tr20
  have hups := hok1.ups
  have hupl : ((ps1.map up).filter fun x => decide (x ≠ ⟨#[]⟩)).length ≤ ps1.length := by
    have := List.length_filter_le (fun x => decide (x ≠ (⟨#[]⟩ : Str))) (ps1.map up)
    rwa [List.length_map] at this
  k_steps
  show wpAny _ _ _ _ _ _
  refine sorted_K (own := own2) F20 N20 (fun p hp => .tail _ (List.mem_append_left _ hp)) (News.isList N20 (.head _)) hs20 (by omega) (by omega) (fun D21 c21 h21 xs2 vs2 F21 N21 lt21 hr21 hp21 ho21 hl21 => ?_)
  have N22 : News hb L' h21 (((D21, W.listOf vs2.toArray c21) :: (D11, W.listOf vs1.toArray c11) :: (D8, W.listOf ua.toArray e8) :: (D7, W.listOf ta.toArray e7) :: (W1, W.listOf ws1.toArray ew) :: (Dt, W.listOf ts.toArray et) :: (L' + 1, oU9) :: (L' + 1 + 1, oB) :: (own1 ++ own2)) ++ frs') := News.perm N21 fun p hp => by
    simp only [List.mem_cons, List.mem_append] at hp ⊢
    rcases hp with (h | h | h | h | h | h | h | h | h | h) | h
    · exact .inl h
    · exact .inr (.inr (.inr (.inl h)))
    · exact .inr (.inr (.inr (.inr (.inl h))))
    · exact .inr (.inr (.inr (.inr (.inr (.inl h)))))
    · exact .inr (.inr (.inr (.inr (.inr (.inr (.inl h))))))
    · exact .inr (.inr (.inr (.inr (.inr (.inr (.inr (.inl h)))))))
    · exact .inr (.inr (.inr (.inr (.inr (.inr (.inr (.inr (.inl h))))))))
    · exact .inr (.inr (.inr (.inr (.inr (.inr (.inr (.inr (.inr (.inl h)))))))))
    · exact .inr (.inr (.inr (.inr (.inr (.inr (.inr (.inr (.inr (.inr (.inl h))))))))))
    · exact .inr (.inr (.inl h))
    · exact .inr (.inr (.inr (.inr (.inr (.inr (.inr (.inr (.inr (.inr (.inr h))))))))))
  have l21B : @LT.lt Nat _ (L' + 1 + 1) D21 := lt21 (L' + 1 + 1, oB) (.tail _ (List.mem_append_right _ (.tail _ (.tail _ (.tail _ (.tail _ (.tail _ (.tail _ (.head _)))))))))
  have l21f : ∀ q ∈ frs', @LT.lt Nat _ q.1 D21 := fun q hq => lt21 q (.tail _ (List.mem_append_right _ (.tail _ (.tail _ (.tail _ (.tail _ (.tail _ (.tail _ (.tail _ (List.mem_append_right _ hq))))))))))
  clear N20 F20 N21 lt21 hs20
  refine hide fun hGoal => ?_
  obtain ⟨new, enew⟩ : ∃ new, new = (D21, W.listOf vs2.toArray c21) :: (D11, W.listOf vs1.toArray c11) :: (D8, W.listOf ua.toArray e8) :: (D7, W.listOf ta.toArray e7) :: (W1, W.listOf ws1.toArray ew) :: (Dt, W.listOf ts.toArray et) :: (L' + 1, oU9) :: (L' + 1 + 1, oB) :: (own1 ++ own2) := ⟨_, rfl⟩
  refine hGoal ?_
  clear hGoal
  have hap : ∀ p ∈ new, ∀ q ∈ frs', q.1 ≠ p.1 := fun p hp q hq => by
    rw [enew] at hp
    simp only [List.mem_cons, List.mem_append] at hp
    have hqL := hltf q hq
    rcases hp with rfl | rfl | rfl | rfl | rfl | rfl | rfl | rfl | hp | hp
    · exact Nat.ne_of_lt (l21f q hq)
    · exact Nat.ne_of_lt (l11f q hq)
    · exact Nat.ne_of_lt (l8f q hq)
    · exact Nat.ne_of_lt (l7f q hq)
    · exact hWf q hq
    · exact Nat.ne_of_lt (Nat.lt_trans (Nat.lt_trans hqL (Nat.lt_succ_self _)) lt3b)
    · exact Nat.ne_of_lt (Nat.lt_succ_of_lt hqL)
    · exact Nat.ne_of_lt (Nat.lt_succ_of_lt (Nat.lt_succ_of_lt hqL))
    · exact off10 p hp q hq
    · exact off20 p hp q hq
  have hnget : ∀ p ∈ new, (belowH h21 L' frs').get? p.1 = some p.2 := fun p hp => by
    have n := N22 p (List.mem_append_left _ (enew ▸ hp))
    exact below_get n.1 n.2.1 (hap p hp)
  have hown : ∀ p ∈ own1 ++ own2, p ∈ new := fun p hp => by
    rw [enew]
    exact .tail _ (.tail _ (.tail _ (.tail _ (.tail _ (.tail _ (.tail _ (.tail _ hp)))))))
  have htupb : ∀ v x, InT (own1 ++ own2) v x → TupAt (belowH h21 L' frs') v x := fun v x hv => by
    refine hide fun hGoal => ?_
    obtain ⟨D, t1, u1, rfl, hm⟩ := hv
    refine hGoal ?_
    clear hGoal
    exact ⟨D, t1, u1, rfl, hnget _ (hown _ hm)⟩
  have hr11' : Reps (InT (own1 ++ own2)) vs1 xs1 := hr11.mono fun v x hv => by
    refine hide fun hGoal => ?_
    obtain ⟨D, t1, u1, e, hm⟩ := hv
    refine hGoal ?_
    clear hGoal
    exact ⟨D, t1, u1, e, List.mem_append_left _ hm⟩
  have hr21' : Reps (InT (own1 ++ own2)) vs2 xs2 := hr21.mono fun v x hv => by
    refine hide fun hGoal => ?_
    obtain ⟨D, t1, u1, e, hm⟩ := hv
    refine hGoal ?_
    clear hGoal
    exact ⟨D, t1, u1, e, List.mem_append_right _ hm⟩
  rw [← enew] at N22
  k_steps
  show wpAny _ _ _ _ _ _
  k_dflt (refine' DoesX.use (new := new) (frs := frs') (d_sld (α := Str) ltK (fun a b => decide (a = b)) (fun _ => InT (own1 ++ own2)) D11 D21 vs1 vs2 xs1 xs2 ?sa ?sb ?sc) F21 X N22 T Fs' hap ?k6 ?kd ?ku ?kp ?_ ?km; (case k6 => exact rfl); (case kd => walk_at "mine room"); (case ku => walk_at "mine room"))
  case sa => omega
  case sb => have := hr21.1; have := hp21.length_eq; omega
  case sc => exact fun _ _ _ _ _ r => r
  case kp =>
    have g11 : (belowH h21 L' frs').get? D11 = _ := hnget (D11, W.listOf vs1.toArray c11) (by rw [enew]; exact .tail _ (.head _))
    have g21 : (belowH h21 L' frs').get? D21 = _ := hnget (D21, W.listOf vs2.toArray c21) (by rw [enew]; exact .head _)
    exact ⟨⟨_, g11, rfl, _, rfl⟩, ⟨_, g21, rfl, _, rfl⟩, hr11', hr21', fun v x v' x' h1 h2 => ⟨cmpT_lt (htupb v x h1) (htupb v' x' h2), cmpT_gt (htupb v x h1) (htupb v' x' h2), cmpT_eq (htupb v x h1) (htupb v' x' h2)⟩⟩
  case km =>
    rintro r f g h' hfg ⟨T2, M, U2, vM, vU, eM, eU, a1, a2, a3, a4, a5, a6, a7, a8⟩
    exact ⟨T2, M, U2, vM, vU, eM, eU, a1, a2, a3, a4, hfg _ a5, hfg _ a6, hfg _ a7, a8⟩
  intro r h22 tk22 frs2 su2 Fs2 F22 N23 hfresh hpost
  refine hide fun hGoal => ?_
  obtain ⟨T2, M, U2, vM, vU, eM, eU, rfl, gT, gM, gU, fT, fM, fU, rM, rU⟩ := hpost
  refine hGoal ?_
  clear hGoal
  have hsld : sldR ltK (fun a b => decide (a = b)) xs1 xs2 = (xs1.filter fun x => !xs2.contains x, []) := sld_sub ord_K ltK_tri _ xs1 xs2 (Nat.le_refl _) (hp11.nodup_iff.mpr hok1.nd) ho11 ho21 fun y hy => hp11.mem_iff.mpr (hok1.sub y (hp21.mem_iff.mp hy))
  rw [hsld] at rM rU
  dsimp only at rM rU
  have hvU : vU = [] := List.eq_nil_of_length_eq_zero rU.1
  subst hvU
  have hbc : ∀ x ∈ ps1.map tl, (!xs2.contains x) = (!(ps1.map up).contains x) := fun x hx => by
    congr 1
    rw [Bool.eq_iff_iff, List.contains_iff_mem, List.contains_iff_mem, hp21.mem_iff, List.mem_filter]
    refine ⟨fun h => h.1, fun h => ⟨h, decide_eq_true ?_⟩⟩
    refine hide fun hGoal => ?_
    obtain ⟨p, hp, rfl⟩ := List.mem_map.mp hx
    refine hGoal ?_
    clear hGoal
    exact fun e => (hok1.nm p hp _ (tl_mem (hok1.ne p hp))).1 (by rw [e])
  have hbp : (xs1.filter fun x => !xs2.contains x).Perm (bareL ps1) := by
    refine (hp11.filter _).trans ?_
    unfold bareL
    rw [List.filter_congr hbc]
  have hbo : (xs1.filter fun x => !xs2.contains x).Pairwise fun a b => ltK b a = false := ho11.sublist List.filter_sublist
  generalize (xs1.filter fun x => !xs2.contains x) = bx at rM hbp hbo
  clear hsld hbc rU
  have su3 : SameUp frs frs2 := su.trans su2
  have hltf2 : ∀ q ∈ frs2, @LT.lt Nat _ q.1 L' := fun q hq => by
    refine hide fun hGoal => ?_
    obtain ⟨p, hp, e⟩ := SameUp.fwd su3 q hq
    refine hGoal ?_
    clear hGoal
    rw [e]
    exact hlt p (.tail _ hp)
  have fB : ∀ D, hb.get? D = none ∧ (∀ p ∈ new, p.1 ≠ D) → @Ne Nat D (L' + 1 + 1) := fun D hD e => hD.2 (L' + 1 + 1, oB) (by rw [enew]; exact .tail _ (.tail _ (.tail _ (.tail _ (.tail _ (.tail _ (.tail _ (.head _))))))) ) e.symm
  have fT' := hfresh _ fT
  have fM' := hfresh _ fM
  have fU' := hfresh _ fU
  have offo : ∀ q ∈ own1 ++ own2, @Ne Nat q.1 (L' + 1 + 1) := fun q hq => by
    rcases List.mem_append.mp hq with h | h
    · exact offU10 q h
    · exact offU20 q h
  have N24 : News hb L' h22 ((T2, { cls := Value.type "tuple", data := Data.seq #[Value.ref M, Value.ref U2] }) :: (M, W.listOf vM.toArray eM) :: (U2, W.listOf #[] eU) :: (D8, W.listOf ua.toArray e8) :: (D7, W.listOf ta.toArray e7) :: (W1, W.listOf ws1.toArray ew) :: (Dt, W.listOf ts.toArray et) :: (L' + 1, oU9) :: (L' + 1 + 1, oB) :: ((own1 ++ own2) ++ frs2)) := fun p hp => by
    simp only [List.mem_cons] at hp
    rcases hp with rfl | rfl | rfl | hp
    · exact ⟨gT, fT.2.2, fT'.1⟩
    · exact ⟨gM, fM.2.2, fM'.1⟩
    · exact ⟨gU, fU.2.2, fU'.1⟩
    · refine N23 p ?_
      rw [enew]
      simp only [List.mem_cons, List.mem_append] at hp ⊢
      rcases hp with h | h | h | h | h | h | h | h
      · exact .inl (.inr (.inr (.inl h)))
      · exact .inl (.inr (.inr (.inr (.inl h))))
      · exact .inl (.inr (.inr (.inr (.inr (.inl h)))))
      · exact .inl (.inr (.inr (.inr (.inr (.inr (.inl h))))))
      · exact .inl (.inr (.inr (.inr (.inr (.inr (.inr (.inl h)))))))
      · exact .inl (.inr (.inr (.inr (.inr (.inr (.inr (.inr (.inl h))))))))
      · exact .inl (.inr (.inr (.inr (.inr (.inr (.inr (.inr (.inr h))))))))
      · exact .inr h
  have hfM : ∀ q ∈ frs2, q.1 ≠ M := fun q hq => by
    refine hide fun hGoal => ?_
    obtain ⟨p, hp, e⟩ := SameUp.fwd su2 q hq
    refine hGoal ?_
    clear hGoal
    rw [e]
    exact fM.2.1 p hp
  clear N22 N23 F21 hfresh fT fM fU hnget htupb hap hown gT gM gU hp21 ho21 hr21 hr21' hr11 hr11' hp11 ho11 off10 off20 offU10 offU20
  k_steps
  rename_i h24 F24 N25
  show wpAny _ _ _ _ _ _
  try clear N24 F22
  refine cell_put (own := [(T2, { cls := Value.type "tuple", data := Data.seq #[Value.ref M, Value.ref U2] }), (M, W.listOf vM.toArray eM), (U2, W.listOf #[] eU), (D8, W.listOf ua.toArray e8), (D7, W.listOf ta.toArray e7), (W1, W.listOf ws1.toArray ew), (Dt, W.listOf ts.toArray et), (L' + 1, oU9)]) (rest := (own1 ++ own2) ++ frs2) F24 N25 (fun p hp => ?_) (fun p hp => ?_) rfl rfl rfl dB fun h26 oB2 F26 N26 dB2 => ?_
  · simp only [List.mem_cons, List.not_mem_nil, or_false] at hp
    rcases hp with rfl | rfl | rfl | rfl | rfl | rfl | rfl | rfl
    · exact fB _ fT'
    · exact fB _ fM'
    · exact fB _ fU'
    · exact Nat.ne_of_gt l8B
    · exact Nat.ne_of_gt l7B
    · exact hWB
    · exact Nat.ne_of_gt lt3a
    · exact Nat.ne_of_lt (Nat.lt_succ_self _)
  · rcases List.mem_append.mp hp with hp | hp
    · exact offo p hp
    · exact Nat.ne_of_lt (Nat.lt_succ_of_lt (Nat.lt_succ_of_lt (hltf2 p hp)))
  clear F24 N25 dB
  replace F26 : Fr hb L' h26 m7 := F26
  have N27 : News hb L' h26 ((M, W.listOf vM.toArray eM) :: (U2, W.listOf #[] eU) :: (D8, W.listOf ua.toArray e8) :: (D7, W.listOf ta.toArray e7) :: (W1, W.listOf ws1.toArray ew) :: (Dt, W.listOf ts.toArray et) :: (L' + 1, oU9) :: (L' + 1 + 1, oB2) :: ((own1 ++ own2) ++ frs2)) := fun p hp => N26 p (.tail _ hp)
  clear N26
  k_steps
  show wpAny _ _ _ _ _ _
  rename_i h28 F28 N28
  refine' truthy_L (vs := []) (News.isList N28 (.tail _ (.head _))) (by decide) ?_
  k_steps
  show wpAny _ _ _ _ _ _
  refine hide fun hGoal => ?_
  obtain ⟨m28, em28, F28'⟩ : ∃ m28, m28 = _ ∧ Fr hb L' h28 m28 := ⟨_, rfl, F28⟩
  refine hGoal ?_
  clear hGoal
  have mW28 : m28 (Str.ofString "ways") = some (.ref W1) := by rw [em28]; exact mW7
  have mT28 : m28 (Str.ofString "told") = some (.ref Dt) := by rw [em28]; exact mT7
  have mA28 : m28 (Str.ofString "tails") = some (.ref D7) := by rw [em28]; exact mA7
  clear F28 em28 mW7 mT7 mA7
  refine' comp_eval (cl := ?clE) ?ha ?hb2 ?hc ?hd2 ?he ?hf ?_
  case ha => exact rfl
  case hb2 => decide
  case hc => rfl
  case hd2 => decide
  case he => rfl
  case hf => intro _; with_unfolding_all rfl
  k_steps
  show wpAny _ _ _ _ _ _
  have hlt28 : Heap.IsList h28 D7 ta.toArray := News.isList N28 (.tail _ (.tail _ (.tail _ (.head _))))
  refine' wpAny_pyIter_list ?hlv ?_
  case hlv => exact hlt28
  refine catE (Pv := fun v => ∃ x ∈ ps1.map tl, RS v x) (p := strP fun x => !(ps1.map up).contains x) (F := TupE) (src_list rfl hlt28) (by rw [sizeLine_eq, htl]; omega) (fun j v hj => ?_) F28' N28 (turn_of F28' N28 ⟨?testsE, ?eltE⟩) (fun D30 e30 h30 tk30 tr30 F30 G30 => ?_)
  · obtain ⟨x, hx0, hx⟩ := hta.get hj; exact ⟨x, List.mem_of_getElem? hx0, hx⟩
  case testsE =>
    intro g C rest v s₃ m₃ E' hv' st Fc hm Nc
    refine hide fun hGoal => ?_
    obtain ⟨x, hxm, tx, rfl⟩ := hv'
    refine hGoal ?_
    clear hGoal
    have Xg := X.keeps st
    have Tg := T.keeps st
    simp only [List.cons_append, List.nil_append] at Nc
    clear F28' N28 X T
    with_reducible show wpAny _ _ _ _ _ _
    k_fold
    k_steps
    show wpAny _ _ _ _ _ _
    refine notin_S (vs := ua) (News.isList (by assumption) (.tail _ (.tail _ (.head _)))) hua ?_
    k_steps
    exact ⟨rfl, _, _, _, rfl, by assumption, by assumption, fun q hq => by simpa using hq⟩
  case eltE =>
    intro g C rest v s₃ m₃ E' hv' hpv st Fc hm Nc
    refine hide fun hGoal => ?_
    obtain ⟨x, hxm, tx, rfl⟩ := hv'
    refine hGoal ?_
    clear hGoal
    have hx1 := hlen9 x hxm
    have Xg := X.keeps st
    have Tg := T.keeps st
    simp only [List.cons_append, List.nil_append] at Nc
    clear F28' N28 X T
    with_reducible show wpAny _ _ _ _ _ _
    k_fold
    k_steps
    rename_i Dn hn Fn Nn ln
    exact ⟨hn, _, [(Dn, tupK x _ tx)], rfl, Fn, Nn, off_one ln, tup_here x Dn _ tx⟩
  have hs30 : Reps (InT (tr30.flatMap (·.2.2))) (tr30.map (·.2.1)) (bareL ps1) := by
    refine hide fun hGoal => ?_
    obtain ⟨us, hus1, hus2, hus3⟩ := G30.src
    refine hGoal ?_
    clear hGoal
    obtain rfl : us = ta := list_of_get hus1 rfl hus2
    have := comp_reps (R' := InT (tr30.flatMap (·.2.2))) (p := strP fun x => !(ps1.map up).contains x) (pp := fun x => !(ps1.map up).contains x) (f := id) hta (fun v x h => strP_of h) hus3 (fun t ht x hx => by
      refine hide fun hGoal => ?_
      obtain ⟨D, t1, u1, e1, e2⟩ := G30.each t ht x hx
      refine hGoal ?_
      clear hGoal
      exact ⟨D, t1, u1, e1, List.mem_flatMap.mpr ⟨t, ht, by rw [e2]; exact .head _⟩⟩)
    rw [List.map_id] at this
    exact this
  replace F30 : Fr hb L' h30 m28 := F30
  have N30 := G30.led
  clear G30 F28' N28 hlt28
  generalize tr30.map (·.2.1) = vc at N30 hs30
  generalize tr30.flatMap (·.2.2) = own3 at N30 hs30
  clear tr30
  have hbl1 : 1 ≤ (bareL ps1).length := List.length_pos_iff.mpr (bare_ne hok1 fun e => by rw [e] at hps3; simp at hps3)
  have hbl2 : (bareL ps1).length ≤ ps1.length := by
    have := List.length_filter_le (fun x => !(ps1.map up).contains x) (ps1.map tl)
    rwa [List.length_map] at this
  k_steps
  show wpAny _ _ _ _ _ _
  refine sorted_K' (own := own3) F30 N30 (fun p hp => .tail _ (List.mem_append_left _ hp)) (News.isList N30 (.head _)) hs30 (by omega) (by omega) (fun D31 c31 h31 xs3 vs3 F31 N31 lt31 hr31 hp31 ho31 hl31 => ?_)
  have hx3 : bx = xs3 := rise_unique ord_K ltK_tri (hbp.trans hp31.symm) hbo ho31
  k_steps
  show wpAny _ _ _ _ _ _
  have htM : ∀ v x, InT (own1 ++ own2) v x → TupAt h31 v x := fun v x hv => by
    refine hide fun hGoal => ?_
    obtain ⟨D, t1, u1, rfl, hm⟩ := hv
    refine hGoal ?_
    clear hGoal
    exact ⟨D, t1, u1, rfl, (N31 _ (.tail _ (.tail _ (List.mem_append_right _ (.tail _ (.tail _ (.tail _ (.tail _ (.tail _ (.tail _ (.tail _ (.tail _ (List.mem_append_left _ hm))))))))))))).1⟩
  have ht3 : ∀ v x, InT own3 v x → TupAt h31 v x := fun v x hv => by
    refine hide fun hGoal => ?_
    obtain ⟨D, t1, u1, rfl, hm⟩ := hv
    refine hGoal ?_
    clear hGoal
    exact ⟨D, t1, u1, rfl, (N31 _ (.tail _ (.tail _ (List.mem_append_left _ hm)))).1⟩
  refine lists_ne (R := TupAt h31) (vs := vM) (us := vs3) (News.isList N31 (.tail _ (.tail _ (List.mem_append_right _ (.head _))))) (News.isList N31 (.head _)) (rM.mono htM) (hr31.mono ht3) (by show un + 3 < cLine; omega) (fun v x v' y h1 h2 => eqT_at h1 h2 (by show un + 3 + 1 < cLine; omega)) ?_
  have e : (!decide (bx = xs3)) = false := by rw [hx3]; simp
  rw [e]
  k_steps
  show wpAny _ _ _ _ _ _
  have N33 : News hb L' h31 ((M, W.listOf vM.toArray eM) :: (D8, W.listOf ua.toArray e8) :: (D7, W.listOf ta.toArray e7) :: (W1, W.listOf ws1.toArray ew) :: (Dt, W.listOf ts.toArray et) :: (L' + 1, oU9) :: (L' + 1 + 1, oB2) :: ((own1 ++ own2) ++ frs2)) := fun p hp => by
    refine N31 p ?_
    simp only [List.mem_cons, List.mem_append] at hp ⊢
    rcases hp with h | h | h | h | h | h | h | h
    · exact .inr (.inr (.inr (.inl h)))
    · exact .inr (.inr (.inr (.inr (.inr (.inl h)))))
    · exact .inr (.inr (.inr (.inr (.inr (.inr (.inl h))))))
    · exact .inr (.inr (.inr (.inr (.inr (.inr (.inr (.inl h)))))))
    · exact .inr (.inr (.inr (.inr (.inr (.inr (.inr (.inr (.inl h))))))))
    · exact .inr (.inr (.inr (.inr (.inr (.inr (.inr (.inr (.inr (.inl h)))))))))
    · exact .inr (.inr (.inr (.inr (.inr (.inr (.inr (.inr (.inr (.inr (.inl h))))))))))
    · exact .inr (.inr (.inr (.inr (.inr (.inr (.inr (.inr (.inr (.inr (.inr h))))))))))
  have F33 : Fr hb L' h31 m28 := F31
  have hinj : ∀ v x y, InT (own1 ++ own2) v x → InT (own1 ++ own2) v y → x = y := fun v x y h1 h2 => InT.inj (fun p hp => N33 p (.tail _ (.tail _ (.tail _ (.tail _ (.tail _ (.tail _ (.tail _ (List.mem_append_left _ hp))))))))) h1 h2
  have hbl : bx.length = (bareL ps1).length := hbp.length_eq
  clear F31 N31 lt31 N30 F30 hs30 hr31 hp31 ho31 hl31 hx3 ht3 htM e
  obtain ⟨b0, br, rfl⟩ : ∃ b0 br, bx = b0 :: br := by
    match bx, hbl with
    | b0 :: br, _ => exact ⟨b0, br, rfl⟩
    | [], h => simp at h; omega
  obtain ⟨v0, vr, rfl⟩ : ∃ v0 vr, vM = v0 :: vr := by
    match vM, rM.1 with
    | v0 :: vr, _ => exact ⟨v0, vr, rfl⟩
    | [], h => simp at h
  refine hide fun hGoal => ?_
  obtain ⟨rM0, rMr⟩ := rM.uncons
  refine hGoal ?_
  clear hGoal
  refine hide fun hGoal => ?_
  obtain ⟨hb0, hbr⟩ := List.pairwise_cons.mp hbo
  refine hGoal ?_
  clear hGoal
  refine' comp_eval (cl := ?clF) ?ia ?ib ?ic ?id ?ie ?if2 ?_
  case ia => exact rfl
  case ib => decide
  case ic => rfl
  case id => decide
  case ie => rfl
  case if2 => intro _; with_unfolding_all rfl
  k_steps
  show wpAny _ _ _ _ _ _
  have hlM : Heap.IsList h31 M (v0 :: vr).toArray := News.isList N33 (.head _)
  have hvMl : (v0 :: vr).length ≤ 8 := by rw [rM.1, hbl]; omega
  refine' wpAny_pyIter_list ?hlq ?_
  case hlq => exact hlM
  refine catE (Pv := fun v => ∃ x ∈ b0 :: br, InT (own1 ++ own2) v x) (p := fun _ => true) (F := fun v y own => own = [] ∧ ∀ x, InT (own1 ++ own2) v x → RI y (b2i (ltK x b0) - b2i (ltK b0 x))) (src_list rfl hlM) (by rw [sizeLine_eq]; omega) (fun j v hj => ?_) F33 N33 (turn_ofV F33 N33 ⟨?testsG, ?eltG⟩) (fun D40 e40 h40 tk40 tr40 F40 G40 => ?_)
  · obtain ⟨x, hx0, hx⟩ := rM.get hj; exact ⟨x, List.mem_of_getElem? hx0, hx⟩
  case testsG =>
    intro g C rest v s₃ m₃ E' hv' st Fc hm Nc
    exact wpAny_pure ⟨rfl, _, _, _, rfl, Fc, Nc, fun q hq => hq⟩
  case eltG =>
    intro g C rest v s₃ m₃ E' hv' hpv st Fm Nm Fc hm Nc
    refine hide fun hGoal => ?_
    obtain ⟨x, hxm, hvx⟩ := hv'
    refine hGoal ?_
    clear hGoal
    have Xg := X.keeps st
    have Tg := T.keeps st
    simp only [List.cons_append, List.nil_append] at Nc
    have hT0 : TupAt s₃.heap v0 b0 := by
      refine hide fun hGoal => ?_
      obtain ⟨D, t1, u1, rfl, hm1⟩ := rM0
      refine hGoal ?_
      clear hGoal
      exact ⟨D, t1, u1, rfl, (Nm _ (.tail _ (.tail _ (.tail _ (.tail _ (.tail _ (.tail _ (.tail _ (List.mem_append_left _ hm1))))))))).1⟩
    have hT1 : TupAt s₃.heap v x := by
      refine hide fun hGoal => ?_
      obtain ⟨D, t1, u1, rfl, hm1⟩ := hvx
      refine hGoal ?_
      clear hGoal
      exact ⟨D, t1, u1, rfl, (Nm _ (.tail _ (.tail _ (.tail _ (.tail _ (.tail _ (.tail _ (.tail _ (List.mem_append_left _ hm1))))))))).1⟩
    have HF : Hid (Fr hb L' s₃.heap m28) := Fm
    have HN : Hid (News hb L' s₃.heap _) := Nm
    have HX : Hid ((Mine.hd.heap_39 w.params).In hb) := X
    have HT : Hid (Tp mean mg mb hb) := T
    clear F33 N33 X T Fm Nm
    with_reducible show wpAny _ _ _ _ _ _
    k_fold
    k_steps
    show wpAny _ _ _ _ _ _
    refine' item_L (vs := v0 :: vr) (j := 0) (News.isList Nc (.head _)) rfl (by decide) rfl ?_ (by with_unfolding_all rfl)
    k_steps
    show wpAny _ _ _ _ _ _
    k_dflt (refine' Does.use (d_cmp v0 v (ltK x b0) (ltK b0 x)) ?k2 ?k3 ?k4 ?k5 ?k6 ?kd ?ku ?kp ?_; (case k2 => exact HF); (case k3 => exact HX); (case k4 => exact HN); (case k5 => exact HT); (case k6 => first | exact rfl | assumption); (case kd => walk_at "mine room"); (case ku => walk_at "mine room"); (case kp => exact ⟨cmpT_gt hT0 hT1, cmpT_lt hT0 hT1⟩); k_whole)
    intro r h' tk' F' N' st' e
    clear F' N' HF HN
    have Fc' := Fc.kept st'
    have Nc' := Nc.grown st'
    clear Fc Nc
    refine hide fun hGoal => ?_
    obtain ⟨t8, rfl⟩ := e
    refine hGoal ?_
    clear hGoal
    k_steps
    exact ⟨_, _, [], rfl, Fc', Nc', (fun _ h => nomatch h), rfl, fun x' hx' => by
      rw [← hinj v x x' hvx hx']
      exact ⟨_, rfl⟩⟩
  have hs40 : Reps RI (tr40.map (·.2.1)) (0 :: List.replicate br.length (-1)) := by
    refine hide fun hGoal => ?_
    obtain ⟨us, hus1, hus2, hus3⟩ := G40.src
    refine hGoal ?_
    clear hGoal
    obtain rfl : us = v0 :: vr := list_of_get hus1 rfl hus2
    have := comp_reps (R' := RI) (p := fun _ => true) (pp := fun _ => true) (f := fun x => b2i (ltK x b0) - b2i (ltK b0 x)) rM (fun _ _ _ => rfl) hus3 (fun t ht x hx => (G40.each t ht).2 x hx)
    rw [List.filter_eq_self.mpr (fun _ _ => rfl), List.map_cons] at this
    have e0 : b2i (ltK b0 b0) - b2i (ltK b0 b0) = 0 := by omega
    have e1 : (br.map fun x => b2i (ltK x b0) - b2i (ltK b0 x)) = List.replicate br.length (-1) := by
      rw [List.eq_replicate_iff]
      refine ⟨by simp, fun z hz => ?_⟩
      refine hide fun hGoal => ?_
      obtain ⟨x, hx, rfl⟩ := List.mem_map.mp hz
      refine hGoal ?_
      clear hGoal
      have h1 := hb0 x hx
      have h2 : ltK b0 x = true := by
        cases q : ltK b0 x with
        | true => rfl
        | false =>
          have := ltK_tri b0 x q h1
          have hnd : (b0 :: br).Nodup := hbp.nodup_iff.mpr (hok1.nd.sublist List.filter_sublist)
          exact absurd (this ▸ hx) (List.nodup_cons.mp hnd).1
      rw [h1, h2]; rfl
    rw [e0, e1] at this
    exact this
  replace F40 : Fr hb L' h40 m28 := F40
  have N40 : News hb L' h40 ((D40, W.listOf (tr40.map (·.2.1)).toArray e40) :: (M, W.listOf (v0 :: vr).toArray eM) :: (D8, W.listOf ua.toArray e8) :: (D7, W.listOf ta.toArray e7) :: (W1, W.listOf ws1.toArray ew) :: (Dt, W.listOf ts.toArray et) :: (L' + 1, oU9) :: (L' + 1 + 1, oB2) :: ((own1 ++ own2) ++ frs2)) := by
    have := G40.led
    rw [flat_nil fun t ht => (G40.each t ht).1] at this
    exact this
  clear G40 F33 N33 hlM
  generalize tr40.map (·.2.1) = vd at N40 hs40
  clear tr40
  k_steps
  show wpAny _ _ _ _ _ _
  rename_i la h41 ltla lb h42 F42 N42 ltlb
  have hvr : vr.length = br.length := by have := rM.1; simpa using this
  have hvr8 : vr.length < 8 := by rw [List.length_cons] at hvMl; omega
  refine mul_own (n := vr.length) F42 N42 (N42 _ (.head _)).1 (by rw [List.length_cons]; omega) (by omega) fun Dm h43 F43 N43 lt43 => ?_
  k_steps
  show wpAny _ _ _ _ _ _
  refine add_own (vs := [Value.int 0 tk40]) (ws := List.replicate vr.length (Value.int (-1) (tk40 + 1 + 1))) F43 N43 (News.isList N43 (.tail _ (.tail _ (.head _)))) (News.isList N43 (.head _)) (by rw [List.length_replicate]; show 1 + _ < _; omega) fun Da h44 F44 N44 lt44 => ?_
  k_steps
  show wpAny _ _ _ _ _ _
  have hrr : Reps RI ([Value.int 0 tk40] ++ List.replicate vr.length (Value.int (-1) (tk40 + 1 + 1))) (0 :: List.replicate br.length (-1)) := by
    rw [hvr]
    exact Reps.cons ⟨_, rfl⟩ (reps_rep ⟨_, rfl⟩ _)
  refine lists_neG (0 : Int) (R := RI) (vs := vd) (News.isList N44 (.tail _ (.tail _ (.tail _ (.tail _ (.head _)))))) (News.isList N44 (.head _)) hs40 hrr (by show un + 3 < cLine; omega) (fun v x v' y h1 h2 => RI_eq v x v' y h1 h2) ?_
  rw [show (!decide ((0 : Int) :: List.replicate br.length (-1) = 0 :: List.replicate br.length (-1))) = false from by simp]
  refine hide fun hGoal => ?_
  obtain ⟨Dv, tv, uv, rfl, hmv⟩ := rM0
  refine hGoal ?_
  clear hGoal
  have N45 : News hb L' h44 ((Dv, { cls := Value.type "tuple", data := Data.seq #[Value.int (b0.length : Int) tv, Value.str b0 uv] }) :: (M, W.listOf (Value.ref Dv :: vr).toArray eM) :: (D8, W.listOf ua.toArray e8) :: (D7, W.listOf ta.toArray e7) :: (W1, W.listOf ws1.toArray ew) :: (Dt, W.listOf ts.toArray et) :: (L' + 1, oU9) :: (L' + 1 + 1, oB2) :: frs2) := fun p hp => by
    refine N44 p (.tail _ (.tail _ (.tail _ (.tail _ (.tail _ ?_)))))
    simp only [List.mem_cons] at hp
    rcases hp with rfl | rfl | rfl | rfl | rfl | rfl | rfl | rfl | h
    · exact .tail _ (.tail _ (.tail _ (.tail _ (.tail _ (.tail _ (.tail _ (List.mem_append_left _ hmv)))))))
    · exact .head _
    · exact .tail _ (.head _)
    · exact .tail _ (.tail _ (.head _))
    · exact .tail _ (.tail _ (.tail _ (.head _)))
    · exact .tail _ (.tail _ (.tail _ (.tail _ (.head _))))
    · exact .tail _ (.tail _ (.tail _ (.tail _ (.tail _ (.head _)))))
    · exact .tail _ (.tail _ (.tail _ (.tail _ (.tail _ (.tail _ (.head _))))))
    · exact .tail _ (.tail _ (.tail _ (.tail _ (.tail _ (.tail _ (.tail _ (List.mem_append_right _ h)))))))
  have hb0m : b0 ∈ bareL ps1 := hbp.mem_iff.mp (.head _)
  refine hide fun hGoal => ?_
  obtain ⟨p0, hp0, hp0e⟩ := List.mem_map.mp (List.mem_filter.mp hb0m).1
  refine hGoal ?_
  clear hGoal
  refine hide fun hGoal => ?_
  obtain ⟨k0, hk0⟩ := List.getElem?_of_mem hp0
  refine hGoal ?_
  clear hGoal
  have hk0l : k0 < ps1.length := (List.getElem?_eq_some_iff.mp hk0).1
  have htk : (ps1.map tl)[k0]? = some b0 := by rw [List.getElem?_map, hk0]; exact congrArg some hp0e
  have hno : ∀ (i : Nat) x, i < k0 → (ps1.map tl)[i]? = some x → x ≠ b0 := fun i x hik hx e => by
    have h0 := List.pairwise_iff_getElem.mp hok1.nd i k0 (List.getElem?_eq_some_iff.mp hx).1 (List.getElem?_eq_some_iff.mp htk).1 hik
    rw [(List.getElem?_eq_some_iff.mp hx).2, (List.getElem?_eq_some_iff.mp htk).2] at h0
    exact h0 e
  clear N44 N43 N42 F42 F43 lt44 lt43 ltlb ltla hs40 hrr hinj rM rMr
  k_steps
  show wpAny _ _ _ _ _ _
  refine' item_L (vs := Value.ref Dv :: vr) (j := 0) (News.isList N45 (.tail _ (.head _))) rfl (by decide) rfl ?_ (by with_unfolding_all rfl)
  k_steps
  show wpAny _ _ _ _ _ _
  refine index_S (N45 _ (.tail _ (.tail _ (.tail _ (.head _))))).1 hta htk hno (by omega) fun ti tki => ?_
  k_steps
  rename_i h46 F46 N46
  show wpAny _ _ _ _ _ _
  have hupk : (ps1.map up)[k0]? = some (up p0) := by rw [List.getElem?_map, hk0]; rfl
  refine hide fun hGoal => ?_
  obtain ⟨vu0, hvu0, tu0, rfl⟩ := hua.at hupk
  refine hGoal ?_
  clear hGoal
  refine' item_L (vs := ua) (j := k0) (News.isList N46 (.tail _ (.tail _ (.head _)))) rfl (by omega) hvu0 ?_ (by with_unfolding_all rfl)
  k_steps
  show wpAny _ _ _ _ _ _
  have htsl : ts.length = told.length := hts.1
  have lDD8 : @Ne Nat D8 Dt := Nat.ne_of_gt l8D
  have N46' : News hb L' h46 ((M, W.listOf (Value.ref Dv :: vr).toArray eM) :: (D8, W.listOf ua.toArray e8) :: (D7, W.listOf ta.toArray e7) :: (W1, W.listOf ws1.toArray ew) :: (Dt, W.listOf ts.toArray et) :: (L' + 1, oU9) :: (L' + 1 + 1, oB2) :: frs2) := fun p hp => N46 p (.tail _ hp)
  clear N46
  refine append_in (own := [(M, W.listOf (Value.ref Dv :: vr).toArray eM), (D8, W.listOf ua.toArray e8), (D7, W.listOf ta.toArray e7), (W1, W.listOf ws1.toArray ew)]) (rest := (L' + 1, oU9) :: (L' + 1 + 1, oB2) :: frs2) F46 N46' (fun p hp => ?_) (fun p hp => ?_) (by omega) fun h47 n47 F47 N47 => ?_
  · simp only [List.mem_cons, List.not_mem_nil, or_false] at hp
    rcases hp with rfl | rfl | rfl | rfl
    · exact fun e => fM'.2 (Dt, W.listOf ts.toArray et) (by rw [enew]; exact .tail _ (.tail _ (.tail _ (.tail _ (.tail _ (.head _)))))) e.symm
    · exact lDD8
    · exact Nat.ne_of_gt l7D
    · exact hWD
  · rcases List.mem_cons.mp hp with rfl | hp
    · exact Nat.ne_of_lt lt3b
    · rcases List.mem_cons.mp hp with rfl | hp
      · exact Nat.ne_of_lt lt3a
      · exact Nat.ne_of_lt (Nat.lt_trans (Nat.lt_trans (hltf2 p hp) (Nat.lt_succ_self _)) lt3b)
  clear F46 N46'
  have N48 : News hb L' h47 ((W1, W.listOf ws1.toArray ew) :: (Dt, W.listOf (ts ++ [Value.str (up p0) tu0]).toArray n47) :: (L' + 1, oU9) :: (L' + 1 + 1, oB2) :: frs2) := fun p hp => N47 p (.tail _ (.tail _ (.tail _ hp)))
  clear N47
  have hwsz : ws1.toArray.size ≤ sizeLine := by rw [List.size_toArray, sizeLine_eq, hwl]; omega
  k_steps
  show wpAny _ _ _ _ _ _
  refine' kmk_slice_lit (its := ws1.toArray) (zs := ws1.take k0) F47 N48 (News.isList N48 (.head _)) IsPart.none (IsPart.int _ _) ?s1 (fun D49 h49 F49 N49 lt49 => ?_) ?s2 ?s3 hwsz
  case s1 => rw [slicePick_upto _ _ (by rw [List.size_toArray]; omega)]
  case s2 => with_unfolding_all rfl
  case s3 => kmk_pure
  clear F47 N48
  k_steps
  show wpAny _ _ _ _ _ _
  refine' kmk_slice_lit (its := ws1.toArray) (zs := ws1.drop (k0 + 1)) F49 N49 (News.isList N49 (.tail _ (.head _))) (IsPart.int _ _) IsPart.none ?s4 (fun D50 h50 F50 N50 lt50 => ?_) ?s5 ?s6 hwsz
  case s4 => rw [show ((k0 : Int) + 1) = ((k0 + 1 : Nat) : Int) from by omega, slicePick_from _ _ (by rw [List.size_toArray]; omega)]
  case s5 => with_unfolding_all rfl
  case s6 => kmk_pure
  clear F49 N49
  k_steps
  show wpAny _ _ _ _ _ _
  refine add_own (vs := ws1.take k0) (ws := ws1.drop (k0 + 1)) F50 N50 (News.isList N50 (.tail _ (.head _))) (News.isList N50 (.head _)) (by rw [List.length_take, List.length_drop]; omega) fun D51 h51 F51 N51 lt51 => ?_
  k_steps
  rename_i h52 F52 N52
  have hstep : StepP ps1 told (ps1.eraseIdx k0) (told ++ [up p0]) := ⟨k0, p0, hk0, by rw [hp0e]; exact hb0m, fun x hx hne => by
    rw [hp0e] at hne ⊢
    rcases List.mem_cons.mp (hbp.mem_iff.mpr hx) with e | hxr
    · exact absurd e hne
    · cases q : ltK b0 x with
      | true => rfl
      | false => exact absurd (ltK_tri b0 x q (hb0 x hxr)).symm hne, rfl, rfl⟩
  refine hide fun hGoal => ?_
  obtain ⟨hok2, hlen2⟩ := hok1.step hstep
  refine hGoal ?_
  clear hGoal
  have hw2 : Reps RS (ws1.take k0 ++ ws1.drop (k0 + 1)) ((ps1.eraseIdx k0).map pth) := by
    have := (hw1.take k0).append (hw1.drop (k0 + 1))
    rw [List.eraseIdx_eq_take_drop_succ, List.map_append, List.map_take, List.map_drop]
    exact this
  have l51f : ∀ q ∈ frs2, @LT.lt Nat _ q.1 D51 := fun q hq => lt51 q (.tail _ (.tail _ (.tail _ (.tail _ (.tail _ (.tail _ hq))))))
  have l51U : @LT.lt Nat _ (L' + 1) D51 := lt51 (L' + 1, oU9) (.tail _ (.tail _ (.tail _ (.tail _ (.head _)))))
  have l51B : @LT.lt Nat _ (L' + 1 + 1) D51 := lt51 (L' + 1 + 1, oB2) (.tail _ (.tail _ (.tail _ (.tail _ (.tail _ (.head _))))))
  have l51D : @LT.lt Nat _ Dt D51 := lt51 (Dt, _) (.tail _ (.tail _ (.tail _ (.head _))))
  have N53 : News hb L' h52 ((D51, W.listOf (ws1.take k0 ++ ws1.drop (k0 + 1)).toArray 0) :: (Dt, W.listOf (ts ++ [Value.str (up p0) tu0]).toArray n47) :: (L' + 1, oU9) :: (L' + 1 + 1, oB2) :: frs2) := fun p hp => by
    refine N52 p ?_
    rcases List.mem_cons.mp hp with rfl | hp
    · exact .head _
    · exact .tail _ (.tail _ (.tail _ (.tail _ hp)))
  exact ⟨h52, _, _, _, (ps1.eraseIdx k0).length, rfl, F52, N53, by omega, D51, _, 0, _, n47, oU9, oB2, frs2, ps1.eraseIdx k0, told ++ [up p0], rfl, rfl, su3, Fs2, rfl, mT28, ⟨_, dU9⟩, ⟨_, dB2⟩, hw2, hts.snoc ⟨_, rfl⟩, hok2, hrun.snoc hstep hps3, by rw [List.length_append]; show _ + (_ + 1) ≤ 8; omega, fun q hq => Nat.ne_of_lt (l51f q hq), Nat.ne_of_gt l51U, Nat.ne_of_gt l51B, Nat.ne_of_gt l51D⟩
end PartPk

section PartAs
open Builtin
theorem run_1 (id : String) (a : UInt8) (ha : a.toNat < 128) : _codecs.runDecoder id _codecs.asciiDecoder none true #[a] 0 [] = pure (#[a.toNat], 1) := by
  unfold _codecs.runDecoder
  simp [Std.Legacy.Range.forIn_eq_forIn_range', Std.Legacy.Range.size, _codecs.asciiDecoder, ha, sizeLine, List.range'_succ, _codecs.Found.char]
theorem run_2 (id : String) (a b : UInt8) (ha : a.toNat < 128) (hb : b.toNat < 128) : _codecs.runDecoder id _codecs.asciiDecoder none true #[a, b] 0 [] = pure (#[a.toNat, b.toNat], 2) := by
  unfold _codecs.runDecoder
  simp [Std.Legacy.Range.forIn_eq_forIn_range', Std.Legacy.Range.size, _codecs.asciiDecoder, ha, hb, sizeLine, List.range'_succ, _codecs.Found.char]
theorem run_3 (id : String) (a b c : UInt8) (ha : a.toNat < 128) (hb : b.toNat < 128) (hc : c.toNat < 128) : _codecs.runDecoder id _codecs.asciiDecoder none true #[a, b, c] 0 [] = pure (#[a.toNat, b.toNat, c.toNat], 3) := by
  unfold _codecs.runDecoder
  simp [Std.Legacy.Range.forIn_eq_forIn_range', Std.Legacy.Range.size, _codecs.asciiDecoder, ha, hb, hc, sizeLine, List.range'_succ, _codecs.Found.char]
theorem road_a {b : Array UInt8} {id : String} : _codecs.decodeRoad id b (PySem.Str.ofString "ascii") none [] = (_codecs.runDecoder id _codecs.asciiDecoder none true b 0 [] >>= fun r => mkStr ⟨r.1⟩) := by kernel_rfl
section
variable {b : Array UInt8} {c : UInt8} {cs : List UInt8} {t : Tok} {x : PySem.Str} {n : Nat}
theorem meets_text_a {t1 t2 : Tok} {d : PySem.Str} (hd : ∀ id, _codecs.runDecoder id _codecs.asciiDecoder none true b 0 [] = pure (x.cps, n)) :
    Meets («_codecs.decode.text» ⟨[.bytes b t, .str (PySem.Str.ofString "ascii") t1, .none, .str d t2], []⟩) (fun _ R s => x.length ≤ sizeLine ∧ R (.ok (.ret (.str x s.toks))) { s with toks := s.toks + 1 }) := by
  refine .of_wp fun prog w A R s hS => ?_
  obtain ⟨hsz, h⟩ := hS
  show wpAny _ _ (Bytes.bytesLike _ (.bytes b t) >>= fun r => _) _ _ s
  refine wpAny_bind (wpAny_of_eq KBd.like_eq ?_)
  refine wpAny_bind (wpAny_of_eq KBd.held_eq ?_)
  show wpAny _ _ (_codecs.decodeRoad _ b (PySem.Str.ofString "ascii") none [] >>= fun v => _) _ _ s
  rw [road_a, hd]
  refine wpAny_bind (wpAny_bind (wpAny_pure ?_))
  exact wpAny_mkStr (wpAny_pure ⟨_, rfl, h⟩) hsz
theorem entry_a {t1 : Tok} : «bytes.decode» ⟨[.bytes (c :: cs).toArray t, .str (PySem.Str.ofString "ascii") t1], []⟩ = (mkStr (PySem.Str.ofString "utf-8") >>= fun _ => mkStr (PySem.Str.ofString "ascii") >>= fun e => mkStr (PySem.Str.ofString "bytes.decode") >>= fun d =>
    call (.builtin "_codecs.decode.text") [.bytes (c :: cs).toArray t, e, .none, d] >>= fun v => ret v) := by kernel_rfl
theorem meets_decode_a {t1 : Tok} (hd : ∀ id, _codecs.runDecoder id _codecs.asciiDecoder none true (c :: cs).toArray 0 [] = pure (x.cps, n)) :
    Meets («bytes.decode» ⟨[.bytes (c :: cs).toArray t, .str (PySem.Str.ofString "ascii") t1], []⟩) (fun _ R s => x.length ≤ sizeLine ∧ ∀ t' k, R (.ok (.ret (.str x t'))) { s with toks := k }) := by
  refine .of_wp fun prog w A R s hS => ?_
  obtain ⟨hsz, h⟩ := hS
  rw [entry_a]
  refine wpAny_bind (wpAny_mkStr ?_ (by decide))
  refine wpAny_bind (wpAny_mkStr ?_ (by decide))
  refine wpAny_bind (wpAny_mkStr ?_ (by decide))
  exact wpAny_bind (call_function_meets KBd.kind_text KBd.plain_text KBd.entry_text (KBd.args_text _ _ _ _) (meets_text_a hd) ⟨hsz, wpAny_pure ⟨_, rfl, h _ _⟩⟩)
theorem args_decode_2 (a b : Value) : argsOk "bytes.decode" ⟨[a, b], []⟩ := by
  unfold argsOk; rw [signature?_of (id := "bytes.decode") (n := ['e', 'd', 'o', 'c', 'e', 'd']) (o := ['s', 'e', 't', 'y', 'b']) (by kernel_rfl) FB.owner_bytes]; kernel_rfl
end
noncomputable def strOf (bs : List UInt8) : Str := ⟨(bs.map (·.toNat)).toArray⟩
theorem decode_ascii {prog : Program} {w : World} {A : Around} {E : Value → Shared → Prop} {s : Shared} {bs : List UInt8} {t t1 : Tok} {Q : Value → Shared → Prop} (h0 : bs ≠ []) (h3 : bs.length ≤ 3) (hb : ∀ b ∈ bs, b.toNat < 128)
    (h : ∀ t' k, Q (.str (strOf bs) t') { s with toks := k }) : wpAny (model prog w) A (call (.builtin "bytes.decode") [.bytes bs.toArray t, .str (PySem.Str.ofString "ascii") t1]) Q E s := by
  match bs, h0, h3, hb, h with
  | [a], _, _, hb, h =>
    exact call_meets FB.slot_bytes_decode (typeIs_bytes _ _ _) FB.entry_bytes_decode (args_decode_2 _ _) (meets_decode_a (x := strOf [a]) fun id => run_1 id a (hb a (.head _))) ⟨by rw [sizeLine_eq]; show 1 ≤ _; omega, h⟩
  | [a, b], _, _, hb, h =>
    exact call_meets FB.slot_bytes_decode (typeIs_bytes _ _ _) FB.entry_bytes_decode (args_decode_2 _ _) (meets_decode_a (x := strOf [a, b]) fun id => run_2 id a b (hb a (.head _)) (hb b (.tail _ (.head _)))) ⟨by rw [sizeLine_eq]; show 2 ≤ _; omega, h⟩
  | [a, b, c], _, _, hb, h =>
    exact call_meets FB.slot_bytes_decode (typeIs_bytes _ _ _) FB.entry_bytes_decode (args_decode_2 _ _) (meets_decode_a (x := strOf [a, b, c]) fun id => run_3 id a b c (hb a (.head _)) (hb b (.tail _ (.head _))) (hb c (.tail _ (.tail _ (.head _))))) ⟨by rw [sizeLine_eq]; show 3 ≤ _; omega, h⟩
theorem apL_step {n : Nat} (h : n ≠ 0) : apL n = apL (n / 16) ++ [UInt8.ofNat (65 + n % 16)] := by rw [apL.eq_def n, dif_neg h]
theorem apL_zero : apL 0 = [] := by rw [apL.eq_def 0, dif_pos rfl]
theorem apL_ne {n : Nat} (h : n ≠ 0) : apL n ≠ [] := by rw [apL_step h]; simp
theorem dig_nat {d : Nat} (h : d < 16) : (UInt8.ofNat (65 + d)).toNat = 65 + d := by
  rw [UInt8.toNat_ofNat']; omega
theorem apL_dig (n : Nat) : ∀ b ∈ apL n, 65 ≤ b.toNat ∧ b.toNat < 81 := by
  induction n using Nat.strongRecOn with
  | ind n ih =>
    intro b hb
    by_cases h : n = 0
    · subst h; rw [apL_zero] at hb; cases hb
    · rw [apL_step h] at hb
      rcases List.mem_append.mp hb with hb | hb
      · exact ih (n / 16) (by omega) b hb
      · rw [List.mem_singleton.mp hb, dig_nat (Nat.mod_lt _ (by decide))]
        have := Nat.mod_lt n (y := 16) (by decide)
        omega
theorem apL_len3 {n : Nat} (h : n < 4096) : (apL n).length ≤ 3 := by
  by_cases h0 : n = 0
  · subst h0; rw [apL_zero]; exact Nat.zero_le _
  · rw [apL_step h0, List.length_append]
    by_cases h1 : n / 16 = 0
    · rw [h1, apL_zero]; show 0 + 1 ≤ 3; omega
    · rw [apL_step h1, List.length_append]
      by_cases h2 : n / 16 / 16 = 0
      · rw [h2, apL_zero]; show 0 + 1 + 1 ≤ 3; omega
      · rw [apL_step h2, List.length_append, show n / 16 / 16 / 16 = 0 from by omega, apL_zero]; show 0 + 1 + 1 + 1 ≤ 3; omega
noncomputable def apN (n : Nat) : List Nat := (apL n).map (·.toNat)
theorem apN_step {n : Nat} (h : n ≠ 0) : apN n = apN (n / 16) ++ [65 + n % 16] := by
  unfold apN
  rw [apL_step h, List.map_append]
  show _ ++ [(UInt8.ofNat (65 + n % 16)).toNat] = _
  rw [dig_nat (Nat.mod_lt _ (by decide))]
theorem apN_zero : apN 0 = [] := by unfold apN; rw [apL_zero]; rfl
theorem lex_app : ∀ {xs ys : List Nat} {a b : Nat}, xs.length = ys.length → xs < ys → xs ++ [a] < ys ++ [b]
  | [], [], _, _, _, h => absurd h (List.lt_irrefl _)
  | x :: xs, y :: ys, a, b, hl, h => by
    rw [List.cons_append, List.cons_append]
    rcases List.cons_lt_cons_iff.mp h with h1 | ⟨e, h2⟩
    · exact List.cons_lt_cons_iff.mpr (.inl h1)
    · exact List.cons_lt_cons_iff.mpr (.inr ⟨e, lex_app (by simpa using hl) h2⟩)
  | [], _ :: _, _, _, hl, _ => by simp at hl
  | _ :: _, [], _, _, hl, _ => by simp at hl
theorem lex_last : ∀ {xs : List Nat} {a b : Nat}, a < b → xs ++ [a] < xs ++ [b]
  | [], _, _, h => List.cons_lt_cons_iff.mpr (.inl h)
  | _ :: _, _, _, h => List.cons_lt_cons_iff.mpr (.inr ⟨rfl, lex_last h⟩)
theorem apN_lt (b : Nat) : ∀ a, a < b → (apN a).length < (apN b).length ∨ ((apN a).length = (apN b).length ∧ apN a < apN b) := by
  induction b using Nat.strongRecOn with
  | ind b ih =>
    intro a hab
    have hb0 : b ≠ 0 := by omega
    by_cases ha : a = 0
    · subst ha
      rw [apN_zero, apN_step hb0]
      exact .inl (by simp)
    · rw [apN_step ha, apN_step hb0, List.length_append, List.length_append]
      by_cases hq : a / 16 = b / 16
      · rw [hq]
        exact .inr ⟨rfl, lex_last (by omega)⟩
      · rcases ih (b / 16) (by omega) (a / 16) (by omega) with h | ⟨h1, h2⟩
        · exact .inl (by simpa using h)
        · exact .inr ⟨by rw [h1]; rfl, lex_app h1 h2⟩
theorem strOf_list (bs : List UInt8) : (strOf bs).cps.toList = bs.map (·.toNat) := rfl
noncomputable def word (n : Nat) : Str := strOf (apL n)
theorem word_list (n : Nat) : (word n).cps.toList = apN n := rfl
theorem word_len (n : Nat) : (word n).length = (apN n).length := by
  rw [← word_list]; rfl
theorem word_Nm {n : Nat} (h : n ≠ 0) : Nm (word n) := by
  refine ⟨?_, fun c hc => ?_⟩
  · rw [word_list, apN_step h]; simp
  · rw [word_list] at hc
    obtain ⟨b, hb, rfl⟩ := List.mem_map.mp hc
    have := apL_dig n b hb
    omega
theorem word_len3 {n : Nat} (h : n < 4096) : (word n).length ≤ 3 := by
  rw [word_len]; unfold apN; rw [List.length_map]; exact apL_len3 h
theorem word_lt {a b : Nat} (h : a < b) : ltK (word a) (word b) = true := by
  unfold ltK
  rw [word_len, word_len, word_list, word_list]
  rcases apN_lt b a h with h | ⟨h1, h2⟩
  · rw [decide_eq_true h]; rfl
  · rw [decide_eq_true h1, decide_eq_true h2]; simp
end PartAs

section PartPr0
structure WordsOk (n : Nat) (W : Nat → Str) : Prop where
  nm : ∀ j, Nm (W j)
  l3 : ∀ j, j < n + 2 → (W j).length ≤ 3
  lt : ∀ i j, i < j → ltK (W i) (W j) = true
noncomputable def pOf (W : Nat → Str) (r : List Nat) (k : Nat) : List Str := (chain r k).reverse.map W
noncomputable def psOf (W : Nat → Str) (r : List Nat) : List (List Str) := (List.range (r.length + 2)).map (pOf W r)
noncomputable def Under (x : Str) (ps : List (List Str)) : Prop := ∃ rs : List (List Str), ps = rs.map (fun t => x :: t) ∧ [] ∈ rs ∧ (∀ t ∈ rs, ∀ y ∈ t, Nm y) ∧ (∀ t ∈ rs, (pth (x :: t)).length ≤ 1000) ∧ rs.length < 100
theorem perm_map_inv {α β : Type} (f : α → β) : ∀ {l : List α} {ys : List β}, ys.Perm (l.map f) → ∃ l' : List α, l'.Perm l ∧ ys = l'.map f := by
  intro l ys h
  generalize e : l.map f = zs at h
  induction h generalizing l with
  | nil =>
    have : l = [] := List.map_eq_nil_iff.mp e
    subst this
    exact ⟨[], .refl _, rfl⟩
  | cons x _ ih =>
    cases l with
    | nil => cases e
    | cons a l =>
      rw [List.map_cons] at e
      injection e with e1 e2
      obtain ⟨l', h1, h2⟩ := ih e2
      exact ⟨a :: l', h1.cons a, by rw [List.map_cons, e1, h2]⟩
  | swap x y l0 =>
    match l, e with
    | a :: b :: l, e =>
      rw [List.map_cons, List.map_cons] at e
      injection e with e1 e2
      injection e2 with e2 e3
      exact ⟨b :: a :: l, .swap _ _ _, by rw [List.map_cons, List.map_cons, e1, e2, e3]⟩
    | [a], e => injection e with _ e2; cases e2
    | [], e => cases e
  | trans _ _ ih1 ih2 =>
    obtain ⟨l1, h1, h2⟩ := ih2 e
    obtain ⟨l2, h3, h4⟩ := ih1 h2.symm
    exact ⟨l2, h3.trans h1, h4⟩
end PartPr0

section PartPr
variable {W : Nat → Str} {r : List Nat}
theorem ltK_irr (x : Str) : ltK x x = false := by
  unfold ltK
  rw [decide_eq_false (Nat.lt_irrefl _), decide_eq_false (List.lt_irrefl _)]
  simp
theorem W_inj (hW : WordsOk r.length W) {i j : Nat} (h : W i = W j) : i = j := by
  rcases Nat.lt_trichotomy i j with c | c | c
  · have := hW.lt i j c
    rw [h, ltK_irr] at this; cases this
  · exact c
  · have := hW.lt j i c
    rw [h, ltK_irr] at this; cases this
theorem lt_of_ltK (hW : WordsOk r.length W) {i j : Nat} (h : ltK (W i) (W j) = true) : i < j := by
  rcases Nat.lt_trichotomy i j with c | c | c
  · exact c
  · subst c; rw [ltK_irr] at h; cases h
  · have h1 := hW.lt j i c
    exfalso
    unfold ltK at h h1
    simp only [Bool.or_eq_true, Bool.and_eq_true, decide_eq_true_eq] at h h1
    rcases h with h | ⟨h, h'⟩ <;> rcases h1 with h1 | ⟨h1, h1'⟩ <;> try omega
    exact List.lt_irrefl _ (List.lt_trans h' h1')
theorem last_in (r : List Nat) : ∀ i, i ≤ r.length → r.length + 1 ∈ restAt r i
  | 0, _ => by
    show r.length + 1 ∈ List.range (r.length + 2)
    exact List.mem_range.mpr (by omega)
  | i + 1, h => by
    have ih := last_in r i (by omega)
    obtain ⟨h1, h2, h3⟩ := loneAt_spec r (i := i) (by omega)
    have hne : loneAt r i ≠ r.length + 1 := fun e => by
      -- another number is left that does not stand in the row
      have hl : (restAt r i).length + i = r.length + 2 := restAt_len r i (by omega)
      have : ∃ k ∈ restAt r i, k ∉ r.drop i ∧ k ≠ r.length + 1 := Classical.byContradiction fun hno => by
        have hsub : ∀ k ∈ restAt r i, k ∈ (r.length + 1) :: r.drop i := fun k hk => by
          by_cases c : k = r.length + 1
          · subst c; exact .head _
          · by_cases d : k ∈ r.drop i
            · exact .tail _ d
            · exact absurd ⟨k, hk, d, c⟩ hno
        have := nodup_len _ _ (restAt_nodup r i) hsub
        rw [List.length_cons, List.length_drop] at this
        omega
      obtain ⟨k, hk, hkd, hkn⟩ := this
      have a := h3 k hk hkd
      have b := restAt_lt r i k hk
      omega
    show r.length + 1 ∈ (restAt r i).erase (loneAt r i)
    exact (List.Nodup.mem_erase_iff (restAt_nodup r i)).mpr ⟨fun e => hne e.symm, ih⟩
theorem end_is (r : List Nat) : ∃ a, restAt r r.length = [a, r.length + 1] ∧ a < r.length + 1 := by
  obtain ⟨a, b, e, hab⟩ := last_two r
  have h1 := last_in r r.length (Nat.le_refl _)
  have h2 := restAt_lt r r.length
  rw [e] at h1 h2
  have hb := h2 b (.tail _ (.head _))
  rcases List.mem_cons.mp h1 with h | h
  · omega
  · rw [List.mem_singleton] at h
    subst h
    exact ⟨a, e, hab⟩
theorem keys_nodup (r : List Nat) : (keys r).Nodup := by
  refine List.pairwise_iff_getElem.mpr fun i j hi hj hij e => ?_
  rw [keys_len] at hi hj
  obtain ⟨a, ea, _⟩ := end_is r
  have hi' : i < r.length := by omega
  have gi := keys_get r hi'
  rw [List.getElem?_eq_getElem (by rw [keys_len]; omega)] at gi
  rw [Option.some.inj gi] at e
  by_cases c : j < r.length
  · have gj := keys_get r c
    rw [List.getElem?_eq_getElem (by rw [keys_len]; omega)] at gj
    rw [Option.some.inj gj] at e
    have := lone_inj r hi' c e
    omega
  · have hj' : j = r.length := by omega
    subst hj'
    have gj := keys_last r
    rw [List.getElem?_eq_getElem (by rw [keys_len]; omega)] at gj
    rw [Option.some.inj gj, ea] at e
    refine lone_gone r hi' ?_
    rw [e, ea]
    exact .head _
theorem key_iff (r : List Nat) {k : Nat} : k ∈ keys r ↔ k < r.length + 1 := by
  obtain ⟨a, ea, ha⟩ := end_is r
  have hmem : ∀ k ∈ keys r, k < r.length + 1 := fun k hk => by
    obtain ⟨i, hi⟩ := List.getElem?_of_mem hk
    have hil : i < r.length + 1 := by rw [← keys_len r]; exact (List.getElem?_eq_some_iff.mp hi).1
    by_cases c : i < r.length
    · rw [keys_get r c] at hi
      obtain rfl := Option.some.inj hi
      have h1 := restAt_lt r i _ (loneAt_spec r c).1
      have h2 : loneAt r i ≠ r.length + 1 := fun e => lone_gone r c (by rw [e]; exact last_in r r.length (Nat.le_refl _))
      omega
    · have : i = r.length := by omega
      subst this
      rw [keys_last, ea] at hi
      obtain rfl := Option.some.inj hi
      exact ha
  refine ⟨hmem k, fun h => Classical.byContradiction fun hno => ?_⟩
  have := nodup_len (k :: keys r) (List.range (r.length + 1)) (List.nodup_cons.mpr ⟨hno, keys_nodup r⟩) fun x hx => by
    rcases List.mem_cons.mp hx with rfl | hx
    · exact List.mem_range.mpr h
    · exact List.mem_range.mpr (hmem x hx)
  rw [List.length_cons, keys_len, List.length_range] at this
  omega
theorem par_at (r : List Nat) {i k p : Nat} (h : (prs r)[i]? = some (k, p)) : par r k = some p := by
  refine lookup_get h fun j q hj hq e => ?_
  have h1 : (keys r)[i]? = some k := by unfold keys; rw [List.getElem?_map, h]; rfl
  have h2 : (keys r)[j]? = some k := by unfold keys; rw [List.getElem?_map, hq]; exact congrArg some e
  have hi := (List.getElem?_eq_some_iff.mp h1)
  have hj' := (List.getElem?_eq_some_iff.mp h2)
  exact List.pairwise_iff_getElem.mp (keys_nodup r) j i hj'.1 hi.1 hj (by rw [hj'.2, hi.2])
theorem par_lone (r : List Nat) {i : Nat} (h : i < r.length) : par r (loneAt r i) = some (r.getD i 0) := par_at r (prs_get r h)
theorem par_root (r : List Nat) : par r (r.length + 1) = none := by
  refine par_none r ?_
  unfold outAt
  rw [List.idxOf_eq_length fun h => absurd ((key_iff r).mp h) (Nat.lt_irrefl _), keys_len]
theorem par_key (r : List Nat) {k : Nat} (h : k < r.length + 1) : ∃ p, par r k = some p := by
  obtain ⟨i, hi⟩ := List.getElem?_of_mem ((key_iff r).mpr h)
  unfold keys at hi
  rw [List.getElem?_map] at hi
  cases q : (prs r)[i]? with
  | none => rw [q] at hi; cases hi
  | some kp =>
    rw [q] at hi
    obtain ⟨k', p⟩ := kp
    obtain rfl : k' = k := Option.some.inj hi
    exact ⟨p, par_at r q⟩
theorem pOf_root (W : Nat → Str) (r : List Nat) : pOf W r (r.length + 1) = [W (r.length + 1)] := by
  unfold pOf; rw [chain_eq, par_root]; rfl
theorem pOf_some (W : Nat → Str) (r : List Nat) {k p : Nat} (h : par r k = some p) : pOf W r k = pOf W r p ++ [W k] := by
  unfold pOf; rw [chain_eq r k, h]; simp
theorem chain_ind (r : List Nat) (hr : ∀ x ∈ r, x < r.length + 2) {M : Nat → Prop} (h0 : M (r.length + 1)) (hs : ∀ k p, k < r.length + 1 → par r k = some p → p < r.length + 2 → M p → M k) : ∀ k, k < r.length + 2 → M k := by
  have : ∀ n k, k < r.length + 2 → r.length + 1 - outAt r k = n → M k := fun n => by
    induction n using Nat.strongRecOn with
    | ind n ih =>
      intro k hk e
      by_cases c : k = r.length + 1
      · subst c; exact h0
      · obtain ⟨p, hp⟩ := par_key r (k := k) (by omega)
        have h1 := par_out r hp
        have h2 := outAt_le r p
        exact hs k p (by omega) hp (par_lt r hr hp) (ih (r.length + 1 - outAt r p) (by omega) p (par_lt r hr hp) rfl)
  exact fun k hk => this _ k hk rfl
theorem chain_bound (hr : ∀ x ∈ r, x < r.length + 2) : ∀ k, k < r.length + 2 → ∀ j ∈ chain r k, j < r.length + 2 := by
  refine chain_ind r hr (fun j hj => ?_) fun k p hk hp hp2 ih j hj => ?_
  · rw [chain_eq, par_root] at hj
    rw [List.mem_singleton.mp hj]; omega
  · rw [chain_eq, hp] at hj
    rcases List.mem_cons.mp hj with rfl | hj
    · omega
    · exact ih j hj
theorem pOf_head (W : Nat → Str) (hr : ∀ x ∈ r, x < r.length + 2) : ∀ k, k < r.length + 2 → ∃ t, pOf W r k = W (r.length + 1) :: t := by
  refine chain_ind r hr ⟨[], pOf_root W r⟩ fun k p hk hp hp2 ⟨t, ih⟩ => ⟨t ++ [W k], by rw [pOf_some W r hp, ih]; rfl⟩
theorem chain_one (hr : ∀ x ∈ r, x < r.length + 2) {k : Nat} (hk : k < r.length + 2) : tl (pOf W r k) = W k ∧ pOf W r k ≠ [] := by
  by_cases c : k = r.length + 1
  · subst c; rw [pOf_root]; exact ⟨rfl, by simp⟩
  · obtain ⟨p, hp⟩ := par_key r (k := k) (by omega)
    rw [pOf_some W r hp]
    exact ⟨by unfold tl; simp, by simp⟩
theorem up_some (hr : ∀ x ∈ r, x < r.length + 2) {k p : Nat} (h : par r k = some p) : up (pOf W r k) = W p := by
  have := (chain_one (W := W) hr (par_lt r hr h)).1
  rw [pOf_some W r h]
  unfold up
  rw [List.dropLast_concat]
  exact this
theorem up_root (W : Nat → Str) (r : List Nat) : up (pOf W r (r.length + 1)) = ⟨#[]⟩ := by rw [pOf_root]; rfl
theorem pOf_len (W : Nat → Str) (r : List Nat) (k : Nat) : (pOf W r k).length ≤ r.length + 2 := by
  unfold pOf; rw [List.length_map, List.length_reverse]; exact chain_len r k
theorem pthL_small : ∀ {xs : List Str}, (∀ x ∈ xs, x.length ≤ 3) → (pthL xs).length ≤ 4 * xs.length
  | [], _ => Nat.le_refl _
  | x :: xs, h => by
    rw [pthL_cons, List.length_append, List.length_cons, List.length_cons]
    have h1 := h x (.head _)
    rw [len_toList] at h1
    have h2 := pthL_small (xs := xs) fun y hy => h y (.tail _ hy)
    omega
theorem pOf_mem (hr : ∀ x ∈ r, x < r.length + 2) {k : Nat} (hk : k < r.length + 2) : ∀ x ∈ pOf W r k, ∃ j, j < r.length + 2 ∧ x = W j := fun x hx => by
  unfold pOf at hx
  obtain ⟨j, hj, rfl⟩ := List.mem_map.mp hx
  exact ⟨j, chain_bound hr k hk j (List.mem_reverse.mp hj), rfl⟩
theorem pOf_nm (hW : WordsOk r.length W) (hr : ∀ x ∈ r, x < r.length + 2) {k : Nat} (hk : k < r.length + 2) : ∀ x ∈ pOf W r k, Nm x := fun x hx => by
  obtain ⟨j, _, rfl⟩ := pOf_mem hr hk x hx
  exact hW.nm j
theorem pOf_sz (hW : WordsOk r.length W) (hr : ∀ x ∈ r, x < r.length + 2) (h6 : r.length ≤ 6) {k : Nat} (hk : k < r.length + 2) : (pth (pOf W r k)).length ≤ 1000 := by
  rw [len_toList, pth_toList]
  have h1 := pthL_small (xs := pOf W r k) fun x hx => by
    obtain ⟨j, hj, rfl⟩ := pOf_mem hr hk x hx
    exact hW.l3 j hj
  have h2 := pOf_len W r k
  omega
theorem ways_pth (hW : WordsOk r.length W) (hr : ∀ x ∈ r, x < r.length + 2) : (List.range (r.length + 2)).map (wayS ((List.range (r.length + 2)).map W) r) = (psOf W r).map pth := by
  unfold psOf
  rw [List.map_map]
  refine List.map_congr_left fun k hk => ?_
  have hk := List.mem_range.mp hk
  have e : (chain r k).reverse.map (fun j => ((List.range (r.length + 2)).map W).getD j sep) = pOf W r k := by
    unfold pOf
    refine List.map_congr_left fun j hj => ?_
    have := chain_bound hr k hk j (List.mem_reverse.mp hj)
    rw [List.getD_eq_getElem?_getD, List.getElem?_map, List.getElem?_range this]
    rfl
  show wayS _ r k = pth (pOf W r k)
  unfold wayS
  rw [e]
  exact joinS_pth _ (pOf_nm hW hr hk) (chain_one hr hk).2
theorem tl_inj (hW : WordsOk r.length W) (hr : ∀ x ∈ r, x < r.length + 2) {i j : Nat} (hi : i < r.length + 2) (hj : j < r.length + 2) (h : tl (pOf W r i) = tl (pOf W r j)) : i = j := by
  rw [(chain_one hr hi).1, (chain_one hr hj).1] at h
  exact W_inj hW h
theorem psOf_mem {p : List Str} : p ∈ psOf W r ↔ ∃ k, k < r.length + 2 ∧ p = pOf W r k := by
  unfold psOf
  rw [List.mem_map]
  exact ⟨fun ⟨k, hk, e⟩ => ⟨k, List.mem_range.mp hk, e.symm⟩, fun ⟨k, hk, e⟩ => ⟨k, List.mem_range.mpr hk, e.symm⟩⟩
theorem len_one (hr : ∀ x ∈ r, x < r.length + 2) {k : Nat} (hk : k < r.length + 2) (h : (pOf W r k).length = 1) : k = r.length + 1 := Classical.byContradiction fun c => by
  obtain ⟨p, hp⟩ := par_key r (k := k) (by omega)
  rw [pOf_some W r hp, List.length_append] at h
  have := List.length_pos_iff.mpr (chain_one (W := W) hr (par_lt r hr hp)).2
  rw [List.length_singleton] at h
  omega
theorem okP_of (hW : WordsOk r.length W) (hr : ∀ x ∈ r, x < r.length + 2) (h6 : r.length ≤ 6) {ps : List (List Str)} (hp : ps.Perm (psOf W r)) : OkP ps := by
  have hm : ∀ p ∈ ps, ∃ k, k < r.length + 2 ∧ p = pOf W r k := fun p h => psOf_mem.mp (hp.mem_iff.mp h)
  refine ⟨fun p h => ?_, fun p h => ?_, ?_, fun p h h2 => ?_, fun p h => ?_, fun p h q h' h1 h2 => ?_⟩
  · obtain ⟨k, hk, rfl⟩ := hm p h; exact (chain_one hr hk).2
  · obtain ⟨k, hk, rfl⟩ := hm p h; exact pOf_nm hW hr hk
  · rw [(hp.map tl).nodup_iff]
    unfold psOf
    rw [List.map_map]
    refine List.pairwise_map.mpr (List.Pairwise.imp_of_mem (fun {i j} hi hj hij e => ?_) (List.nodup_range (n := r.length + 2)))
    exact hij (tl_inj hW hr (List.mem_range.mp hi) (List.mem_range.mp hj) e)
  · obtain ⟨k, hk, rfl⟩ := hm p h
    have c : k ≠ r.length + 1 := fun e => by subst e; rw [pOf_root] at h2; simp at h2
    obtain ⟨p, hpp⟩ := par_key r (k := k) (by omega)
    rw [pOf_some W r hpp, List.dropLast_concat]
    exact hp.mem_iff.mpr (psOf_mem.mpr ⟨p, par_lt r hr hpp, rfl⟩)
  · obtain ⟨k, hk, rfl⟩ := hm p h; exact pOf_sz hW hr h6 hk
  · obtain ⟨k, hk, rfl⟩ := hm p h
    obtain ⟨k', hk', rfl⟩ := hm q h'
    rw [len_one hr hk h1, len_one hr hk' h2]
theorem under_of (hW : WordsOk r.length W) (hr : ∀ x ∈ r, x < r.length + 2) (h6 : r.length ≤ 6) {ps : List (List Str)} (hm : ∀ p ∈ ps, ∃ k, k < r.length + 2 ∧ p = pOf W r k) (hroot : pOf W r (r.length + 1) ∈ ps) (hl : ps.length < 100) : Under (W (r.length + 1)) ps := by
  have hh : ∀ p ∈ ps, p = W (r.length + 1) :: p.tail := fun p hp => by
    obtain ⟨k, hk, rfl⟩ := hm p hp
    obtain ⟨t, e⟩ := pOf_head W hr k hk
    rw [e]; rfl
  refine ⟨ps.map List.tail, ?_, ?_, fun t ht y hy => ?_, fun t ht => ?_, by rw [List.length_map]; exact hl⟩
  · rw [List.map_map]
    exact (List.map_id ps).symm.trans (List.map_congr_left fun p hp => hh p hp)
  · exact List.mem_map.mpr ⟨_, hroot, by rw [pOf_root]; rfl⟩
  · obtain ⟨p, hp, rfl⟩ := List.mem_map.mp ht
    obtain ⟨k, hk, e⟩ := hm p hp
    exact pOf_nm hW hr hk y (by rw [← e]; exact List.mem_of_mem_tail hy)
  · obtain ⟨p, hp, rfl⟩ := List.mem_map.mp ht
    obtain ⟨k, hk, e⟩ := hm p hp
    rw [← hh p hp, e]
    exact pOf_sz hW hr h6 hk
theorem ways_root (hW : WordsOk r.length W) (hr : ∀ x ∈ r, x < r.length + 2) (h6 : r.length ≤ 6) : Under (W (r.length + 1)) (psOf W r) :=
  under_of hW hr h6 (fun p hp => psOf_mem.mp hp) (psOf_mem.mpr ⟨_, by omega, rfl⟩) (by unfold psOf; rw [List.length_map, List.length_range]; omega)
theorem up_rest (hW : WordsOk r.length W) (hr : ∀ x ∈ r, x < r.length + 2) {i : Nat} {k j : Nat} (hk : k ∈ restAt r i) (hj : W j = up (pOf W r k)) : j ∈ r.drop i ∨ j = r.length + 1 := by
  have hk2 := restAt_lt r i k hk
  by_cases c : k = r.length + 1
  · subst c
    rw [up_root] at hj
    exact absurd (by rw [hj]) (hW.nm j).1
  · obtain ⟨p, hp⟩ := par_key r (k := k) (by omega)
    rw [up_some hr hp] at hj
    obtain rfl := W_inj hW hj
    obtain ⟨m, hm, _⟩ := lookup_some hp
    have hml : m < r.length + 1 := by rw [← prs_len r]; exact (List.getElem?_eq_some_iff.mp hm).1
    by_cases d : m < r.length
    · rw [prs_get r d] at hm
      have e := Option.some.inj hm
      have e1 : loneAt r m = k := congrArg Prod.fst e
      have e2 : r.getD m 0 = j := congrArg Prod.snd e
      have him : i ≤ m := Nat.le_of_not_lt fun q => lone_gone r q (by rw [e1]; exact hk)
      left
      rw [← e2, List.getD_eq_getElem?_getD, List.getElem?_eq_getElem d]
      exact List.mem_drop_iff_getElem.mpr ⟨m - i, by omega, by simp [show i + (m - i) = m from by omega]⟩
    · have : m = r.length := by omega
      subst this
      obtain ⟨a, ea, _⟩ := end_is r
      rw [prs_last, ea] at hm
      right
      exact (congrArg Prod.snd (Option.some.inj hm)).symm
theorem rest_up (hr : ∀ x ∈ r, x < r.length + 2) {i j : Nat} (hj : j ∈ r.drop i) : ∃ k ∈ restAt r i, up (pOf W r k) = W j := by
  obtain ⟨n, hn, e⟩ := List.mem_drop_iff_getElem.mp hj
  have h1 := par_lone r (i := i + n) (by omega)
  rw [List.getD_eq_getElem?_getD, List.getElem?_eq_getElem (by omega)] at h1
  refine ⟨loneAt r (i + n), restAt_sub r i n _ (loneAt_spec r (by omega)).1, ?_⟩
  rw [up_some hr h1]
  exact congrArg W e
noncomputable def RunI (W : Nat → Str) (r : List Nat) (ps : List (List Str)) (told : List Str) : Prop := ∃ i, i ≤ r.length ∧ ps.Perm ((restAt r i).map (pOf W r)) ∧ told = (r.take i).map W
theorem run_step (hW : WordsOk r.length W) (hr : ∀ x ∈ r, x < r.length + 2) {ps ps' : List (List Str)} {told told' : List Str} (h : RunI W r ps told) (g : StepP ps told ps' told') (hl : 2 < ps.length) : RunI W r ps' told' := by
  obtain ⟨i, hi, hp, rfl⟩ := h
  obtain ⟨k, p, hk, hb, hmin, rfl, rfl⟩ := g
  have hlen : ps.length = (restAt r i).length := by rw [hp.length_eq, List.length_map]
  have hrl := restAt_len r i hi
  have hi' : i < r.length := by omega
  obtain ⟨l1, l2, l3⟩ := loneAt_spec r hi'
  have hmem : ∀ q ∈ ps, ∃ j ∈ restAt r i, q = pOf W r j := fun q hq => by
    obtain ⟨j, hj, e⟩ := List.mem_map.mp (hp.mem_iff.mp hq)
    exact ⟨j, hj, e.symm⟩
  have hlr : loneAt r i ≠ r.length + 1 := fun e => lone_gone r hi' (by rw [e]; exact last_in r r.length (Nat.le_refl _))
  -- the least one's word is bare
  have hbare : W (loneAt r i) ∈ bareL ps := by
    refine List.mem_filter.mpr ⟨List.mem_map.mpr ⟨_, hp.mem_iff.mpr (List.mem_map.mpr ⟨_, l1, rfl⟩), (chain_one hr (restAt_lt r i _ l1)).1⟩, ?_⟩
    rw [Bool.not_eq_true', List.contains_eq_mem, decide_eq_false_iff_not]
    intro q
    obtain ⟨q, hq, e⟩ := List.mem_map.mp q
    obtain ⟨j, hj, rfl⟩ := hmem q hq
    rcases up_rest hW hr hj e.symm with h | h
    · exact l2 h
    · exact hlr h
  have hpm : p ∈ ps := List.mem_of_getElem? hk
  obtain ⟨j, hj, rfl⟩ := hmem p hpm
  have hj2 := restAt_lt r i j hj
  have htl := (chain_one (W := W) hr hj2).1
  have hjl : j = loneAt r i := Classical.byContradiction fun c => by
    have h1 := hmin _ hbare (fun e => c (by rw [htl] at e; exact (W_inj hW e).symm))
    rw [htl] at h1
    have h2 := lt_of_ltK hW h1
    have h3 : j ∉ r.drop i := fun q => by
      obtain ⟨k', hk', e⟩ := rest_up (W := W) hr q
      have := (List.mem_filter.mp hb).2
      rw [Bool.not_eq_true', List.contains_eq_mem, decide_eq_false_iff_not] at this
      exact this (List.mem_map.mpr ⟨_, hp.mem_iff.mpr (List.mem_map.mpr ⟨k', hk', rfl⟩), by rw [e, htl]⟩)
    have h4 := l3 j hj h3
    omega
  subst hjl
  refine ⟨i + 1, hi', ?_, ?_⟩
  · have hkl := (List.getElem?_eq_some_iff.mp hk).1
    have e1 : ps.Perm (pOf W r (loneAt r i) :: ps.eraseIdx k) := by
      have e := (List.getElem?_eq_some_iff.mp hk).2
      have h3 := List.perm_middle (a := ps[k]) (l₁ := ps.take k) (l₂ := ps.drop (k + 1))
      rw [← List.drop_eq_getElem_cons hkl, List.take_append_drop, ← List.eraseIdx_eq_take_drop_succ, e] at h3
      exact h3
    have e2 : ((restAt r i).map (pOf W r)).Perm (pOf W r (loneAt r i) :: ((restAt r i).erase (loneAt r i)).map (pOf W r)) := (List.perm_cons_erase l1).map _
    exact ((e1.symm.trans hp).trans e2).cons_inv
  · rw [up_some hr (par_lone r hi'), List.getD_eq_getElem?_getD, List.take_add_one, List.map_append, List.getElem?_eq_getElem hi']
    rfl
theorem run_all (hW : WordsOk r.length W) (hr : ∀ x ∈ r, x < r.length + 2) {ps ps' : List (List Str)} {told told' : List Str} (run : RunP ps told ps' told') (h : RunI W r ps told) : RunI W r ps' told' := by
  induction run with
  | nil => exact h
  | step g hl _ ih => exact ih (run_step hW hr h g hl)
theorem run_end (hW : WordsOk r.length W) (hr : ∀ x ∈ r, x < r.length + 2) (h6 : r.length ≤ 6) {ps ps' : List (List Str)} {told : List Str} (hp : ps.Perm (psOf W r)) (run : RunP ps [] ps' told) (h2 : ps'.length ≤ 2) :
    told = r.map W ∧ Under (W (r.length + 1)) ps' := by
  obtain ⟨i, hi, hp', e⟩ := run_all hW hr run ⟨0, Nat.zero_le _, hp, rfl⟩
  have hl := restAt_len r i hi
  have hl2 := hp'.length_eq
  rw [List.length_map] at hl2
  have hin : i = r.length := by omega
  subst hin
  refine ⟨by rw [e, List.take_length], under_of hW hr h6 (fun p hpp => ?_) ?_ (by omega)⟩
  · obtain ⟨k, hk, e⟩ := List.mem_map.mp (hp'.mem_iff.mp hpp)
    exact ⟨k, restAt_lt r _ k hk, e.symm⟩
  · exact hp'.mem_iff.mpr (List.mem_map.mpr ⟨_, last_in r r.length (Nat.le_refl _), rfl⟩)
theorem filled_perm (hW : WordsOk r.length W) (hr : ∀ x ∈ r, x < r.length + 2) :
    ((((psOf W r).map pth).filter fun w => !decide (dirS w = sep)).map fun w => baseS (dirS w)).Perm (r.map W ++ [W (r.length + 1)]) := by
  have e1 : ((psOf W r).map pth).filter (fun w => !decide (dirS w = sep)) = (List.range (r.length + 1)).map fun k => pth (pOf W r k) := by
    unfold psOf
    rw [List.map_map, show r.length + 2 = (r.length + 1) + 1 from rfl, List.range_succ, List.map_append, List.filter_append]
    have a : ([r.length + 1].map (pth ∘ pOf W r)).filter (fun w => !decide (dirS w = sep)) = [] := by
      show [pth (pOf W r (r.length + 1))].filter _ = []
      rw [pOf_root, List.filter_cons, dir_one (hW.nm _), decide_eq_true rfl]
      rfl
    rw [a, List.append_nil]
    refine List.filter_eq_self.mpr fun w hw => ?_
    obtain ⟨k, hk, rfl⟩ := List.mem_map.mp hw
    have hk := List.mem_range.mp hk
    have hk2 : k < r.length + 2 := by omega
    rw [Bool.not_eq_true', decide_eq_false_iff_not]
    intro q
    have := len_one hr hk2 ((dir_root (chain_one hr hk2).2 (pOf_nm hW hr hk2)).mp q)
    omega
  rw [e1, List.map_map]
  have e2 : (List.range (r.length + 1)).map ((fun w => baseS (dirS w)) ∘ fun k => pth (pOf W r k)) = (List.range (r.length + 1)).map fun k => up (pOf W r k) := List.map_congr_left fun k hk => by
    have hk2 : k < r.length + 2 := by have := List.mem_range.mp hk; omega
    exact base_up (chain_one hr hk2).2 (pOf_nm hW hr hk2)
  rw [e2]
  have hperm : (List.range (r.length + 1)).Perm (keys r) := (List.perm_ext_iff_of_nodup List.nodup_range (keys_nodup r)).mpr fun k => by rw [List.mem_range, key_iff]
  refine (hperm.map _).trans (List.Perm.of_eq ?_)
  refine List.ext_getElem? fun i => ?_
  rw [List.getElem?_map]
  obtain ⟨a, ea, ha⟩ := end_is r
  rcases Nat.lt_trichotomy i r.length with c | c | c
  · rw [keys_get r c, List.getElem?_append_left (by rw [List.length_map]; exact c), List.getElem?_map, List.getElem?_eq_getElem c]
    show some (up (pOf W r (loneAt r i))) = some (W r[i])
    rw [up_some hr (par_lone r c), List.getD_eq_getElem?_getD, List.getElem?_eq_getElem c]
    rfl
  · subst c
    have hl : (prs r)[r.length]? = some (a, r.length + 1) := by rw [prs_last, ea]; rfl
    rw [keys_last, ea, List.getElem?_append_right (by rw [List.length_map]; exact Nat.le_refl _), List.length_map, Nat.sub_self]
    show some (up (pOf W r a)) = some (W (r.length + 1))
    rw [up_some hr (par_at r hl)]
  · rw [List.getElem?_eq_none (by rw [keys_len]; omega), List.getElem?_eq_none (by rw [List.length_append, List.length_map, List.length_singleton]; omega)]
    rfl
end PartPr

section PartWa
theorem isList_stays {H g : Heap} {a : Addr} {its : Array Value} (h : H.IsList a its) (st : H.StaysIn g) : g.IsList a its := by
  refine hide fun hGoal => ?_
  obtain ⟨o, e1, e2⟩ := h
  refine hGoal ?_
  clear hGoal
  exact ⟨o, st _ _ e1, e2⟩
section
variable {prog : Program} {w : World} {A : Around} {E : Value → Shared → Prop} {s : Shared} {h₀ : Heap} {L l : Addr} {m : Str → Option Value} {news : List (Addr × Obj)} {vs : List Value}
theorem slice3_I {value slice : PySem.Expr} {ns : List Int} {vl vk : Value} {lo : Option Int} {k : Int} {ops : List Value} {Q : Value → Shared → Prop} (F : Fr h₀ L s.heap m) (N : News h₀ L s.heap news) (hl : s.heap.IsList l vs.toArray) (hi : IntsAre vs ns) (pl : IsPart vl lo) (pk : IsPart vk (some k)) (hk : k ≠ 0)
    (h : ∀ D ws ms h', Fr h₀ L h' m → News h₀ L h' ((D, listOf (List.toArray ws) 0) :: news) → IntsAre ws ms → Q (.ref D) { s with heap := h' })
    (hs : subscripted slice false (.ref l) (.ref s.heap.objs.size) = operate ops (getItem (.ref l) (.ref s.heap.objs.size))) (ht : ∀ r, letTemporaryGo value (.ref l) r = pure ()) (hz : vs.length < 1000) :
    wpAny (model prog w) A (subscriptTail value slice (.ref l) (.ref s.heap.objs.size)) Q E { s with heap := s.heap.push { cls := .type "slice", data := .fields #[vl, .none, vk] } } :=
  kmk_slice3_lit (its := vs.toArray) F N hl pl IsPart.none pk (fun e => hk (Option.some.inj e)) rfl (fun D h' F' N' _ => h D _ _ h' F' N' (hi.pick lo none (some k))) hs ht (by rw [List.size_toArray, sizeLine_eq]; omega)
theorem pyIter_range1 {r : Addr} {n : Nat} {t u v : Tok} {Q : Value → Shared → Prop} (hr : IsRange s.heap r 0 n 1 t u v) (hn : n < 1000)
    (hQ : Q (.ref s.heap.objs.size) { s with heap := s.heap.push { cls := .type "range_iterator", data := .fields #[rawInt 0, rawInt n, rawInt 1] } }) :
    wpAny (model prog w) A (pyIter (.ref r)) Q E s := by
  refine wpAny_pyIter_range hr (small_one (by decide) (by decide) (by omega) (by omega)) ?_
  have hsz : Builtin.Range.rangeSize 0 n 1 = (n : Int) := by rw [rangeSize_one]; split <;> omega
  rw [hsz]
  exact hQ
theorem src_range1 {n : Nat} (hh : A.handled = none) :
    Src prog w A s.heap s.heap.objs.size [s.heap.objs.size] [s.heap.objs.size] n (fun i v => i < n ∧ ∃ t : Tok, v = .int i t) (fun i h => IsRangeIter h s.heap.objs.size (0 + (i : Nat) * 1) ((n : Int) - (i : Nat)) 1)
      { s with heap := s.heap.push { cls := .type "range_iterator", data := .fields #[rawInt 0, rawInt n, rawInt 1] } } := by
  refine hide fun hGoal => ?_
  obtain ⟨W, a, b, c, d, e, f⟩ := src_range (prog := prog) (w := w) (A := A) (s := s) (r := (0 : Nat)) (n := n) hh
  refine hGoal ?_
  clear hGoal
  refine ⟨⟨W.sub, W.frame, fun i s Q E hi st hQ => W.item i s Q E hi st fun v h' tk hp => hQ v h' tk ⟨hi, ?_⟩, W.done, W.self⟩, a, b, c, d, e, f⟩
  refine hide fun hGoal => ?_
  obtain ⟨t, e⟩ := hp
  refine hGoal ?_
  clear hGoal
  exact ⟨t, by rw [e]; congr 1; omega⟩
end
section
variable {prog : Program} {w : World} {A : Around} {E : Value → Shared → Prop} {env : Env} {s : Shared} {h₀ : Heap} {m : Str → Option Value} {news : List (Addr × Obj)}
  {scope : Scope} {cl : List (Str × Addr)} {x : Str} {ifs : List Expr} {elt : Expr}
structure TurnX (prog : Program) (w : World) (A : Around) (env : Env) (scope : Scope) (cl : List (Str × Addr)) (x : Str) (ifs : List Expr) (elt : Expr) (h₀ : Heap) (m : Str → Option Value) (news : List (Addr × Obj))
    (Pv : Value → Prop) (p : Value → Bool) (F : Value → Value → List (Addr × Obj) → Prop) : Prop where
  tests : ∀ g C rest v s₃ m₃ E', Pv v → h₀.StaysIn g → Fr h₀ env.locals s₃.heap m → News h₀ env.locals s₃.heap news → Fr g C s₃.heap m₃ → m₃ x = some v → News g C s₃.heap (news ++ rest) →
    wpAny (model prog w) A (testsOf ifs (compEnvC scope cl C env)) (TestEnd g C m₃ (news ++ rest) s₃ (p v)) E' s₃
  elt : ∀ g C rest v s₃ m₃ E', Pv v → p v = true → h₀.StaysIn g → Fr h₀ env.locals s₃.heap m → News h₀ env.locals s₃.heap news → Fr g C s₃.heap m₃ → m₃ x = some v → News g C s₃.heap (news ++ rest) →
    wpAny (model prog w) A (eval elt (compEnvC scope cl C env)) (EltEnd g C m₃ (news ++ rest) s₃ (F v)) E' s₃
theorem turn_ofX {H : Heap} {Pv : Value → Prop} {p : Value → Bool} {F : Value → Value → List (Addr × Obj) → Prop} (Fm : Fr h₀ env.locals H m) (N : News h₀ env.locals H news) (T : TurnX prog w A env scope cl x ifs elt h₀ m news Pv p F) :
    Turn prog w A env scope cl x ifs elt h₀ m news H Pv p F := by
  refine ⟨fun C v s₃ m₃ E' hv F₃ hm Fm₃ N₃ => ?_, fun C v s₃ m₃ E' hv hp F₃ hm Fm₃ N₃ => ?_⟩
  · refine hide fun hGoal => ?_
    obtain ⟨g, rest, st, Fg, Ng, all⟩ := ground_c F₃ Fm N N₃
    refine hGoal ?_
    clear hGoal
    refine wpAny_mono (T.tests g C rest v s₃ m₃ E' hv st Fm₃ N₃ Fg hm Ng) (fun ok s₄ h => ?_) fun _ _ e => e
    refine hide fun hGoal => ?_
    obtain ⟨rfl, h, tk, led', rfl, Fh, Nh, sub⟩ := h
    refine hGoal ?_
    clear hGoal
    refine ⟨rfl, h, tk, rfl, fun b o hbC e => ?_, Fh.ns⟩
    rcases all b o hbC e with e' | e'
    · exact Fh.keep b o e'
    · exact (Nh _ (sub _ e')).1
  · refine hide fun hGoal => ?_
    obtain ⟨g, rest, st, Fg, Ng, all⟩ := ground_c F₃ Fm N N₃
    refine hGoal ?_
    clear hGoal
    refine wpAny_mono (T.elt g C rest v s₃ m₃ E' hv hp st Fm₃ N₃ Fg hm Ng) (fun y s₄ h => ?_) fun _ _ e => e
    refine hide fun hGoal => ?_
    obtain ⟨h, tk, own, rfl, Fh, Nh, off, hF⟩ := h
    refine hGoal ?_
    clear hGoal
    refine ⟨⟨h, tk, rfl, fun b o hbC e => ?_, Fh.ns⟩, own, hF, fun q hq => ⟨?_, (Nh _ (List.mem_append_left _ hq)).1⟩⟩
    · rcases all b o hbC e with e' | e'
      · exact Fh.keep b o e'
      · exact (Nh _ (List.mem_append_right _ e')).1
    · cases r : s₃.heap.get? q.1 with
      | none => rfl
      | some o =>
        have n := Nh _ (List.mem_append_left _ hq)
        rcases all q.1 o n.2.1 r with e' | e'
        · rw [n.2.2] at e'; cases e'
        · exact (off q hq (q.1, o) e' rfl).elim
end
theorem idx_last {prog : Program} {w : World} {A : Around} {E : Value → Shared → Prop} {s : Shared} {value slice : PySem.Expr} {la : Addr} {vs : List Value} {u : Tok} {v : Value} {Q : Value → Shared → Prop} (hl : s.heap.IsList la vs.toArray) {n : Nat} (hn : vs.length = n + 1) (hx : vs[n]? = some v) (h : Q v s)
    (hs : subscripted slice false (.ref la) (.int (-1) u) = operate [.ref la, .int (-1) u] (getItem (.ref la) (.int (-1) u))) :
    wpAny (model prog w) A (subscriptTail value slice (.ref la) (.int (-1) u)) Q E s := by
  refine tail_any hl.typeIs slot_list_getitem.lookup (wpAny_getItem_list_neg hl (by decide) (by rw [List.size_toArray]; omega) (by decide) ?_ h) hs
  rw [List.size_toArray, hn, show ((-1 : Int) + ((n + 1 : Nat) : Int)).toNat = n from by omega]
  simpa using hx
theorem slice_last {its : List Value} {n : Nat} (hn : its.length = n + 1) : (slicePick its.toArray (some (-1)) none none).toList = its.drop n := by
  rw [slicePick_plain]
  have e : clipAt (n + 1) (-1) = n := by
    unfold clipAt
    rw [if_pos (by decide)]
    omega
  simp only [Option.elim, List.size_toArray, hn, e]
  rw [List.take_of_length_le (by rw [List.length_drop]; omega)]
theorem old_use {w : World} {mean : ExcName → Option Value} {mg mb : Str → Option Value} {dp un : Nat} {gd : Option (List Code)} {cn : Str} {cs : Scope} {L a : Addr} {ccd : Value} {cl : List (Str × Addr)} {outer : List Env}
    {E1 A1 : Addr} {e1 a1 : Nat} {vs us : List Value} {xs ys : List Str} (hv : Reps RS vs xs) (hu' : Reps RS us ys) (hpm : xs.Perm ys) (hn : vs.length < 1000) (hne : E1 ≠ A1)
    {h₀ : Heap} {m : Str → Option Value} {news : List (Addr × Obj)} {s : Shared} {Q E : Value → Shared → Prop} (F : Fr h₀ L s.heap m) (N : News h₀ L s.heap ((E1, W.listOf vs.toArray e1) :: (A1, W.listOf us.toArray a1) :: news)) (hap : ∀ p ∈ news, p.1 ≠ E1 ∧ p.1 ≠ A1)
    (X : (hd.heap_39 w.params).In h₀) (T : Tp mean mg mb h₀) (hd : dp + 4 < recursionLimit) (hu : un + 150 < cLine)
    (h : ∀ (D M : Addr) h' tk' eM eA, Fr h₀ L h' m → News h₀ L h' ((D, { cls := .type "tuple", data := .seq #[.ref M, .ref A1] }) :: (M, W.listOf #[] eM) :: (A1, W.listOf #[] eA) :: news) → Q (.ref D) { s with heap := h', toks := tk' }) :
    wpAny (model PySem.Challenge.rw_il0061_01.row.prog w) (ktrTop dp un gd cn cs L a ccd cl outer) (call (.ref 35) [.ref E1, .ref A1]) Q E s := by
  have n1 := N _ (.head _)
  have n2 := N _ (.tail _ (.head _))
  have k0 : h₀.StaysIn (hideAll s.heap [E1, A1]) := fun b o e => hideAll_get _ (F.keep b o e) fun q => by
    rcases List.mem_cons.mp q with rfl | q
    · have := n1.2.2; rw [e] at this; cases this
    · rw [List.mem_singleton] at q
      subst q
      have := n2.2.2; rw [e] at this; cases this
  have kL : ∀ o, s.heap.get? L = some o → (hideAll s.heap [E1, A1]).get? L = some o := fun o e => hideAll_get _ e fun q => by
    rcases List.mem_cons.mp q with q | q
    · exact n1.2.1 q.symm
    · exact n2.2.1 (List.mem_singleton.mp q).symm
  refine d_old w mean mg mb dp un gd cn cs L a ccd cl outer E1 A1 e1 a1 vs us xs ys hv hu' hpm hn hne (hideAll s.heap [E1, A1]) s Q E (fun b o e => of_hideAll _ e) (by rw [hideAll_size]; exact Nat.le_refl _) (X.keeps k0) (T.keeps k0) n1.1 n2.1 (hideAll_none _ (.head _)) (hideAll_none _ (.tail _ (.head _))) hd hu
    fun D M h' tk' eM eA st gD gM gA nD nM => ?_
  refine hide fun hGoal => ?_
  obtain ⟨oL, _, _, hL, _⟩ := id F.ns
  refine hGoal ?_
  clear hGoal
  refine h D M h' tk' eM eA ⟨F.ns.at' fun o e => st _ _ (kL o e), fun b o e => st _ _ (k0 b o e), F.above⟩ fun p hp => ?_
  have new : ∀ D, (hideAll s.heap [E1, A1]).get? D = none → D ≠ L ∧ h₀.get? D = none := fun D nD => by
    refine ⟨(fun e => by subst e; rw [kL _ hL] at nD; cases nD), ?_⟩
    cases q : h₀.get? D with
    | none => rfl
    | some o => rw [k0 _ _ q] at nD; cases nD
  rcases List.mem_cons.mp hp with rfl | hp
  · exact ⟨gD, new _ nD⟩
  rcases List.mem_cons.mp hp with rfl | hp
  · exact ⟨gM, new _ nM⟩
  rcases List.mem_cons.mp hp with rfl | hp
  · exact ⟨gA, n2.2⟩
  have np := N p (.tail _ (.tail _ hp))
  refine ⟨st _ _ (hideAll_get _ np.1 fun q => ?_), np.2⟩
  rcases List.mem_cons.mp q with q | q
  · exact (hap p hp).1 q
  · exact (hap p hp).2 (List.mem_singleton.mp q)
theorem empty_eq {A : Around} {s : Shared} {l b : Addr} {items : Array Value} (hl : s.heap.IsList l items) (hb : s.heap.IsList b #[]) (hne : l ≠ b) (hu : A.units < cLine) : PySem.SeqAt.EqAt A s (.ref l) (.ref b) (decide (items.size = 0)) := by
  refine PySem.SeqAt.EqAt.of_refs hne ?_
  by_cases hz : items.size = 0
  · have := PySem.SeqAt.RcAt.lists (A := A) (e := fun _ => true) hl hb (by rw [hz]; rfl) hu fun j h1 _ => by omega
    rw [hz] at this
    rw [decide_eq_true hz]
    exact this
  · rw [decide_eq_false hz]
    exact PySem.SeqAt.RcAt.lists_lengths hl hb (by simpa using hz) hu
theorem tup_empty {prog : Program} {w : World} {A : Around} {E : Value → Shared → Prop} {s : Shared} {t u a b c d : Addr} {xs ys : Array Value} {Q : Value → Shared → Prop} (ht : s.heap.get? t = some { cls := .type "tuple", data := .seq #[.ref a, .ref b] }) (hu' : s.heap.get? u = some { cls := .type "tuple", data := .seq #[.ref c, .ref d] })
    (ha : s.heap.IsList a xs) (hb : s.heap.IsList b ys) (hc : s.heap.IsList c #[]) (hd : s.heap.IsList d #[]) (hac : a ≠ c) (hbd : b ≠ d) (hu : A.units + 1 < cLine) (h : Q (.bool (decide (xs.size = 0) && decide (ys.size = 0))) s) :
    wpAny (model prog w) A (compareOp .Eq (.ref t) (.ref u)) Q E s := by
  have := PySem.SeqAt.RcAt.tuples (A := A) (s := s) (l := t) (b := u) (items := #[.ref a, .ref b]) (items2 := #[.ref c, .ref d]) (e := fun j => if j = 0 then decide (xs.size = 0) else decide (ys.size = 0)) ⟨_, ht, rfl, _, rfl⟩ ⟨_, hu', rfl, _, rfl⟩ (by omega) fun j h1 h2 => by
    match j, h1, h2 with
    | 0, _, _ => exact empty_eq ha hc hac hu
    | 1, _, _ => exact empty_eq hb hd hbd hu
    | n + 2, h1, _ => exact absurd h1 (by simp)
  refine this prog w E Q ?_
  have e : ((List.range (min (#[Value.ref a, Value.ref b] : Array Value).size (#[Value.ref c, Value.ref d] : Array Value).size)).all (fun j => if j = 0 then decide (xs.size = 0) else decide (ys.size = 0)) && (#[Value.ref a, Value.ref b] : Array Value).size == (#[Value.ref c, Value.ref d] : Array Value).size) = (decide (xs.size = 0) && decide (ys.size = 0)) := by
    show (([0, 1] : List Nat).all _ && true) = _
    simp
  rw [e]
  exact h
theorem cmpS_lt {h : Heap} {v v' : Value} {x y : Str} (a : RS v x) (b : RS v' y) : CmpAt .Lt h v v' (ltS x y) := fun prog w A E s Q k hu hq => by
  refine hide fun hGoal => ?_
  obtain ⟨t, rfl⟩ := a
  refine hGoal ?_
  clear hGoal
  refine hide fun hGoal => ?_
  obtain ⟨u, rfl⟩ := b
  refine hGoal ?_
  clear hGoal
  exact lt_str hq
theorem cmpS_gt {h : Heap} {v v' : Value} {x y : Str} (a : RS v x) (b : RS v' y) : CmpAt .Gt h v v' (ltS y x) := fun prog w A E s Q k hu hq => by
  refine hide fun hGoal => ?_
  obtain ⟨t, rfl⟩ := a
  refine hGoal ?_
  clear hGoal
  refine hide fun hGoal => ?_
  obtain ⟨u, rfl⟩ := b
  refine hGoal ?_
  clear hGoal
  exact P.gt_str hq
theorem cmpS_eq {h : Heap} {v v' : Value} {x y : Str} (a : RS v x) (b : RS v' y) : CmpAt .Eq h v v' (decide (x = y)) := fun prog w A E s Q k hu hq => by
  refine hide fun hGoal => ?_
  obtain ⟨t, rfl⟩ := a
  refine hGoal ?_
  clear hGoal
  refine hide fun hGoal => ?_
  obtain ⟨u, rfl⟩ := b
  refine hGoal ?_
  clear hGoal
  refine eq_str ?_
  rw [show (x == y) = decide (x = y) from by rw [Bool.eq_iff_iff]; simp]
  exact hq
theorem RS_eq {A : Around} {s : Shared} (v : Value) (x : Str) (v' : Value) (y : Str) (h : RS v x) (h' : RS v' y) : PySem.SeqAt.EqAt A s v v' (decide (x = y)) := by
  refine hide fun hGoal => ?_
  obtain ⟨t, rfl⟩ := h
  refine hGoal ?_
  clear hGoal
  refine hide fun hGoal => ?_
  obtain ⟨u, rfl⟩ := h'
  refine hGoal ?_
  clear hGoal
  exact (eqS x y t u).at _ _
theorem pth_one (x : Str) : pth [x] = Str.ofString "/" ++ x := by
  refine str_toList ?_
  rw [pth_toList, pthL_cons, app_toList]
  show 47 :: x.cps.toList ++ [] = 47 :: [] ++ x.cps.toList
  simp
noncomputable def SmallE (k : Int) (v y : Value) (own : List (Addr × Obj)) : Prop := own = [] ∧ ∃ (j : Nat) (t : Tok), y = .int j t ∧ (j : Int) < k
theorem smallE_mod {a : Int} {z : Nat} {v : Value} {t : Tok} : SmallE ((z : Int) + 2) v (.int (a.fmod ((z : Int) + 2)) t) [] := by
  have h0 : 0 ≤ a.fmod ((z : Int) + 2) := Int.fmod_nonneg_of_pos _ (by omega)
  have h1 : a.fmod ((z : Int) + 2) < (z : Int) + 2 := Int.fmod_lt_of_pos _ (by omega)
  exact ⟨rfl, (a.fmod ((z : Int) + 2)).toNat, t, by congr 1; omega, by omega⟩
theorem small_row {k : Nat} : ∀ {us : List Value}, (∀ y ∈ us, ∃ v own, SmallE (k : Int) v y own) → ∃ r : List Nat, Reps RN us r ∧ ∀ x ∈ r, x < k
  | [], _ => ⟨[], Reps.nil, fun _ h => nomatch h⟩
  | y :: us, h => by
    refine hide fun hGoal => ?_
    obtain ⟨r, h1, h2⟩ := small_row (us := us) fun y hy => h y (.tail _ hy)
    refine hGoal ?_
    clear hGoal
    refine hide fun hGoal => ?_
    obtain ⟨v, own, _, j, t, e, hj⟩ := h y (.head _)
    refine hGoal ?_
    clear hGoal
    refine ⟨j :: r, Reps.cons ⟨t, e⟩ h1, fun x hx => ?_⟩
    rcases List.mem_cons.mp hx with rfl | hx
    · omega
    · exact h2 x hx
theorem got_len {h₀ : Heap} {L : Addr} {news : List (Addr × Obj)} {Pv : Nat → Value → Prop} {n : Nat} {F : Value → Value → List (Addr × Obj) → Prop} {D : Addr} {e : Nat} {h' : Heap} {tr : List Tr}
    (G : Got h₀ L news Pv n (fun _ => true) F D e h' tr) : tr.length = n := by
  refine hide fun hGoal => ?_
  obtain ⟨vs, h1, _, h2⟩ := G.src
  refine hGoal ?_
  clear hGoal
  rw [List.filter_eq_self.mpr (fun _ _ => rfl)] at h2
  rw [← h1, ← h2, List.length_map]
noncomputable def wN (S : Int) (j : Nat) : Nat := 13 + (S.fmod 300).toNat + j * (1 + ((S.fdiv 300).fmod 40).toNat)
theorem wN_lt (S : Int) {j : Nat} (h : j < 8) : wN S j < 4096 := by
  have h1 : S.fmod 300 < 300 := Int.fmod_lt_of_pos _ (by omega)
  have h2 : (S.fdiv 300).fmod 40 < 40 := Int.fmod_lt_of_pos _ (by omega)
  unfold wN
  have h3 : j * (1 + ((S.fdiv 300).fmod 40).toNat) ≤ 7 * 40 := Nat.mul_le_mul (by omega) (by omega)
  omega
theorem wN_mono (S : Int) {i j : Nat} (h : i < j) : wN S i < wN S j := by
  unfold wN
  have h3 : (i + 1) * (1 + ((S.fdiv 300).fmod 40).toNat) ≤ j * (1 + ((S.fdiv 300).fmod 40).toNat) := Nat.mul_le_mul_right _ h
  rw [Nat.add_mul] at h3
  omega
theorem ap_arg (S : Int) (j : Nat) : ((1 - (j : Int).fmod 2 * 2) * (13 + S.fmod 300 + (j : Int) * (1 + (S.fdiv 300).fmod 40))).natAbs = wN S j := by
  have a0 : 0 ≤ S.fmod 300 := Int.fmod_nonneg_of_pos _ (by omega)
  have b0 : 0 ≤ (S.fdiv 300).fmod 40 := Int.fmod_nonneg_of_pos _ (by omega)
  rw [Int.natAbs_mul]
  have e1 : (1 - (j : Int).fmod 2 * 2).natAbs = 1 := by
    have h0 : 0 ≤ (j : Int).fmod 2 := Int.fmod_nonneg_of_pos _ (by omega)
    have h1 : (j : Int).fmod 2 < 2 := Int.fmod_lt_of_pos _ (by omega)
    omega
  rw [e1, Nat.one_mul]
  unfold wN
  have e2 : (13 + S.fmod 300 + (j : Int) * (1 + (S.fdiv 300).fmod 40)) = ((13 + (S.fmod 300).toNat + j * (1 + ((S.fdiv 300).fmod 40).toNat) : Nat) : Int) := by
    push_cast
    rw [Int.toNat_of_nonneg a0, Int.toNat_of_nonneg b0]
  rw [e2, Int.natAbs_natCast]
noncomputable def wW (S : Int) (j : Nat) : Str := word (wN S j)
noncomputable def WordE (S : Int) (v y : Value) (own : List (Addr × Obj)) : Prop := own = [] ∧ ∀ j, RN v j → RS y (wW S j)
theorem wordE_here {S : Int} {j : Nat} {t u : Tok} : WordE S (.int j t) (.str (wW S j) u) [] := ⟨rfl, fun j' hj => by
  refine hide fun hGoal => ?_
  obtain ⟨t', e⟩ := hj
  refine hGoal ?_
  clear hGoal
  injection e with e1 _
  obtain rfl : j = j' := Int.ofNat.inj e1
  exact ⟨_, rfl⟩⟩
theorem wN_pos (S : Int) (j : Nat) : wN S j ≠ 0 := by unfold wN; omega
theorem range_reps {n : Nat} : ∀ {us : List Value}, us.length = n → (∀ j v, us[j]? = some v → j < n ∧ ∃ t : Tok, v = .int j t) → Reps RN us (List.range n) := fun {us} hl h => ⟨by simp [hl], fun k v x hv hx => by
  refine hide fun hGoal => ?_
  obtain ⟨hk, t, e⟩ := h k v hv
  refine hGoal ?_
  clear hGoal
  rw [List.getElem?_range hk] at hx
  obtain rfl := Option.some.inj hx
  exact ⟨t, e⟩⟩
theorem wW_ok (S : Int) {n : Nat} (hn : n ≤ 6) : WordsOk n (wW S) := ⟨fun j => word_Nm (wN_pos S j), fun j hj => word_len3 (wN_lt S (by omega)), fun i j h => word_lt (wN_mono S h)⟩
theorem size_is (n : Int) : ∃ j : Nat, 2 ≤ j ∧ j ≤ 6 ∧ (if 6 < if 2 > n then 2 else n then 6 else if 2 > n then 2 else n) = (j : Int) := by
  by_cases h1 : 2 > n
  · rw [if_pos h1, if_neg (by decide)]; exact ⟨2, by omega, by omega, rfl⟩
  · rw [if_neg h1]
    by_cases h2 : 6 < n
    · rw [if_pos h2]; exact ⟨6, by omega, by omega, rfl⟩
    · rw [if_neg h2]; exact ⟨n.toNat, by omega, by omega, by omega⟩
end PartWa

section PartPv
variable {W : Nat → Str} {r : List Nat}
theorem map_pth_inj : ∀ {xs ys : List (List Str)}, (∀ p ∈ xs, p ≠ [] ∧ ∀ x ∈ p, Nm x) → (∀ p ∈ ys, p ≠ [] ∧ ∀ x ∈ p, Nm x) → xs.map pth = ys.map pth → xs = ys
  | [], [], _, _, _ => rfl
  | x :: xs, y :: ys, hx, hy, h => by
    rw [List.map_cons, List.map_cons] at h
    injection h with h1 h2
    have a := hx x (.head _)
    have b := hy y (.head _)
    rw [pth_inj a.2 b.2 a.1 b.1 h1, map_pth_inj (fun p hp => hx p (.tail _ hp)) (fun p hp => hy p (.tail _ hp)) h2]
  | [], _ :: _, _, _, h => by cases h
  | _ :: _, [], _, _, h => by cases h
theorem pth_nodup {ps : List (List Str)} (h : OkP ps) : (ps.map pth).Nodup := by
  refine List.pairwise_map.mpr (List.Pairwise.imp_of_mem (fun {a b} ha hb hab e => ?_) h.nodup)
  exact hab (pth_inj (h.nm a ha) (h.nm b hb) (h.ne a ha) (h.ne b hb) e)
theorem map_W_inj (hW : WordsOk r.length W) : ∀ {xs ys : List Nat}, xs.map W = ys.map W → xs = ys
  | [], [], _ => rfl
  | x :: xs, y :: ys, h => by
    rw [List.map_cons, List.map_cons] at h
    injection h with h1 h2
    rw [W_inj hW h1, map_W_inj hW h2]
  | [], _ :: _, h => by cases h
  | _ :: _, [], h => by cases h
theorem turn_iff (hW : WordsOk r.length W) (hr : ∀ x ∈ r, x < r.length + 2) (h6 : r.length ≤ 6) {ps ps' : List (List Str)} {told : List Str} (hp : ps.Perm (psOf W r)) (run : RunP ps [] ps' told) (h2 : ps'.length ≤ 2)
    {ys zs : List Str} (hy : ys.Perm ((psOf W r).map pth)) (hz : zs.Perm ((psOf W r.reverse).map pth)) (oy : ys.Pairwise fun a b => ltS b a = false) (oz : zs.Pairwise fun a b => ltS b a = false) : ys = zs ↔ r = r.reverse := by
  have hl : r.reverse.length = r.length := List.length_reverse
  have hWr : WordsOk r.reverse.length W := by rw [hl]; exact hW
  have hrr : ∀ x ∈ r.reverse, x < r.reverse.length + 2 := fun x hx => by rw [hl]; exact hr x (List.mem_reverse.mp hx)
  constructor
  · intro e
    subst e
    have h3 : (ps.map pth).Perm ((psOf W r.reverse).map pth) := ((hp.map pth).trans hy.symm).trans hz
    obtain ⟨l, hl1, hl2⟩ := perm_map_inv pth h3
    have ok1 := okP_of hW hr h6 hp
    have ok2 := okP_of hWr hrr (by rw [hl]; exact h6) hl1
    have e2 : ps = l := map_pth_inj (fun p h => ⟨ok1.ne p h, ok1.nm p h⟩) (fun p h => ⟨ok2.ne p h, ok2.nm p h⟩) hl2
    subst e2
    have a := (run_end hW hr h6 hp run h2).1
    have b := (run_end hWr hrr (by rw [hl]; exact h6) hl1 run h2).1
    exact map_W_inj hW (a.symm.trans b)
  · intro e
    rw [← e] at hz
    exact rise_unique ord_S ltS_tri (hy.trans hz.symm) oy oz
end PartPv

local macro_rules | `(tactic| walk_at "mine pad 5") => `(tactic| skip)
section PartWl
local macro_rules
  | `(tactic| walk_at $k:str) => if ["binaryOp Add str str", "compareOp Eq str str", "subscriptTail Name UnaryOp ref int", "exec Assign cons ListComp", "subscriptTail Name Slice ref ref", "call ref", "call ref", "binaryOp Add ref ref", "subscriptTail Name Constant ref int", "subscriptTail Name Name ref int", "compareOp Eq ref ref", "exec Assign cons ListComp", "eval ListComp", "call builtin:sorted", "truthy ref", "call builtin:sum"].contains k.getString then `(tactic| (refine hold_it ?_)) else Lean.Macro.throwUnsupported
theorem RN_eq {A : Around} {s : Shared} (v : Value) (x : Nat) (v' : Value) (y : Nat) (h : RN v x) (h' : RN v' y) : PySem.SeqAt.EqAt A s v v' (decide (x = y)) := by
  have e : decide (x = y) = decide ((x : Int) = (y : Int)) := decide_eq_decide.mpr Int.ofNat_inj.symm
  rw [e]
  exact RI_eq v x v' y h h'
set_option maxHeartbeats 8000000 in
theorem law_walk : PySem.Challenge.rw_il0061_01.Holds := hd (by
  k_go0
  all_goals (try k_fold)
  k_steps
  rename_i h2a tka h2b tkb h1 oS F1 N1 dS
  rename IntsAre _ _ => hI
  rename Heap.IsList _ _ _ => hL
  rename ¬ (_ < _) => hc
  rename Top _ _ _ _ _ _ => T

  rename Frag.In _ _ => X
  rename Reads _ _ _ _ => hR0
  rename Heap.CodeRec _ _ _ => hcd
  rename Below _ _ _ _ => K0
  rename CellsAre _ _ _ => hX0
  rename Ground _ _ _ _ _ _ _ _ _ => hG
  clear hcd hX0
  have hvl := hI.length
  rename List Int => sc
  rename List Value => svs
  have hc63 : sc.length ≤ 63 := Nat.not_lt.mp fun q => hc (Int.ofNat_lt.mpr q)
  have hsv : svs.length < 1000 := by rw [hvl]; omega
  refine hide fun hGoal => ?_
  obtain ⟨z, hz2, hz6, ez⟩ := size_is (sc.length : Int)
  refine hGoal ?_
  clear hGoal
  rw [ez] at dS
  clear ez
  generalize (ite (α := Tok) (6 < ite (α := Int) (2 > (sc.length : Int)) 2 sc.length) tka _) = tz at dS
  rename Shared => s1
  obtain ⟨aS, oW, oH, oC, hLs, N1', dW, dH, dC⟩ : ∃ aS oW oH oC, s1.heap.IsList aS svs.toArray ∧ News s1.heap s1.heap.objs.size h1 [(s1.heap.objs.size + 1 + 1 + 1 + 1, oW), (s1.heap.objs.size + 1 + 1 + 1, oH), (s1.heap.objs.size + 1 + 1, oS), (s1.heap.objs.size + 1, oC)] ∧
      (∃ x, oW.data = .cell x) ∧ (∃ x, oH.data = .cell x) ∧ oC.data = .cell (some (.ref aS)) := ⟨_, _, _, _, hL, N1, ⟨_, by assumption⟩, ⟨_, by assumption⟩, by assumption⟩
  clear N1
  refine hide fun hGoal => ?_
  obtain ⟨xW, dW⟩ := dW
  refine hGoal ?_
  clear hGoal
  refine hide fun hGoal => ?_
  obtain ⟨xH, dH⟩ := dH
  refine hGoal ?_
  clear hGoal
  show wpAny _ _ _ _ _ _
  refine' comp_assign (cl := ?clA) ?h0 ?h1 ?h2 ?h3 ?h4 ?h5 ?h7 ?h8 ?h6 ?_
  case h0 => exact rfl
  case h1 => exact rfl
  case h2 => decide
  case h3 => rfl
  case h4 => decide
  case h5 => rfl
  case h6 => intro _; with_unfolding_all rfl
  case h7 => rfl
  case h8 => rfl
  k_steps
  rename_i h3 tk3 ta tb tc rgA F2 N2 kA
  clear kA
  refine hide fun hGoal => ?_
  obtain ⟨m2, em2, F2'⟩ : ∃ m2, m2 = _ ∧ Fr _ _ _ m2 := ⟨_, rfl, F2⟩
  refine hGoal ?_
  clear hGoal
  clear F2 em2
  show wpAny _ _ _ _ _ _
  refine' pyIter_range1 rgA (by omega) ?_
  refine catA (n := z) (Pv := fun v => ∃ (j : Nat) (t : Tok), v = Value.int j t ∧ j < z) (p := fun _ => true) (F := SmallE ((z : Int) + 2)) (src_range1 rfl) (by rw [sizeLine_eq]; omega) (fun j v hj => ?_) F2' N2 (turn_ofV F2' N2 ⟨?testsA, ?eltA⟩) (fun D7 e7 h7 tk7 tr F7 G => ?_)
  · refine hide fun hGoal => ?_
    obtain ⟨hjz, t, rfl⟩ := hj
    refine hGoal ?_
    clear hGoal
    exact ⟨_, _, rfl, hjz⟩
  case testsA =>
    intro g C rest v s₃ m₃ E' hv' st Fc hm Nc
    exact wpAny_pure ⟨rfl, _, _, _, rfl, Fc, Nc, fun q hq => hq⟩
  case eltA =>
    intro g C rest v s₃ m₃ E' hv' hpv st Fm Nm Fc hm Nc
    refine hide fun hGoal => ?_
    obtain ⟨j, tj, rfl, hjz⟩ := hv'
    refine hGoal ?_
    clear hGoal
    have Xg := X.keeps st
    have Tg := T.keeps st
    have hLg := isList_stays hLs st
    simp only [List.cons_append, List.nil_append] at Nc
    clear F2' N2 X K0 T Fm Nm
    with_reducible show wpAny _ _ _ _ _ _
    k_fold
    k_steps
    show wpAny _ _ _ _ _ _
    refine' slice3_I Fc Nc (Fr.lst Fc hLg) hI (IsPart.int _ _) (IsPart.int _ _) (by omega) (fun D8 ws8 ms8 h8 F8 N8 hi8 => ?_) ?s1 ?s2 hsv
    case s1 => with_unfolding_all rfl
    case s2 => kmk_pure
    clear Fc Nc
    k_steps
    show wpAny _ _ _ _ _ _
    refine LSm.sum_ints F8 N8 rfl (News.isList N8 (.head _)) hi8 fun h9 tk9 t9 F9 N9 => ?_
    clear F8 N8
    k_steps
    exact ⟨_, _, [], rfl, F9, fun p hp => N9 p (.tail _ hp), (fun _ h => nomatch h), smallE_mod⟩
  obtain ⟨r, hr1, hr2⟩ := small_row (k := z + 2) (us := tr.map (·.2.1)) fun y hy => by
    refine hide fun hGoal => ?_
    obtain ⟨t, ht, rfl⟩ := List.mem_map.mp hy
    refine hGoal ?_
    clear hGoal
    exact ⟨_, _, G.each t ht⟩
  have hrl : r.length = z := by rw [← hr1.1, List.length_map]; exact got_len G
  have N7 : News s1.heap s1.heap.objs.size h7 [(D7, W.listOf (tr.map (·.2.1)).toArray e7), (s1.heap.objs.size + 1 + 1 + 1 + 1, oW), (s1.heap.objs.size + 1 + 1 + 1, oH), (s1.heap.objs.size + 1 + 1, oS), (s1.heap.objs.size + 1, oC)] := by
    have := G.led
    rw [flat_nil fun t ht => (G.each t ht).1] at this
    exact this
  have dlt7 := G.lt
  refine hide fun hGoal => ?_
  obtain ⟨m7, em7, F7'⟩ : ∃ m7, m7 = _ ∧ Fr s1.heap s1.heap.objs.size h7 m7 := ⟨_, rfl, F7⟩
  refine hGoal ?_
  clear hGoal
  have mR7 : m7 (Str.ofString "row") = some (.ref D7) := by rw [em7]; rfl
  clear F7 em7 N2 F2' G
  generalize tr.map (·.2.1) = vr at N7 hr1
  clear tr
  k_steps
  show wpAny _ _ _ _ _ _
  refine LSm.sum_ints F7' N7 rfl (Fr.lst F7' hLs) hI fun h8 tk8 t8 F8 N8 => ?_
  clear F7' N7
  k_steps
  rename_i F8' N8' h9 oH9 F9 N9 dH9
  clear F8' N8'
  replace N9 : News s1.heap s1.heap.objs.size h9 [(D7, W.listOf vr.toArray e7), (s1.heap.objs.size + 1 + 1 + 1 + 1, oW), (s1.heap.objs.size + 1 + 1 + 1, oH9), (s1.heap.objs.size + 1 + 1, oS), (s1.heap.objs.size + 1, oC)] := N9
  clear dH
  show wpAny _ _ _ _ _ _
  refine' assign_plain ?b0 ?_
  case b0 => with_unfolding_all rfl
  refine' comp_eval (cl := ?clB) ?b1 ?b2 ?b3 ?b4 ?b5 ?b6 ?_
  case b1 => exact rfl
  case b2 => decide
  case b3 => rfl
  case b4 => decide
  case b5 => rfl
  case b6 => intro _; with_unfolding_all rfl
  k_steps
  rename_i h10 tk10 ta' tb' tc' rgB F10 N10 kB
  clear kB
  try (rename Fr s1.heap s1.heap.objs.size h9 m7 => q9; clear q9)
  try (rename News s1.heap s1.heap.objs.size h9 _ => q9; clear q9)
  rw [show (z : Int) + 2 = ((z + 2 : Nat) : Int) from by omega] at rgB
  show wpAny _ _ _ _ _ _
  refine' pyIter_range1 rgB (by omega) ?_
  refine catE (n := z + 2) (Pv := fun v => ∃ (j : Nat) (t : Tok), v = Value.int j t ∧ j < z + 2) (p := fun _ => true) (F := WordE sc.sum) (src_range1 rfl) (by rw [sizeLine_eq]; omega) (fun j v hj => ?_) F10 N10 (turn_ofV F10 N10 ⟨?testsB, ?eltB⟩) (fun D11 e11 h11 tk11 tr F11 G => ?_)
  · refine hide fun hGoal => ?_
    obtain ⟨hjz, t, rfl⟩ := hj
    refine hGoal ?_
    clear hGoal
    exact ⟨_, _, rfl, hjz⟩
  case testsB =>
    intro g C rest v s₃ m₃ E' hv' st Fc hm Nc
    exact wpAny_pure ⟨rfl, _, _, _, rfl, Fc, Nc, fun q hq => hq⟩
  case eltB =>
    intro g C rest v s₃ m₃ E' hv' hpv st Fm Nm Fc hm Nc
    refine hide fun hGoal => ?_
    obtain ⟨j, tj, rfl, hjz⟩ := hv'
    refine hGoal ?_
    clear hGoal
    have Xg := X.keeps st
    have Tg := T.keeps st
    simp only [List.cons_append, List.nil_append] at Nc
    have HF : Hid (Fr s1.heap s1.heap.objs.size s₃.heap m7) := Fm
    have HN : Hid (News s1.heap s1.heap.objs.size s₃.heap _) := Nm
    have HX : Hid ((Mine.hd.heap_39 _).In s1.heap) := X
    have HT : Hid (Tp _ _ _ s1.heap) := T
    clear F10 N10 X K0 T Fm Nm
    with_reducible show wpAny _ _ _ _ _ _
    k_fold
    k_steps
    show wpAny _ _ _ _ _ _
    k_dflt (refine' Does.use (d_ap _ _ (by rw [ap_arg]; exact wN_lt _ (by omega))) ?k2 ?k3 ?k4 ?k5 ?k6 ?kd ?ku trivial ?_; (case k2 => exact HF); (case k3 => exact HX); (case k4 => exact HN); (case k5 => exact HT); (case k6 => first | exact rfl | assumption); (case kd => walk_at "mine room"); (case ku => walk_at "mine room"); k_whole)
    intro rv h' tk' F' N' st' e
    clear F' N' HF HN
    have Fc' := Fc.kept st'
    have Nc' := Nc.grown st'
    clear Fc Nc
    rw [ap_arg] at e
    refine hide fun hGoal => ?_
    obtain ⟨t8, rfl⟩ := e
    refine hGoal ?_
    clear hGoal
    k_steps
    refine decode_ascii (apL_ne (wN_pos _ _)) (apL_len3 (wN_lt _ (by omega))) (fun b hb => by have := apL_dig _ b hb; omega) fun t9 k9 => ?_
    k_steps
    exact ⟨_, _, [], rfl, Fc', Nc', (fun _ h => nomatch h), wordE_here⟩
  have hwr : Reps RS (tr.map (·.2.1)) ((List.range (z + 2)).map (wW sc.sum)) := by
    refine hide fun hGoal => ?_
    obtain ⟨us, hus1, hus2, hus3⟩ := G.src
    refine hGoal ?_
    clear hGoal
    have := comp_reps (R' := RS) (p := fun _ => true) (pp := fun _ => true) (f := wW sc.sum) (range_reps hus1 hus2) (fun _ _ _ => rfl) hus3 (fun t ht x hx => (G.each t ht).2 x hx)
    rw [List.filter_eq_self.mpr (fun _ _ => rfl)] at this
    exact this
  have N11 : News s1.heap s1.heap.objs.size h11 [(D11, W.listOf (tr.map (·.2.1)).toArray e11), (D7, W.listOf vr.toArray e7), (s1.heap.objs.size + 1 + 1 + 1 + 1, oW), (s1.heap.objs.size + 1 + 1 + 1, oH9), (s1.heap.objs.size + 1 + 1, oS), (s1.heap.objs.size + 1, oC)] := by
    have := G.led
    rw [flat_nil fun t ht => (G.each t ht).1] at this
    exact this
  have dlt11 := G.lt
  replace F11 : Fr s1.heap s1.heap.objs.size h11 m7 := F11
  clear G F10 N10
  generalize tr.map (·.2.1) = vw at N11 hwr
  clear tr
  k_steps
  rename_i F11' N11' h12 oW12 F12 N12 dW12
  replace N12 : News s1.heap s1.heap.objs.size h12 [(D11, W.listOf vw.toArray e11), (D7, W.listOf vr.toArray e7), (s1.heap.objs.size + 1 + 1 + 1 + 1, oW12), (s1.heap.objs.size + 1 + 1 + 1, oH9), (s1.heap.objs.size + 1 + 1, oS), (s1.heap.objs.size + 1, oC)] := N12
  clear F11' N11' dW
  have hr6 : Six r.length := by rw [hrl]; exact hz6
  have hwl2 : ((List.range (z + 2)).map (wW sc.sum)).length = r.length + 2 := by rw [List.length_map, List.length_range, hrl]
  have hw3 : ∀ x ∈ (List.range (z + 2)).map (wW sc.sum), x.length ≤ 3 := fun x hx => by
    refine hide fun hGoal => ?_
    obtain ⟨j, hj, rfl⟩ := List.mem_map.mp hx
    refine hGoal ?_
    clear hGoal
    exact word_len3 (wN_lt _ (by have := List.mem_range.mp hj; omega))
  show wpAny _ _ _ _ _ _
  k_dflt (refine' DoesW.use (d_ways _ D7 D11 vr vw r _ hr1 hr6 (by rw [hrl]; exact hr2) hwr hwl2 hw3) ?k2 ?k3 ?k4 ?k5 ?k6 ?kd ?ku ?kp ?_; (case k2 => k_asm); (case k3 => k_asm); (case k4 => k_asm); (case k5 => k_asm); (case k6 => first | exact rfl | assumption); (case kd => walk_at "mine room"); (case ku => walk_at "mine room"); (case kp => exact ⟨News.isList N12 (.tail _ (.head _)), News.isList N12 (.head _)⟩); k_whole)
  intro v13 h13 tk13 F13 N13 st13 e
  refine hide fun hGoal => ?_
  obtain ⟨D13, us13, e13, rfl, hD13, ho13, hus13⟩ := e
  refine hGoal ?_
  clear hGoal
  have N13' := News.absorb F12 N13 hD13 ho13
  have lt13 := News.below N12 hD13
  clear F12 N12 st13 ho13 hD13 N13
  k_steps
  have hWok : WordsOk r.length (wW sc.sum) := wW_ok _ hr6
  have hr2' : ∀ x ∈ r, x < r.length + 2 := by rw [hrl]; exact hr2
  rw [show (List.range (z + 2)).map (wW sc.sum) = (List.range (r.length + 2)).map (wW sc.sum) from by rw [hrl], ways_pth hWok hr2'] at hus13
  have hps : (psOf (wW sc.sum) r).length = z + 2 := by unfold psOf; rw [List.length_map, List.length_range, hrl]
  rename_i h14 F14 N14
  refine hide fun hGoal => ?_
  obtain ⟨m14, em14, F14'⟩ : ∃ m14, m14 = _ ∧ Fr s1.heap s1.heap.objs.size h14 m14 := ⟨_, rfl, F14⟩
  refine hGoal ?_
  clear hGoal
  have mR14 : m14 (Str.ofString "row") = some (.ref D7) := by rw [em14]; exact mR7
  have mW14 : m14 (Str.ofString "ways") = some (.ref D13) := by rw [em14]; rfl
  clear F14 em14
  show wpAny _ _ _ _ _ _
  refine sorted_S F14' N14 (News.isList N14 (.head _)) hus13 (by rw [List.length_map, hps]; omega) (by rw [List.length_map, hps]; omega) fun D15 e15 h15 ys15 us15 F15 N15 lt15 hys15 hp15 ho15 hl15 => ?_
  refine hide fun hGoal => ?_
  obtain ⟨ps15, hp15', rfl⟩ := perm_map_inv pth hp15
  refine hGoal ?_
  clear hGoal
  have hok15 : OkP ps15 := okP_of hWok hr2' hr6 hp15'
  clear F14' N14
  k_steps
  show wpAny _ _ _ _ _ _
  refine hide fun hGoal => ?_
  obtain ⟨new15, enew15⟩ : ∃ x, x = [(D13, W.listOf us13.toArray e13), (D11, W.listOf vw.toArray e11), (D7, W.listOf vr.toArray e7), (s1.heap.objs.size + 1 + 1 + 1 + 1, oW12), (s1.heap.objs.size + 1 + 1 + 1, oH9), (s1.heap.objs.size + 1 + 1, oS), (s1.heap.objs.size + 1, oC)] := ⟨_, rfl⟩
  refine hGoal ?_
  clear hGoal
  have N15' : News s1.heap s1.heap.objs.size h15 ((D15, W.listOf us15.toArray e15) :: (new15 ++ [])) := by rw [enew15]; exact N15
  have lt15' : ∀ q ∈ new15, @LT.lt Nat _ q.1 D15 := by rw [enew15]; exact lt15
  k_dflt (refine' DoesY.use (new := new15) (frs := []) (d_peel D15 us15 e15 ps15 hys15 hok15 ?sa) F15 X N15' T trivial ?hap (fun _ h => nomatch h) ?k6 ?kd ?ku ?_ ?km; (case k6 => exact rfl); (case kd => walk_at "mine room"); (case ku => walk_at "mine room"))
  case sa => rw [hp15'.length_eq, hps]; omega
  case hap => exact fun p hp => ⟨Nat.ne_of_lt (lt15' p hp), fun _ h => nomatch h⟩
  case km =>
    rintro r f g h' hfg ⟨T, A, B, us, ws, told, ps', eA, eB, a0, a1, a2, a3, a4, a5, a6, a7, a8, a9, a10⟩
    exact ⟨T, A, B, us, ws, told, ps', eA, eB, a0, a1, a2, a3, a4, a5, a6, a7, hfg _ a8, hfg _ a9, hfg _ a10⟩
  intro rv h16 tk16 frs16 su16 Fs16 F16 N16 hpost
  refine hide fun hGoal => ?_
  obtain ⟨T16, A16, B16, us16, ws16, told, ps16, eA, eB, rfl, gT, gA, gB, hus16, hws16, hrun, hle, fT, fA, fB⟩ := hpost
  refine hGoal ?_
  clear hGoal
  clear F15 N15 N15'
  refine hide fun hGoal => ?_
  obtain ⟨hAn, hAl, -, hAL⟩ := fA
  refine hGoal ?_
  clear hGoal
  refine hide fun hGoal => ?_
  obtain ⟨hBn, hBl, -, hBL⟩ := fB
  refine hGoal ?_
  clear hGoal
  refine hide fun hGoal => ?_
  obtain ⟨hTn, hTl, -, hTL⟩ := fT
  refine hGoal ?_
  clear hGoal
  have N17 : News s1.heap s1.heap.objs.size h16 [(T16, { cls := Value.type "tuple", data := Data.seq #[Value.ref A16, Value.ref B16] }), (A16, W.listOf us16.toArray eA), (B16, W.listOf ws16.toArray eB), (D13, W.listOf us13.toArray e13), (D11, W.listOf vw.toArray e11), (D7, W.listOf vr.toArray e7), (s1.heap.objs.size + 1 + 1 + 1 + 1, oW12), (s1.heap.objs.size + 1 + 1 + 1, oH9), (s1.heap.objs.size + 1 + 1, oS), (s1.heap.objs.size + 1, oC)] := fun p hp => by
    rcases List.mem_cons.mp hp with rfl | hp
    · exact ⟨gT, hTL, hTn⟩
    rcases List.mem_cons.mp hp with rfl | hp
    · exact ⟨gA, hAL, hAn⟩
    rcases List.mem_cons.mp hp with rfl | hp
    · exact ⟨gB, hBL, hBn⟩
    exact N16 p (List.mem_append_left _ (by rw [enew15]; exact hp))
  clear N16
  refine hide fun hGoal => ?_
  obtain ⟨etold, hund⟩ := run_end hWok hr2' hr6 hp15' hrun hle
  refine hGoal ?_
  clear hGoal
  k_steps
  rename_i h17 F17 N17'
  show wpAny _ _ _ _ _ _
  refine hide fun hGoal => ?_
  obtain ⟨m17, em17, F17'⟩ : ∃ m17, m17 = _ ∧ Fr s1.heap s1.heap.objs.size h17 m17 := ⟨_, rfl, F17⟩
  refine hGoal ?_
  clear hGoal
  have mR17 : m17 (Str.ofString "row") = some (.ref D7) := by rw [em17]; exact mR14
  have mW17 : m17 (Str.ofString "ways") = some (.ref D13) := by rw [em17]; exact mW14
  have mP17 : m17 (Str.ofString "peeled") = some (.ref T16) := by rw [em17]; rfl
  clear F17 em17 mR14 mW14
  refine truthy_tuple (News.isTup N17' (.head _)) (by show ((2 : Nat) : Int) < 2 ^ 63; decide) ?_
  rw [show (#[Value.ref A16, Value.ref B16] : Array Value).isEmpty = false from rfl]
  k_steps
  rename_i h18a h18b h18 F18 N18
  refine hide fun hGoal => ?_
  obtain ⟨m18, em18, F18'⟩ : ∃ m18, m18 = _ ∧ Fr s1.heap s1.heap.objs.size h18 m18 := ⟨_, rfl, F18⟩
  refine hGoal ?_
  clear hGoal
  have mR18 : m18 (Str.ofString "row") = some (.ref D7) := by rw [em18]; exact mR17
  have mW18 : m18 (Str.ofString "ways") = some (.ref D13) := by rw [em18]; exact mW17
  have mT18 : m18 (Str.ofString "told") = some (.ref A16) := by rw [em18]; rfl
  have mB18 : m18 (Str.ofString "left") = some (.ref B16) := by rw [em18]; rfl
  clear F18 em18 mR17 mW17 mP17
  have hvrl : vr.length < 1000 := by rw [hr1.1, hrl]; omega
  show wpAny _ _ _ _ _ _
  refine' rev_L F18' N18 (News.isList N18 (.tail _ (.tail _ (.tail _ (.tail _ (.tail _ (.head _))))))) (IsPart.int _ _) (fun D19 h19 F19 N19 lt19 => ?_) ?s19 ?t19 hvrl
  case s19 => with_unfolding_all rfl
  case t19 => kmk_pure
  clear F18' N18
  k_steps
  show wpAny _ _ _ _ _ _
  have hrr1 : Reps RN vr.reverse r.reverse := hr1.rev
  have hrrl : r.reverse.length = r.length := List.length_reverse
  have hr2r : ∀ x ∈ r.reverse, x < r.reverse.length + 2 := fun x hx => by rw [hrrl]; exact hr2' x (List.mem_reverse.mp hx)
  k_dflt (refine' DoesW.use (d_ways _ D19 D11 vr.reverse vw r.reverse _ hrr1 (by rw [hrrl]; exact hr6) hr2r hwr (by rw [hrrl]; exact hwl2) hw3) ?k2 ?k3 ?k4 ?k5 ?k6 ?kd ?ku ?kp ?_; (case k2 => k_asm); (case k3 => k_asm); (case k4 => k_asm); (case k5 => k_asm); (case k6 => first | exact rfl | assumption); (case kd => walk_at "mine room"); (case ku => walk_at "mine room"); (case kp => exact ⟨News.isList N19 (.head _), News.isList N19 (.tail _ (.tail _ (.tail _ (.tail _ (.tail _ (.head _))))))⟩); k_whole)
  intro v20 h20 tk20 F20 N20 st20 e
  refine hide fun hGoal => ?_
  obtain ⟨D20, us20, e20, rfl, hD20, ho20, hus20⟩ := e
  refine hGoal ?_
  clear hGoal
  have N20' := News.absorb F19 N20 hD20 ho20
  have lt20 := News.below N19 hD20
  clear F19 N19 st20 ho20 hD20 N20
  k_steps
  rename_i h21 F21 N21
  refine hide fun hGoal => ?_
  obtain ⟨m21, em21, F21'⟩ : ∃ m21, m21 = _ ∧ Fr s1.heap s1.heap.objs.size h21 m21 := ⟨_, rfl, F21⟩
  refine hGoal ?_
  clear hGoal
  have mR21 : m21 (Str.ofString "row") = some (.ref D7) := by rw [em21]; exact mR18
  have mW21 : m21 (Str.ofString "ways") = some (.ref D13) := by rw [em21]; exact mW18
  have mT21 : m21 (Str.ofString "told") = some (.ref A16) := by rw [em21]; exact mT18
  have mB21 : m21 (Str.ofString "left") = some (.ref B16) := by rw [em21]; exact mB18
  have mU21 : m21 (Str.ofString "turned") = some (.ref D20) := by rw [em21]; rfl
  clear F21 em21 mR18 mW18 mT18 mB18
  have hokW : OkP (psOf (wW sc.sum) r) := okP_of hWok hr2' hr6 (.refl _)
  have hus13l : us13.length = z + 2 := by rw [hus13.1, List.length_map, hps]
  show wpAny _ _ _ _ _ _
  refine' comp_assign (cl := ?clC) ?c0 ?c1 ?c2 ?c3 ?c4 ?c5 ?c7 ?c8 ?c6 ?_
  case c0 => exact rfl
  case c1 => exact rfl
  case c2 => decide
  case c3 => rfl
  case c4 => decide
  case c5 => rfl
  case c6 => intro _; with_unfolding_all rfl
  case c7 => rfl
  case c8 => rfl
  k_steps
  show wpAny _ _ _ _ _ _
  have hls21 : Heap.IsList h21 D13 us13.toArray := News.isList N21 (.tail _ (.tail _ (.tail _ (.tail _ (.tail _ (.head _))))))
  refine' wpAny_pyIter_list ?hlz ?_
  case hlz => exact hls21
  refine catA (Pv := fun v => ∃ x ∈ (psOf (wW sc.sum) r).map pth, RS v x) (p := strP fun w => !decide (dirS w = sep)) (F := TxtE fun x => baseS (dirS x)) (src_list rfl hls21) (by rw [sizeLine_eq, hus13l]; omega) (fun j v hj => ?_) F21' N21 (turn_ofX F21' N21 ⟨?testsC, ?eltC⟩) (fun D22 e22 h22 tk22 tr F22 G => ?_)
  · obtain ⟨x, hx0, hx⟩ := hus13.get hj; exact ⟨x, List.mem_of_getElem? hx0, hx⟩
  case testsC =>
    intro g C rest v s₃ m₃ E' hv' st Fm Nm Fc hm Nc
    refine hide fun hGoal => ?_
    obtain ⟨x, hxm, tx, rfl⟩ := hv'
    refine hGoal ?_
    clear hGoal
    refine hide fun hGoal => ?_
    obtain ⟨hx1, hx2⟩ := hokW.dir_len x hxm
    refine hGoal ?_
    clear hGoal
    have Xg := X.keeps st
    have Tg := T.keeps st
    simp only [List.cons_append, List.nil_append] at Nc
    have HF : Hid (Fr s1.heap s1.heap.objs.size s₃.heap m21) := Fm
    have HN : Hid (News s1.heap s1.heap.objs.size s₃.heap _) := Nm
    have HX : Hid ((Mine.hd.heap_39 _).In s1.heap) := X
    have HT : Hid (Tp _ _ _ s1.heap) := T
    clear F21' N21 X K0 T Fm Nm
    with_reducible show wpAny _ _ _ _ _ _
    k_fold
    k_steps
    show wpAny _ _ _ _ _ _
    k_dflt (refine' Does.use (d_dirname x tx hx1) ?k2 ?k3 ?k4 ?k5 ?k6 ?kd ?ku trivial ?_; (case k2 => exact HF); (case k3 => exact HX); (case k4 => exact HN); (case k5 => exact HT); (case k6 => first | exact rfl | assumption); (case kd => walk_at "mine room"); (case ku => walk_at "mine room"); k_whole)
    intro rv h' tk' F' N' st' e
    clear F' N' HF HN
    have Fc' := Fc.kept st'
    have Nc' := Nc.grown st'
    clear Fc Nc
    refine hide fun hGoal => ?_
    obtain ⟨t8, rfl⟩ := e
    refine hGoal ?_
    clear hGoal
    k_steps
    exact ⟨rfl, _, _, _, rfl, Fc', Nc', fun q hq => hq⟩
  case eltC =>
    intro g C rest v s₃ m₃ E' hv' hpv st Fm Nm Fc hm Nc
    refine hide fun hGoal => ?_
    obtain ⟨x, hxm, tx, rfl⟩ := hv'
    refine hGoal ?_
    clear hGoal
    refine hide fun hGoal => ?_
    obtain ⟨hx1, hx2⟩ := hokW.dir_len x hxm
    refine hGoal ?_
    clear hGoal
    have Xg := X.keeps st
    have Tg := T.keeps st
    simp only [List.cons_append, List.nil_append] at Nc
    have HF : Hid (Fr s1.heap s1.heap.objs.size s₃.heap m21) := Fm
    have HN : Hid (News s1.heap s1.heap.objs.size s₃.heap _) := Nm
    have HX : Hid ((Mine.hd.heap_39 _).In s1.heap) := X
    have HT : Hid (Tp _ _ _ s1.heap) := T
    clear F21' N21 X K0 T Fm Nm
    with_reducible show wpAny _ _ _ _ _ _
    k_fold
    k_steps
    show wpAny _ _ _ _ _ _
    k_dflt (refine' Does.use (d_dirname x tx hx1) ?k2 ?k3 ?k4 ?k5 ?k6 ?kd ?ku trivial ?_; (case k2 => exact HF); (case k3 => exact HX); (case k4 => exact HN); (case k5 => exact HT); (case k6 => first | exact rfl | assumption); (case kd => walk_at "mine room"); (case ku => walk_at "mine room"); k_whole)
    intro rv h' tk' F' N' st' e
    have HF' : Hid (Fr s1.heap s1.heap.objs.size h' m21) := F'
    have HN' : Hid (News s1.heap s1.heap.objs.size h' _) := N'
    clear F' N' HF HN
    have Fc' := Fc.kept st'
    have Nc' := Nc.grown st'
    clear Fc Nc
    refine hide fun hGoal => ?_
    obtain ⟨t8, rfl⟩ := e
    refine hGoal ?_
    clear hGoal
    k_steps
    show wpAny _ _ _ _ _ _
    k_dflt (refine' Does.use (d_basename _ _ hx2) ?k2 ?k3 ?k4 ?k5 ?k6 ?kd ?ku trivial ?_; (case k2 => exact HF'); (case k3 => exact HX); (case k4 => exact HN'); (case k5 => exact HT); (case k6 => first | exact rfl | assumption); (case kd => walk_at "mine room"); (case ku => walk_at "mine room"); k_whole)
    intro rv h'' tk'' F'' N'' st'' e
    clear F'' N'' HF' HN'
    have Fc'' := Fc'.kept st''
    have Nc'' := Nc'.grown st''
    clear Fc' Nc'
    refine hide fun hGoal => ?_
    obtain ⟨t9, rfl⟩ := e
    refine hGoal ?_
    clear hGoal
    k_steps
    exact ⟨_, _, [], rfl, Fc'', Nc'', (fun _ h => nomatch h), rfl, fun x' hx' => by
      refine hide fun hGoal => ?_
      obtain ⟨t', e'⟩ := hx'
      refine hGoal ?_
      clear hGoal
      refine hide fun hGoal => ?_
      obtain ⟨rfl, _⟩ := Value.str.inj e'
      refine hGoal ?_
      clear hGoal
      exact ⟨_, rfl⟩⟩
  have hfl : Reps RS (tr.map (·.2.1)) ((((psOf (wW sc.sum) r).map pth).filter fun w => !decide (dirS w = sep)).map fun x => baseS (dirS x)) := by
    refine hide fun hGoal => ?_
    obtain ⟨us, hus1, hus2, hus3⟩ := G.src
    refine hGoal ?_
    clear hGoal
    obtain rfl : us = us13 := list_of_get hus1 rfl hus2
    exact comp_reps (R' := RS) (p := strP fun w => !decide (dirS w = sep)) (pp := fun w => !decide (dirS w = sep)) (f := fun x => baseS (dirS x)) hus13 (fun _ _ h => strP_of h) hus3 (fun t ht x hx => (G.each t ht).2 x hx)
  have N22 : News s1.heap s1.heap.objs.size h22 [(D22, W.listOf (tr.map (·.2.1)).toArray e22), (D20, W.listOf us20.toArray e20), (D19, W.listOf vr.reverse.toArray 0), (T16, { cls := Value.type "tuple", data := Data.seq #[Value.ref A16, Value.ref B16] }), (A16, W.listOf us16.toArray eA), (B16, W.listOf ws16.toArray eB), (D13, W.listOf us13.toArray e13), (D11, W.listOf vw.toArray e11), (D7, W.listOf vr.toArray e7), (s1.heap.objs.size + 1 + 1 + 1 + 1, oW12), (s1.heap.objs.size + 1 + 1 + 1, oH9), (s1.heap.objs.size + 1 + 1, oS), (s1.heap.objs.size + 1, oC)] := by
    have := G.led
    rw [flat_nil fun t ht => (G.each t ht).1] at this
    exact this
  have lt22 := G.lt
  refine hide fun hGoal => ?_
  obtain ⟨m22, em22, F22'⟩ : ∃ m22, m22 = _ ∧ Fr s1.heap s1.heap.objs.size h22 m22 := ⟨_, rfl, F22⟩
  refine hGoal ?_
  clear hGoal
  have mR22 : m22 (Str.ofString "row") = some (.ref D7) := by rw [em22]; exact mR21
  have mW22 : m22 (Str.ofString "ways") = some (.ref D13) := by rw [em22]; exact mW21
  have mT22 : m22 (Str.ofString "told") = some (.ref A16) := by rw [em22]; exact mT21
  have mB22 : m22 (Str.ofString "left") = some (.ref B16) := by rw [em22]; exact mB21
  have mU22 : m22 (Str.ofString "turned") = some (.ref D20) := by rw [em22]; exact mU21
  have mF22 : m22 (Str.ofString "filled") = some (.ref D22) := by rw [em22]; rfl
  clear F22 em22 mR21 mW21 mT21 mB21 mU21 N21 F21' hls21 G
  generalize tr.map (·.2.1) = vf at N22 hfl
  clear tr
  k_steps
  show wpAny _ _ _ _ _ _
  refine' comp_eval (cl := ?clD) ?d1 ?d2 ?d3 ?d4 ?d5 ?d6 ?_
  case d1 => exact rfl
  case d2 => decide
  case d3 => rfl
  case d4 => decide
  case d5 => rfl
  case d6 => intro _; with_unfolding_all rfl
  k_steps
  show wpAny _ _ _ _ _ _
  have hls22 : Heap.IsList h22 D7 vr.toArray := News.isList N22 (.tail _ (.tail _ (.tail _ (.tail _ (.tail _ (.tail _ (.tail _ (.tail _ (.head _)))))))))
  refine' wpAny_pyIter_list ?hlq ?_
  case hlq => exact hls22
  refine catE (Pv := fun v => ∃ j ∈ r, RN v j) (p := fun _ => true) (F := fun v y own => own = [] ∧ ∀ j, RN v j → RS y (wW sc.sum j)) (src_list rfl hls22) (by rw [sizeLine_eq]; omega) (fun j v hj => ?_) F22' N22 (turn_of F22' N22 ⟨?testsD, ?eltD⟩) (fun D23 e23 h23 tk23 tr F23 G => ?_)
  · obtain ⟨x, hx0, hx⟩ := hr1.get hj; exact ⟨x, List.mem_of_getElem? hx0, hx⟩
  case testsD =>
    intro g C rest v s₃ m₃ E' hv' st Fc hm Nc
    exact wpAny_pure ⟨rfl, _, _, _, rfl, Fc, Nc, fun q hq => hq⟩
  case eltD =>
    intro g C rest v s₃ m₃ E' hv' hpv st Fc hm Nc
    refine hide fun hGoal => ?_
    obtain ⟨j, hjr, tj, rfl⟩ := hv'
    refine hGoal ?_
    clear hGoal
    have hj2 := hr2 j hjr
    have Xg := X.keeps st
    have Tg := T.keeps st
    simp only [List.cons_append, List.nil_append] at Nc
    clear F22' N22 X K0 T
    with_reducible show wpAny _ _ _ _ _ _
    k_fold
    k_steps
    show wpAny _ _ _ _ _ _
    obtain ⟨vj, hvj, tvj, rfl⟩ := hwr.at (k := j) (x := wW sc.sum j) (by rw [List.getElem?_map, List.getElem?_range hj2]; rfl)
    refine' item_L (vs := vw) (j := j) (News.isList Nc (.tail _ (.tail _ (.tail _ (.tail _ (.tail _ (.tail _ (.tail _ (.head _))))))))) rfl (by omega) hvj ?_ (by with_unfolding_all rfl)
    exact ⟨_, _, [], rfl, Fc, Nc, (fun _ h => nomatch h), rfl, fun j' hj' => by
      refine hide fun hGoal => ?_
      obtain ⟨t', e'⟩ := hj'
      refine hGoal ?_
      clear hGoal
      injection e' with e1 _
      obtain rfl : j = j' := Int.ofNat.inj e1
      exact ⟨_, rfl⟩⟩
  have htl : Reps RS (tr.map (·.2.1)) (r.map (wW sc.sum)) := by
    refine hide fun hGoal => ?_
    obtain ⟨us, hus1, hus2, hus3⟩ := G.src
    refine hGoal ?_
    clear hGoal
    obtain rfl : us = vr := list_of_get hus1 rfl hus2
    have := comp_reps (R' := RS) (p := fun _ => true) (pp := fun _ => true) (f := wW sc.sum) hr1 (fun _ _ _ => rfl) hus3 (fun t ht x hx => (G.each t ht).2 x hx)
    rw [List.filter_eq_self.mpr (fun _ _ => rfl)] at this
    exact this
  have N23 : News s1.heap s1.heap.objs.size h23 [(D23, W.listOf (tr.map (·.2.1)).toArray e23), (D22, W.listOf vf.toArray e22), (D20, W.listOf us20.toArray e20), (D19, W.listOf vr.reverse.toArray 0), (T16, { cls := Value.type "tuple", data := Data.seq #[Value.ref A16, Value.ref B16] }), (A16, W.listOf us16.toArray eA), (B16, W.listOf ws16.toArray eB), (D13, W.listOf us13.toArray e13), (D11, W.listOf vw.toArray e11), (D7, W.listOf vr.toArray e7), (s1.heap.objs.size + 1 + 1 + 1 + 1, oW12), (s1.heap.objs.size + 1 + 1 + 1, oH9), (s1.heap.objs.size + 1 + 1, oS), (s1.heap.objs.size + 1, oC)] := by
    have := G.led
    rw [flat_nil fun t ht => (G.each t ht).1] at this
    exact this
  have lt23 := G.lt
  replace F23 : Fr s1.heap s1.heap.objs.size h23 m22 := F23
  clear G F22' N22 hls22
  generalize tr.map (·.2.1) = vt at N23 htl
  clear tr
  k_steps
  show wpAny _ _ _ _ _ _
  refine lists_eqG (⟨#[]⟩ : Str) (R := RS) (vs := us16) (us := vt) (News.isList N23 (.tail _ (.tail _ (.tail _ (.tail _ (.tail _ (.head _))))))) (News.isList N23 (.head _)) hus16 htl (by rw [units_deeper, units_caller]; decide) (fun v x v' y h1 h2 => RS_eq v x v' y h1 h2) ?_
  rw [decide_eq_true etold]
  k_steps
  show wpAny _ _ _ _ _ _
  refine hide fun hGoal => ?_
  obtain ⟨rs16, ers16, hrs1, hrs2, hrs3, hrs4⟩ := hund
  refine hGoal ?_
  clear hGoal
  rw [ers16, List.map_map] at hws16
  k_dflt (refine' DoesW.use (d_common _ B16 ws16 (wW sc.sum (r.length + 1)) rs16 hws16 (hWok.nm _) hrs2 hrs3 hrs1 hrs4) ?k2 ?k3 ?k4 ?k5 ?k6 ?kd ?ku ?kp ?_; (case k2 => k_asm); (case k3 => k_asm); (case k4 => k_asm); (case k5 => k_asm); (case k6 => first | exact rfl | assumption); (case kd => walk_at "mine room"); (case ku => walk_at "mine room"); (case kp => exact News.isList N23 (.tail _ (.tail _ (.tail _ (.tail _ (.tail _ (.tail _ (.head _)))))))); k_whole)
  intro v24 h24 tk24 F24 N24 st24 e
  refine hide fun hGoal => ?_
  obtain ⟨t24, rfl⟩ := e
  refine hGoal ?_
  clear hGoal
  clear F23 N23 st24
  k_steps
  show wpAny _ _ _ _ _ _
  have hvwl : vw.length = (z + 1) + 1 := by rw [hwr.1, List.length_map, List.length_range]
  obtain ⟨vz, hvz, tvz, rfl⟩ := hwr.at (k := z + 1) (x := wW sc.sum (z + 1)) (by rw [List.getElem?_map, List.getElem?_range (by omega)]; rfl)
  refine' idx_last (vs := vw) (n := z + 1) (News.isList N24 (.tail _ (.tail _ (.tail _ (.tail _ (.tail _ (.tail _ (.tail _ (.tail _ (.head _)))))))))) hvwl hvz ?_ (by with_unfolding_all rfl)
  k_steps
  show wpAny _ _ _ _ _ _
  have hz1 : (Str.ofString "/").length + (wW sc.sum (z + 1)).length ≤ sizeLine := by
    have h3 := hWok.l3 (z + 1) (by omega)
    have h1 : (Str.ofString "/").length = 1 := by decide
    rw [h1, sizeLine_eq]; omega
  have hroot : Str.ofString "/" ++ wW sc.sum (z + 1) = pth [wW sc.sum (r.length + 1)] := by rw [pth_one, hrl]
  refine add_str (fun t25 k25 => ?_) hz1
  rw [hroot]
  refine eq_str ?_
  rw [beq_self_eq_true]
  k_steps
  show wpAny _ _ _ _ _ _
  refine hide fun hGoal => ?_
  obtain ⟨rsW, ersW, hrsW1, hrsW2, hrsW3, hrsW4⟩ := ways_root hWok hr2' hr6
  refine hGoal ?_
  clear hGoal
  have hus13' := hus13
  rw [ersW, List.map_map] at hus13'
  k_dflt (refine' DoesW.use (d_common _ D13 us13 (wW sc.sum (r.length + 1)) rsW hus13' (hWok.nm _) hrsW2 hrsW3 hrsW1 hrsW4) ?k2 ?k3 ?k4 ?k5 ?k6 ?kd ?ku ?kp ?_; (case k2 => k_asm); (case k3 => k_asm); (case k4 => k_asm); (case k5 => k_asm); (case k6 => first | exact rfl | assumption); (case kd => walk_at "mine room"); (case ku => walk_at "mine room"); (case kp => exact News.isList N24 (.tail _ (.tail _ (.tail _ (.tail _ (.tail _ (.tail _ (.tail _ (.head _))))))))); k_whole)
  intro v26 h26 tk26 F26 N26 st26 e
  refine hide fun hGoal => ?_
  obtain ⟨t26, rfl⟩ := e
  refine hGoal ?_
  clear hGoal
  clear F24 N24 st26
  k_steps
  show wpAny _ _ _ _ _ _
  refine' idx_last (vs := vw) (n := z + 1) (News.isList N26 (.tail _ (.tail _ (.tail _ (.tail _ (.tail _ (.tail _ (.tail _ (.tail _ (.head _)))))))))) hvwl hvz ?_ (by with_unfolding_all rfl)
  k_steps
  show wpAny _ _ _ _ _ _
  refine add_str (fun t27 k27 => ?_) hz1
  rw [hroot]
  refine eq_str ?_
  rw [beq_self_eq_true]
  k_steps
  show wpAny _ _ _ _ _ _
  refine' kmk_slice_lit (its := vw.toArray) (zs := vw.drop (z + 1)) F26 N26 (News.isList N26 (.tail _ (.tail _ (.tail _ (.tail _ (.tail _ (.tail _ (.tail _ (.tail _ (.head _)))))))))) (IsPart.int _ _) IsPart.none ?s28 (fun D28 h28 F28 N28 lt28 => ?_) ?t28 ?u28 (by rw [List.size_toArray, sizeLine_eq, hvwl]; omega)
  case s28 => exact slice_last hvwl
  case t28 => with_unfolding_all rfl
  case u28 => kmk_pure
  clear F26 N26
  k_steps
  show wpAny _ _ _ _ _ _
  have hdr : Reps RS (vw.drop (z + 1)) [wW sc.sum (z + 1)] := by
    have e1 : (List.range (z + 2)).drop (z + 1) = [z + 1] := by
      rw [show z + 2 = (z + 1) + 1 from rfl, List.range_succ]
      exact List.drop_left' (by rw [List.length_range])
    have := hwr.drop (z + 1)
    rw [← List.map_drop, e1] at this
    exact this
  have htl16 : us16.length = z := by rw [hus16.1, etold, List.length_map, hrl]
  refine add_own (vs := us16) (ws := vw.drop (z + 1)) F28 N28 (News.isList N28 (.tail _ (.tail _ (.tail _ (.tail _ (.tail _ (.tail _ (.head _)))))))) (News.isList N28 (.head _)) (by rw [List.length_drop]; omega) fun D29 h29 F29 N29 lt29 => ?_
  clear F28 N28
  k_steps
  show wpAny _ _ _ _ _ _
  have N30 : News s1.heap s1.heap.objs.size h29 [(D22, W.listOf vf.toArray e22), (D29, W.listOf (us16 ++ vw.drop (z + 1)).toArray 0), (D20, W.listOf us20.toArray e20), (D13, W.listOf us13.toArray e13), (D7, W.listOf vr.toArray e7)] := fun p hp => by
    refine N29 p ?_
    simp only [List.mem_cons, List.not_mem_nil, or_false] at hp ⊢
    rcases hp with h | h | h | h | h
    · exact .inr (.inr (.inr (.inl h)))
    · exact .inl h
    · exact .inr (.inr (.inr (.inr (.inl h))))
    · exact .inr (.inr (.inr (.inr (.inr (.inr (.inr (.inr (.inr (.inl h)))))))))
    · exact .inr (.inr (.inr (.inr (.inr (.inr (.inr (.inr (.inr (.inr (.inr (.inl h)))))))))))
  have l29 : @LT.lt Nat _ D22 D29 := lt29 (D22, _) (.tail _ (.tail _ (.head _)))
  have a20 : @LT.lt Nat _ D20 D22 := lt22 (D20, _) (.head _)
  have a13 : @LT.lt Nat _ D13 D22 := lt22 (D13, _) (.tail _ (.tail _ (.tail _ (.tail _ (.tail _ (.head _))))))
  have a7 : @LT.lt Nat _ D7 D22 := lt22 (D7, _) (.tail _ (.tail _ (.tail _ (.tail _ (.tail _ (.tail _ (.tail _ (.head _))))))))
  have hfp := filled_perm hWok hr2'
  have hul : Reps RS (us16 ++ vw.drop (z + 1)) (r.map (wW sc.sum) ++ [wW sc.sum (r.length + 1)]) := by
    have := hus16.append hdr
    rw [etold] at this
    rw [hrl]
    exact this
  have hvf9 : vf.length < 1000 := by
    rw [hfl.1, hfp.length_eq, List.length_append, List.length_map, List.length_singleton, hrl]; omega
  k_dflt (refine' old_use (vs := vf) (us := us16 ++ vw.drop (z + 1)) hfl hul hfp hvf9 (Nat.ne_of_lt l29) F29 N30 ?hap X T ?kd ?ku ?_; (case kd => walk_at "mine room"); (case ku => walk_at "mine room"))
  case hap =>
    intro p hp
    simp only [List.mem_cons, List.not_mem_nil, or_false] at hp
    rcases hp with rfl | rfl | rfl
    · exact ⟨Nat.ne_of_lt a20, Nat.ne_of_lt (Nat.lt_trans a20 l29)⟩
    · exact ⟨Nat.ne_of_lt a13, Nat.ne_of_lt (Nat.lt_trans a13 l29)⟩
    · exact ⟨Nat.ne_of_lt a7, Nat.ne_of_lt (Nat.lt_trans a7 l29)⟩
  intro T31 M31 h31 tk31 eM31 eA31 F31 N31
  clear F29 N29 N30
  k_steps
  rename_i c32 h32a l32a d32 h32b l32b D32 h32 F32 N32 l32
  show wpAny _ _ _ _ _ _
  refine tup_empty (xs := #[]) (ys := #[]) (News.get N32 (.tail _ (.tail _ (.tail _ (.head _))))) (News.get N32 (.head _)) (News.isList N32 (.tail _ (.tail _ (.tail _ (.tail _ (.head _)))))) (News.isList N32 (.tail _ (.tail _ (.tail _ (.tail _ (.tail _ (.head _)))))))
    (News.isList N32 (.tail _ (.tail _ (.head _)))) (News.isList N32 (.tail _ (.head _))) (Nat.ne_of_lt l32a.2.1) (Nat.ne_of_lt l32b.2.2.2.1) (by rw [units_deeper, units_caller]; decide) ?_
  rw [show (decide ((#[] : Array Value).size = 0) && decide ((#[] : Array Value).size = 0)) = true from rfl]
  have N33 : News s1.heap s1.heap.objs.size h32 [(D20, W.listOf us20.toArray e20), (D13, W.listOf us13.toArray e13), (D7, W.listOf vr.toArray e7)] := fun p hp => N32 p (.tail _ (.tail _ (.tail _ (.tail _ (.tail _ (.tail _ hp))))))
  clear N32
  k_steps
  show wpAny _ _ _ _ _ _
  have hz8 : ((psOf (wW sc.sum) r).map pth).length = z + 2 := by rw [List.length_map, hps]
  have hWokr : WordsOk r.reverse.length (wW sc.sum) := by rw [hrrl]; exact hWok
  rw [show (List.range (z + 2)).map (wW sc.sum) = (List.range (r.reverse.length + 2)).map (wW sc.sum) from by rw [hrrl, hrl], ways_pth hWokr hr2r] at hus20
  have hz9 : ((psOf (wW sc.sum) r.reverse).map pth).length = z + 2 := by rw [List.length_map]; unfold psOf; rw [List.length_map, List.length_range, hrrl, hrl]
  refine sorted_S (by assumption) (by assumption) (News.isList (by assumption) (.tail _ (.head _))) hus13 (by rw [hz8]; omega) (by rw [hz8]; omega) fun D34 e34 h34 ys34 us34 F34 N34 lt34 hys34 hp34 ho34 hl34 => ?_
  k_steps
  show wpAny _ _ _ _ _ _
  refine sorted_S (by assumption) (by assumption) (News.isList (by assumption) (.tail _ (.head _))) hus20 (by rw [hz9]; omega) (by rw [hz9]; omega) fun D35 e35 h35 ys35 us35 F35 N35 lt35 hys35 hp35 ho35 hl35 => ?_
  clear F34 N34
  k_steps
  show wpAny _ _ _ _ _ _
  refine hide fun hGoal => ?_
  obtain ⟨new35, enew35⟩ : ∃ x, x = [(D35, W.listOf us35.toArray e35), (D34, W.listOf us34.toArray e34), (D20, W.listOf us20.toArray e20), (D13, W.listOf us13.toArray e13), (D7, W.listOf vr.toArray e7)] := ⟨_, rfl⟩
  refine hGoal ?_
  clear hGoal
  have N35' : News s1.heap s1.heap.objs.size h35 (new35 ++ []) := by rw [enew35]; exact N35
  have hnget : ∀ p ∈ new35, (belowH h35 s1.heap.objs.size []).get? p.1 = some p.2 := fun p hp => by
    have n := N35' p (List.mem_append_left _ hp)
    exact below_get n.1 n.2.1 (fun _ h => nomatch h)
  k_dflt (refine' DoesX.use (new := new35) (frs := []) (d_sld (α := Str) ltS (fun a b => decide (a = b)) (fun _ => RS) D34 D35 us34 us35 ys34 ys35 ?sa ?sb ?sc) F35 X N35' T trivial ?hap ?k6 ?kd ?ku ?kp ?_ ?km; (case k6 => exact rfl); (case kd => walk_at "mine room"); (case ku => walk_at "mine room"))
  case sa => rw [hl34, hus13.1, hz8]; omega
  case sb => rw [hl35, hus20.1, hz9]; omega
  case sc => exact fun _ _ _ _ _ r => r
  case hap => exact fun _ _ _ h => nomatch h
  case kp => exact ⟨⟨_, hnget (D34, W.listOf us34.toArray e34) (by rw [enew35]; exact .tail _ (.head _)), rfl, _, rfl⟩, ⟨_, hnget (D35, W.listOf us35.toArray e35) (by rw [enew35]; exact .head _), rfl, _, rfl⟩, hys34, hys35, fun v x v' x' h1 h2 => ⟨cmpS_lt h1 h2, cmpS_gt h1 h2, cmpS_eq h1 h2⟩⟩
  case km =>
    rintro r f g h' hfg ⟨T2, M, U2, vM, vU, eM, eU, a1, a2, a3, a4, a5, a6, a7, a8⟩
    exact ⟨T2, M, U2, vM, vU, eM, eU, a1, a2, a3, a4, hfg _ a5, hfg _ a6, hfg _ a7, a8⟩
  intro rv h36 tk36 frs36 su36 Fs36 F36 N36 hfresh hpost
  refine hide fun hGoal => ?_
  obtain ⟨T36, M36, U36, vM, vU, eM, eU, rfl, gT36, gM36, gU36, fT36, fM36, fU36, rM, rU⟩ := hpost
  refine hGoal ?_
  clear hGoal
  clear F35 N35 N35'
  refine hide fun hGoal => ?_
  obtain ⟨hT1, hT2⟩ := hfresh _ fT36
  refine hGoal ?_
  clear hGoal
  refine hide fun hGoal => ?_
  obtain ⟨hM1, hM2⟩ := hfresh _ fM36
  refine hGoal ?_
  clear hGoal
  refine hide fun hGoal => ?_
  obtain ⟨hU1, hU2⟩ := hfresh _ fU36
  refine hGoal ?_
  clear hGoal
  have N37 : News s1.heap s1.heap.objs.size h36 [(T36, { cls := .type "tuple", data := .seq #[.ref M36, .ref U36] }), (M36, W.listOf vM.toArray eM), (U36, W.listOf vU.toArray eU), (D7, W.listOf vr.toArray e7)] := fun p hp => by
    rcases List.mem_cons.mp hp with rfl | hp
    · exact ⟨gT36, fT36.2.2, hT1⟩
    rcases List.mem_cons.mp hp with rfl | hp
    · exact ⟨gM36, fM36.2.2, hM1⟩
    rcases List.mem_cons.mp hp with rfl | hp
    · exact ⟨gU36, fU36.2.2, hU1⟩
    exact N36 p (List.mem_append_left _ (by rw [enew35]; exact .tail _ (.tail _ (.tail _ (.tail _ hp)))))
  clear N36
  have hturn : ys34 = ys35 ↔ r = r.reverse := turn_iff hWok hr2' hr6 hp15' hrun hle hp34 hp35 ho34 ho35
  have hnd34 : ys34.Nodup := hp34.nodup_iff.mpr (pth_nodup hokW)
  have hnd35 : ys35.Nodup := hp35.nodup_iff.mpr (pth_nodup (okP_of hWokr hr2r (by rw [hrrl]; exact hr6) (.refl _)))
  have hsame := sld_same ord_S ltS_tri _ ys34 ys35 (Nat.le_refl _) hnd34 hnd35 ho34 ho35
  have hres : (decide (vM.toArray.size = 0) && decide (vU.toArray.size = 0)) = decide (r = r.reverse) := by
    rw [List.size_toArray, List.size_toArray, rM.1, rU.1, ← Bool.decide_and]
    refine decide_eq_decide.mpr (Iff.trans ?_ (hsame.trans hturn))
    constructor
    · exact fun h => Prod.ext (List.length_eq_zero_iff.mp h.1) (List.length_eq_zero_iff.mp h.2)
    · exact fun h => ⟨by rw [h]; rfl, by rw [h]; rfl⟩
  k_steps
  show wpAny _ _ _ _ _ _
  rename_i c38 h38a l38a d38 h38b l38b D38 h38 F38 N38 l38
  refine tup_empty (xs := vM.toArray) (ys := vU.toArray) (News.get N38 (.tail _ (.tail _ (.tail _ (.head _))))) (News.get N38 (.head _)) (News.isList N38 (.tail _ (.tail _ (.tail _ (.tail _ (.head _)))))) (News.isList N38 (.tail _ (.tail _ (.tail _ (.tail _ (.tail _ (.head _)))))))
    (News.isList N38 (.tail _ (.tail _ (.head _)))) (News.isList N38 (.tail _ (.head _))) (Nat.ne_of_lt l38a.2.1) (Nat.ne_of_lt l38b.2.2.2.1) (by rw [units_deeper, units_caller]; decide) ?_
  rw [hres]
  have N39 : News s1.heap s1.heap.objs.size h38 [(D7, W.listOf vr.toArray e7)] := fun p hp => N38 p (.tail _ (.tail _ (.tail _ (.tail _ (.tail _ (.tail _ hp))))))
  clear N38 hres hsame hturn hnd34 hnd35
  k_steps
  show wpAny _ _ _ _ _ _
  refine' rev_L (by assumption) (by assumption) (News.isList (by assumption) (.head _)) (IsPart.int _ _) (fun D40 h40 F40 N40 lt40 => ?_) ?s40 ?t40 hvrl
  case s40 => with_unfolding_all rfl
  case t40 => kmk_pure
  k_steps
  show wpAny _ _ _ _ _ _
  refine lists_eqG (0 : Nat) (R := RN) (vs := vr) (us := vr.reverse) (News.isList N40 (.tail _ (.head _))) (News.isList N40 (.head _)) hr1 hrr1 (by rw [units_deeper, units_caller]; decide) (fun v x v' y h1 h2 => RN_eq v x v' y h1 h2) ?_
  cases decide (r = r.reverse)
  all_goals k_steps)
end PartWl

end Mine

theorem PySem.Challenge.cw_il0061_01_holds : PySem.Challenge.rw_il0061_01.Holds :=
  Mine.law_walk
