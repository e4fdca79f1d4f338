import PyProof.Rows.All
import Wide.All
import OpenK.AllK
import Wide.FinOn
import PySem.Challenge.RW_rs0099_01
open PySem PySem.W PyProof.Rows PySem.Calls
set_option Elab.async false
set_option maxRecDepth 100000
set_option maxHeartbeats 8000000
namespace Mine
open_top hd for PySem.Challenge.rw_rs0099_01
end Mine
namespace Mine
/-- the model of the row's program -/
abbrev MM (w : World) : Model := model PySem.Challenge.rw_rs0099_01.row.prog w
abbrev LOOSE : List Str := [Str.ofString "insort_right", Str.ofString "bisect_right", Str.ofString "insort_left", Str.ofString "bisect_left"]
abbrev Keeps (h h' : Heap) : Prop := ∀ b o, h.get? b = some o → h'.get? b = some o
theorem Keeps.trans {h h' h'' : Heap} (a : Keeps h h') (b : Keeps h' h'') : Keeps h h'' := fun x o e => b x o (a x o e)
/-- the ground: what the head left -/
structure Grd (w : World) (mean : ExcName → Option Value) (mg mb : Str → Option Value) (hb : Heap) : Prop where
  X : (hd.heap_39 w.params).In hb
  T : Top hd.view_39 LOOSE mean mg mb hb
theorem Grd.keeps {w : World} {mean : ExcName → Option Value} {mg mb : Str → Option Value} {h h' : Heap} (G : Grd w mean mg mb h) (k : Keeps h h') : Grd w mean mg mb h' := ⟨G.X.keeps k, G.T.keeps k⟩
/-- a place in the stack, with all forgotten but its depth and units -/
abbrev AA (d u : Nat) : Around := { handled := none, depth := d, frames := none, guards := none, units := u }
structure Low (A : Around) (d u : Nat) : Prop where
  hd : A.handled = none
  dp : A.depth ≤ d
  un : A.units ≤ u
theorem Low.wp {α : Type} {M : Model} {A : Around} {d u : Nat} {t : Sem α} {Q : α → Shared → Prop} {E : Value → Shared → Prop} {s : Shared} (l : Low A d u) (h : wpAny M (AA d u) t Q E s) : wpAny M A t Q E s :=
  fun Γ p hΓ => h Γ p ⟨hΓ.1.trans l.hd, Nat.le_trans hΓ.2.1 l.dp, fun _ e => (nomatch e), fun _ e => (nomatch e), Nat.le_trans hΓ.2.2.2.2 l.un⟩
/-- the walk stops here -/
structure Halt (P : Prop) : Prop where
  mk ::
  out : P
section
variable {w : World} {mean : ExcName → Option Value} {mg mb : Str → Option Value} {A : Around} {s : Shared} {Q E : Value → Shared → Prop}

theorem enterP {prog : Program} {K : Frag} {p : Program} {loose : List Str} {name qual : Str} {params : Arguments} {body : List Stmt} {scope : Scope} {dV kV doc pm cdv ct oc : Value} {an od : Option Addr} {osl : Array (Option Value)} {f : Addr} {vs : List Value} {kw : List (Str × Value)} (binds : List (Str × Value))
    (X : K.In s.heap) (T : Top p loose mean mg mb s.heap)
    (ho : K.lookup f = some ⟨oc, od, .func (fnOf name qual params body scope dV kV doc pm an cdv ct), osl⟩) (hcd : codeIn K cdv qual = true) (hroom : A.depth < recursionLimit)
    (hbind : BindsTo s (fnOf name qual params body scope dV kV doc pm an cdv ct) ⟨vs, kw⟩ binds) (hloc : ∀ y ∈ binds, scope.names.lookup y.1 = some .local)
    (hco : scope.isCoroutine = false) (hgen : scope.isGenerator = false) (hk : scope.kind = .function) (hcell : ∀ x ∈ scope.names, x.2 ≠ .cell)
    (h : ∀ L' h₁ tk, Fr s.heap L' h₁ (fun y => binds.reverse.lookup y) → News s.heap L' h₁ [] →
      wpAny (model prog w) (A.deeper (envOf qual scope L' f cdv)) (execs body (envOf qual scope L' f cdv))
        (fun fl s' => Q (match fl with | .ret v => v | _ => .none) s') (fun _ _ => False) { s with heap := h₁, toks := tk }) :
    wpAny (model prog w) A (call (.ref f) vs kw) Q E s := by
  refine wpAny_call (codeAny_call_def (fd := fnOf name qual params body scope dV kV doc pm an cdv ct) (body := body) (binds := binds) hroom (X _ _ ho) rfl T.nolimit (codeRec_of X hcd) rfl hbind hcell hloc (fun h₁ hns hk₁ => ?_) hco hgen hk)
  exact wpAny_mono (h s.heap.objs.size h₁ _ ⟨hns, hk₁, Nat.le_refl _⟩ News.nil) (fun _ _ x => x) (fun _ _ x => x.elim)
theorem mapName {m : Str → Option Value} {x : Str} {v : Value} (hx : m x = some v) : m = fun z => if z = x then some v else m z := by
  funext z
  by_cases q : z = x
  · subst q; simp [hx]
  · simp [q]
end
theorem fill0 : PySem.Challenge.rw_rs0099_01 = PySem.Challenge.rw_rs0099_01 ∧ hd.heap_39 = hd.heap_39 := by k_fill; exact ⟨rfl, rfl⟩
end Mine
namespace Mine
theorem iseof_spec : ∀ (w : World) (mean : ExcName → Option Value) (mg mb : Str → Option Value) (A : Around) (s : Shared) (Q E : Value → Shared → Prop) (x : Int) (t : Tok),
    Grd w mean mg mb s.heap → Low A 600 6000 → (∀ h' tk', Keeps s.heap h' → Q (.bool (x == 0)) { s with heap := h', toks := tk' }) →
    wpAny (MM w) A (call (.ref 85) [.int x t]) Q E s := by
  intro w mean mg mb A s Q E x t G lo hq
  refine lo.wp ?_
  have X := G.X
  have T := G.T
  refine' enterP [(Str.ofString "x", .int x t)] X T ?k6 ?k7 (by decide) ?k9 ?kB ?c2 ?c3 ?c4 ?c5 ?_
  case k6 => k_is
  case k7 => k_is
  case k9 => exact BindsTo.of_eq rfl
  case kB => exact locs rfl
  case c2 => exact rfl
  case c3 => exact rfl
  case c4 => exact rfl
  case c5 => decide
  intro L h₁ tk F N
  try dsimp only
  k_steps
  exact hq _ _ F.keep
theorem isterm_spec : ∀ (w : World) (mean : ExcName → Option Value) (mg mb : Str → Option Value) (A : Around) (s : Shared) (Q E : Value → Shared → Prop) (x : Int) (t : Tok),
    Grd w mean mg mb s.heap → Low A 600 6000 → (∀ h' tk', Keeps s.heap h' → Q (.bool (decide (x < 256))) { s with heap := h', toks := tk' }) →
    wpAny (MM w) A (call (.ref 71) [.int x t]) Q E s := by
  intro w mean mg mb A s Q E x t G lo hq
  refine lo.wp ?_
  have X := G.X
  have T := G.T
  refine' enterP [(Str.ofString "x", .int x t)] X T ?k6 ?k7 (by decide) ?k9 ?kB ?c2 ?c3 ?c4 ?c5 ?_
  case k6 => k_is
  case k7 => k_is
  case k9 => exact BindsTo.of_eq rfl
  case kB => exact locs rfl
  case c2 => exact rfl
  case c3 => exact rfl
  case c4 => exact rfl
  case c5 => decide
  intro L h₁ tk F N
  try dsimp only
  k_steps
  exact hq _ _ F.keep
theorem isnont_spec : ∀ (w : World) (mean : ExcName → Option Value) (mg mb : Str → Option Value) (A : Around) (s : Shared) (Q E : Value → Shared → Prop) (x : Int) (t : Tok),
    Grd w mean mg mb s.heap → Low A 600 6000 → (∀ h' tk', Keeps s.heap h' → Q (.bool (decide (256 ≤ x))) { s with heap := h', toks := tk' }) →
    wpAny (MM w) A (call (.ref 78) [.int x t]) Q E s := by
  intro w mean mg mb A s Q E x t G lo hq
  refine lo.wp ?_
  have X := G.X
  have T := G.T
  refine' enterP [(Str.ofString "x", .int x t)] X T ?k6 ?k7 (by decide) ?k9 ?kB ?c2 ?c3 ?c4 ?c5 ?_
  case k6 => k_is
  case k7 => k_is
  case k9 => exact BindsTo.of_eq rfl
  case kB => exact locs rfl
  case c2 => exact rfl
  case c3 => exact rfl
  case c4 => exact rfl
  case c5 => decide
  intro L h₁ tk F N
  try dsimp only
  k_steps
  exact hq _ _ F.keep
theorem hue_spec : ∀ (w : World) (mean : ExcName → Option Value) (mg mb : Str → Option Value) (A : Around) (s : Shared) (Q E : Value → Shared → Prop) (a : Addr) (v v' : Value),
    Grd w mean mg mb s.heap → Low A 600 6000 → IsTup s.heap a #[v, v'] → (∀ h' tk', Keeps s.heap h' → Q v { s with heap := h', toks := tk' }) →
    wpAny (MM w) A (call (.ref 104) [.ref a]) Q E s := by
  intro w mean mg mb A s Q E a v v' G lo ht hq
  refine lo.wp ?_
  have X := G.X
  have T := G.T
  refine' enterP [(Str.ofString "place", .ref a)] X T ?k6 ?k7 (by decide) ?k9 ?kB ?c2 ?c3 ?c4 ?c5 ?_
  case k6 => k_is
  case k7 => k_is
  case k9 => exact BindsTo.of_eq rfl
  case kB => exact locs rfl
  case c2 => exact rfl
  case c3 => exact rfl
  case c4 => exact rfl
  case c5 => decide
  intro L h₁ tk F N
  try dsimp only
  k_steps
  exact hq _ _ F.keep
end Mine
namespace Mine
local macro_rules | `(tactic| walk_at "call ref cons nil") => `(tactic| refine Halt.out ?_)
local macro_rules | `(tactic| walk_at "call ref cons cons") => `(tactic| refine Halt.out ?_)
local macro_rules | `(tactic| walk_at "pyIter ref") => `(tactic| ((with_reducible show wpAny _ _ (pyIter _) (fun it s₂ => LoopAtV _ _ _ _ _ _ _ _ _ it s₂) _ _); refine Halt.out ?_))
/-- a tree by its wanted parts -/
def treeF (sign : Int) : Int → List Int → Bool
  | wanted, [] => wanted == 0
  | wanted, x :: r => if wanted = 0 then false else treeF sign (if 256 ≤ x then wanted + sign * (x - 256) else wanted - sign) r
theorem treeF_cons (sign a x : Int) (r : List Int) : treeF sign a (x :: r) = if a = 0 then false else treeF sign (if 256 ≤ x then a + sign * (x - 256) else a - sign) r := rfl
theorem tree_spec : ∀ (w : World) (mean : ExcName → Option Value) (mg mb : Str → Option Value) (A : Around) (s : Shared) (Q E : Value → Shared → Prop) (l : Addr) (vs : List Value) (ns : List Int) (sign : Int) (t : Tok),
    Grd w mean mg mb s.heap → Low A 350 3000 → s.heap.IsList l vs.toArray → IntsAre vs ns → (sign = 1 ∨ sign = -1) →
    (∀ h' tk', Keeps s.heap h' → Q (.bool (treeF sign sign ns)) { s with heap := h', toks := tk' }) →
    wpAny (MM w) A (call (.ref 116) [.ref l, .int sign t]) Q E s := by
  intro w mean mg mb A s Q E l vs ns sign t G lo hl hi hs hq
  refine lo.wp ?_
  have X := G.X
  have T := G.T
  refine' enterP [(Str.ofString "row", .ref l), (Str.ofString "sign", .int sign t)] X T ?k6 ?k7 (by decide) ?k9 ?kB ?c2 ?c3 ?c4 ?c5 ?_
  case k6 => k_is
  case k7 => k_is
  case k9 => exact BindsTo.of_eq rfl
  case kB => exact locs rfl
  case c2 => exact rfl
  case c3 => exact rfl
  case c4 => exact rfl
  case c5 => decide
  intro L h₁ tk F N
  try dsimp only
  k_steps
  (rename Fr _ _ _ _ => F1)
  (rename News _ _ _ _ => N1)
  (rename IntsAre _ _ => hi)
  refine ⟨iter_inv (fun i m => m (Str.ofString "sign") = some (.int sign t) ∧ ∃ a ta, m (Str.ofString "wanted") = some (.int a ta) ∧ treeF sign a (ns.drop i) = treeF sign sign ns) rfl hl hi F1 N1 ⟨rfl, sign, t, rfl, rfl⟩ ?_ ?_⟩
  · intro i n tn m₁ h tk2 own hn hJ F2 N2
    obtain ⟨hsg, a, ta, hwt, hT⟩ := hJ
    rw [mapName hwt, mapName hsg] at F2
    clear F1 N1
    k_steps
    (rename Fr _ _ _ _ => F3)
    (rename News _ _ _ _ => N3)
    refine ⟨iseof_spec w mean mg mb _ _ _ _ _ _ (G.keeps F3.keep) ⟨rfl, Nat.le_of_ble_eq_true rfl, Nat.le_of_ble_eq_true rfl⟩ ?_⟩
    intro h' tk' k
    replace F3 := F3.kept k
    replace N3 := N3.grown k
    clear k
    obtain ⟨hlt, hget⟩ := List.getElem?_eq_some_iff.mp hn
    rw [List.drop_eq_getElem_cons hlt, hget] at hT
    k_steps
    · rename a = 0 => h0
      subst h0
      have : treeF sign sign ns = false := by rw [← hT]; unfold treeF; rw [if_pos rfl]
      rw [← this]
      exact hq _ _ F3.keep
    · rename a ≠ 0 => h0
      rw [treeF_cons, if_neg h0] at hT
      refine ⟨isnont_spec w mean mg mb _ _ _ _ _ _ (G.keeps F3.keep) ⟨rfl, Nat.le_of_ble_eq_true rfl, Nat.le_of_ble_eq_true rfl⟩ ?_⟩
      intro h' tk' k
      replace F3 := F3.kept k
      replace N3 := N3.grown k
      clear k
      rcases hs with rfl | rfl
      all_goals k_steps
      all_goals (
        rename Fr _ _ _ _ => F4
        rename News _ _ _ _ => N4
        refine InvEnd.intro F4 N4 (fun p hp => hp) ⟨rfl, _, _, rfl, ?_⟩
        split at hT
        all_goals first | exact hT | (exfalso; omega))
  · intro m₁ h tk2 hJ F2 N2
    obtain ⟨hsg, a, ta, hwt, hT⟩ := hJ
    rw [mapName hwt, mapName hsg] at F2
    clear F1 N1
    rw [List.drop_length] at hT
    k_steps
    (rename Fr _ _ _ _ => F3)
    refine ⟨iseof_spec w mean mg mb _ _ _ _ _ _ (G.keeps F3.keep) ⟨rfl, Nat.le_of_ble_eq_true rfl, Nat.le_of_ble_eq_true rfl⟩ ?_⟩
    intro h' tk' k
    have e : treeF sign sign ns = (a == 0) := by rw [← hT]; rfl
    rw [e] at hq
    exact hq _ _ (Keeps.trans F3.keep k)
end Mine
namespace Mine
section
variable {prog : Program} {w : World} {A : Around} {E : Value → Shared → Prop} {s : Shared} {env : Env} {h₀ : Heap} {x : Str} {body : List Stmt} {Q : Flow → Shared → Prop}
/-- the end of a turn: the frame, the ledger, what holds of them; the iterator's own object is kept -/
def LEnd (h₀ : Heap) (L I : Addr) (J : (Str → Option Value) → List (Addr × Obj) → Prop) (own : List (Addr × Obj)) (s₁ s₂ : Shared) : Prop :=
  ∃ h' tk m' news', s₂ = { s₁ with heap := h', toks := tk } ∧ Fr h₀ L h' m' ∧ News h₀ L h' (own ++ news') ∧ (∀ p ∈ news', p.1 ≠ I) ∧ J m' news'
def LPost (h₀ : Heap) (L I : Addr) (J : (Str → Option Value) → List (Addr × Obj) → Prop) (own : List (Addr × Obj)) (s₁ : Shared) (Q : Flow → Shared → Prop) (f : Flow) (s₂ : Shared) : Prop :=
  match f with
  | .ret v => Q (.ret v) s₂
  | .brk => Q .next s₂
  | _ => LEnd h₀ L I J own s₁ s₂
theorem LEnd.intro {L I : Addr} {J : (Str → Option Value) → List (Addr × Obj) → Prop} {m' : Str → Option Value} {own news' : List (Addr × Obj)} {s₁ : Shared} {h' : Heap} {tk : Nat} (F : Fr h₀ L h' m') (N : News h₀ L h' (own ++ news'))
    (hI : ∀ p ∈ news', p.1 ≠ I) (hj : J m' news') : LEnd h₀ L I J own s₁ { s₁ with heap := h', toks := tk } := ⟨h', tk, m', news', rfl, F, N, hI, hj⟩
theorem small_of {a b : Int} (h1 : -1000000 ≤ a) (h2 : a ≤ 1000000) (h3 : -1000000 ≤ b) (h4 : b ≤ 1000000) : Builtin.Range.small a b 1 = true := by
  have hsz : Builtin.Range.rangeSize a b 1 = if a < b then b - a else 0 := by
    unfold Builtin.Range.rangeSize
    rw [if_pos (by decide)]
    split <;> omega
  unfold Builtin.Range.small
  rw [hsz]
  unfold Builtin.Range.rangeFitsLong
  simp only [Bool.and_eq_true, Bool.or_eq_true, decide_eq_true_eq, beq_iff_eq]
  refine ⟨⟨⟨⟨?_, ?_⟩, ?_⟩, ?_⟩, ?_⟩
  · omega
  · omega
  · omega
  · split <;> omega
  · right
    rw [if_pos (by decide)]
    (try simp only [Bool.and_eq_true, decide_eq_true_eq])
    omega
theorem size_of {a b : Int} (h : a ≤ b) : Builtin.Range.rangeSize a b 1 = (((b - a).toNat : Nat) : Int) := by
  unfold Builtin.Range.rangeSize
  rw [if_pos (by decide)]
  split <;> omega

theorem iter_rangeL {r : Addr} {a₀ b₀ : Int} {t₀ u₀ v₀ : Tok} {m₀ : Str → Option Value} {news : List (Addr × Obj)} (J : Nat → (Str → Option Value) → List (Addr × Obj) → Prop)
    (hh : A.handled = none) (hr : IsRange s.heap r a₀ b₀ 1 t₀ u₀ v₀) (h1 : -1000000 ≤ a₀) (h2 : a₀ ≤ b₀) (h3 : b₀ ≤ 1000000) (F : Fr h₀ env.locals s.heap m₀) (N : News h₀ env.locals s.heap news) (hj : J 0 m₀ news)
    (turn : ∀ i t m₁ news₁ h tk own, i < (b₀ - a₀).toNat → J i m₁ news₁ → (∀ p ∈ news₁, p.1 ≠ s.heap.objs.size) → (∃ o, (s.heap.objs.size, o) ∈ own) → (∀ p ∈ own, p.1 = s.heap.objs.size) →
      Fr h₀ env.locals h (fun y => if y = x then some (.int (a₀ + (i : Int)) t) else m₁ y) → News h₀ env.locals h (own ++ news₁) →
      wpAny (model prog w) A (execs body env) (LPost h₀ env.locals s.heap.objs.size (J (i + 1)) own { s with heap := h, toks := tk } Q) E { s with heap := h, toks := tk })
    (done : ∀ m₁ news₁ h tk, J (b₀ - a₀).toNat m₁ news₁ → Fr h₀ env.locals h m₁ → News h₀ env.locals h news₁ → Q .next { s with heap := h, toks := tk }) :
    wpAny (model prog w) A (pyIter (.ref r)) (fun it s₂ => LoopAtV prog w A h₀ env x body Q E it s₂) E s := by
  refine wpAny_pyIter_range hr (small_of h1 (by omega) (by omega) h3) ?_
  have W := Walks.range (prog := prog) (w := w) hh s.heap.objs.size a₀ 1 (b₀ - a₀).toNat
  refine ⟨_, _, _, _, _, _, m₀, news, J, rfl, W, ?_, ?_, ?_, ?_, F.push _, (fun p hp => ⟨Heap.get?_push_of_some _ (N p hp).1, (N p hp).2⟩), hj, ?_, ?_⟩
  · intro hm
    exact absurd F.ns.lt ((List.mem_singleton.mp hm) ▸ Nat.lt_irrefl _)
  · intro b hb
    rw [List.mem_singleton.mp hb]
    exact next_is_new F
  · intro p hp hI
    exact absurd (Heap.lt_size (N p hp).1) ((List.mem_singleton.mp hI) ▸ Nat.lt_irrefl _)
  · show IsRangeIter _ _ _ _ _
    rw [size_of h2]
    simpa using Heap.get?_push_size _ rfl
  · rintro i v m₁ news₁ s₁ own ⟨hh', tk', rfl⟩ hi ⟨t, rfl⟩ hJ hoff hown _ hall hst F₁ N₁
    have hst' : IsRangeIter hh' s.heap.objs.size (a₀ + ((i + 1 : Nat) : Int) * 1) (((b₀ - a₀).toNat : Int) - ((i + 1 : Nat) : Int)) 1 := hst
    have e : a₀ + (i : Int) * 1 = a₀ + (i : Int) := by omega
    rw [e] at F₁
    refine wpAny_mono (turn i t m₁ news₁ hh' tk' own hi hJ (fun p hp => by simpa using hoff p hp) ⟨_, hall _ (by simp) (next_is_new F) _ hst'⟩ (fun p hp => by simpa using hown p hp) F₁ N₁) (fun f s₂ p => ?_) fun _ _ e => e
    have fin : LEnd h₀ env.locals s.heap.objs.size (J (i + 1)) own { s with heap := hh', toks := tk' } s₂ → LoopStepU h₀ env.locals [s.heap.objs.size] own (J (i + 1)) { s with heap := hh', toks := tk' } .next s₂ := by
      rintro ⟨h', tk, m', news', e, F', N', hn, hm⟩
      exact ⟨rfl, h', tk, m', news', e, F', N', fun p hp hI => hn p hp (List.mem_singleton.mp hI), hm⟩
    cases f with
    | ret v => exact .ret p
    | brk => exact .brk p
    | next => exact .next (fin p)
    | cont => exact .cont (fin p)
  · rintro h' tk m' news' F' N' _ hJ
    exact done m' news' h' tk hJ F' N'

theorem iter_listL {l : Addr} {vs : List Value} {m₀ : Str → Option Value} {news : List (Addr × Obj)} (J : Nat → (Str → Option Value) → List (Addr × Obj) → Prop)
    (hh : A.handled = none) (hl : s.heap.IsList l vs.toArray) (hlL : l ≠ env.locals) (F : Fr h₀ env.locals s.heap m₀) (N : News h₀ env.locals s.heap news) (hj : J 0 m₀ news)
    (turn : ∀ i v m₁ news₁ h tk own, vs[i]? = some v → J i m₁ news₁ → (∀ p ∈ news₁, p.1 ≠ s.heap.objs.size) → (∃ o, (s.heap.objs.size, o) ∈ own) → (∀ p ∈ own, p.1 = s.heap.objs.size ∨ p.1 = l) → h.IsList l vs.toArray →
      Fr h₀ env.locals h (fun y => if y = x then some v else m₁ y) → News h₀ env.locals h (own ++ news₁) →
      wpAny (model prog w) A (execs body env) (LPost h₀ env.locals s.heap.objs.size (J (i + 1)) own { s with heap := h, toks := tk } Q) E { s with heap := h, toks := tk })
    (done : ∀ m₁ news₁ h tk, J vs.length m₁ news₁ → Fr h₀ env.locals h m₁ → News h₀ env.locals h news₁ → Q .next { s with heap := h, toks := tk }) :
    wpAny (model prog w) A (pyIter (.ref l)) (fun it s₂ => LoopAtV prog w A h₀ env x body Q E it s₂) E s := by
  obtain ⟨ol, hol, _⟩ := id hl
  have hlt : l < s.heap.objs.size := Heap.lt_size hol
  have hne : l ≠ s.heap.objs.size := Nat.ne_of_lt hlt
  refine wpAny_pyIter_list hl ?_
  have W := Walks.list (prog := prog) (w := w) hh s.heap.objs.size l hne vs.toArray
  refine ⟨_, _, _, _, _, _, m₀, news, J, rfl, W, ?_, ?_, ?_, ⟨⟨_, Heap.get?_push_size _ rfl, rfl, rfl⟩, hl.at fun o e => Heap.get?_push_of_some _ e⟩, F.push _, (fun p hp => ⟨Heap.get?_push_of_some _ (N p hp).1, (N p hp).2⟩), hj, ?_, ?_⟩
  · intro hm
    rcases List.mem_cons.mp hm with e | hm
    · exact absurd F.ns.lt (e ▸ Nat.lt_irrefl _)
    · exact hlL (List.mem_singleton.mp hm).symm
  · intro b hb
    rw [List.mem_singleton.mp hb]
    exact next_is_new F
  · intro p hp hI
    exact absurd (Heap.lt_size (N p hp).1) ((List.mem_singleton.mp hI) ▸ Nat.lt_irrefl _)
  · rintro i v m₁ news₁ s₁ own ⟨hh', tk', rfl⟩ hi hP hJ hoff hown _ hall hst F₁ N₁
    obtain ⟨⟨oi, hoi, _⟩, hst2⟩ := hst
    refine wpAny_mono (turn i v m₁ news₁ hh' tk' own (by simpa using hP) hJ (fun p hp => by simpa using hoff p hp) ⟨_, hall _ (by simp) (next_is_new F) _ hoi⟩ (fun p hp => by simpa using hown p hp) hst2 F₁ N₁) (fun f s₂ p => ?_) fun _ _ e => e
    have fin : LEnd h₀ env.locals s.heap.objs.size (J (i + 1)) own { s with heap := hh', toks := tk' } s₂ → LoopStepU h₀ env.locals [s.heap.objs.size] own (J (i + 1)) { s with heap := hh', toks := tk' } .next s₂ := by
      rintro ⟨h', tk, m', news', e, F', N', hn, hm⟩
      exact ⟨rfl, h', tk, m', news', e, F', N', fun p hp hI => hn p hp (List.mem_singleton.mp hI), hm⟩
    cases f with
    | ret v => exact .ret p
    | brk => exact .brk p
    | next => exact .next (fin p)
    | cont => exact .cont (fin p)
  · rintro h' tk m' news' F' N' _ hJ
    exact done m' news' h' tk (by simpa using hJ) F' N'

theorem sum_at {l : Addr} {vs : List Value} {ns : List Int} {Q : Value → Shared → Prop} (hh : A.handled = none) (hl : s.heap.IsList l vs.toArray) (hi : IntsAre vs ns)
    (h : ∀ h' tk t', Keeps s.heap h' → Q (.int ns.sum t') { s with heap := h', toks := tk }) : wpAny (model prog w) A (call (.builtin "sum") [.ref l]) Q E s := by
  obtain ⟨xs, e⟩ := hi.allInts.items
  rw [e] at hl
  refine sum_intListG hh hl fun h' tk t' hk => ?_
  have e2 : ns = xs.toList.map (·.1) := by
    rw [← nums_intItems, ← e, ← hi.numsOf]
  have := h h' tk t' hk
  rw [preSum_eq, List.take_of_length_le (by simp), ← e2]; exact this
end
end Mine
namespace Mine
local macro_rules | `(tactic| walk_at "call ref cons nil") => `(tactic| refine Halt.out ?_)
local macro_rules | `(tactic| walk_at "call ref cons cons") => `(tactic| refine Halt.out ?_)
local macro_rules | `(tactic| walk_at "pyIter ref") => `(tactic| ((with_reducible show wpAny _ _ (pyIter _) (fun it s₂ => LoopAtV _ _ _ _ _ _ _ _ _ it s₂) _ _); refine Halt.out ?_))
local macro_rules | `(tactic| walk_at "LPost") => `(tactic| (dsimp only [LPost]))
/-- more leaves than the branches are above 256 -/
def plainBad (ns : List Int) (e : Nat) : Bool := decide ((List.map (fun a => a - 256) (List.filter (fun a => decide (256 ≤ a)) (List.take e ns))).sum < ((List.filter (fun a' => decide (a' < 256)) (List.take e ns)).length : Int))
def plainF (ns : List Int) : Bool := (List.range (ns.length - 1)).all fun i => !plainBad ns (1 + i)
theorem plain_spec : ∀ (w : World) (mean : ExcName → Option Value) (mg mb : Str → Option Value) (A : Around) (s : Shared) (Q E : Value → Shared → Prop) (l : Addr) (vs : List Value) (ns : List Int),
    Grd w mean mg mb s.heap → Low A 350 3000 → s.heap.IsList l vs.toArray → IntsAre vs ns → 1 ≤ ns.length → ns.length ≤ 100 →
    (∀ h' tk', Keeps s.heap h' → Q (.bool (plainF ns)) { s with heap := h', toks := tk' }) →
    wpAny (MM w) A (call (.ref 121) [.ref l]) Q E s := by
  intro w mean mg mb A s Q E l vs ns G lo hl hi hpos hlen hq
  refine lo.wp ?_
  have X := G.X
  have T := G.T
  refine' enterP [(Str.ofString "row", .ref l)] X T ?k6 ?k7 (by decide) ?k9 ?kB ?c2 ?c3 ?c4 ?c5 ?_
  case k6 => k_is
  case k7 => k_is
  case k9 => exact BindsTo.of_eq rfl
  case kB => exact locs rfl
  case c2 => exact rfl
  case c3 => exact rfl
  case c4 => exact rfl
  case c5 => decide
  intro L h₁ tk F N
  try dsimp only
  k_steps
  (rename IsRange _ _ _ _ _ _ _ _ => hr)
  (rename Fr _ _ _ _ => F1)
  (rename News _ _ _ _ => N1)
  refine ⟨iter_rangeL (fun i m _ => m (Str.ofString "row") = some (.ref l) ∧ ∀ j, j < i → plainBad ns (1 + j) = false) rfl hr (by omega) (by omega) (by omega) F1 N1 ⟨rfl, fun j hj => absurd hj (Nat.not_lt_zero j)⟩ ?_ ?_⟩
  · intro i t m₁ news₁ h tk2 own hlt hJ hoff hsz hown F2 N2
    obtain ⟨hrow, hok⟩ := hJ
    rw [mapName hrow] at F2
    clear F1 N1
    have hb1 : (List.filter (fun a' => decide (a' < 256)) (List.take (1 + (i : Int)).toNat ns)).length ≤ 100 := Nat.le_trans (List.length_filter_le _ _) (Nat.le_trans (List.length_take_le' _ _) hlen)
    have hb2 : (List.filter (fun a' => decide (256 ≤ a')) (List.take (1 + (i : Int)).toNat ns)).length ≤ 100 := Nat.le_trans (List.length_filter_le _ _) (Nat.le_trans (List.length_take_le' _ _) hlen)
    k_steps
    (rename Fr _ _ _ _ => F3)
    (rename News _ _ _ _ => N3)
    refine sum_at rfl (by assumption) (CarriedAll.intsOf (by assumption)) ?_
    intro h' tk' t' k
    replace F3 := F3.kept k
    replace N3 := N3.grown k
    clear k
    k_steps
    · rename _ < _ => hbad
      have e : (1 + (i : Int)).toNat = 1 + i := by omega
      rw [e] at hbad
      have hb : plainBad ns (1 + i) = true := decide_eq_true hbad
      have : plainF ns = false := by
        unfold plainF
        rw [List.all_eq_false]
        exact ⟨i, List.mem_range.mpr (by omega), by rw [hb]; decide⟩
      rw [this] at hq
      exact hq _ _ F3.keep
    · rename ¬ (_ < _) => hbad
      have e : (1 + (i : Int)).toNat = 1 + i := by omega
      rw [e] at hbad
      have hb : plainBad ns (1 + i) = false := decide_eq_false hbad
      refine LEnd.intro (news' := news₁) F3 (fun p hp => N3 p (by repeat (first | exact hp | apply List.mem_cons_of_mem))) hoff ⟨rfl, fun j hj => ?_⟩
      rcases Nat.lt_succ_iff_lt_or_eq.mp hj with h' | rfl
      · exact hok j h'
      · exact hb
  · intro m₁ news₁ h tk2 hJ F2 N2
    obtain ⟨hrow, hok⟩ := hJ
    clear F1 N1
    k_steps
    have : plainF ns = true := by
      unfold plainF
      rw [List.all_eq_true]
      intro j hj
      rw [hok j (by have := List.mem_range.mp hj; omega)]; rfl
    rw [this] at hq
    exact hq _ _ F2.keep
end Mine
namespace Mine
local macro_rules | `(tactic| walk_at "call ref cons nil") => `(tactic| refine Halt.out ?_)
local macro_rules | `(tactic| walk_at "call ref cons cons") => `(tactic| refine Halt.out ?_)
local macro_rules | `(tactic| walk_at "exec While Compare cons nil") => `(tactic| refine Halt.out ?_)
section
variable {prog : Program} {w : World} {A : Around} {s : Shared} {env : Env} {h₀ : Heap} {body : List Stmt} {test : PySem.Expr} {pos : Pos} {Q : Flow → Shared → Prop}
def WEnd (h₀ : Heap) (L : Addr) (J : Nat → (Str → Option Value) → Prop) (n : Nat) (s₁ : Shared) (Q : Flow → Shared → Prop) (f : Flow) (s₂ : Shared) : Prop :=
  match f with
  | .ret v => Q (.ret v) s₂
  | .brk => Q .next s₂
  | _ => ∃ h' tk m' n', n' < n ∧ s₂ = { s₁ with heap := h', toks := tk } ∧ Fr h₀ L h' m' ∧ J n' m'
theorem while_fr {m₀ : Str → Option Value} {n₀ : Nat} (J : Nat → (Str → Option Value) → Prop) (F : Fr h₀ env.locals s.heap m₀) (h0 : J n₀ m₀)
    (turn : ∀ n m h tk, J n m → Fr h₀ env.locals h m → News h₀ env.locals h [] →
      wpAny (model prog w) A (isTrue test env (eval test env)) (fun b s₂ => if b = true then wpAny (model prog w) A (execs body env) (WEnd h₀ env.locals J n s Q) (fun _ _ => False) s₂ else Q .next s₂) (fun _ _ => False) { s with heap := h, toks := tk }) :
    wpAny (model prog w) A (exec (.While test body [] pos) env) Q (fun _ _ => False) s := by
  refine wpAny_While (codeAny_whileLoop (fun n s' => ∃ h tk m, s' = { s with heap := h, toks := tk } ∧ Fr h₀ env.locals h m ∧ J n m) ?_ n₀ ⟨s.heap, s.toks, m₀, rfl, F, h0⟩)
  rintro n s' ⟨h, tk, m, rfl, F', hJ⟩
  refine wpAny_mono (turn n m h tk hJ F' News.nil) (fun b s₂ h₂ => ?_) fun _ _ x => x.elim
  cases b with
  | false =>
    rw [if_neg Bool.false_ne_true] at h₂
    simp only [Bool.false_eq_true, if_false]
    exact wpAny_execs_nil h₂
  | true =>
    rw [if_pos rfl] at h₂
    simp only [if_true]
    refine wpAny_mono h₂ (fun f s₃ h₃ => ?_) fun _ _ x => x.elim
    cases f with
    | ret v => exact h₃
    | brk => exact h₃
    | next =>
      obtain ⟨h', tk', m', n', hlt, rfl, F'', hJ'⟩ := h₃
      exact ⟨n', hlt, h', tk', m', rfl, F'', hJ'⟩
    | cont =>
      obtain ⟨h', tk', m', n', hlt, rfl, F'', hJ'⟩ := h₃
      exact ⟨n', hlt, h', tk', m', rfl, F'', hJ'⟩
end
/-- binary search: where c holds the upper bound comes down -/
def bis (c : Nat → Bool) : Nat → Nat → Nat → Nat
  | 0, lo, _ => lo
  | f + 1, lo, hi => if lo < hi then (if c ((lo + hi) / 2) then bis c f lo ((lo + hi) / 2) else bis c f ((lo + hi) / 2 + 1) hi) else lo

theorem bis_fuel (c : Nat → Bool) : ∀ (f g lo hi : Nat), hi - lo ≤ f → hi - lo ≤ g → bis c f lo hi = bis c g lo hi := by
  intro f
  induction f with
  | zero =>
    intro g lo hi h1 h2
    cases g with
    | zero => rfl
    | succ g =>
      unfold bis
      rw [if_neg (by omega)]
  | succ f ih =>
    intro g lo hi h1 h2
    cases g with
    | zero =>
      unfold bis
      rw [if_neg (by omega)]
    | succ g =>
      unfold bis
      by_cases h : lo < hi
      · rw [if_pos h, if_pos h]
        by_cases q : c ((lo + hi) / 2) = true
        · rw [if_pos q, if_pos q]; exact ih g _ _ (by omega) (by omega)
        · rw [if_neg q, if_neg q]; exact ih g _ _ (by omega) (by omega)
      · rw [if_neg h, if_neg h]
theorem bis_step (c : Nat → Bool) {lo hi : Nat} (h : lo < hi) : bis c (hi - lo) lo hi = if c ((lo + hi) / 2) = true then bis c ((lo + hi) / 2 - lo) lo ((lo + hi) / 2) else bis c (hi - ((lo + hi) / 2 + 1)) ((lo + hi) / 2 + 1) hi := by
  obtain ⟨f, e⟩ : ∃ f, hi - lo = f + 1 := ⟨hi - lo - 1, by omega⟩
  rw [e]
  show (if lo < hi then _ else _) = _
  rw [if_pos h]
  by_cases q : c ((lo + hi) / 2) = true
  · rw [if_pos q, if_pos q]; exact bis_fuel c _ _ _ _ (by omega) (by omega)
  · rw [if_neg q, if_neg q]; exact bis_fuel c _ _ _ _ (by omega) (by omega)
theorem bis_end (c : Nat → Bool) {f lo hi : Nat} (h : ¬ lo < hi) : bis c f lo hi = lo := by
  cases f with
  | zero => rfl
  | succ f => unfold bis; rw [if_neg h]

theorem bisR_key : ∀ (w : World) (mean : ExcName → Option Value) (mg mb : Str → Option Value) (A : Around) (s : Shared) (Q E : Value → Shared → Prop) (l : Addr) (vs : List Value) (fx : UInt64) (tx t0 : Tok) (c : Nat → Bool),
    Grd w mean mg mb s.heap → Low A 500 5000 → s.heap.IsList l vs.toArray → vs.length ≤ 100 →
    (∀ (k : Nat) v, vs[k]? = some v → ∃ ad fk tk y, v = .ref ad ∧ IsTup s.heap ad #[.float fk tk, y] ∧ c k = (Float64.cmp fx fk == some Ordering.lt)) →
    (∀ h' tk' t', Keeps s.heap h' → Q (.int (bis c 100 0 vs.length) t') { s with heap := h', toks := tk' }) →
    wpAny (MM w) A (call (.ref 32) [.ref l, .float fx tx, .int 0 t0, .none] [(Str.ofString "key", .ref 104)]) Q E s := by
  intro w mean mg mb A s Q E l vs fx tx t0 c G lo hl hlen hit hq
  refine lo.wp ?_
  have X := G.X
  have T := G.T
  refine' enterP [(Str.ofString "a", .ref l), (Str.ofString "x", .float fx tx), (Str.ofString "lo", .int 0 t0), (Str.ofString "hi", .none), (Str.ofString "key", .ref 104)] X T ?k6 ?k7 (by decide) ?k9 ?kB ?c2 ?c3 ?c4 ?c5 ?_
  case k6 => k_is
  case k7 => k_is
  case k9 => exact kp_binds X (fun _ => by kernel_rfl)
  case kB => exact locs rfl
  case c2 => exact rfl
  case c3 => exact rfl
  case c4 => exact rfl
  case c5 => decide
  intro L h₁ tk F N
  try dsimp only
  k_steps
  (rename Fr _ _ _ _ => F1)
  refine len_list (F1.lst hl) (by simp only [List.size_toArray]; omega) ?_
  k_steps
  (rename Fr _ _ _ _ => F2)
  refine ⟨while_fr (fun n m => m (Str.ofString "a") = some (.ref l) ∧ m (Str.ofString "x") = some (.float fx tx) ∧ m (Str.ofString "key") = some (.ref 104) ∧
    ∃ (lo hi : Nat) (tl th : Tok), m (Str.ofString "lo") = some (.int lo tl) ∧ m (Str.ofString "hi") = some (.int hi th) ∧ lo ≤ hi ∧ hi ≤ vs.length ∧ n = hi - lo ∧ bis c n lo hi = bis c 100 0 vs.length) F2 ⟨rfl, rfl, rfl, 0, vs.length, _, _, rfl, rfl, Nat.zero_le _, Nat.le_refl _, rfl, bis_fuel c _ _ _ _ (Nat.le_refl _) (by omega)⟩ ?_⟩
  · rintro n m h tk2 ⟨h1, h2, h3, lo, hi, tl, th, h4, h5, h6, h7, rfl, h9⟩ F3 N3
    rw [mapName h1, mapName h2, mapName h3, mapName h4, mapName h5] at F3
    clear F2
    have em : Int.fdiv ((lo : Int) + (hi : Int)) 2 = (((lo + hi) / 2 : Nat) : Int) := by
      rw [Int.fdiv_eq_ediv_of_nonneg _ (by decide)]; omega
    k_steps
    · rename (_ : Int) < _ => hlt
      (rename Fr _ _ _ _ => F4)
      (rename News _ _ _ _ => N4)
      rw [em] at F4 ⊢
      have hm : (lo + hi) / 2 < vs.length := by omega
      obtain ⟨ad, fk, tkk, y, hv, htup, hc⟩ := hit ((lo + hi) / 2) _ (List.getElem?_eq_getElem hm)
      refine item_listL (F4.lst hl) (by omega) (by omega) (x := .ref ad) (by rw [← hv, Int.toNat_natCast]; exact List.getElem?_eq_getElem hm) ?_
      k_steps
      refine ⟨hue_spec w mean mg mb _ _ _ _ _ _ _ (G.keeps F4.keep) ⟨rfl, Nat.le_of_ble_eq_true rfl, Nat.le_of_ble_eq_true rfl⟩ (htup.keeps F4.keep) ?_⟩
      intro h' tk' k
      replace F4 := F4.kept k
      replace N4 := N4.grown k
      clear k
      k_steps
      · rename _ = true => hcmp
        rename Fr _ _ _ _ => F5
        rw [hcmp] at hc
        rw [bis_step c (by omega), if_pos hc] at h9
        exact ⟨_, _, _, _, by omega, rfl, F5, rfl, rfl, rfl, lo, (lo + hi) / 2, _, _, rfl, rfl, by omega, by omega, rfl, h9⟩
      · rename _ = false => hcmp
        rename Fr _ _ _ _ => F5
        rw [hcmp] at hc
        rw [bis_step c (by omega), if_neg (by rw [hc]; decide)] at h9
        exact ⟨_, _, _, _, by omega, rfl, F5, rfl, rfl, rfl, (lo + hi) / 2 + 1, hi, _, _, rfl, rfl, by omega, by omega, rfl, h9⟩
    · rename ¬ ((_ : Int) < _) => hlt
      rw [bis_end c (by omega)] at h9
      rw [← h9] at hq
      exact hq _ _ _ F3.keep
end Mine
namespace Mine
local macro_rules | `(tactic| walk_at "call ref cons nil") => `(tactic| refine Halt.out ?_)
local macro_rules | `(tactic| walk_at "call ref cons cons") => `(tactic| refine Halt.out ?_)
local macro_rules | `(tactic| walk_at "exec While Compare cons nil") => `(tactic| refine Halt.out ?_)
theorem bisL_key : ∀ (w : World) (mean : ExcName → Option Value) (mg mb : Str → Option Value) (A : Around) (s : Shared) (Q E : Value → Shared → Prop) (l : Addr) (vs : List Value) (fx : UInt64) (tx t0 : Tok) (c : Nat → Bool),
    Grd w mean mg mb s.heap → Low A 500 5000 → s.heap.IsList l vs.toArray → vs.length ≤ 100 →
    (∀ (k : Nat) v, vs[k]? = some v → ∃ ad fk tk y, v = .ref ad ∧ IsTup s.heap ad #[.float fk tk, y] ∧ c k = !(Float64.cmp fk fx == some Ordering.lt)) →
    (∀ h' tk' t', Keeps s.heap h' → Q (.int (bis c 100 0 vs.length) t') { s with heap := h', toks := tk' }) →
    wpAny (MM w) A (call (.ref 50) [.ref l, .float fx tx, .int 0 t0, .none] [(Str.ofString "key", .ref 104)]) Q E s := by
  intro w mean mg mb A s Q E l vs fx tx t0 c G lo hl hlen hit hq
  refine lo.wp ?_
  have X := G.X
  have T := G.T
  refine' enterP [(Str.ofString "a", .ref l), (Str.ofString "x", .float fx tx), (Str.ofString "lo", .int 0 t0), (Str.ofString "hi", .none), (Str.ofString "key", .ref 104)] X T ?k6 ?k7 (by decide) ?k9 ?kB ?c2 ?c3 ?c4 ?c5 ?_
  case k6 => k_is
  case k7 => k_is
  case k9 => exact kp_binds X (fun _ => by kernel_rfl)
  case kB => exact locs rfl
  case c2 => exact rfl
  case c3 => exact rfl
  case c4 => exact rfl
  case c5 => decide
  intro L h₁ tk F N
  try dsimp only
  k_steps
  (rename Fr _ _ _ _ => F1)
  refine len_list (F1.lst hl) (by simp only [List.size_toArray]; omega) ?_
  k_steps
  (rename Fr _ _ _ _ => F2)
  refine ⟨while_fr (fun n m => m (Str.ofString "a") = some (.ref l) ∧ m (Str.ofString "x") = some (.float fx tx) ∧ m (Str.ofString "key") = some (.ref 104) ∧
    ∃ (lo hi : Nat) (tl th : Tok), m (Str.ofString "lo") = some (.int lo tl) ∧ m (Str.ofString "hi") = some (.int hi th) ∧ lo ≤ hi ∧ hi ≤ vs.length ∧ n = hi - lo ∧ bis c n lo hi = bis c 100 0 vs.length) F2 ⟨rfl, rfl, rfl, 0, vs.length, _, _, rfl, rfl, Nat.zero_le _, Nat.le_refl _, rfl, bis_fuel c _ _ _ _ (Nat.le_refl _) (by omega)⟩ ?_⟩
  · rintro n m h tk2 ⟨h1, h2, h3, lo, hi, tl, th, h4, h5, h6, h7, rfl, h9⟩ F3 N3
    rw [mapName h1, mapName h2, mapName h3, mapName h4, mapName h5] at F3
    clear F2
    have em : Int.fdiv ((lo : Int) + (hi : Int)) 2 = (((lo + hi) / 2 : Nat) : Int) := by
      rw [Int.fdiv_eq_ediv_of_nonneg _ (by decide)]; omega
    k_steps
    · rename (_ : Int) < _ => hlt
      (rename Fr _ _ _ _ => F4)
      (rename News _ _ _ _ => N4)
      rw [em] at F4 ⊢
      have hm : (lo + hi) / 2 < vs.length := by omega
      obtain ⟨ad, fk, tkk, y, hv, htup, hc⟩ := hit ((lo + hi) / 2) _ (List.getElem?_eq_getElem hm)
      refine item_listL (F4.lst hl) (by omega) (by omega) (x := .ref ad) (by rw [← hv, Int.toNat_natCast]; exact List.getElem?_eq_getElem hm) ?_
      k_steps
      refine ⟨hue_spec w mean mg mb _ _ _ _ _ _ _ (G.keeps F4.keep) ⟨rfl, Nat.le_of_ble_eq_true rfl, Nat.le_of_ble_eq_true rfl⟩ (htup.keeps F4.keep) ?_⟩
      intro h' tk' k
      replace F4 := F4.kept k
      replace N4 := N4.grown k
      clear k
      k_steps
      · rename _ = true => hcmp
        rename Fr _ _ _ _ => F5
        rw [hcmp] at hc
        simp only [Bool.not_true, Bool.not_false] at hc
        rw [bis_step c (by omega), if_neg (by rw [hc]; decide)] at h9
        exact ⟨_, _, _, _, by omega, rfl, F5, rfl, rfl, rfl, (lo + hi) / 2 + 1, hi, _, _, rfl, rfl, by omega, by omega, rfl, h9⟩
      · rename _ = false => hcmp
        rename Fr _ _ _ _ => F5
        rw [hcmp] at hc
        simp only [Bool.not_true, Bool.not_false] at hc
        rw [bis_step c (by omega), if_pos hc] at h9
        exact ⟨_, _, _, _, by omega, rfl, F5, rfl, rfl, rfl, lo, (lo + hi) / 2, _, _, rfl, rfl, by omega, by omega, rfl, h9⟩
    · rename ¬ ((_ : Int) < _) => hlt
      rw [bis_end c (by omega)] at h9
      rw [← h9] at hq
      exact hq _ _ _ F3.keep
end Mine
namespace Mine
open AutoSeq1 (wpAny_loadPart')
open MeetsSeq MeetsSeq3
/-- the order of lists of ints -/
def lexLt : List Int → List Int → Bool
  | [], [] => false
  | [], _ :: _ => true
  | _ :: _, [] => false
  | x :: xs, y :: ys => if x = y then lexLt xs ys else decide (x < y)
theorem lt_loop (l b : Addr) (items items2 : Array Value) (n n2 : Nat) (dd dd2 : Option Addr) (sl sl2 : Array (Option Value)) (ns ms : List Int) (hi : IntsAre items.toList ns) (hj : IntsAre items2.toList ms) (k : Nat) :
    ∀ i : Nat, items.size - i = k → i ≤ items.size → i ≤ items2.size → Meets (Builtin.«list.__eq__.loop» ⟨[.ref l, .ref b, rawInt i, rawInt 0], []⟩)
      (fun _ R s => s.heap.get? l = some { cls := .type "list", dict := dd, data := .seq items n, slots := sl } ∧ s.heap.get? b = some { cls := .type "list", dict := dd2, data := .seq items2 n2, slots := sl2 } ∧
        R (.ok (.ret (.bool (lexLt (ns.drop i) (ms.drop i))))) s) := by
  have ln : ns.length = items.size := by rw [← hi.length]; simp
  have lm : ms.length = items2.size := by rw [← hj.length]; simp
  induction k with
  | zero =>
    intro i hk h1 h2 prog w A R s h
    obtain ⟨hp, g, d, tk, os⟩ := s; obtain ⟨hl, hb, h⟩ := h
    wp_walk using wpAny_loadPart' hl, wpAny_loadPart' hb
    have hi1 : items[((i : Nat) : Int).toNat]? = none := by simp; omega
    rw [hi1]
    wp_walk using wpAny_loadPart' hl, wpAny_loadPart' hb
    show R (.ok (.ret (.bool (decide (items.size < items2.size))))) _
    have e : lexLt (ns.drop i) (ms.drop i) = decide (items.size < items2.size) := by
      rw [List.drop_eq_nil_of_le (by omega : ns.length ≤ i)]
      by_cases q : i < ms.length
      · rw [List.drop_eq_getElem_cons q]
        show true = _
        rw [decide_eq_true (by omega)]
      · rw [List.drop_eq_nil_of_le (by omega : ms.length ≤ i)]
        show false = _
        rw [decide_eq_false (by omega)]
    rw [← e]; exact h
  | succ k ih =>
    intro i hk h1 h2 prog w A R s h
    obtain ⟨hp, g, d, tk, os⟩ := s; obtain ⟨hl, hb, h⟩ := h
    wp_walk using wpAny_loadPart' hl, wpAny_loadPart' hb
    have hlt : i < items.size := by omega
    have hi1 : items[((i : Nat) : Int).toNat]? = some items[i] := by simp [hlt]
    rw [hi1]
    by_cases hlt2 : i < items2.size
    · have hi2 : items2[((i : Nat) : Int).toNat]? = some items2[i] := by simp [hlt2]
      have hc : ((i : Int) + 1) = ((i + 1 : Nat) : Int) := by push_cast; rfl
      rw [hi2]
      obtain ⟨ta, ea⟩ := hi.get i ns[i] (by simp)
      obtain ⟨tb, eb⟩ := hj.get i ms[i] (by simp)
      have ea' : items[i] = .int ns[i] ta := by
        have : items[i]? = some (.int ns[i] ta) := by simpa using ea
        rw [Array.getElem?_eq_getElem hlt] at this
        exact Option.some.inj this
      have eb' : items2[i] = .int ms[i] tb := by
        have : items2[i]? = some (.int ms[i] tb) := by simpa using eb
        rw [Array.getElem?_eq_getElem hlt2] at this
        exact Option.some.inj this
      rw [List.drop_eq_getElem_cons (by omega : i < ns.length), List.drop_eq_getElem_cons (by omega : i < ms.length)] at h
      have h' : R (.ok (.ret (.bool (if ns[i] = ms[i] then lexLt (ns.drop (i + 1)) (ms.drop (i + 1)) else decide (ns[i] < ms[i]))))) ⟨hp, g, d, tk, os⟩ := h
      rw [ea', eb']
      refine wpAny_bind (EqGives.int _ _ _ _ prog w _ _ _ _ ?_)
      by_cases q : ns[i] = ms[i]
      · rw [if_pos q] at h'
        have qb : (ns[i] == ms[i]) = true := beq_iff_eq.mpr q
        rw [qb]
        wp_walk
        rw [hc]
        exact ⟨plainId_quiet plain_eq_loop _, codeAny_builtin entry_eq_loop (by
          rw [Around.under_plainId plain_eq_loop _]
          exact ih (i + 1) (by omega) (by omega) (by omega) prog w A R _ ⟨hl, hb, h'⟩)⟩
      · rw [if_neg q] at h'
        have qb : (ns[i] == ms[i]) = false := by simpa using q
        rw [qb]
        wp_walk using wpAny_loadPart' hl, wpAny_loadPart' hb
        rw [hi1, hi2, ea', eb']
        refine wpAny_bind (show wpAny _ _ (compareOp .Lt (.int ns[i] ta) (.int ms[i] tb)) _ _ _ from PyProof.Rows.lt_int ?_)
        exact wpAny_pure h'
    · have hi2 : items2[((i : Nat) : Int).toNat]? = none := by simp; omega
      rw [hi2]
      wp_walk using wpAny_loadPart' hl, wpAny_loadPart' hb
      show R (.ok (.ret (.bool (decide (items.size < items2.size))))) _
      have e : lexLt (ns.drop i) (ms.drop i) = decide (items.size < items2.size) := by
        rw [List.drop_eq_nil_of_le (by omega : ms.length ≤ i), List.drop_eq_getElem_cons (by omega : i < ns.length)]
        show false = _
        rw [decide_eq_false (by omega)]
      rw [← e]; exact h
theorem list_lt (l b : Addr) (items items2 : Array Value) (n n2 : Nat) (dd dd2 : Option Addr) (sl sl2 : Array (Option Value)) (ns ms : List Int) (hi : IntsAre items.toList ns) (hj : IntsAre items2.toList ms) :
    Meets (Builtin.«list.__lt__» ⟨[.ref l, .ref b], []⟩)
      (fun _ R s => s.heap.get? l = some { cls := .type "list", dict := dd, data := .seq items n, slots := sl } ∧ s.heap.get? b = some { cls := .type "list", dict := dd2, data := .seq items2 n2, slots := sl2 } ∧
        R (.ok (.ret (.bool (lexLt ns ms)))) s) := by
  intro prog w A R s h
  obtain ⟨hp, g, d, tk, os⟩ := s; obtain ⟨hl, hb, h⟩ := h
  have f3 := AutoSeq1.sub_list_list
  wp_walk using wpAny_loadPart' hl, wpAny_loadPart' hb
  exact ⟨plainId_quiet plain_eq_loop _, codeAny_builtin entry_eq_loop (by
    rw [Around.under_plainId plain_eq_loop _]
    exact lt_loop l b items items2 n n2 dd dd2 sl sl2 ns ms hi hj _ 0 rfl (Nat.zero_le _) (Nat.zero_le _) prog w A R _ ⟨hl, hb, by simpa using h⟩)⟩
theorem lt_lists {prog : Program} {w : World} {A : Around} {E : Value → Shared → Prop} {s : Shared} {a b : Addr} {xs ys : List Value} {ns ms : List Int} {Q : Value → Shared → Prop}
    (ha : s.heap.IsList a xs.toArray) (hb : s.heap.IsList b ys.toArray) (hi : IntsAre xs ns) (hj : IntsAre ys ms) (hu : A.units < cLine) (h : Q (.bool (lexLt ns ms)) s) :
    wpAny (model prog w) A (richCompare .Lt (.ref a) (.ref b)) Q E s := by
  have ta := ha.typeIs
  have tb := hb.typeIs
  obtain ⟨⟨oc, od, dt, osl⟩, hoa, hca, n, hda⟩ := ha
  obtain ⟨⟨oc2, od2, dt2, osl2⟩, hob, hcb, n2, hdb⟩ := hb
  cases hca; cases hda; cases hcb; cases hdb
  exact richCompare_meets_room ta tb F.slot_list_lt F.entry_list_lt (F.args_list_lt_2 _ _) (list_lt a b xs.toArray ys.toArray n n2 od od2 osl osl2 ns ms (by simpa using hi) (by simpa using hj)) ⟨hoa, hob, by simp, h⟩ hu
end Mine
namespace Mine
local macro_rules | `(tactic| walk_at "compareOp Lt ref ref") => `(tactic| refine Halt.out ?_)
local macro_rules | `(tactic| walk_at "call ref cons nil") => `(tactic| refine Halt.out ?_)
local macro_rules | `(tactic| walk_at "call ref cons cons") => `(tactic| refine Halt.out ?_)
local macro_rules | `(tactic| walk_at "exec While Compare cons nil") => `(tactic| refine Halt.out ?_)
theorem bisR_list : ∀ (w : World) (mean : ExcName → Option Value) (mg mb : Str → Option Value) (A : Around) (s : Shared) (Q E : Value → Shared → Prop) (l : Addr) (vs : List Value) (lx : Addr) (xx : List Value) (nx : List Int) (t0 : Tok) (c : Nat → Bool),
    Grd w mean mg mb s.heap → Low A 500 5000 → s.heap.IsList l vs.toArray → vs.length ≤ 100 → s.heap.IsList lx xx.toArray → IntsAre xx nx →
    (∀ (k : Nat) v, vs[k]? = some v → ∃ ad xs ns, v = .ref ad ∧ s.heap.IsList ad xs ∧ IntsAre xs.toList ns ∧ c k = lexLt nx ns) →
    (∀ h' tk' t', Keeps s.heap h' → Q (.int (bis c 100 0 vs.length) t') { s with heap := h', toks := tk' }) →
    wpAny (MM w) A (call (.ref 32) [.ref l, .ref lx, .int 0 t0, .none]) Q E s := by
  intro w mean mg mb A s Q E l vs lx xx nx t0 c G lo hl hlen hlx hix hit hq
  refine lo.wp ?_
  have X := G.X
  have T := G.T
  refine' enterP [(Str.ofString "a", .ref l), (Str.ofString "x", .ref lx), (Str.ofString "lo", .int 0 t0), (Str.ofString "hi", .none), (Str.ofString "key", .none)] X T ?k6 ?k7 (by decide) ?k9 ?kB ?c2 ?c3 ?c4 ?c5 ?_
  case k6 => k_is
  case k7 => k_is
  case k9 => exact kp_binds X (fun _ => by kernel_rfl)
  case kB => exact locs rfl
  case c2 => exact rfl
  case c3 => exact rfl
  case c4 => exact rfl
  case c5 => decide
  intro L h₁ tk F N
  try dsimp only
  k_steps
  (rename Fr _ _ _ _ => F1)
  refine len_list (F1.lst hl) (by simp only [List.size_toArray]; omega) ?_
  k_steps
  (rename Fr _ _ _ _ => F2)
  refine ⟨while_fr (fun n m => m (Str.ofString "a") = some (.ref l) ∧ m (Str.ofString "x") = some (.ref lx) ∧ m (Str.ofString "key") = some .none ∧
    ∃ (lo hi : Nat) (tl th : Tok), m (Str.ofString "lo") = some (.int lo tl) ∧ m (Str.ofString "hi") = some (.int hi th) ∧ lo ≤ hi ∧ hi ≤ vs.length ∧ n = hi - lo ∧ bis c n lo hi = bis c 100 0 vs.length) F2 ⟨rfl, rfl, rfl, 0, vs.length, _, _, rfl, rfl, Nat.zero_le _, Nat.le_refl _, rfl, bis_fuel c _ _ _ _ (Nat.le_refl _) (by omega)⟩ ?_⟩
  · rintro n m h tk2 ⟨h1, h2, h3, lo, hi, tl, th, h4, h5, h6, h7, rfl, h9⟩ F3 N3
    rw [mapName h1, mapName h2, mapName h3, mapName h4, mapName h5] at F3
    clear F2
    have em : Int.fdiv ((lo : Int) + (hi : Int)) 2 = (((lo + hi) / 2 : Nat) : Int) := by
      rw [Int.fdiv_eq_ediv_of_nonneg _ (by decide)]; omega
    k_steps
    · rename (_ : Int) < _ => hlt
      (rename Fr _ _ _ _ => F4)
      (rename News _ _ _ _ => N4)
      rw [em] at F4 ⊢
      have hm : (lo + hi) / 2 < vs.length := by omega
      obtain ⟨ad, xs, ns, hv, hxs, hns, hc⟩ := hit ((lo + hi) / 2) _ (List.getElem?_eq_getElem hm)
      refine item_listL (F4.lst hl) (by omega) (by omega) (x := .ref ad) (by rw [← hv, Int.toNat_natCast]; exact List.getElem?_eq_getElem hm) ?_
      k_steps
      refine ⟨cmp_ofLt (lt_lists (F4.lst hlx) (by have := F4.lst hxs; rw [← Array.toArray_toList (xs := xs)] at this; exact this) hix hns (Nat.le_of_ble_eq_true rfl) ?_)⟩
      k_steps
      · rename _ = true => hcmp
        rename Fr _ _ _ _ => F5
        rw [hcmp] at hc
        rw [bis_step c (by omega), if_pos hc] at h9
        exact ⟨_, _, _, _, by omega, rfl, F5, rfl, rfl, rfl, lo, (lo + hi) / 2, _, _, rfl, rfl, by omega, by omega, rfl, h9⟩
      · rename _ = false => hcmp
        rename Fr _ _ _ _ => F5
        rw [hcmp] at hc
        rw [bis_step c (by omega), if_neg (by rw [hc]; decide)] at h9
        exact ⟨_, _, _, _, by omega, rfl, F5, rfl, rfl, rfl, (lo + hi) / 2 + 1, hi, _, _, rfl, rfl, by omega, by omega, rfl, h9⟩
    · rename ¬ ((_ : Int) < _) => hlt
      rw [bis_end c (by omega)] at h9
      rw [← h9] at hq
      exact hq _ _ _ F3.keep
end Mine
namespace Mine
local macro_rules | `(tactic| walk_at "call ref cons nil") => `(tactic| refine Halt.out ?_)
local macro_rules | `(tactic| walk_at "call ref cons cons") => `(tactic| refine Halt.out ?_)
section
variable {w : World} {mean : ExcName → Option Value} {mg mb : Str → Option Value} {A : Around} {s : Shared} {Q E : Value → Shared → Prop}
/-- a call that may change the objects of a list of its own -/
theorem enterH {prog : Program} {K : Frag} {p : Program} {loose : List Str} {name qual : Str} {params : Arguments} {body : List Stmt} {scope : Scope} {dV kV doc pm cdv ct oc : Value} {an od : Option Addr} {osl : Array (Option Value)} {f : Addr} {vs : List Value} {kw : List (Str × Value)} (binds : List (Str × Value)) {hb : Heap} (hide : List (Addr × Obj))
    (X : K.In hb) (T : Top p loose mean mg mb hb) (kb : Keeps hb s.heap) (hN : ∀ q ∈ hide, s.heap.get? q.1 = some q.2) (hn : ∀ q ∈ hide, hb.get? q.1 = none)
    (ho : K.lookup f = some ⟨oc, od, .func (fnOf name qual params body scope dV kV doc pm an cdv ct), osl⟩) (hcd : codeIn K cdv qual = true) (hroom : A.depth < recursionLimit)
    (hbind : BindsTo s (fnOf name qual params body scope dV kV doc pm an cdv ct) ⟨vs, kw⟩ binds) (hloc : ∀ y ∈ binds, scope.names.lookup y.1 = some .local)
    (hco : scope.isCoroutine = false) (hgen : scope.isGenerator = false) (hk : scope.kind = .function) (hcell : ∀ x ∈ scope.names, x.2 ≠ .cell)
    (h : ∀ g L' h₁ tk, (∀ b o, s.heap.get? b = some o → (∀ q ∈ hide, b ≠ q.1) → g.get? b = some o) → (∀ b o, g.get? b = some o → s.heap.get? b = some o) → Fr g L' h₁ (fun y => binds.reverse.lookup y) → News g L' h₁ hide → K.In g → Top p loose mean mg mb g →
      wpAny (model prog w) (A.deeper (envOf qual scope L' f cdv)) (execs body (envOf qual scope L' f cdv))
        (fun fl s' => Q (match fl with | .ret v => v | _ => .none) s') (fun _ _ => False) { s with heap := h₁, toks := tk }) :
    wpAny (model prog w) A (call (.ref f) vs kw) Q E s := by
  have X' := X.keeps kb
  have T' := T.keeps kb
  have kg : Keeps hb (hideAll s.heap (hide.map (·.1))) := fun b o e => hideAll_get _ (kb b o e) fun q => by
    obtain ⟨r, hr, e'⟩ := List.mem_map.mp q
    have := hn r hr
    rw [e', e] at this
    cases this
  refine wpAny_call (codeAny_call_def (fd := fnOf name qual params body scope dV kV doc pm an cdv ct) (body := body) (binds := binds) hroom (X' _ _ ho) rfl T'.nolimit (codeRec_of X' hcd) rfl hbind hcell hloc (fun h₁ hns hk₁ => ?_) hco hgen hk)
  refine wpAny_mono (h (hideAll s.heap (hide.map (·.1))) s.heap.objs.size h₁ _ ?_ (fun b o e => of_hideAll _ e) ⟨hns, fun b o e => hk₁ b o (of_hideAll _ e), Nat.le_of_eq (hideAll_size _ _)⟩ ?_ (X.keeps kg) (T.keeps kg)) (fun _ _ x => x) (fun _ _ x => x.elim)
  · intro b o e hq
    refine hideAll_get _ e fun q => ?_
    obtain ⟨r, hr, e'⟩ := List.mem_map.mp q
    exact hq r hr e'.symm
  · intro q hq
    exact ⟨hk₁ _ _ (hN q hq), Nat.ne_of_lt (Heap.lt_size (hN q hq)), hideAll_none _ (List.mem_map_of_mem hq)⟩
end
def insAt (k : Nat) (x : Value) (vs : List Value) : List Value := vs.take k ++ x :: vs.drop k
theorem kl_insAt {k : Nat} {x : Value} {vs : List Value} (h : k ≤ vs.length) : kl_ins vs (k : Int) x = insAt k x vs := by
  unfold kl_ins insAt
  rw [if_neg (by omega)]
  have : min (k : Int).toNat vs.length = k := by omega
  rw [this]
theorem bis_le (c : Nat → Bool) : ∀ (f lo hi : Nat), lo ≤ hi → bis c f lo hi ≤ hi := by
  intro f
  induction f with
  | zero => intro lo hi h; exact h
  | succ f ih =>
    intro lo hi h
    unfold bis
    by_cases q : lo < hi
    · rw [if_pos q]
      by_cases r : c ((lo + hi) / 2) = true
      · rw [if_pos r]; exact Nat.le_trans (ih _ _ (by omega)) (by omega)
      · rw [if_neg r]; exact ih _ _ (by omega)
    · rw [if_neg q]; exact h
theorem insR_key : ∀ (w : World) (mean : ExcName → Option Value) (mg mb : Str → Option Value) (A : Around) (s : Shared) (Q E : Value → Shared → Prop) (hb : Heap) (l pl : Addr) (vs : List Value) (n : Nat) (fx : UInt64) (tx : Tok) (yy : Value) (c : Nat → Bool),
    Grd w mean mg mb hb → Keeps hb s.heap → Low A 400 4000 → s.heap.get? l = some (listOf vs.toArray n) → hb.get? l = none → vs.length ≤ 50 → IsTup s.heap pl #[.float fx tx, yy] →
    (∀ (k : Nat) v, vs[k]? = some v → ∃ ad fk tk y, v = .ref ad ∧ IsTup s.heap ad #[.float fk tk, y] ∧ c k = (Float64.cmp fx fk == some Ordering.lt)) →
    (∀ h' tk' n', (∀ b o, b ≠ l → s.heap.get? b = some o → h'.get? b = some o) → h'.get? l = some (listOf (insAt (bis c 100 0 vs.length) (.ref pl) vs).toArray n') → Q .none { s with heap := h', toks := tk' }) →
    wpAny (MM w) A (call (.ref 23) [.ref l, .ref pl] [(Str.ofString "key", .ref 104)]) Q E s := by
  intro w mean mg mb A s Q E hb l pl vs n fx tx yy c G kb lo hl hln hlen hpl hit hq
  refine lo.wp ?_
  refine' enterH [(Str.ofString "a", .ref l), (Str.ofString "x", .ref pl), (Str.ofString "lo", .int 0 189), (Str.ofString "hi", .none), (Str.ofString "key", .ref 104)] [(l, listOf vs.toArray n)] G.X G.T kb ?kn ?ko ?k6 ?k7 (by decide) ?k9 ?kB ?c2 ?c3 ?c4 ?c5 ?_
  case kn => intro q hq; rw [List.mem_singleton.mp hq]; exact hl
  case ko => intro q hq; rw [List.mem_singleton.mp hq]; exact hln
  case k6 => k_is
  case k7 => k_is
  case k9 => exact kp_binds (G.X.keeps kb) (fun _ => by kernel_rfl)
  case kB => exact locs rfl
  case c2 => exact rfl
  case c3 => exact rfl
  case c4 => exact rfl
  case c5 => decide
  intro g L h₁ tk hg hgo F N X T
  have G' : Grd w mean mg mb g := ⟨X, T⟩
  have K' : ∀ {h : Heap} {m : Str → Option Value}, Fr g L h m → News g L h [(l, listOf vs.toArray n)] → Keeps s.heap h := fun F' N' b o e => by
    by_cases q : b = l
    · subst q
      rw [hl] at e
      cases e
      exact (N' _ (.head _)).1
    · exact F'.keep b o (hg b o e fun r hr => by rw [List.mem_singleton.mp hr]; exact q)
  try dsimp only
  k_steps
  (rename Fr _ _ _ _ => F1)
  (rename News _ _ _ _ => N1)
  refine ⟨hue_spec w mean mg mb _ _ _ _ _ _ _ (G'.keeps F1.keep) ⟨rfl, Nat.le_of_ble_eq_true rfl, Nat.le_of_ble_eq_true rfl⟩ (hpl.keeps (K' F1 N1)) ?_⟩
  intro h' tk' k
  replace F1 := F1.kept k
  replace N1 := N1.grown k
  clear k
  k_steps
  refine bisR_key w mean mg mb _ _ _ _ l vs fx tx _ c (G'.keeps F1.keep) ⟨rfl, Nat.le_of_ble_eq_true rfl, Nat.le_of_ble_eq_true rfl⟩ ⟨_, (N1 _ (.head _)).1, rfl, _, rfl⟩ (by omega) ?_ ?_
  · intro k v hv
    obtain ⟨ad, fk, tk, y, e1, e2, e3⟩ := hit k v hv
    exact ⟨ad, fk, tk, y, e1, e2.keeps (K' F1 N1), e3⟩
  intro h' tk' t' k
  replace F1 := F1.kept k
  replace N1 := N1.grown k
  clear k
  k_steps
  (rename Fr _ _ _ _ => F2)
  (rename News _ _ _ _ => N2)
  have hle : bis c 100 0 vs.length ≤ vs.length := bis_le c _ _ _ (Nat.zero_le _)
  refine kl_insert F2 N2 ?_ (kl_insAt (vs := vs) hle) (Upd.head (fun q hq => nomatch hq)) (by show vs.length ≤ _; rw [sizeLine_eq]; omega) ?_
  · unfold Builtin.List.listFitsIndex
    simp only [Bool.and_eq_true, decide_eq_true_eq]
    omega
  intro h' F3 N3
  clear F2 N2
  k_steps
  refine hq _ _ _ (fun b o hb e => F3.keep b o (hg b o e fun r hr => by rw [List.mem_singleton.mp hr]; exact hb)) (N3 _ (.head _)).1
end Mine
namespace Mine
local macro_rules | `(tactic| walk_at "call ref cons nil") => `(tactic| refine Halt.out ?_)
local macro_rules | `(tactic| walk_at "call ref cons cons") => `(tactic| refine Halt.out ?_)
theorem insL_key : ∀ (w : World) (mean : ExcName → Option Value) (mg mb : Str → Option Value) (A : Around) (s : Shared) (Q E : Value → Shared → Prop) (hb : Heap) (l pl : Addr) (vs : List Value) (n : Nat) (fx : UInt64) (tx : Tok) (yy : Value) (c : Nat → Bool),
    Grd w mean mg mb hb → Keeps hb s.heap → Low A 400 4000 → s.heap.get? l = some (listOf vs.toArray n) → hb.get? l = none → vs.length ≤ 50 → IsTup s.heap pl #[.float fx tx, yy] →
    (∀ (k : Nat) v, vs[k]? = some v → ∃ ad fk tk y, v = .ref ad ∧ IsTup s.heap ad #[.float fk tk, y] ∧ c k = !(Float64.cmp fk fx == some Ordering.lt)) →
    (∀ h' tk' n', (∀ b o, b ≠ l → s.heap.get? b = some o → h'.get? b = some o) → h'.get? l = some (listOf (insAt (bis c 100 0 vs.length) (.ref pl) vs).toArray n') → Q .none { s with heap := h', toks := tk' }) →
    wpAny (MM w) A (call (.ref 41) [.ref l, .ref pl] [(Str.ofString "key", .ref 104)]) Q E s := by
  intro w mean mg mb A s Q E hb l pl vs n fx tx yy c G kb lo hl hln hlen hpl hit hq
  refine lo.wp ?_
  refine' enterH [(Str.ofString "a", .ref l), (Str.ofString "x", .ref pl), (Str.ofString "lo", .int 0 216), (Str.ofString "hi", .none), (Str.ofString "key", .ref 104)] [(l, listOf vs.toArray n)] G.X G.T kb ?kn ?ko ?k6 ?k7 (by decide) ?k9 ?kB ?c2 ?c3 ?c4 ?c5 ?_
  case kn => intro q hq; rw [List.mem_singleton.mp hq]; exact hl
  case ko => intro q hq; rw [List.mem_singleton.mp hq]; exact hln
  case k6 => k_is
  case k7 => k_is
  case k9 => exact kp_binds (G.X.keeps kb) (fun _ => by kernel_rfl)
  case kB => exact locs rfl
  case c2 => exact rfl
  case c3 => exact rfl
  case c4 => exact rfl
  case c5 => decide
  intro g L h₁ tk hg hgo F N X T
  have G' : Grd w mean mg mb g := ⟨X, T⟩
  have K' : ∀ {h : Heap} {m : Str → Option Value}, Fr g L h m → News g L h [(l, listOf vs.toArray n)] → Keeps s.heap h := fun F' N' b o e => by
    by_cases q : b = l
    · subst q
      rw [hl] at e
      cases e
      exact (N' _ (.head _)).1
    · exact F'.keep b o (hg b o e fun r hr => by rw [List.mem_singleton.mp hr]; exact q)
  try dsimp only
  k_steps
  (rename Fr _ _ _ _ => F1)
  (rename News _ _ _ _ => N1)
  refine ⟨hue_spec w mean mg mb _ _ _ _ _ _ _ (G'.keeps F1.keep) ⟨rfl, Nat.le_of_ble_eq_true rfl, Nat.le_of_ble_eq_true rfl⟩ (hpl.keeps (K' F1 N1)) ?_⟩
  intro h' tk' k
  replace F1 := F1.kept k
  replace N1 := N1.grown k
  clear k
  k_steps
  refine bisL_key w mean mg mb _ _ _ _ l vs fx tx _ c (G'.keeps F1.keep) ⟨rfl, Nat.le_of_ble_eq_true rfl, Nat.le_of_ble_eq_true rfl⟩ ⟨_, (N1 _ (.head _)).1, rfl, _, rfl⟩ (by omega) ?_ ?_
  · intro k v hv
    obtain ⟨ad, fk, tk, y, e1, e2, e3⟩ := hit k v hv
    exact ⟨ad, fk, tk, y, e1, e2.keeps (K' F1 N1), e3⟩
  intro h' tk' t' k
  replace F1 := F1.kept k
  replace N1 := N1.grown k
  clear k
  k_steps
  (rename Fr _ _ _ _ => F2)
  (rename News _ _ _ _ => N2)
  have hle : bis c 100 0 vs.length ≤ vs.length := bis_le c _ _ _ (Nat.zero_le _)
  refine kl_insert F2 N2 ?_ (kl_insAt (vs := vs) hle) (Upd.head (fun q hq => nomatch hq)) (by show vs.length ≤ _; rw [sizeLine_eq]; omega) ?_
  · unfold Builtin.List.listFitsIndex
    simp only [Bool.and_eq_true, decide_eq_true_eq]
    omega
  intro h' F3 N3
  clear F2 N2
  k_steps
  refine hq _ _ _ (fun b o hb e => F3.keep b o (hg b o e fun r hr => by rw [List.mem_singleton.mp hr]; exact hb)) (N3 _ (.head _)).1
theorem insR_list : ∀ (w : World) (mean : ExcName → Option Value) (mg mb : Str → Option Value) (A : Around) (s : Shared) (Q E : Value → Shared → Prop) (hb : Heap) (l pl : Addr) (vs : List Value) (n : Nat) (xx : List Value) (nx : List Int) (c : Nat → Bool),
    Grd w mean mg mb hb → Keeps hb s.heap → Low A 400 4000 → s.heap.get? l = some (listOf vs.toArray n) → hb.get? l = none → vs.length ≤ 50 → s.heap.IsList pl xx.toArray → IntsAre xx nx → pl ≠ l →
    (∀ (k : Nat) v, vs[k]? = some v → ∃ ad xs ns, v = .ref ad ∧ s.heap.IsList ad xs ∧ IntsAre xs.toList ns ∧ c k = lexLt nx ns) →
    (∀ h' tk' n', (∀ b o, b ≠ l → s.heap.get? b = some o → h'.get? b = some o) → h'.get? l = some (listOf (insAt (bis c 100 0 vs.length) (.ref pl) vs).toArray n') → Q .none { s with heap := h', toks := tk' }) →
    wpAny (MM w) A (call (.ref 23) [.ref l, .ref pl]) Q E s := by
  intro w mean mg mb A s Q E hb l pl vs n xx nx c G kb lo hl hln hlen hpl hix hpne hit hq
  refine lo.wp ?_
  refine' enterH [(Str.ofString "a", .ref l), (Str.ofString "x", .ref pl), (Str.ofString "lo", .int 0 189), (Str.ofString "hi", .none), (Str.ofString "key", .none)] [(l, listOf vs.toArray n)] G.X G.T kb ?kn ?ko ?k6 ?k7 (by decide) ?k9 ?kB ?c2 ?c3 ?c4 ?c5 ?_
  case kn => intro q hq; rw [List.mem_singleton.mp hq]; exact hl
  case ko => intro q hq; rw [List.mem_singleton.mp hq]; exact hln
  case k6 => k_is
  case k7 => k_is
  case k9 => exact kp_binds (G.X.keeps kb) (fun _ => by kernel_rfl)
  case kB => exact locs rfl
  case c2 => exact rfl
  case c3 => exact rfl
  case c4 => exact rfl
  case c5 => decide
  intro g L h₁ tk hg hgo F N X T
  have G' : Grd w mean mg mb g := ⟨X, T⟩
  have K' : ∀ {h : Heap} {m : Str → Option Value}, Fr g L h m → News g L h [(l, listOf vs.toArray n)] → Keeps s.heap h := fun F' N' b o e => by
    by_cases q : b = l
    · subst q
      rw [hl] at e
      cases e
      exact (N' _ (.head _)).1
    · exact F'.keep b o (hg b o e fun r hr => by rw [List.mem_singleton.mp hr]; exact q)
  try dsimp only
  k_steps
  (rename Fr _ _ _ _ => F1)
  (rename News _ _ _ _ => N1)
  refine ⟨bisR_list w mean mg mb _ _ _ _ l vs pl xx nx _ c (G'.keeps F1.keep) ⟨rfl, Nat.le_of_ble_eq_true rfl, Nat.le_of_ble_eq_true rfl⟩ ⟨_, (N1 _ (.head _)).1, rfl, _, rfl⟩ (by omega) (hpl.at fun o e => K' F1 N1 _ _ e) hix ?_ ?_⟩
  · intro k v hv
    obtain ⟨ad, xs, ns, e1, e2, e3, e4⟩ := hit k v hv
    exact ⟨ad, xs, ns, e1, e2.at fun o e => K' F1 N1 _ _ e, e3, e4⟩
  intro h' tk' t' k
  replace F1 := F1.kept k
  replace N1 := N1.grown k
  clear k
  k_steps
  (rename Fr _ _ _ _ => F2)
  (rename News _ _ _ _ => N2)
  have hle : bis c 100 0 vs.length ≤ vs.length := bis_le c _ _ _ (Nat.zero_le _)
  refine kl_insert F2 N2 ?_ (kl_insAt (vs := vs) hle) (Upd.head (fun q hq => nomatch hq)) (by show vs.length ≤ _; rw [sizeLine_eq]; omega) ?_
  · unfold Builtin.List.listFitsIndex
    simp only [Bool.and_eq_true, decide_eq_true_eq]
    omega
  intro h' F3 N3
  clear F2 N2
  k_steps
  refine hq _ _ _ (fun b o hb e => F3.keep b o (hg b o e fun r hr => by rw [List.mem_singleton.mp hr]; exact hb)) (N3 _ (.head _)).1
end Mine
namespace Mine
section
variable {prog : Program} {w : World} {A : Around} {E : Value → Shared → Prop} {s : Shared} {h₀ h h' : Heap} {L P : Addr} {m : Str → Option Value} {news : List (Addr × Obj)}
abbrev KeepsBut (P : Addr) (h h' : Heap) : Prop := ∀ b o, b ≠ P → h.get? b = some o → h'.get? b = some o
theorem Keeps.but {P : Addr} {h h' : Heap} (k : Keeps h h') : KeepsBut P h h' := fun b o _ e => k b o e
theorem but_of_same {P : Addr} {h h' : Heap} (hs : Heap.SameBut P h h') : KeepsBut P h h' := fun b _ hb e => (hs.2 b hb).trans e
theorem frBut (F : Fr h₀ L h m) (k : KeepsBut P h h') (hPL : P ≠ L) (hP0 : h₀.get? P = none) : Fr h₀ L h' m := by
  obtain ⟨oL, a1, a2, hL, a3⟩ := F.ns
  refine ⟨⟨oL, a1, a2, k _ _ hPL.symm hL, a3⟩, fun b o e => k b o (fun q => ?_) (F.keep b o e), F.above⟩
  subst q
  rw [hP0] at e
  cases e
def setL (P : Addr) (o : Obj) (news : List (Addr × Obj)) : List (Addr × Obj) := news.map fun p => if p.1 = P then (P, o) else p
theorem newsBut {o' : Obj} (N : News h₀ L h news) (k : KeepsBut P h h') (ho : h'.get? P = some o') (hPL : P ≠ L) (hP0 : h₀.get? P = none) : News h₀ L h' (setL P o' news) := by
  intro q hq
  obtain ⟨p, hp, e⟩ := List.mem_map.mp hq
  by_cases hpP : p.1 = P
  · rw [if_pos hpP] at e
    subst e
    exact ⟨ho, hPL, hP0⟩
  · rw [if_neg hpP] at e
    subst e
    exact ⟨k _ _ hpP (N p hp).1, (N p hp).2⟩
theorem newsDrop {h₀ h h' : Heap} {L P : Addr} {news : List (Addr × Obj)} (N : News h₀ L h news) (k : KeepsBut P h h') (hne : ∀ p ∈ news, p.1 ≠ P) : News h₀ L h' news := fun p hp => ⟨k _ _ (hne p hp) (N p hp).1, (N p hp).2⟩
theorem mem_setL {a : Addr} {o o' : Obj} (hm : (a, o) ∈ news) (hne : a ≠ P) : (a, o) ∈ setL P o' news := List.mem_map.mpr ⟨(a, o), hm, if_neg hne⟩
theorem mem_setL_self {o o' : Obj} (hm : (P, o) ∈ news) : (P, o') ∈ setL P o' news := List.mem_map.mpr ⟨(P, o), hm, if_pos rfl⟩
theorem setL_addr {o' : Obj} {p : Addr × Obj} (hp : p ∈ setL P o' news) : ∃ q ∈ news, q.1 = p.1 := by
  obtain ⟨q, hq, e⟩ := List.mem_map.mp hp
  by_cases h : q.1 = P
  · rw [if_pos h] at e; subst e; exact ⟨q, hq, h⟩
  · rw [if_neg h] at e; subst e; exact ⟨q, hq, rfl⟩
theorem ne_of_objs {a b : Addr} {oa ob : Obj} (ha : h.get? a = some oa) (hb : h.get? b = some ob) (hne : oa ≠ ob) : a ≠ b := fun e => by
  subst e
  rw [ha] at hb
  exact hne (Option.some.inj hb)
theorem setL_append {P : Addr} {o : Obj} {a b : List (Addr × Obj)} : setL P o (a ++ b) = setL P o a ++ setL P o b := List.map_append
theorem setL_off {P : Addr} {o : Obj} {a : List (Addr × Obj)} (h : ∀ p ∈ a, p.1 ≠ P) : setL P o a = a := by
  unfold setL
  conv => rhs; rw [← List.map_id a]
  exact List.map_congr_left fun p hp => if_neg (h p hp)

/-- a turn that makes one object and changes one of the ledger -/
theorem closeTurn {D P : Addr} {o oP oP' : Obj} {own news₁ : List (Addr × Obj)} {h4 h'' : Heap} (N4 : News h₀ L h4 ((D, o) :: (own ++ news₁))) (hPm : (P, oP) ∈ news₁) (kk : KeepsBut P h4 h'') (ho : h''.get? P = some oP') (hPown : ∀ p ∈ own, p.1 ≠ P)
    (l1 : ∀ q ∈ own ++ news₁, q.1 < D) : News h₀ L h'' (own ++ ((D, o) :: setL P oP' news₁)) := by
  have zP := N4 _ (List.mem_cons_of_mem _ (List.mem_append_right own hPm))
  have hD : D ≠ P := Nat.ne_of_gt (l1 _ (List.mem_append_right own hPm))
  intro q hq
  rcases List.mem_append.mp hq with h1 | h1
  · have z := N4 q (List.mem_cons_of_mem _ (List.mem_append_left _ h1))
    exact ⟨kk _ _ (hPown q h1) z.1, z.2⟩
  · rcases List.mem_cons.mp h1 with rfl | h2
    · have z := N4 _ (List.Mem.head _)
      exact ⟨kk _ _ hD z.1, z.2⟩
    · exact newsBut (fun p hp => N4 p (List.mem_cons_of_mem _ (List.mem_append_right own hp))) kk ho zP.2.1 zP.2.2 q h2
/-- a turn that changes one object of the ledger -/
theorem closeTurn0 {P : Addr} {oP oP' : Obj} {own news₁ : List (Addr × Obj)} {h4 h'' : Heap} (N4 : News h₀ L h4 (own ++ news₁)) (hPm : (P, oP) ∈ news₁) (kk : KeepsBut P h4 h'') (ho : h''.get? P = some oP') (hPown : ∀ p ∈ own, p.1 ≠ P) :
    News h₀ L h'' (own ++ setL P oP' news₁) := by
  have zP := N4 _ (List.mem_append_right own hPm)
  intro q hq
  rcases List.mem_append.mp hq with h1 | h1
  · have z := N4 q (List.mem_append_left _ h1)
    exact ⟨kk _ _ (hPown q h1) z.1, z.2⟩
  · exact newsBut (fun p hp => N4 p (List.mem_append_right own hp)) kk ho zP.2.1 zP.2.2 q h1
theorem off_setL {P I : Addr} {o : Obj} {news₁ : List (Addr × Obj)} (h : ∀ p ∈ news₁, p.1 ≠ I) : ∀ p ∈ setL P o news₁, p.1 ≠ I := fun p hp => by
  obtain ⟨q, hq, e⟩ := setL_addr hp
  exact e ▸ h q hq
theorem append_at {its : List Value} {n : Nat} {v : Value} {Q : Value → Shared → Prop} (hP : s.heap.get? P = some (listOf its.toArray n)) (hz : its.length ≤ 1000)
    (h : ∀ h', KeepsBut P s.heap h' → h'.get? P = some (listOf (its ++ [v]).toArray (n + 1)) → Q .none { s with heap := h' }) : wpAny (model prog w) A (call (.builtin "list.append") [.ref P, v]) Q E s := by
  refine call_meets PySem.F.slot_list_append ⟨_, hP, rfl⟩ PySem.F.entry_list_append (PySem.F.args_list_append_2 _ _) (AutoListH.list_append_list_val_0 P its.toArray n v (by rw [List.size_toArray, sizeLine_eq]; omega)) ⟨hP, h _ (but_of_same (Heap.SameBut.update ..)) ?_⟩
  have q := PySem.IsL.update hP (fun x => x.push v)
  rw [if_neg (by simp)] at q
  rw [q]
  simp
theorem setItem_at {its : List Value} {n : Nat} {k : Int} {t : Tok} {v : Value} {Q : Unit → Shared → Prop} (hP : s.heap.get? P = some (listOf its.toArray n)) (h0 : 0 ≤ k) (hk : k < its.length) (hz : its.length ≤ 1000)
    (h : ∀ h', KeepsBut P s.heap h' → h'.get? P = some (listOf (its.set k.toNat v).toArray n) → Q () { s with heap := h' }) : wpAny (model prog w) A (setItem (.ref P) (.int k t) v) Q E s := by
  refine ki_setAt hP h0 (by omega) (by rw [List.size_toArray]; exact hk) (h _ (but_of_same (Heap.SameBut.update ..)) ?_)
  have q := PySem.IsL.update hP (fun x => x.setIfInBounds k.toNat v)
  rw [if_pos (by simp)] at q
  rw [q]
  simp
theorem method_at {its : Array Value} {n : Nat} {name : Str} {id : String} {pl : Sem Bool} {Q : Value × List Value → Shared → Prop} (hP : s.heap.get? P = some (listOf its n)) (slot : Slot "list" name id) (hty : typeOf (.builtin id) = pure (.type "method_descriptor"))
    (h : Q (.builtin id, [.ref P]) s) : wpAny (model prog w) A (getMethod (.ref P) name pl) Q E s :=
  getMethod_builtin ⟨_, hP, rfl⟩ PySem.F.plainAttrs_list slot hty (fun a e => by cases e; exact ⟨_, hP, rfl⟩) h
theorem item_map {value slice : PySem.Expr} {d : Addr} {k : Int} {u : Tok} {v : Value} {f : Int → Option Value} {Q : Value → Shared → Prop} (hm : s.heap.MapOf (intKind prog w) d f) (hv : f k = some v) (h : Q v { s with toks := s.toks + 1 })
    (hs : subscripted slice false (.ref d) (.int k u) = operate [.ref d, .int k u] (getItem (.ref d) (.int k u)) := by with_unfolding_all rfl) (hg : ∀ r, letTemporaryGo value (.ref d) r = pure () := by intro _; with_unfolding_all rfl) :
    wpAny (model prog w) A (subscriptTail value slice (.ref d) (.int k u)) Q E s :=
  subscriptTail_builtin hm.typeIs slot_dict_getitem.lookup (wpAny_getItem_of (by simp [intKind, Value.isInt]) hm hv h) hs hg
theorem comp_list {env : Env} {elt : PySem.Expr} {x : Str} {scope : Scope} {Q : Value → Shared → Prop} {l : Addr} {vs : List Value} (G : Value → Value → Prop) (hh : A.handled = none) (hl : s.heap.IsList l vs.toArray) (hsz : vs.length ≤ 1000)
    (g2 : ∀ C v s₂ m₂ E', v ∈ vs → s₂.heap.Ns C m₂ → m₂ x = some v → Keeps s.heap s₂.heap → wpAny (model prog w) A (eval elt (compEnv scope C env)) (fun y s₃ => G v y ∧ PySem.Keeps s₂ s₃) E' s₂)
    (g3 : ∀ D h' tk (ys : List Value), s.heap.get? D = none → (∃ n, h'.get? D = some (listOf ys.toArray n)) → Paired G vs ys → Keeps s.heap h' → Q (.ref D) { s with heap := h', toks := tk }) :
    wpAny (model prog w) A (pyIter (.ref l)) (CompPost prog w A env scope x [] elt Q) E s := by
  have hlt : l < s.heap.objs.size := by obtain ⟨_, e, _⟩ := hl; exact Heap.lt_size e
  refine wpAny_pyIter_list hl ?_
  have up : ∀ (h' : Heap), (∀ b o', b ∉ [s.heap.objs.size] → (s.heap.push { cls := .type "list_iterator", data := .fields #[.ref l, .int 0 0] }).get? b = some o' → h'.get? b = some o') → Keeps s.heap h' :=
    fun h' hk b o' e => hk b o' (not_iter_of_old e) (Heap.get?_push_of_some _ e)
  refine ⟨fun _ => true, G, s.heap.objs.size, [s.heap.objs.size, l], [s.heap.objs.size], vs.toArray.size, _, _, rfl, Walks.list hh _ l (Nat.ne_of_lt hlt) vs.toArray, (by rw [List.size_toArray, sizeLine_eq]; omega),
    ⟨⟨_, Heap.get?_push_size _ rfl, rfl, rfl⟩, hl.at fun o e => Heap.get?_push_of_some _ e⟩, ?_, ⟨?_, ?_⟩, ?_⟩
  · intro b hb
    show b < (s.heap.push _).objs.size
    rw [Heap.size_push]
    rcases List.mem_cons.mp hb with rfl | hb
    · exact Nat.lt_succ_self _
    · rw [List.mem_singleton.mp hb]; exact Nat.lt_succ_of_lt hlt
  · intro C i v s₃ m₃ E' hP hn hm _ htk
    rw [List.forIn_nil]
    exact wpAny_pure ⟨rfl, ⟨s₃.heap, s₃.toks, rfl, fun _ _ e => e⟩⟩
  · intro C i v s₃ m₃ E' hP hp hn hm hk htk
    exact g2 C v s₃ m₃ E' (List.mem_of_getElem? (by simpa using hP)) hn hm (up _ hk)
  · intro D h' tk ys vs' hnew hlD hplD hlen hP hF hk
    have e' : vs' = vs := by simpa using walked_is hlen hP
    subst e'
    rw [List.filter_eq_self.mpr (fun _ _ => rfl)] at hF
    refine g3 D h' tk ys.toList ?_ ?_ hF (up h' hk)
    · cases e : s.heap.get? D with
      | none => rfl
      | some o => rw [Heap.get?_push_of_some _ e] at hnew; cases hnew
    · obtain ⟨n, hn⟩ := hplD
      exact ⟨n, by rw [Array.toArray_toList]; exact hn⟩
theorem mapKeeps {d : Addr} {f : Int → Option Value} (hm : h.MapOf (intKind prog w) d f) (k : Keeps h h') : h'.MapOf (intKind prog w) d f := by
  obtain ⟨o, es, ep, ho, r⟩ := hm
  exact ⟨o, es, ep, k _ _ ho, r⟩
end
end Mine
namespace Mine
local macro_rules | `(tactic| walk_at "call ref cons nil") => `(tactic| refine Halt.out ?_)
local macro_rules | `(tactic| walk_at "call ref cons cons") => `(tactic| refine Halt.out ?_)
local macro_rules | `(tactic| walk_at "pyIter ref") => `(tactic| ((with_reducible show wpAny _ _ (pyIter _) (fun it s₂ => LoopAtV _ _ _ _ _ _ _ _ _ it s₂) _ _); refine Halt.out ?_))
local macro_rules | `(tactic| walk_at "call builtin:list.append") => `(tactic| refine Halt.out ?_)
local macro_rules | `(tactic| walk_at "subscriptTail Name Slice ref ref") => `(tactic| refine Halt.out ?_)
local macro_rules | `(tactic| walk_at "exec For Name Subscript cons nil") => `(tactic| refine Halt.out ?_)
local macro_rules | `(tactic| walk_at "LPost") => `(tactic| (dsimp only [LPost]))
/-- the places on the wheel behind each symbol -/
def posF : Int → List Int → List Int
  | _, [] => []
  | a, x :: r => (if x < 256 then a - 1 else a + x - 256) :: posF (if x < 256 then a - 1 else a + x - 256) r
/-- the place behind a row's beginning -/
def posAt (ns : List Int) (i : Nat) : Int := (ns.take i).foldl (fun a x => if x < 256 then a - 1 else a + x - 256) 0
def placesF (hv : Int → UInt64) (ns : List Int) : List (UInt64 × Int) := ((List.range ns.length).map fun i => hv (posAt ns (i + 1))).zip ns
abbrev tupOf (its : Array Value) (n : Nat) : Obj := { cls := .type "tuple", data := .seq its n }
/-- the ledger bears a place at a value -/
def PlaceIn (news : List (Addr × Obj)) (v : Value) (p : UInt64 × Int) : Prop := ∃ ad t1 t2 n, v = .ref ad ∧ (ad, tupOf #[.float p.1 t1, .int p.2 t2] n) ∈ news
inductive PlacesIn (news : List (Addr × Obj)) : List Value → List (UInt64 × Int) → Prop where
  | nil : PlacesIn news [] []
  | cons {v : Value} {p : UInt64 × Int} {vs : List Value} {ps : List (UInt64 × Int)} : PlaceIn news v p → PlacesIn news vs ps → PlacesIn news (v :: vs) (p :: ps)
theorem PlacesIn.mono {news news' : List (Addr × Obj)} (hs : ∀ a its n, (a, tupOf its n) ∈ news → (a, tupOf its n) ∈ news') : ∀ {vs : List Value} {ps : List (UInt64 × Int)}, PlacesIn news vs ps → PlacesIn news' vs ps
  | _, _, .nil => .nil
  | _, _, .cons ⟨ad, t1, t2, n, e, hm⟩ r => .cons ⟨ad, t1, t2, n, e, hs _ _ _ hm⟩ (r.mono hs)
theorem PlacesIn.snoc {news : List (Addr × Obj)} {v : Value} {p : UInt64 × Int} (h : PlaceIn news v p) : ∀ {vs : List Value} {ps : List (UInt64 × Int)}, PlacesIn news vs ps → PlacesIn news (vs ++ [v]) (ps ++ [p])
  | _, _, .nil => .cons h .nil
  | _, _, .cons q r => .cons q (r.snoc h)
theorem PlacesIn.length {news : List (Addr × Obj)} : ∀ {vs : List Value} {ps : List (UInt64 × Int)}, PlacesIn news vs ps → vs.length = ps.length
  | _, _, .nil => rfl
  | _, _, .cons _ r => by rw [List.length_cons, List.length_cons, r.length]
theorem PlacesIn.get {news : List (Addr × Obj)} : ∀ {vs : List Value} {ps : List (UInt64 × Int)}, PlacesIn news vs ps → ∀ {k : Nat} {v : Value}, vs[k]? = some v → ∃ p, ps[k]? = some p ∧ PlaceIn news v p
  | _, _, .nil, _, _, e => by simp at e
  | _, _, .cons q r, 0, _, e => by
    simp at e; subst e; exact ⟨_, rfl, q⟩
  | _, _, .cons q r, k + 1, _, e => by
    simp at e; exact r.get e
theorem placesF_get {hv : Int → UInt64} {ns : List Int} {i : Nat} (h : i < ns.length) : (placesF hv ns)[i]? = some (hv (posAt ns (i + 1)), ns[i]) := by
  unfold placesF
  simp [h]
theorem placesF_length {hv : Int → UInt64} {ns : List Int} : (placesF hv ns).length = ns.length := by
  unfold placesF
  simp
/-- a place is laid behind those that are no greater -/
def insRF (cur : List (UInt64 × Int)) (x : UInt64 × Int) : List (UInt64 × Int) :=
  cur.take (bis (fun k => match cur[k]? with | some p => (Float64.cmp x.1 p.1 == some Ordering.lt) | none => false) 100 0 cur.length) ++ x :: cur.drop (bis (fun k => match cur[k]? with | some p => (Float64.cmp x.1 p.1 == some Ordering.lt) | none => false) 100 0 cur.length)
/-- a place is laid ahead of those that are no less -/
def insLF (cur : List (UInt64 × Int)) (x : UInt64 × Int) : List (UInt64 × Int) :=
  cur.take (bis (fun k => match cur[k]? with | some p => !(Float64.cmp p.1 x.1 == some Ordering.lt) | none => false) 100 0 cur.length) ++ x :: cur.drop (bis (fun k => match cur[k]? with | some p => !(Float64.cmp p.1 x.1 == some Ordering.lt) | none => false) 100 0 cur.length)
theorem PlacesIn.take {news : List (Addr × Obj)} : ∀ (k : Nat) {vs : List Value} {ps : List (UInt64 × Int)}, PlacesIn news vs ps → PlacesIn news (vs.take k) (ps.take k)
  | 0, _, _, _ => .nil
  | _ + 1, _, _, .nil => .nil
  | k + 1, _, _, .cons q r => .cons q (r.take k)
theorem PlacesIn.drop {news : List (Addr × Obj)} : ∀ (k : Nat) {vs : List Value} {ps : List (UInt64 × Int)}, PlacesIn news vs ps → PlacesIn news (vs.drop k) (ps.drop k)
  | 0, _, _, h => h
  | _ + 1, _, _, .nil => .nil
  | k + 1, _, _, .cons _ r => r.drop k
theorem PlacesIn.append {news : List (Addr × Obj)} {us : List Value} {qs : List (UInt64 × Int)} (h : PlacesIn news us qs) : ∀ {vs : List Value} {ps : List (UInt64 × Int)}, PlacesIn news vs ps → PlacesIn news (vs ++ us) (ps ++ qs)
  | _, _, .nil => h
  | _, _, .cons q r => .cons q (PlacesIn.append h r)
theorem PlacesIn.ins {news : List (Addr × Obj)} {v : Value} {p : UInt64 × Int} (k : Nat) (h : PlaceIn news v p) {vs : List Value} {ps : List (UInt64 × Int)} (r : PlacesIn news vs ps) : PlacesIn news (insAt k v vs) (ps.take k ++ p :: ps.drop k) :=
  PlacesIn.append (.cons h (r.drop k)) (r.take k)
theorem PlacesIn.reverse {news : List (Addr × Obj)} : ∀ {vs : List Value} {ps : List (UInt64 × Int)}, PlacesIn news vs ps → PlacesIn news vs.reverse ps.reverse
  | _, _, .nil => .nil
  | _, _, .cons q r => by rw [List.reverse_cons, List.reverse_cons]; exact r.reverse.snoc q
theorem insRF_length (cur : List (UInt64 × Int)) (x : UInt64 × Int) : (insRF cur x).length = cur.length + 1 := by
  unfold insRF
  rw [List.length_append, List.length_cons, List.length_take, List.length_drop]
  omega
theorem insLF_length (cur : List (UInt64 × Int)) (x : UInt64 × Int) : (insLF cur x).length = cur.length + 1 := by
  unfold insLF
  rw [List.length_append, List.length_cons, List.length_take, List.length_drop]
  omega
theorem fold_length {g : List (UInt64 × Int) → UInt64 × Int → List (UInt64 × Int)} (hg : ∀ c x, (g c x).length = c.length + 1) : ∀ (l : List (UInt64 × Int)) (c : List (UInt64 × Int)), (l.foldl g c).length = c.length + l.length
  | [], c => rfl
  | x :: l, c => by rw [List.foldl_cons, fold_length hg l, hg, List.length_cons]; omega
theorem take_fold {g : List (UInt64 × Int) → UInt64 × Int → List (UInt64 × Int)} {ps : List (UInt64 × Int)} {i : Nat} {p : UInt64 × Int} (h : ps[i]? = some p) : (ps.take (i + 1)).foldl g [] = g ((ps.take i).foldl g []) p := by
  rw [List.take_add_one, h, Option.toList_some, List.foldl_append]; rfl
def SecondIs (h : Heap) (v y : Value) : Prop := ∀ (p : UInt64 × Int) t1 t2 n ad, v = .ref ad → h.get? ad = some (tupOf #[.float p.1 t1, .int p.2 t2] n) → ∃ t, y = .int p.2 t
theorem secondIs_of {h : Heap} {ad : Addr} {p : UInt64 × Int} {t1 t2 : Tok} {n : Nat} (e : h.get? ad = some (tupOf #[.float p.1 t1, .int p.2 t2] n)) : SecondIs h (.ref ad) (.int p.2 t2) := by
  intro q u1 u2 m ad' e1 e2
  cases e1
  rw [e] at e2
  simp only [Option.some.injEq, Obj.mk.injEq, Data.seq.injEq, Array.mk.injEq, List.cons.injEq, Value.int.injEq, Value.float.injEq, true_and, and_true] at e2
  exact ⟨t2, by rw [e2.1.2.1]⟩
theorem ints_of_paired {h : Heap} {news : List (Addr × Obj)} (hN : ∀ q ∈ news, h.get? q.1 = some q.2) : ∀ {vs ys : List Value} {ps : List (UInt64 × Int)}, Paired (SecondIs h) vs ys → PlacesIn news vs ps → IntsAre ys (ps.map (·.2))
  | _, _, _, .nil, .nil => .nil
  | _, _, _, .cons q r, .cons ⟨ad, t1, t2, n, e, hm⟩ r' => by
    obtain ⟨t, e'⟩ := q _ t1 t2 n ad e (hN _ hm)
    subst e'
    exact .cons _ _ (ints_of_paired hN r r')
/-- the row that is reached -/
def sweptF (hv : Int → UInt64) (ns : List Int) (bw : Bool) : List Int :=
  match bw with
  | false => ((placesF hv ns).foldl insRF []).reverse.map (·.2)
  | true => ((placesF hv ns).reverse.foldl insLF []).reverse.map (·.2)
theorem posAt_succ {ns : List Int} {i : Nat} (h : i < ns.length) : posAt ns (i + 1) = if ns[i] < 256 then posAt ns i - 1 else posAt ns i + ns[i] - 256 := by
  unfold posAt
  rw [List.take_add_one, List.getElem?_eq_getElem h, Option.toList_some, List.foldl_append]
  rfl
theorem swept_spec : ∀ (w : World) (mean : ExcName → Option Value) (mg mb : Str → Option Value) (A : Around) (s : Shared) (Q E : Value → Shared → Prop) (l d : Addr) (vs : List Value) (ns : List Int) (bw : Bool) (f : Int → Option Value) (hv : Int → UInt64),
    Grd w mean mg mb s.heap → Low A 350 3000 → s.heap.IsList l vs.toArray → IntsAre vs ns → ns.length ≤ 40 → s.heap.MapOf (intKind PySem.Challenge.rw_rs0099_01.row.prog w) d f → (∀ i, i < ns.length → ∃ t, f (posAt ns (i + 1)) = some (.float (hv (posAt ns (i + 1))) t)) →
    (∀ h' tk' r ys n, Keeps s.heap h' → s.heap.get? r = none → h'.get? r = some (W.listOf (List.toArray ys) n) → IntsAre ys (sweptF hv ns bw) → Q (.ref r) { s with heap := h', toks := tk' }) →
    wpAny (MM w) A (call (.ref 109) [.ref l, .ref d, .bool bw]) Q E s := by
  intro w mean mg mb A s Q E l d vs ns bw f hv G lo hl hi hlen hm hf hq
  refine lo.wp ?_
  have X := G.X
  have T := G.T
  refine' enterP [(Str.ofString "row", .ref l), (Str.ofString "hues", .ref d), (Str.ofString "backward", .bool bw)] X T ?k6 ?k7 (by decide) ?k9 ?kB ?c2 ?c3 ?c4 ?c5 ?_
  case k6 => k_is
  case k7 => k_is
  case k9 => exact BindsTo.of_eq rfl
  case kB => exact locs rfl
  case c2 => exact rfl
  case c3 => exact rfl
  case c4 => exact rfl
  case c5 => decide
  intro L h₁ tk F N
  try dsimp only
  k_steps
  (rename Fr _ _ _ _ => F1)
  (rename News _ _ _ _ => N1)
  (rename IntsAre _ _ => hi)
  rename_i P _ _ _
  refine ⟨iter_listL (fun i m news => m (Str.ofString "hues") = some (.ref d) ∧ m (Str.ofString "backward") = some (.bool bw) ∧ m (Str.ofString "places") = some (.ref P) ∧ (∃ t, m (Str.ofString "at") = some (.int (posAt ns i) t)) ∧
    ∃ pvs n, (P, listOf pvs.toArray n) ∈ news ∧ pvs.length = i ∧ PlacesIn news pvs ((placesF hv ns).take i)) rfl (F1.lst hl) ?_ F1 N1 ⟨rfl, rfl, rfl, ⟨_, rfl⟩, [], 0, .head _, rfl, .nil⟩ ?_ ?_⟩
  · intro e
    obtain ⟨ol, hol, _⟩ := hl
    exact absurd (Nat.lt_of_lt_of_le (Heap.lt_size hol) F1.above) (e ▸ Nat.lt_irrefl _)
  · intro i v m₁ news₁ h tk2 own hvi hJ hoff hsz hown hlh F2 N2
    obtain ⟨h1, h2, h3, ⟨t4, h4⟩, pvs, n, hPm, hpl, hps⟩ := hJ
    rw [mapName h1, mapName h2, mapName h3, mapName h4] at F2
    have hPo := List.mem_append_right own hPm
    clear F1 N1
    have hin : i < ns.length := by
      have := (List.getElem?_eq_some_iff.mp hvi).1
      have := hi.length
      omega
    obtain ⟨tv, hx⟩ := hi.get i ns[i] (by simp [hin])
    rw [hvi] at hx
    cases hx
    obtain ⟨tf, hff⟩ := hf i hin
    have hpos : posAt ns (i + 1) = if ns[i] < 256 then posAt ns i - 1 else posAt ns i + ns[i] - 256 := posAt_succ hin
    k_steps
    refine ⟨isterm_spec w mean mg mb _ _ _ _ _ _ (G.keeps F2.keep) ⟨rfl, Nat.le_of_ble_eq_true rfl, Nat.le_of_ble_eq_true rfl⟩ ?_⟩
    intro h' tk' k
    replace F2 := F2.kept k
    replace N2 := N2.grown k
    clear k
    k_steps
    all_goals (
      first
        | (rename (_ : Int) < 256 => hc; rw [if_pos hc] at hpos)
        | (rename ¬ ((_ : Int) < 256) => hc; rw [if_neg hc] at hpos)
      rename Fr _ _ _ _ => F3
      rename News _ _ _ _ => N3
      rw [← hpos] at F3 ⊢
      refine item_map (mapKeeps hm F3.keep) hff ?_
      k_steps
      rename Fr _ _ _ _ => F4
      rename News _ _ _ _ => N4
      rename ∀ q ∈ own ++ news₁, q.1 < _ => l1
      have zP := N4 _ (List.mem_cons_of_mem _ hPo)
      refine ⟨append_at zP.1 (by omega) ?_⟩
      intro h'' kk ho
      have F5 := frBut F4 kk zP.2.1 zP.2.2
      clear F2 F4 N2
      k_steps
      have hPI := hoff _ hPm
      have hPl : P ≠ l := fun e => by
        obtain ⟨ol, hol, _⟩ := hl
        rw [← e, zP.2.2] at hol
        cases hol
      have hPown : ∀ p ∈ own, p.1 ≠ P := fun p hp e => by
        rcases hown p hp with q | q
        · exact hPI (e.symm.trans q)
        · exact hPl (e.symm.trans q)
      obtain ⟨oI, hoI⟩ := hsz
      have hDI := l1 _ (List.mem_append_left _ hoI)
      refine LEnd.intro F5 (closeTurn N4 hPm kk ho hPown l1) ?_ ⟨rfl, rfl, rfl, ⟨_, rfl⟩, _, _, List.mem_cons_of_mem _ (mem_setL_self hPm), ?_, ?_⟩
      · intro p hp
        rcases List.mem_cons.mp hp with rfl | hp
        · exact Nat.ne_of_gt hDI
        · exact off_setL hoff p hp
      · rw [List.length_append, hpl]; rfl
      · rw [List.take_add_one, placesF_get hin, Option.toList_some]
        refine PlacesIn.snoc (p := (hv (posAt ns (i + 1)), ns[i])) ⟨_, _, _, _, rfl, .head _⟩ (hps.mono fun a its n ha => List.mem_cons_of_mem _ (mem_setL ha ?_))
        exact ne_of_objs (N4 _ (List.mem_cons_of_mem _ (List.mem_append_right own ha))).1 zP.1 (by simp [tupOf]))
  · intro m₁ news₁ h tk2 hJ F2 N2
    obtain ⟨h1, h2, h3, ⟨t4, h4⟩, pvs, n, hPm, hpl, hps⟩ := hJ
    rw [mapName h2, mapName h3] at F2
    clear F1 N1
    have elen : vs.length = ns.length := hi.length
    rw [elen, List.take_of_length_le (by rw [placesF_length]; exact Nat.le_refl _)] at hps
    cases bw with
    | false =>
      k_steps
      (rename Fr _ _ _ _ => F3)
      (rename News _ _ _ _ => N3)
      (rename ∀ q ∈ news₁, q.1 < _ => l1)
      rename_i D _ _ _ _
      have hDP : P ≠ D := Nat.ne_of_lt (l1 _ hPm)
      have zP := N3 _ (List.mem_cons_of_mem _ hPm)
      refine ⟨iter_listL (fun i m news => m (Str.ofString "laid") = some (.ref D) ∧ ∃ lvs n2, (D, W.listOf lvs.toArray n2) ∈ news ∧ PlacesIn news lvs (((placesF hv ns).take i).foldl insRF []) ∧ PlacesIn news pvs (placesF hv ns))
        rfl (vs := pvs) ⟨_, zP.1, rfl, _, rfl⟩ zP.2.1 F3 N3 ⟨rfl, [], 0, .head _, .nil, hps.mono fun a its n ha => List.mem_cons_of_mem _ ha⟩ ?_ ?_⟩
      · intro i v m₂ news₂ h tk3 own hvi hJ hoff hsz hown hlh F4 N4
        obtain ⟨h1, lvs, n2, hDm, hls, hps2⟩ := hJ
        rw [mapName h1] at F4
        clear F3 N3
        obtain ⟨p, hp, ad, t1, t2, n3, rfl, had⟩ := hps2.get hvi
        k_steps
        have zD := N4 _ (List.mem_append_right own hDm)
        have za := N4 _ (List.mem_append_right own had)
        have hcur := hls.length
        have hlen2 : lvs.length ≤ 40 := by
          rw [hcur, fold_length insRF_length, List.length_take, placesF_length]
          simp only [List.length_nil]
          omega
        have hDown : ∀ q ∈ own, q.1 ≠ D := fun q hq e => by
          rcases hown q hq with z | z
          · exact hoff _ hDm (e.symm.trans z)
          · exact hDP (z.symm.trans e)
        have hneD : ∀ a its n, (a, tupOf its n) ∈ news₂ → a ≠ D := fun a its n ha => ne_of_objs (N4 _ (List.mem_append_right own ha)).1 zD.1 (by simp [tupOf])
        refine insR_key w mean mg mb _ _ _ _ s.heap D ad lvs n2 p.1 t1 (.int p.2 t2) (fun k => match (((placesF hv ns).take i).foldl insRF [])[k]? with | some q => (Float64.cmp p.1 q.1 == some Ordering.lt) | none => false) G F4.keep ⟨rfl, Nat.le_of_ble_eq_true rfl, Nat.le_of_ble_eq_true rfl⟩ zD.1 zD.2.2 (by omega) ⟨_, za.1, rfl, _, rfl⟩ ?_ ?_
        · intro k v hk
          obtain ⟨q, hq, ad', t1', t2', n', rfl, had'⟩ := hls.get hk
          exact ⟨ad', q.1, t1', .int q.2 t2', rfl, ⟨_, (N4 _ (List.mem_append_right own had')).1, rfl, _, rfl⟩, by simp only [hq]⟩
        intro h' tk' n' kk ho
        have F5 := frBut F4 kk zD.2.1 zD.2.2
        clear F4
        k_steps
        refine LEnd.intro F5 (closeTurn0 N4 hDm kk ho hDown) (off_setL hoff) ⟨rfl, _, _, mem_setL_self hDm, ?_, ?_⟩
        · rw [take_fold hp, hcur]
          exact PlacesIn.ins _ ⟨ad, t1, t2, n3, rfl, mem_setL had (hneD _ _ _ had)⟩ (hls.mono fun a its n ha => mem_setL ha (hneD _ _ _ ha))
        · exact hps2.mono fun a its n ha => mem_setL ha (hneD _ _ _ ha)
      · intro m₂ news₂ h tk3 hJ F4 N4
        obtain ⟨h1, lvs, n2, hDm, hls, hps2⟩ := hJ
        rw [mapName h1] at F4
        clear F3 N3
        k_steps
        have zD := N4 _ hDm
        have hcur := hls.length
        have hlen2 : lvs.length ≤ 40 := by
          rw [hcur, fold_length insRF_length, List.length_take, placesF_length]
          simp only [List.length_nil]
          omega
        refine ⟨krv_lit F4 N4 (its := lvs.toArray) ⟨_, zD.1, rfl, _, rfl⟩ (IsPart.int _ _) rfl ?_ (by with_unfolding_all rfl) (by intro _; with_unfolding_all rfl) (by rw [List.size_toArray, sizeLine_eq]; omega)⟩
        intro R h' F5 N5 l2
        clear F4 N4
        k_steps
        have zR := N5 _ (.head _)
        have hrev : PlacesIn ((R, W.listOf lvs.toArray.toList.reverse.toArray 0) :: news₂) lvs.reverse (((placesF hv ns).take pvs.length).foldl insRF []).reverse := (hls.mono fun a its n ha => List.mem_cons_of_mem _ ha).reverse
        refine comp_list (vs := lvs.reverse) (SecondIs h') rfl ⟨_, zR.1, rfl, _, rfl⟩ (by rw [List.length_reverse]; omega) ?_ ?_
        · intro C v s₂ m₂ E' hvm hns hmx kk
          obtain ⟨j, hj⟩ := List.getElem?_of_mem hvm
          obtain ⟨p, hp, ad, t1, t2, n3, rfl, had⟩ := hrev.get hj
          have za := (N5 _ had).1
          have ht : IsTup s₂.heap ad #[.float p.1 t1, .int p.2 t2] := ⟨_, kk _ _ za, rfl, _, rfl⟩
          k_steps
          · exact secondIs_of za
          · exact ⟨_, _, rfl, fun _ _ e => e⟩
        · intro D2 h2 tk4 ys hnew hys hpair kk
          obtain ⟨nn, hys⟩ := hys
          refine hq _ _ _ ys nn (Keeps.trans F5.keep kk) ?_ hys ?_
          · cases e : s.heap.get? D2 with
            | none => rfl
            | some o => rw [F5.keep _ _ e] at hnew; cases hnew
          · have := ints_of_paired (fun q hq => (N5 q hq).1) hpair hrev
            rw [List.take_of_length_le (by rw [placesF_length]; omega)] at this
            exact this
    | true =>
      k_steps
      refine ⟨For_invV s.heap rfl rfl ?_⟩
      k_steps
      (rename Fr _ _ _ _ => F3)
      (rename News _ _ _ _ => N3)
      (rename ∀ q ∈ news₁, q.1 < _ => l1)
      rename_i D _ _ _ _
      have zP0 := N3 _ (List.mem_cons_of_mem _ hPm)
      refine ⟨krv_lit F3 N3 (its := pvs.toArray) ⟨_, zP0.1, rfl, _, rfl⟩ (IsPart.int _ _) rfl ?_ (by with_unfolding_all rfl) (by intro _; with_unfolding_all rfl) (by rw [List.size_toArray, sizeLine_eq]; omega)⟩
      intro P2 h' F3' N3' l2
      clear F3 N3
      have F3 := F3'
      have N3 := N3'
      clear F3' N3'
      k_steps
      have hDP : P2 ≠ D := Nat.ne_of_gt (l2 _ (.head _))
      have zP := N3 _ (.head _)
      have hps : PlacesIn ((P2, W.listOf pvs.toArray.toList.reverse.toArray 0) :: (D, W.listOf #[] 0) :: news₁) pvs.reverse (placesF hv ns).reverse := (hps.mono fun a its n ha => List.mem_cons_of_mem _ (List.mem_cons_of_mem _ ha)).reverse
      refine ⟨iter_listL (fun i m news => m (Str.ofString "laid") = some (.ref D) ∧ ∃ lvs n2, (D, W.listOf lvs.toArray n2) ∈ news ∧ PlacesIn news lvs (((placesF hv ns).reverse.take i).foldl insLF []) ∧ PlacesIn news pvs.reverse (placesF hv ns).reverse)
        rfl (vs := pvs.reverse) ⟨_, zP.1, rfl, _, rfl⟩ zP.2.1 F3 N3 ⟨rfl, [], 0, .tail _ (.head _), .nil, hps⟩ ?_ ?_⟩
      · intro i v m₂ news₂ h tk3 own hvi hJ hoff hsz hown hlh F4 N4
        obtain ⟨h1, lvs, n2, hDm, hls, hps2⟩ := hJ
        rw [mapName h1] at F4
        clear F3 N3
        obtain ⟨p, hp, ad, t1, t2, n3, rfl, had⟩ := hps2.get hvi
        k_steps
        have zD := N4 _ (List.mem_append_right own hDm)
        have za := N4 _ (List.mem_append_right own had)
        have hcur := hls.length
        have hlen2 : lvs.length ≤ 40 := by
          rw [hcur, fold_length insLF_length, List.length_take]
          simp only [List.length_nil, List.length_reverse, placesF_length]
          omega
        have hDown : ∀ q ∈ own, q.1 ≠ D := fun q hq e => by
          rcases hown q hq with z | z
          · exact hoff _ hDm (e.symm.trans z)
          · exact hDP (z.symm.trans e)
        have hneD : ∀ a its n, (a, tupOf its n) ∈ news₂ → a ≠ D := fun a its n ha => ne_of_objs (N4 _ (List.mem_append_right own ha)).1 zD.1 (by simp [tupOf])
        refine insL_key w mean mg mb _ _ _ _ s.heap D ad lvs n2 p.1 t1 (.int p.2 t2) (fun k => match (((placesF hv ns).reverse.take i).foldl insLF [])[k]? with | some q => !(Float64.cmp q.1 p.1 == some Ordering.lt) | none => false) G F4.keep ⟨rfl, Nat.le_of_ble_eq_true rfl, Nat.le_of_ble_eq_true rfl⟩ zD.1 zD.2.2 (by omega) ⟨_, za.1, rfl, _, rfl⟩ ?_ ?_
        · intro k v hk
          obtain ⟨q, hq, ad', t1', t2', n', rfl, had'⟩ := hls.get hk
          exact ⟨ad', q.1, t1', .int q.2 t2', rfl, ⟨_, (N4 _ (List.mem_append_right own had')).1, rfl, _, rfl⟩, by simp only [hq]⟩
        intro h' tk' n' kk ho
        have F5 := frBut F4 kk zD.2.1 zD.2.2
        clear F4
        k_steps
        refine LEnd.intro F5 (closeTurn0 N4 hDm kk ho hDown) (off_setL hoff) ⟨rfl, _, _, mem_setL_self hDm, ?_, ?_⟩
        · rw [take_fold hp, hcur]
          exact PlacesIn.ins _ ⟨ad, t1, t2, n3, rfl, mem_setL had (hneD _ _ _ had)⟩ (hls.mono fun a its n ha => mem_setL ha (hneD _ _ _ ha))
        · exact hps2.mono fun a its n ha => mem_setL ha (hneD _ _ _ ha)
      · intro m₂ news₂ h tk3 hJ F4 N4
        obtain ⟨h1, lvs, n2, hDm, hls, hps2⟩ := hJ
        rw [mapName h1] at F4
        clear F3 N3
        k_steps
        have zD := N4 _ hDm
        have hcur := hls.length
        have hlen2 : lvs.length ≤ 40 := by
          rw [hcur, fold_length insLF_length, List.length_take]
          simp only [List.length_nil, List.length_reverse, placesF_length]
          omega
        refine ⟨krv_lit F4 N4 (its := lvs.toArray) ⟨_, zD.1, rfl, _, rfl⟩ (IsPart.int _ _) rfl ?_ (by with_unfolding_all rfl) (by intro _; with_unfolding_all rfl) (by rw [List.size_toArray, sizeLine_eq]; omega)⟩
        intro R h' F5 N5 l2
        clear F4 N4
        k_steps
        have zR := N5 _ (.head _)
        have hrev : PlacesIn ((R, W.listOf lvs.toArray.toList.reverse.toArray 0) :: news₂) lvs.reverse (((placesF hv ns).reverse.take pvs.reverse.length).foldl insLF []).reverse := (hls.mono fun a its n ha => List.mem_cons_of_mem _ ha).reverse
        refine comp_list (vs := lvs.reverse) (SecondIs h') rfl ⟨_, zR.1, rfl, _, rfl⟩ (by rw [List.length_reverse]; omega) ?_ ?_
        · intro C v s₂ m₂ E' hvm hns hmx kk
          obtain ⟨j, hj⟩ := List.getElem?_of_mem hvm
          obtain ⟨p, hp, ad, t1, t2, n3, rfl, had⟩ := hrev.get hj
          have za := (N5 _ had).1
          have ht : IsTup s₂.heap ad #[.float p.1 t1, .int p.2 t2] := ⟨_, kk _ _ za, rfl, _, rfl⟩
          k_steps
          · exact secondIs_of za
          · exact ⟨_, _, rfl, fun _ _ e => e⟩
        · intro D2 h2 tk4 ys hnew hys hpair kk
          obtain ⟨nn, hys⟩ := hys
          refine hq _ _ _ ys nn (Keeps.trans F5.keep kk) ?_ hys ?_
          · cases e : s.heap.get? D2 with
            | none => rfl
            | some o => rw [F5.keep _ _ e] at hnew; cases hnew
          · have := ints_of_paired (fun q hq => (N5 q hq).1) hpair hrev
            rw [List.take_of_length_le (by rw [List.length_reverse, List.length_reverse, placesF_length]; omega)] at this
            exact this
end Mine
namespace Mine
def hsvI (fh : UInt64) : Int := Flt.toInt Float64.truncOf (Float64.mul fh 4618441417868443648)
def hsvFr (fh : UInt64) : UInt64 := Float64.sub (Float64.mul fh 4618441417868443648) (Float64.ofInt (hsvI fh))
def hsvP (fs fv : UInt64) : UInt64 := Float64.mul fv (Float64.sub 4607182418800017408 fs)
def hsvQ (fh fs fv : UInt64) : UInt64 := Float64.mul fv (Float64.sub 4607182418800017408 (Float64.mul fs (hsvFr fh)))
def hsvT (fh fs fv : UInt64) : UInt64 := Float64.mul fv (Float64.sub 4607182418800017408 (Float64.mul fs (Float64.sub 4607182418800017408 (hsvFr fh))))
/-- what hsv_to_rgb tells -/
def hsvR (fh fs fv : UInt64) : UInt64 × UInt64 × UInt64 :=
  if Int.fmod (hsvI fh) 6 = 0 then (fv, hsvT fh fs fv, hsvP fs fv)
  else if Int.fmod (hsvI fh) 6 = 1 then (hsvQ fh fs fv, fv, hsvP fs fv)
  else if Int.fmod (hsvI fh) 6 = 2 then (hsvP fs fv, fv, hsvT fh fs fv)
  else if Int.fmod (hsvI fh) 6 = 3 then (hsvP fs fv, hsvQ fh fs fv, fv)
  else if Int.fmod (hsvI fh) 6 = 4 then (hsvT fh fs fv, hsvP fs fv, fv)
  else (fv, hsvP fs fv, hsvQ fh fs fv)
theorem hsvR0 {fh fs fv : UInt64} (h : Int.fmod (hsvI fh) 6 = 0) : hsvR fh fs fv = (fv, hsvT fh fs fv, hsvP fs fv) := by simp [hsvR, h]
theorem hsvR1 {fh fs fv : UInt64} (h : Int.fmod (hsvI fh) 6 = 1) : hsvR fh fs fv = (hsvQ fh fs fv, fv, hsvP fs fv) := by simp [hsvR, h]
theorem hsvR2 {fh fs fv : UInt64} (h : Int.fmod (hsvI fh) 6 = 2) : hsvR fh fs fv = (hsvP fs fv, fv, hsvT fh fs fv) := by simp [hsvR, h]
theorem hsvR3 {fh fs fv : UInt64} (h : Int.fmod (hsvI fh) 6 = 3) : hsvR fh fs fv = (hsvP fs fv, hsvQ fh fs fv, fv) := by simp [hsvR, h]
theorem hsvR4 {fh fs fv : UInt64} (h : Int.fmod (hsvI fh) 6 = 4) : hsvR fh fs fv = (hsvT fh fs fv, hsvP fs fv, fv) := by simp [hsvR, h]
theorem hsvR5 {fh fs fv : UInt64} (h : Int.fmod (hsvI fh) 6 = 5) : hsvR fh fs fv = (fv, hsvP fs fv, hsvQ fh fs fv) := by simp [hsvR, h]
theorem big_no {n : Nat} (h : n < 1000000) (q : 2 ^ 1024 - 2 ^ 970 ≤ n) : False := by
  have e : (1000000 : Nat) ≤ 2 ^ 1024 - 2 ^ 970 := by decide +kernel
  exact absurd (Nat.le_trans e q) (Nat.not_le.mpr h)
theorem hsv_spec : ∀ (w : World) (mean : ExcName → Option Value) (mg mb : Str → Option Value) (A : Around) (s : Shared) (Q E : Value → Shared → Prop) (fh fs fv : UInt64) (t1 t2 t3 : Tok),
    Grd w mean mg mb s.heap → Low A 400 4000 → 
    (Float64.cmp fs 0 == some Ordering.eq) = false → Float64.isNaN (Float64.mul fh 4618441417868443648) = false → Float64.isInf (Float64.mul fh 4618441417868443648) = false → (hsvI fh).natAbs < 1000000 →
    (∀ h' tk' r ta tb tc, Keeps s.heap h' → IsTup h' r #[.float (hsvR fh fs fv).1 ta, .float (hsvR fh fs fv).2.1 tb, .float (hsvR fh fs fv).2.2 tc] → Q (.ref r) { s with heap := h', toks := tk' }) →
    wpAny (MM w) A (call (.ref 64) [.float fh t1, .float fs t2, .float fv t3]) Q E s := by
  intro w mean mg mb A s Q E fh fs fv t1 t2 t3 G lo p1 p2 p3 p4 hq
  refine lo.wp ?_
  have X := G.X
  have T := G.T
  refine' enterP [(Str.ofString "h", .float fh t1), (Str.ofString "s", .float fs t2), (Str.ofString "v", .float fv t3)] X T ?k6 ?k7 (by decide) ?k9 ?kB ?c2 ?c3 ?c4 ?c5 ?_
  case k6 => k_is
  case k7 => k_is
  case k9 => exact BindsTo.of_eq rfl
  case kB => exact locs rfl
  case c2 => exact rfl
  case c3 => exact rfl
  case c4 => exact rfl
  case c5 => decide
  intro L h₁ tk F N
  try dsimp only
  k_steps
  all_goals first
    | (rename (Float64.cmp fs 0 == some Ordering.eq) = true => hc; rw [p1] at hc; cases hc)
    | (rename Float64.isNaN _ = true => hc; rw [p2] at hc; cases hc)
    | (rename Float64.isInf _ = true => hc; rw [p3] at hc; cases hc)
    | (rename 2 ^ 1024 - 2 ^ 970 ≤ _ => hc; exact (big_no p4 hc).elim)
    | (rename Int.fmod _ 6 = 5 => hc; rename Fr _ _ _ _ => F3; rename News _ _ _ _ => N3; rw [hsvR5 hc] at hq; exact hq _ _ _ _ _ _ F3.keep ⟨_, (N3 _ (.head _)).1, rfl, _, rfl⟩)
    | (rename Int.fmod _ 6 = 4 => hc; rename Fr _ _ _ _ => F3; rename News _ _ _ _ => N3; rw [hsvR4 hc] at hq; exact hq _ _ _ _ _ _ F3.keep ⟨_, (N3 _ (.head _)).1, rfl, _, rfl⟩)
    | (rename Int.fmod _ 6 = 3 => hc; rename Fr _ _ _ _ => F3; rename News _ _ _ _ => N3; rw [hsvR3 hc] at hq; exact hq _ _ _ _ _ _ F3.keep ⟨_, (N3 _ (.head _)).1, rfl, _, rfl⟩)
    | (rename Int.fmod _ 6 = 2 => hc; rename Fr _ _ _ _ => F3; rename News _ _ _ _ => N3; rw [hsvR2 hc] at hq; exact hq _ _ _ _ _ _ F3.keep ⟨_, (N3 _ (.head _)).1, rfl, _, rfl⟩)
    | (rename Int.fmod _ 6 = 1 => hc; rename Fr _ _ _ _ => F3; rename News _ _ _ _ => N3; rw [hsvR1 hc] at hq; exact hq _ _ _ _ _ _ F3.keep ⟨_, (N3 _ (.head _)).1, rfl, _, rfl⟩)
    | (rename Int.fmod _ 6 = 0 => hc; rename Fr _ _ _ _ => F3; rename News _ _ _ _ => N3; rw [hsvR0 hc] at hq; exact hq _ _ _ _ _ _ F3.keep ⟨_, (N3 _ (.head _)).1, rfl, _, rfl⟩)
    | (exfalso; have b1 := Int.fmod_nonneg_of_pos (Flt.toInt Float64.truncOf (Float64.mul fh 4618441417868443648)) (show (0 : Int) < 6 by decide); have b2 := Int.fmod_lt_of_pos (Flt.toInt Float64.truncOf (Float64.mul fh 4618441417868443648)) (show (0 : Int) < 6 by decide); omega)
end Mine
namespace Mine
open PySem.Flt
section
variable {prog : Program} {w : World} {A : Around} {E : Value → Shared → Prop} {s : Shared}
theorem three_are (a b c : UInt64) (t u x : Tok) : FloatsAre [.float a t, .float b u, .float c x] [a, b, c] := .cons a t (.cons b u (.cons c x .nil))
theorem max3 {a b c : UInt64} {t u x : Tok} {Q : Value → Shared → Prop} (hh : A.handled = none)
    (h : ∀ h' tk t', Keeps s.heap h' → Q (.float (maxOfBits [a, b, c]) t') { s with heap := h', toks := tk }) :
    wpAny (model prog w) A (call (.builtin "max") [.float a t, .float b u, .float c x]) Q E s := by
  have hT : (s.heap.push { cls := .type "tuple", data := .seq #[.float a t, .float b u, .float c x] }).IsTuple s.heap.objs.size #[.float a t, .float b u, .float c x] := ⟨_, Heap.get?_push_size _ rfl, rfl, 0, rfl⟩
  have hf := three_are a b c t u x
  refine call_max_three (wpAny_pyIter_tuple hT ?_)
  have hsz : (s.heap.push { cls := .type "tuple", data := .seq #[.float a t, .float b u, .float c x] }).objs.size = s.heap.objs.size + 1 := Heap.size_push ..
  refine ⟨_, [_, s.heap.objs.size], [_], _, _, _, fun i j => gtB ([a, b, c].getD i 0) ([a, b, c].getD j 0), rfl, Walks.tuple (A := A.in1) hh _ s.heap.objs.size (by rw [hsz]; exact Nat.ne_of_lt (Nat.lt_succ_self _)) #[.float a t, .float b u, .float c x],
    ⟨⟨_, Heap.get?_push_size _ rfl, rfl, rfl⟩, hT.push _⟩, fun d hd => ?_, by simp, fun i j vi vj s Q E hi hj h => ?_, fun v h' tk hP hk => ?_⟩
  · show d < ((s.heap.push _).push _).objs.size
    rw [Heap.size_push, hsz]
    rcases List.mem_cons.mp hd with rfl | hd
    · rw [hsz]; exact Nat.lt_succ_self _
    · rcases List.mem_cons.mp hd with rfl | hd
      · exact Nat.lt_succ_of_lt (Nat.lt_succ_self _)
      · cases hd
  · obtain ⟨b, t, rfl, e1⟩ := hf.at i vi (by simpa using hi)
    obtain ⟨c, u, rfl, e2⟩ := hf.at j vj (by simpa using hj)
    simp only [List.getD_eq_getElem?_getD, e1, e2, Option.getD_some] at h
    exact AutoFloatOps.gt_0 (by rw [cmp_gt]; exact h)
  · have hold : ∀ d o, s.heap.get? d = some o → h'.get? d = some o := fun d o e => by
      refine hk d o (fun hm => ?_) (Heap.get?_push_of_some _ (Heap.get?_push_of_some _ e))
      rcases List.mem_cons.mp hm with e1 | hm
      · have := Heap.lt_size e; rw [e1, hsz] at this; exact Nat.lt_irrefl _ (Nat.lt_of_succ_lt this)
      · cases hm
    obtain ⟨b', t', rfl, e1⟩ := hf.at _ v ((List.getElem?_toArray).symm.trans hP)
    have e2 := argBest_bits gtB [a, b, c] 2 (by simp)
    rw [List.take_of_length_le (by simp)] at e2
    have e3 : [a, b, c].getD (argBest (fun i j => gtB ([a, b, c].getD i 0) ([a, b, c].getD j 0)) 2) 0 = b' := by
      rw [List.getD_eq_getElem?_getD]
      have : [a, b, c][argBest (fun i j => gtB ([a, b, c].getD i 0) ([a, b, c].getD j 0)) 2]? = some b' := e1
      rw [this, Option.getD_some]
    rw [← e3, e2]
    exact h h' tk t' hold
theorem min3 {a b c : UInt64} {t u x : Tok} {Q : Value → Shared → Prop} (hh : A.handled = none)
    (h : ∀ h' tk t', Keeps s.heap h' → Q (.float (minOfBits [a, b, c]) t') { s with heap := h', toks := tk }) :
    wpAny (model prog w) A (call (.builtin "min") [.float a t, .float b u, .float c x]) Q E s := by
  have hT : (s.heap.push { cls := .type "tuple", data := .seq #[.float a t, .float b u, .float c x] }).IsTuple s.heap.objs.size #[.float a t, .float b u, .float c x] := ⟨_, Heap.get?_push_size _ rfl, rfl, 0, rfl⟩
  have hf := three_are a b c t u x
  refine call_min_three (wpAny_pyIter_tuple hT ?_)
  have hsz : (s.heap.push { cls := .type "tuple", data := .seq #[.float a t, .float b u, .float c x] }).objs.size = s.heap.objs.size + 1 := Heap.size_push ..
  refine ⟨_, [_, s.heap.objs.size], [_], _, _, _, fun i j => ltB ([a, b, c].getD i 0) ([a, b, c].getD j 0), rfl, Walks.tuple (A := A.in1) hh _ s.heap.objs.size (by rw [hsz]; exact Nat.ne_of_lt (Nat.lt_succ_self _)) #[.float a t, .float b u, .float c x],
    ⟨⟨_, Heap.get?_push_size _ rfl, rfl, rfl⟩, hT.push _⟩, fun d hd => ?_, by simp, fun i j vi vj s Q E hi hj h => ?_, fun v h' tk hP hk => ?_⟩
  · show d < ((s.heap.push _).push _).objs.size
    rw [Heap.size_push, hsz]
    rcases List.mem_cons.mp hd with rfl | hd
    · rw [hsz]; exact Nat.lt_succ_self _
    · rcases List.mem_cons.mp hd with rfl | hd
      · exact Nat.lt_succ_of_lt (Nat.lt_succ_self _)
      · cases hd
  · obtain ⟨b, t, rfl, e1⟩ := hf.at i vi (by simpa using hi)
    obtain ⟨c, u, rfl, e2⟩ := hf.at j vj (by simpa using hj)
    simp only [List.getD_eq_getElem?_getD, e1, e2, Option.getD_some] at h
    exact AutoFloatOps.lt_0 h
  · have hold : ∀ d o, s.heap.get? d = some o → h'.get? d = some o := fun d o e => by
      refine hk d o (fun hm => ?_) (Heap.get?_push_of_some _ (Heap.get?_push_of_some _ e))
      rcases List.mem_cons.mp hm with e1 | hm
      · have := Heap.lt_size e; rw [e1, hsz] at this; exact Nat.lt_irrefl _ (Nat.lt_of_succ_lt this)
      · cases hm
    obtain ⟨b', t', rfl, e1⟩ := hf.at _ v ((List.getElem?_toArray).symm.trans hP)
    have e2 := argBest_bits ltB [a, b, c] 2 (by simp)
    rw [List.take_of_length_le (by simp)] at e2
    have e3 : [a, b, c].getD (argBest (fun i j => ltB ([a, b, c].getD i 0) ([a, b, c].getD j 0)) 2) 0 = b' := by
      rw [List.getD_eq_getElem?_getD]
      have : [a, b, c][argBest (fun i j => ltB ([a, b, c].getD i 0) ([a, b, c].getD j 0)) 2]? = some b' := e1
      rw [this, Option.getD_some]
    rw [← e3, e2]
    exact h h' tk t' hold
end
end Mine
namespace Mine
section
variable {w : World} {mean : ExcName → Option Value} {mg mb : Str → Option Value} {A : Around} {s : Shared} {Q E : Value → Shared → Prop}
theorem enterT {prog : Program} {K : Frag} {p : Program} {loose : List Str} {name qual : Str} {params : Arguments} {body : List Stmt} {scope : Scope} {dV kV doc pm cdv ct oc : Value} {an od : Option Addr} {osl : Array (Option Value)} {f : Addr} {vs : List Value} {kw : List (Str × Value)} (binds : List (Str × Value))
    (X : K.In s.heap) (T : Top p loose mean mg mb s.heap)
    (ho : K.lookup f = some ⟨oc, od, .func (fnOf name qual params body scope dV kV doc pm an cdv ct), osl⟩) (hcd : codeIn K cdv qual = true) (hroom : A.depth < recursionLimit)
    (hbind : BindsTo s (fnOf name qual params body scope dV kV doc pm an cdv ct) ⟨vs, kw⟩ binds) (hloc : ∀ y ∈ binds, scope.names.lookup y.1 = some .local)
    (hco : scope.isCoroutine = false) (hgen : scope.isGenerator = false) (hk : scope.kind = .function) (hcell : ∀ x ∈ scope.names, x.2 ≠ .cell)
    (h : ∀ L' h₁ tk, s.toks ≤ tk → Fr s.heap L' h₁ (fun y => binds.reverse.lookup y) → News s.heap L' h₁ [] →
      wpAny (model prog w) (A.deeper (envOf qual scope L' f cdv)) (execs body (envOf qual scope L' f cdv))
        (fun fl s' => Q (match fl with | .ret v => v | _ => .none) s') (fun _ _ => False) { s with heap := h₁, toks := tk }) :
    wpAny (model prog w) A (call (.ref f) vs kw) Q E s := by
  refine wpAny_call (codeAny_call_def (fd := fnOf name qual params body scope dV kV doc pm an cdv ct) (body := body) (binds := binds) hroom (X _ _ ho) rfl T.nolimit (codeRec_of X hcd) rfl hbind hcell hloc (fun h₁ hns hk₁ => ?_) hco hgen hk)
  exact wpAny_mono (h s.heap.objs.size h₁ _ (Nat.le_add_right _ _) ⟨hns, hk₁, Nat.le_refl _⟩ News.nil) (fun _ _ x => x) (fun _ _ x => x.elim)
end
theorem tok_ne {x : Nat} (h : 1 ≤ x) : (x : Tok) ≠ 0 := Nat.ne_of_gt h
/-- the tokens' count is forgotten, but for its being no nought -/
theorem genToks {α : Type} {M : Model} {A : Around} {t : Sem α} {Q : α → Shared → Prop} {E : Value → Shared → Prop} {h : Heap} {g : Array GenState} {d : Drawn} {os : OsState} {x : Nat} (H : ∀ tk, 1 ≤ tk → wpAny M A t Q E ⟨h, g, d, tk, os⟩) : wpAny M A t Q E ⟨h, g, d, x + 1, os⟩ := H (x + 1) (Nat.succ_le_succ (Nat.zero_le x))
end Mine
namespace Mine
local macro_rules | `(tactic| walk_at "execs cons") => `(tactic| (with_reducible refine genToks ?_; intro tk htk))
local macro_rules | `(tactic| walk_at "execs nil") => `(tactic| (with_reducible refine genToks ?_; intro tk htk))
def hlsL (mx mn : UInt64) : UInt64 := Float64.div (Float64.add mx mn) 4611686018427387904
def hlsLow (mx mn : UInt64) : Bool := Float64.cmp (Float64.div (Float64.add mx mn) 4611686018427387904) 4602678819172646912 == some Ordering.lt || Float64.cmp (Float64.div (Float64.add mx mn) 4611686018427387904) 4602678819172646912 == some Ordering.eq
def hlsS (mx mn : UInt64) : UInt64 := if hlsLow mx mn = true then Float64.div (Float64.sub mx mn) (Float64.add mx mn) else Float64.div (Float64.sub mx mn) (Float64.sub (Float64.sub 4611686018427387904 mx) mn)
def hlsC (mx mn x : UInt64) : UInt64 := Float64.div (Float64.sub mx x) (Float64.sub mx mn)
def hlsH (mx mn fr fg fb : UInt64) : UInt64 :=
  if (Float64.cmp fr mx == some Ordering.eq) = true then (Float64.divmod (Float64.div (Float64.sub (hlsC mx mn fb) (hlsC mx mn fg)) 4618441417868443648) 4607182418800017408).snd
  else if (Float64.cmp fg mx == some Ordering.eq) = true then (Float64.divmod (Float64.div (Float64.sub (Float64.add 4611686018427387904 (hlsC mx mn fr)) (hlsC mx mn fb)) 4618441417868443648) 4607182418800017408).snd
  else (Float64.divmod (Float64.div (Float64.sub (Float64.add 4616189618054758400 (hlsC mx mn fg)) (hlsC mx mn fr)) 4618441417868443648) 4607182418800017408).snd
theorem hlsS_low {mx mn : UInt64} (h : hlsLow mx mn = true) : hlsS mx mn = Float64.div (Float64.sub mx mn) (Float64.add mx mn) := by simp [hlsS, h]
theorem hlsS_high {mx mn : UInt64} (h : hlsLow mx mn = false) : hlsS mx mn = Float64.div (Float64.sub mx mn) (Float64.sub (Float64.sub 4611686018427387904 mx) mn) := by simp [hlsS, h]
theorem hlsH_r {mx mn fr fg fb : UInt64} (h : (Float64.cmp fr mx == some Ordering.eq) = true) : hlsH mx mn fr fg fb = (Float64.divmod (Float64.div (Float64.sub (hlsC mx mn fb) (hlsC mx mn fg)) 4618441417868443648) 4607182418800017408).snd := by
  unfold hlsH; rw [if_pos h]
theorem hlsH_g {mx mn fr fg fb : UInt64} (h : (Float64.cmp fr mx == some Ordering.eq) = false) (h2 : (Float64.cmp fg mx == some Ordering.eq) = true) : hlsH mx mn fr fg fb = (Float64.divmod (Float64.div (Float64.sub (Float64.add 4611686018427387904 (hlsC mx mn fr)) (hlsC mx mn fb)) 4618441417868443648) 4607182418800017408).snd := by
  unfold hlsH; rw [if_neg (by rw [h]; decide), if_pos h2]
theorem hlsH_b {mx mn fr fg fb : UInt64} (h : (Float64.cmp fr mx == some Ordering.eq) = false) (h2 : (Float64.cmp fg mx == some Ordering.eq) = false) : hlsH mx mn fr fg fb = (Float64.divmod (Float64.div (Float64.sub (Float64.add 4616189618054758400 (hlsC mx mn fg)) (hlsC mx mn fr)) 4618441417868443648) 4607182418800017408).snd := by
  unfold hlsH; rw [if_neg (by rw [h]; decide), if_neg (by rw [h2]; decide)]
theorem hls_spec : ∀ (w : World) (mean : ExcName → Option Value) (mg mb : Str → Option Value) (A : Around) (s : Shared) (Q E : Value → Shared → Prop) (fr fg fb mx mn : UInt64) (t1 t2 t3 : Tok),
    Grd w mean mg mb s.heap → Low A 400 4000 → 1 ≤ s.toks →
    PySem.Flt.maxOfBits [fr, fg, fb] = mx → PySem.Flt.minOfBits [fr, fg, fb] = mn → (Float64.cmp mn mx == some Ordering.eq) = false → Float64.isZero (Float64.sub mx mn) = false →
    (hlsLow mx mn = true → Float64.isZero (Float64.add mx mn) = false) → (hlsLow mx mn = false → Float64.isZero (Float64.sub (Float64.sub 4611686018427387904 mx) mn) = false) →
    (∀ h' tk' r ta tb tc, Keeps s.heap h' → ta ≠ 0 → tb ≠ 0 → tc ≠ 0 → s.heap.get? r = none → h'.get? r = some { cls := .type "tuple", data := .seq #[.float (hlsH mx mn fr fg fb) ta, .float (hlsL mx mn) tb, .float (hlsS mx mn) tc] } → Q (.ref r) { s with heap := h', toks := tk' }) →
    wpAny (MM w) A (call (.ref 57) [.float fr t1, .float fg t2, .float fb t3]) Q E s := by
  intro w mean mg mb A s Q E fr fg fb mx mn t1 t2 t3 G lo hT1 emx emn p1 p2 p3 p4 hq
  refine lo.wp ?_
  have X := G.X
  have T := G.T
  refine' enterT [(Str.ofString "r", .float fr t1), (Str.ofString "g", .float fg t2), (Str.ofString "b", .float fb t3)] X T ?k6 ?k7 (by decide) ?k9 ?kB ?c2 ?c3 ?c4 ?c5 ?_
  case k6 => k_is
  case k7 => k_is
  case k9 => exact BindsTo.of_eq rfl
  case kB => exact locs rfl
  case c2 => exact rfl
  case c3 => exact rfl
  case c4 => exact rfl
  case c5 => decide
  intro L h₁ tk htk0 F N
  have htk : 1 ≤ tk := Nat.le_trans hT1 htk0
  clear htk0
  try dsimp only
  k_steps
  (rename Fr _ _ _ _ => F1)
  (rename News _ _ _ _ => N1)
  refine wpAny_with_toks (n := 1) (by first | assumption | (dsimp only; omega)) (max3 rfl ?_)
  intro h' tk' t' k htk1
  replace F1 := F1.kept k
  replace N1 := N1.grown k
  clear k
  k_steps
  (rename Fr _ _ _ _ => F2)
  (rename News _ _ _ _ => N2)
  refine wpAny_with_toks (n := 1) (by first | assumption | (dsimp only; omega)) (min3 rfl ?_)
  intro h' tk' t'' k htk2
  replace F2 := F2.kept k
  replace N2 := N2.grown k
  clear k
  rw [emx] at F2
  rw [emn]
  k_steps
  all_goals first
    | (rename (Float64.cmp mn mx == some Ordering.eq) = true => hc; rw [p1] at hc; cases hc)
    | (rename Float64.isZero (Float64.sub mx mn) = true => hc; rw [p2] at hc; cases hc)
    | (rename Float64.isZero (Float64.add mx mn) = true => hc; rename (_ || _) = true => hl; rw [p3 hl] at hc; cases hc)
    | (rename Float64.isZero (Float64.sub (Float64.sub _ mx) mn) = true => hc; rename (_ || _) = false => hl; rw [p4 hl] at hc; cases hc)
    | (rename (_ || _) = true => hl; rename (Float64.cmp fr mx == some Ordering.eq) = true => h1; rename Fr _ _ _ _ => F3; rename News _ _ _ _ => N3; rw [hlsH_r h1, hlsS_low hl] at hq; exact hq _ _ _ _ _ _ F3.keep (tok_ne (by omega)) (tok_ne (by omega)) (tok_ne (by omega)) (N3 _ (.head _)).2.2 (N3 _ (.head _)).1)
    | (rename (_ || _) = true => hl; rename (Float64.cmp fr mx == some Ordering.eq) = false => h1; rename (Float64.cmp fg mx == some Ordering.eq) = true => h2; rename Fr _ _ _ _ => F3; rename News _ _ _ _ => N3; rw [hlsH_g h1 h2, hlsS_low hl] at hq; exact hq _ _ _ _ _ _ F3.keep (tok_ne (by omega)) (tok_ne (by omega)) (tok_ne (by omega)) (N3 _ (.head _)).2.2 (N3 _ (.head _)).1)
    | (rename (_ || _) = true => hl; rename (Float64.cmp fr mx == some Ordering.eq) = false => h1; rename (Float64.cmp fg mx == some Ordering.eq) = false => h2; rename Fr _ _ _ _ => F3; rename News _ _ _ _ => N3; rw [hlsH_b h1 h2, hlsS_low hl] at hq; exact hq _ _ _ _ _ _ F3.keep (tok_ne (by omega)) (tok_ne (by omega)) (tok_ne (by omega)) (N3 _ (.head _)).2.2 (N3 _ (.head _)).1)
    | (rename (_ || _) = false => hl; rename (Float64.cmp fr mx == some Ordering.eq) = true => h1; rename Fr _ _ _ _ => F3; rename News _ _ _ _ => N3; rw [hlsH_r h1, hlsS_high hl] at hq; exact hq _ _ _ _ _ _ F3.keep (tok_ne (by omega)) (tok_ne (by omega)) (tok_ne (by omega)) (N3 _ (.head _)).2.2 (N3 _ (.head _)).1)
    | (rename (_ || _) = false => hl; rename (Float64.cmp fr mx == some Ordering.eq) = false => h1; rename (Float64.cmp fg mx == some Ordering.eq) = true => h2; rename Fr _ _ _ _ => F3; rename News _ _ _ _ => N3; rw [hlsH_g h1 h2, hlsS_high hl] at hq; exact hq _ _ _ _ _ _ F3.keep (tok_ne (by omega)) (tok_ne (by omega)) (tok_ne (by omega)) (N3 _ (.head _)).2.2 (N3 _ (.head _)).1)
    | (rename (_ || _) = false => hl; rename (Float64.cmp fr mx == some Ordering.eq) = false => h1; rename (Float64.cmp fg mx == some Ordering.eq) = false => h2; rename Fr _ _ _ _ => F3; rename News _ _ _ _ => N3; rw [hlsH_b h1 h2, hlsS_high hl] at hq; exact hq _ _ _ _ _ _ F3.keep (tok_ne (by omega)) (tok_ne (by omega)) (tok_ne (by omega)) (N3 _ (.head _)).2.2 (N3 _ (.head _)).1)
end Mine
section
open PySem.SeqAt
namespace Mine
theorem none_booked {w : World} {h : Heap} (X : (hd.heap_39 w.params).In h) : NoneBooked h := by
  have e : ∃ c d ep sl, (hd.heap_39 w.params).lookup 2 = some ⟨c, d, .dict #[] ep, sl⟩ := ⟨_, _, _, _, by k_is⟩
  obtain ⟨c, d, ep, sl, e⟩ := e
  exact ⟨fun _ => none, ⟨_, #[], _, X _ _ e, rfl, fun _ hm => by simp at hm, fun _ => rfl⟩, rfl⟩
/-- two equal floats: whatever their identity, they are equal -/
theorem eqF {A : Around} {s : Shared} {a b : UInt64} {t u : Tok} (hb : NoneBooked s.heap) (ht : t ≠ 0) (hu : u ≠ 0) (e : (Float64.cmp a b == some Ordering.eq) = true) : EqAt A s (.float a t) (.float b u) true := by
  intro prog w E Q hq
  unfold eqBool
  refine wpAny_holding ?_
  refine wpAny_ite ?_
  split
  · exact wpAny_bind (wpAny_rule (wpAny_pure hq))
  · refine wpAny_bind (m := isSame (.float a t) (.float b u)) ?_
    have hs : wpAny (model prog w) A (isSame (.float a t) (.float b u)) (fun r s' => s' = s) (fun _ _ => False) s := by
      show wpAny _ _ (isSame.created (a == b && !Float64.isNaN a) t u) _ _ s
      unfold isSame.created
      refine wpAny_ite ?_
      split
      · rename_i h
        simp [ht, hu] at h
      refine wpAny_ite ?_
      split
      · exact wpAny_pure rfl
      refine wpAny_ite ?_
      split
      · exact wpAny_pure rfl
      refine wpAny_bind (wpAny_sharingNotTold_none hb ?_)
      simp only [Bool.false_eq_true, if_false]
      refine wpAny_bind (wpAny_sharingNotTold_none hb ?_)
      simp only [Bool.false_eq_true, if_false]
      exact wpAny_bind (wpAny_rule (wpAny_bind (wpAny_askSetting (wpAny_pure rfl))))
    refine wpAny_mono hs (fun r s' e' => ?_) fun _ _ x => x.elim
    subst e'
    cases r with
    | true => exact wpAny_pure hq
    | false =>
      refine wpAny_bind (show wpAny _ _ (compareOp .Eq (.float a t) (.float b u)) _ _ _ from AutoFloatOps.eq_0 ?_)
      rw [e]
      exact wpAny_truthy_bool hq
theorem ne3 {prog : Program} {w : World} {A : Around} {E : Value → Shared → Prop} {s : Shared} {Q : Value → Shared → Prop} {l r : Addr} {a b c x y z : UInt64} {t1 t2 t3 u1 u2 u3 : Tok} (hb : NoneBooked s.heap) (hl : IsTup s.heap l #[.float a t1, .float b t2, .float c t3]) (hr : IsTup s.heap r #[.float x u1, .float y u2, .float z u3])
    (hu : A.units < cLine) (ht1 : t1 ≠ 0) (ht2 : t2 ≠ 0) (ht3 : t3 ≠ 0) (hu1 : u1 ≠ 0) (hu2 : u2 ≠ 0) (hu3 : u3 ≠ 0) (e1 : (Float64.cmp a x == some Ordering.eq) = true) (e2 : (Float64.cmp b y == some Ordering.eq) = true) (e3 : (Float64.cmp c z == some Ordering.eq) = true)
    (h : Q (.bool false) s) : wpAny (model prog w) A (compareOp .NotEq (.ref l) (.ref r)) Q E s := by
  refine cmp_ofNotEq (RcNeAt.tuples (e := fun _ => true) hl hr hu (fun j h1 h2 => ?_) prog w E Q ?_)
  · have : j = 0 ∨ j = 1 ∨ j = 2 := by
      simp at h1; omega
    rcases this with rfl | rfl | rfl
    · exact eqF hb ht1 hu1 e1
    · exact eqF hb ht2 hu2 e2
    · exact eqF hb ht3 hu3 e3
  · exact h
end Mine
end
namespace Mine
local macro_rules | `(tactic| walk_at "call ref cons nil") => `(tactic| refine Halt.out ?_)
local macro_rules | `(tactic| walk_at "call ref cons cons") => `(tactic| refine Halt.out ?_)
local macro_rules | `(tactic| walk_at "pyIter ref") => `(tactic| ((with_reducible show wpAny _ _ (pyIter _) (fun it s₂ => LoopAtV _ _ _ _ _ _ _ _ _ it s₂) _ _); refine Halt.out ?_))
local macro_rules | `(tactic| walk_at "compareOp NotEq ref ref") => `(tactic| refine Halt.out ?_)
local macro_rules | `(tactic| walk_at "execs cons") => `(tactic| (with_reducible refine genToks ?_; intro tk htk))
local macro_rules | `(tactic| walk_at "execs nil") => `(tactic| (with_reducible refine genToks ?_; intro tk htk))
local macro_rules | `(tactic| walk_at "setItem ref int") => `(tactic| refine Halt.out ?_)
local macro_rules | `(tactic| walk_at "LPost") => `(tactic| (dsimp only [LPost]))
def quotF (z : Int) (sz : Nat) : UInt64 := Float64.ofFrac (decide (z < 0) != decide ((sz : Int) < 0)) z.natAbs ((sz : Nat) : Int).natAbs
def hueIn (z : Int) (sz : Nat) : UInt64 := Float64.add (Float64.ofInt 8) (quotF z sz)
def rgbF (z : Int) (sz : Nat) (fs fv : UInt64) : UInt64 × UInt64 × UInt64 := hsvR (hueIn z sz) fs fv
def mxF (z : Int) (sz : Nat) (fs fv : UInt64) : UInt64 := PySem.Flt.maxOfBits [(rgbF z sz fs fv).1, (rgbF z sz fs fv).2.1, (rgbF z sz fs fv).2.2]
def mnF (z : Int) (sz : Nat) (fs fv : UInt64) : UInt64 := PySem.Flt.minOfBits [(rgbF z sz fs fv).1, (rgbF z sz fs fv).2.1, (rgbF z sz fs fv).2.2]
def lightF (fs fv : UInt64) : UInt64 := Float64.sub fv (Float64.div (Float64.mul fv fs) (Float64.ofInt 2))
def denF (fs fv : UInt64) : UInt64 := Float64.sub (Float64.ofInt 1) (Float64.abs (Float64.sub (Float64.mul (Float64.ofInt 2) (Float64.sub fv (Float64.div (Float64.mul fv fs) (Float64.ofInt 2)))) (Float64.ofInt 1)))
def hueV (z : Int) (sz : Nat) (fs fv : UInt64) : UInt64 := hlsH (mxF z sz fs fv) (mnF z sz fs fv) (rgbF z sz fs fv).1 (rgbF z sz fs fv).2.1 (rgbF z sz fs fv).2.2
/-- the painting and the telling come through -/
structure Paints (sz : Nat) (fs fv : UInt64) (z : Int) : Prop where
  p1 : (Float64.cmp fs 0 == some Ordering.eq) = false
  p2 : Float64.isNaN (Float64.mul (hueIn z sz) 4618441417868443648) = false
  p3 : Float64.isInf (Float64.mul (hueIn z sz) 4618441417868443648) = false
  p4 : (hsvI (hueIn z sz)).natAbs < 1000000
  p5 : (Float64.cmp (mnF z sz fs fv) (mxF z sz fs fv) == some Ordering.eq) = false
  p6 : Float64.isZero (Float64.sub (mxF z sz fs fv) (mnF z sz fs fv)) = false
  p7 : hlsLow (mxF z sz fs fv) (mnF z sz fs fv) = true → Float64.isZero (Float64.add (mxF z sz fs fv) (mnF z sz fs fv)) = false
  p9 : Float64.isInf (quotF (z.fmod sz) sz) = false
  p10 : Float64.isZero (denF fs fv) = false
  e1 : (Float64.cmp (hueV z sz fs fv) (quotF (z.fmod sz) sz) == some Ordering.eq) = true
  e2 : (Float64.cmp (hlsL (mxF z sz fs fv) (mnF z sz fs fv)) (lightF fs fv) == some Ordering.eq) = true
  e3 : (Float64.cmp (hlsS (mxF z sz fs fv) (mnF z sz fs fv)) (Float64.div (Float64.mul fv fs) (denF fs fv)) == some Ordering.eq) = true
  p8 : hlsLow (mxF z sz fs fv) (mnF z sz fs fv) = false → Float64.isZero (Float64.sub (Float64.sub 4611686018427387904 (mxF z sz fs fv)) (mnF z sz fs fv)) = false
/-- the hues told so far -/
def HuesUp (n sz : Nat) (fs fv : UInt64) (kvs : List (Int × Value)) (i : Nat) : Prop := kvs.length = i ∧ ∀ k, k < i → ∃ t, kvs[k]? = some (-(n : Int) + (k : Int), .float (hueV (-(n : Int) + (k : Int)) sz fs fv) t)
theorem HuesUp.snoc {n sz : Nat} {fs fv : UInt64} {kvs : List (Int × Value)} {i : Nat} {t : Tok} (h : HuesUp n sz fs fv kvs i) : HuesUp n sz fs fv (stored kvs (-(n : Int) + (i : Int)) (.float (hueV (-(n : Int) + (i : Int)) sz fs fv) t)) (i + 1) := by
  have hno : kvs.any (fun kv => kv.1 = -(n : Int) + (i : Int)) = false := by
    rw [List.any_eq_false]
    intro kv hkv
    obtain ⟨k, hk, e⟩ := List.getElem_of_mem hkv
    obtain ⟨t', e'⟩ := h.2 k (h.1 ▸ hk)
    rw [List.getElem?_eq_getElem hk, Option.some.injEq, e] at e'
    rw [e']
    have hki : k < i := h.1 ▸ hk
    simp
    omega
  unfold stored
  rw [hno]
  simp only [Bool.false_eq_true, if_false]
  refine ⟨by rw [List.length_append, h.1]; rfl, fun k hk => ?_⟩
  by_cases q : k < i
  · obtain ⟨t', e'⟩ := h.2 k q
    exact ⟨t', by rw [List.getElem?_append_left (by rw [h.1]; exact q)]; exact e'⟩
  · have : k = i := by omega
    subst this
    exact ⟨t, by rw [List.getElem?_append_right (by rw [h.1]; exact Nat.le_refl _), h.1, Nat.sub_self]; rfl⟩
theorem newsAdd {h₀ h h' : Heap} {L r : Addr} {m : Str → Option Value} {news : List (Addr × Obj)} {o : Obj} (F : Fr h₀ L h m) (N : News h₀ L h' news) (hn : h.get? r = none) (ho : h'.get? r = some o) : News h₀ L h' ((r, o) :: news) := by
  intro q hq
  rcases List.mem_cons.mp hq with rfl | hq
  · refine ⟨ho, fun e => ?_, ?_⟩
    · obtain ⟨oL, _, _, hL, _⟩ := F.ns
      have e' : r = L := e
      rw [e', hL] at hn
      cases hn
    · cases e : h₀.get? r with
      | none => rfl
      | some o' => rw [F.keep _ _ e] at hn; cases hn
  · exact N q hq
theorem wheel_spec : ∀ (w : World) (mean : ExcName → Option Value) (mg mb : Str → Option Value) (A : Around) (s : Shared) (Q E : Value → Shared → Prop) (n sz : Nat) (fs fv : UInt64) (t1 t2 t3 t4 : Tok),
    Grd w mean mg mb s.heap → Low A 350 3000 → n ≤ 10 → 1 ≤ sz → sz ≤ 16 → (∀ z : Int, -(n : Int) ≤ z → z < n → Paints sz fs fv z) →
    (∀ h' tk' r kvs, Keeps s.heap h' → s.heap.get? r = none → (r == sysModules) = false → h'.DictOf (intKind PySem.Challenge.rw_rs0099_01.row.prog w) r kvs → HuesUp n sz fs fv kvs (n + n) → Q (.ref r) { s with heap := h', toks := tk' }) →
    wpAny (MM w) A (call (.ref 92) [.int n t1, .int sz t2, .float fs t3, .float fv t4]) Q E s := by
  intro w mean mg mb A s Q E n sz fs fv t1 t2 t3 t4 G lo hn hs1 hs2 hP hq
  refine lo.wp ?_
  have X := G.X
  have T := G.T
  refine' enterP [(Str.ofString "leaves", .int n t1), (Str.ofString "size", .int sz t2), (Str.ofString "share", .float fs t3), (Str.ofString "level", .float fv t4)] X T ?k6 ?k7 (by decide) ?k9 ?kB ?c2 ?c3 ?c4 ?c5 ?_
  case k6 => k_is
  case k7 => k_is
  case k9 => exact BindsTo.of_eq rfl
  case kB => exact locs rfl
  case c2 => exact rfl
  case c3 => exact rfl
  case c4 => exact rfl
  case c5 => decide
  intro L h₁ tk F N
  try dsimp only
  k_steps
  (rename IsRange _ _ _ _ _ _ _ _ => hr)
  (rename Fr _ _ _ _ => F1)
  (rename News _ _ _ _ => N1)
  rename_i H _ o0 hlo _ _ hi0 _ _ _ _ _ _ _ _ _ _ _ _ _ _ _ _ _ _
  refine ⟨iter_rangeL (fun i m news => m (Str.ofString "hues") = some (.ref H) ∧ m (Str.ofString "size") = some (.int sz t2) ∧ m (Str.ofString "share") = some (.float fs t3) ∧ m (Str.ofString "level") = some (.float fv t4) ∧ (∃ tl, tl ≠ 0 ∧ m (Str.ofString "light") = some (.float (Float64.sub fv (Float64.div (Float64.mul fv fs) (Float64.ofInt 2))) tl)) ∧
    ∃ o kvs, (H, o) ∈ news ∧ o.IsDictOf (intKind PySem.Challenge.rw_rs0099_01.row.prog w) kvs ∧ HuesUp n sz fs fv kvs i) rfl hr (by omega) (by omega) (by omega) F1 N1 ⟨rfl, rfl, rfl, rfl, ⟨_, tok_ne (by omega), rfl⟩, o0, [], .head _, hi0, rfl, fun k hk => absurd hk (Nat.not_lt_zero k)⟩ ?_ ?_⟩
  · intro i t m₁ news₁ h tk2 own hlt hJ hoff hsz hown F2 N2
    obtain ⟨h1, h2, h3, h4, ⟨t5, ht5, h5⟩, o, kvs, hHm, hdict, hkl⟩ := hJ
    rw [mapName h1, mapName h2, mapName h3, mapName h4, mapName h5] at F2
    clear F1 N1
    generalize hz : -(n : Int) + (i : Int) = z at F2
    have P := hP z (by omega) (by omega)
    k_steps
    refine ⟨wpAny_with_toks (n := 1) (by dsimp only; omega) (hsv_spec w mean mg mb _ _ _ _ (hueIn z sz) fs fv _ _ _ (G.keeps F2.keep) ⟨rfl, Nat.le_of_ble_eq_true rfl, Nat.le_of_ble_eq_true rfl⟩ P.p1 P.p2 P.p3 P.p4 ?_)⟩
    intro h' tk' r ta tb tc k htup htk1
    replace htk1 : 1 ≤ tk' := htk1
    replace F2 := F2.kept k
    replace N2 := N2.grown k
    clear k
    k_steps
    (rename Fr _ _ _ _ => F3)
    (rename News _ _ _ _ => N3)
    refine ⟨wpAny_with_toks (n := 1) (by dsimp only; omega) (hls_spec w mean mg mb _ _ _ _ (rgbF z sz fs fv).1 (rgbF z sz fs fv).2.1 (rgbF z sz fs fv).2.2 (mxF z sz fs fv) (mnF z sz fs fv) _ _ _ (G.keeps F3.keep) ⟨rfl, Nat.le_of_ble_eq_true rfl, Nat.le_of_ble_eq_true rfl⟩ (by dsimp only; omega) rfl rfl P.p5 P.p6 P.p7 P.p8 ?_)⟩
    intro h' tk' r2 ta tb tc k hta htb htc hnew htup htk1
    replace htk1 : 1 ≤ tk' := htk1
    have N4 := newsAdd F3 (N3.grown k) hnew htup
    replace F3 := F3.kept k
    clear k N3
    k_steps
    · rename Float64.isInf _ = true => hc
      exact absurd (show Float64.isInf (quotF (z.fmod sz) sz) = true from hc) (by rw [P.p9]; decide)
    · rename Float64.isZero _ = true => hc
      exact absurd (show Float64.isZero (denF fs fv) = true from hc) (by rw [P.p10]; decide)
    (rename Fr _ _ _ _ => F5)
    (rename News _ _ _ _ => N5)
    have zt := (N5 _ (.head _)).1
    have zr := (N5 _ (.tail _ (.head _))).1
    refine ⟨ne3 (none_booked (G.keeps F5.keep).X) ⟨_, zr, rfl, _, rfl⟩ ⟨_, zt, rfl, _, rfl⟩ (Nat.le_of_ble_eq_true rfl) hta htb htc (tok_ne (by omega)) ht5 (tok_ne (by omega)) P.e1 P.e2 P.e3 ?_⟩
    k_steps
    (rename Fr _ _ _ _ => F6)
    (rename News _ _ _ _ => N6)
    have N7 : News s.heap _ _ (own ++ news₁) := fun q hq => N6 q (.tail _ (.tail _ hq))
    have zH := N7 _ (List.mem_append_right own hHm)
    refine ⟨wpAny_setItem_pairs (knd := intKind PySem.Challenge.rw_rs0099_01.row.prog w) (k := z) (by simp [intKind, Value.isInt]) (Heap.dictOf_iff.mpr ⟨o, zH.1, hdict⟩) ?_ (by rw [hkl.1, sizeLine_eq]; omega)⟩
    intro h'' hd2 hsame
    obtain ⟨o2, ho2, hdict2⟩ := Heap.dictOf_iff.mp hd2
    have kk := but_of_same hsame
    have F8 := frBut F6 kk zH.2.1 zH.2.2
    clear F6
    k_steps
    refine LEnd.intro F8 (closeTurn0 N7 hHm kk ho2 (fun q hq e => hoff _ hHm (e.symm.trans (hown q hq)))) (off_setL hoff) ⟨rfl, rfl, rfl, rfl, ⟨_, ht5, rfl⟩, o2, _, mem_setL_self hHm, hdict2, ?_⟩
    rw [← hz]
    exact hkl.snoc
  · intro m₁ news₁ h tk2 hJ F2 N2
    obtain ⟨h1, h2, h3, h4, ⟨t5, ht5, h5⟩, o, kvs, hHm, hdict, hkl⟩ := hJ
    rw [mapName h1] at F2
    clear F1 N1
    k_steps
    have zH := N2 _ hHm
    have e : ((n : Int) - -(n : Int)).toNat = n + n := by omega
    rw [e] at hkl
    exact hq _ _ H kvs F2.keep zH.2.2 hlo (Heap.dictOf_iff.mpr ⟨o, zH.1, hdict⟩) hkl
end Mine
namespace Mine
section
variable {w : World} {mean : ExcName → Option Value} {mg mb : Str → Option Value} {A : Around} {s : Shared} {Q E : Value → Shared → Prop}
/-- a call of a def some of whose names are cells -/
theorem enterC {prog : Program} {K : Frag} {p : Program} {loose : List Str} {name qual : Str} {params : Arguments} {body : List Stmt} {scope : Scope} {dV kV doc pm cdv ct oc : Value} {an od : Option Addr} {osl : Array (Option Value)} {f : Addr} {vs : List Value} {kw : List (Str × Value)} (binds : List (Str × Value))
    (X : K.In s.heap) (T : Top p loose mean mg mb s.heap)
    (ho : K.lookup f = some ⟨oc, od, .func (fnOf name qual params body scope dV kV doc pm an cdv ct), osl⟩) (hcd : codeIn K cdv qual = true) (hroom : A.depth < recursionLimit)
    (hbind : BindsTo s (fnOf name qual params body scope dV kV doc pm an cdv ct) ⟨vs, kw⟩ binds) (hkind : (binds.all fun y => scope.names.lookup y.1 == some .local || scope.names.lookup y.1 == some .cell) = true)
    (hnd : ((cellsFrom 0 scope.names []).map (·.1)).Nodup)
    (hco : scope.isCoroutine = false) (hgen : scope.isGenerator = false) (hk : scope.kind = .function)
    (h : ∀ L' h₁ tk cells, Fr s.heap L' h₁ (bindL (envOfC qual scope L' f cdv).kindOf binds fun _ => none) → News s.heap L' h₁ cells →
      CellsAre (bindC (envOfC qual scope L' f cdv).kindOf binds fun _ => none) (cellsFrom (L' + 1) scope.names []) cells →
      wpAny (model prog w) (A.deeper (envOfC qual scope L' f cdv)) (execs body (envOfC qual scope L' f cdv))
        (fun fl s' => Q (match fl with | .ret v => v | _ => .none) s') (fun _ _ => False) { s with heap := h₁, toks := tk }) :
    wpAny (model prog w) A (call (.ref f) vs kw) Q E s := by
  refine wpAny_call (codeAny_call_function (fd := fnOf name qual params body scope dV kV doc pm an cdv ct) hroom (X _ _ ho) rfl hco hgen rfl (codeRec_of X hcd) (hbind _ _ _ _ ?_))
  refine wpAny_newFunctionEnv_cells hk (kindsX hkind _) fun env' he s' x => ?_
  subst he
  refine ⟨T.nolimit.keeps x.toInCall.keep, codeAny_func ?_⟩
  obtain ⟨h₁, tk, rfl, _⟩ := x.done
  have hk₁ := x.toInCall.keep
  obtain ⟨cells, NC, Y⟩ := Cl.news (h₀ := s.heap) (Nat.le_refl _) fun n c hm => ⟨x.cell n c (lookup_of_mem_nodup (cellsFrom_names scope.names 0 (s.heap.objs.size + 1) [] [] rfl ▸ hnd) hm), x.above n c hm⟩
  exact wpAny_mono (h s.heap.objs.size h₁ tk cells ⟨x.toInCall.ns, hk₁, Nat.le_refl _⟩ NC Y) (fun _ _ x => x) (fun _ _ x => x.elim)
end
end Mine
namespace Mine
section
variable {prog : Program} {w : World} {A : Around} {E : Value → Shared → Prop} {s : Shared}
theorem call_lists_lt {a b : Addr} {xs ys : List Value} {ns ms : List Int} {Q : Value → Shared → Prop}
    (ha : s.heap.IsList a xs.toArray) (hb : s.heap.IsList b ys.toArray) (hi : IntsAre xs ns) (hj : IntsAre ys ms) (h : Q (.bool (lexLt ns ms)) s) :
    wpAny (model prog w) A (call (.builtin "list.__lt__") [.ref a, .ref b]) Q E s := by
  have ta := ha.typeIs
  obtain ⟨⟨oc, od, dt, osl⟩, hoa, hca, n, hda⟩ := ha
  obtain ⟨⟨oc2, od2, dt2, osl2⟩, hob, hcb, n2, hdb⟩ := hb
  cases hca; cases hda; cases hcb; cases hdb
  exact call_meets F.slot_list_lt ta F.entry_list_lt (F.args_list_lt_2 _ _) (list_lt a b xs.toArray ys.toArray n n2 od od2 osl osl2 ns ms (by simpa using hi) (by simpa using hj)) ⟨hoa, hob, h⟩
theorem keyLt_lists {a b : Addr} {xs ys : List Value} {ns ms : List Int} {Q : Bool → Shared → Prop}
    (ha : s.heap.IsList a xs.toArray) (hb : s.heap.IsList b ys.toArray) (hi : IntsAre xs ns) (hj : IntsAre ys ms) (hu : A.units < cLine) (h : Q (lexLt ns ms) s) :
    wpAny (model prog w) A (keyLt' oneType' (.ref a) (.ref b)) Q E s := by
  rw [keyLt'_oneType, oneLt'_eq]
  simp only [if_true]
  refine wpAny_bind (wpAny_cRoomFor hu ?_)
  refine wpAny_bind (wpAny_callSpecialIfBound?_slot ha.typeIs F.slot_list_lt (call_lists_lt ha hb hi hj ?_))
  exact wpAny_truthy_bool h
end
/-- the tree run by a plain comparison; every place that it asks for lies below n -/
def runT {α : Type} (n : Nat) (c : Nat → Nat → Bool) : KasT α → Option α
  | .ret a => some a
  | .ask i j k => if i < n ∧ j < n then runT n c (k (c i j)) else none
theorem runT_wp {α : Type} {n : Nat} {c : Nat → Nat → Bool} {cmp : Nat → Nat → (Bool → Shared → Prop) → Shared → Prop} {s : Shared} {Q : α → Shared → Prop}
    (hc : ∀ i j C, i < n → j < n → C (c i j) s → cmp i j C s) : ∀ (t : KasT α) (a : α), runT n c t = some a → Q a s → t.kasWp cmp Q s
  | .ret a, b, e, h => by
    have : a = b := Option.some.inj e
    subst this
    exact h
  | .ask i j k, b, e, h => by
    unfold runT at e
    by_cases q : i < n ∧ j < n
    · rw [if_pos q] at e
      exact hc i j _ q.1 q.2 (runT_wp hc _ b e h)
    · rw [if_neg q] at e
      cases e
end Mine
namespace Mine
local macro_rules | `(tactic| walk_at "call ref cons nil") => `(tactic| refine Halt.out ?_)
local macro_rules | `(tactic| walk_at "call ref cons cons") => `(tactic| refine Halt.out ?_)
local macro_rules | `(tactic| walk_at "pyIter ref") => `(tactic| ((with_reducible show wpAny _ _ (pyIter _) (fun it s₂ => LoopAtV _ _ _ _ _ _ _ _ _ it s₂) _ _); refine Halt.out ?_))
local macro_rules | `(tactic| walk_at "exec Assign cons ListComp") => `(tactic| refine Halt.out ?_)
local macro_rules | `(tactic| walk_at "getMethod ref") => `(tactic| refine Halt.out ?_)
local macro_rules | `(tactic| walk_at "LPost") => `(tactic| (dsimp only [LPost]))
local macro_rules | `(tactic| walk_at "setItem ref int") => `(tactic| refine Halt.out ?_)
local macro_rules | `(tactic| walk_at "call builtin:list.append") => `(tactic| refine Halt.out ?_)
local macro_rules | `(tactic| walk_at "call builtin:sorted") => `(tactic| refine Halt.out ?_)
theorem wpAny_halt {α : Type} {M : Model} {A : Around} {t : Sem α} {Q : α → Shared → Prop} {E : Value → Shared → Prop} {s : Shared} (h : wpAny M A t (fun a s' => Halt (Q a s')) E s) : wpAny M A t Q E s := wpAny_mono h (fun _ _ x => x.out) fun _ _ x => x
abbrev mapOf {h₀ h : Heap} {L : Addr} {m : Str → Option Value} (_ : Fr h₀ L h m) : Str → Option Value := m
theorem newsHere {h₀ h : Heap} {L r : Addr} {m : Str → Option Value} {news : List (Addr × Obj)} {o : Obj} (F : Fr h₀ L h m) (N : News h₀ L h news) (hn : h₀.get? r = none) (ho : h.get? r = some o) (hd : ∀ es ep, o.data ≠ .dict es ep) : News h₀ L h ((r, o) :: news) := by
  intro q hq
  rcases List.mem_cons.mp hq with rfl | hq
  · refine ⟨ho, fun e => ?_, hn⟩
    obtain ⟨oL, es, ep, hL, hdd, _⟩ := F.ns
    have e' : r = L := e
    rw [e', hL] at ho
    cases ho
    exact hd _ _ hdd
  · exact N q hq
theorem newsHead {h₀ h h' : Heap} {L D : Addr} {o o' : Obj} {rest : List (Addr × Obj)} (N : News h₀ L h ((D, o) :: rest)) (k : KeepsBut D h h') (ho : h'.get? D = some o') (hne : ∀ p ∈ rest, p.1 ≠ D) : News h₀ L h' ((D, o') :: rest) := by
  intro q hq
  rcases List.mem_cons.mp hq with rfl | hq
  · exact ⟨ho, (N _ (.head _)).2⟩
  · have z := N q (.tail _ hq)
    exact ⟨k _ _ (hne q hq) z.1, z.2⟩
theorem closeTurnNe {h₀ : Heap} {L D P : Addr} {o oP oP' : Obj} {own news₁ : List (Addr × Obj)} {h4 h'' : Heap} (N4 : News h₀ L h4 ((D, o) :: (own ++ news₁))) (hPm : (P, oP) ∈ news₁) (kk : KeepsBut P h4 h'') (ho : h''.get? P = some oP') (hPown : ∀ p ∈ own, p.1 ≠ P)
    (hne : ∀ q ∈ own ++ news₁, q.1 ≠ D) : News h₀ L h'' (own ++ ((D, o) :: setL P oP' news₁)) := by
  have zP := N4 _ (List.mem_cons_of_mem _ (List.mem_append_right own hPm))
  have hD : D ≠ P := (hne _ (List.mem_append_right own hPm)).symm
  intro q hq
  rcases List.mem_append.mp hq with h1 | h1
  · have z := N4 q (List.mem_cons_of_mem _ (List.mem_append_left _ h1))
    exact ⟨kk _ _ (hPown q h1) z.1, z.2⟩
  · rcases List.mem_cons.mp h1 with rfl | h2
    · have z := N4 _ (List.Mem.head _)
      exact ⟨kk _ _ hD z.1, z.2⟩
    · exact newsBut (fun p hp => N4 p (List.mem_cons_of_mem _ (List.mem_append_right own hp))) kk ho zP.2.1 zP.2.2 q h2
/-- a made list of ints, other than the list O -/
def RowIn (O : Addr) (news : List (Addr × Obj)) (v : Value) (row : List Int) : Prop := ∃ ad xs k, v = .ref ad ∧ ad ≠ O ∧ (ad, W.listOf (List.toArray xs) k) ∈ news ∧ IntsAre xs row
inductive RowsIn (O : Addr) (news : List (Addr × Obj)) : List Value → List (List Int) → Prop where
  | nil : RowsIn O news [] []
  | cons {v : Value} {p : List Int} {vs : List Value} {ps : List (List Int)} : RowIn O news v p → RowsIn O news vs ps → RowsIn O news (v :: vs) (p :: ps)
def rowF (one other leaf : Int) (n i j : Nat) : List Int := ((List.replicate n leaf).set i one).set j other
def rowsAt (one other leaf : Int) (n i j : Nat) : List (List Int) := (List.range j).filterMap fun k => if i < k ∨ (k < i ∧ one ≠ other) then some (rowF one other leaf n i k) else none
def rowsF (one other leaf : Int) (n i : Nat) : List (List Int) := (List.range i).flatMap fun k => rowsAt one other leaf n k n
theorem RowsIn.mono {O : Addr} {news news' : List (Addr × Obj)} (hs : ∀ a o, a ≠ O → (a, o) ∈ news → (a, o) ∈ news') : ∀ {vs : List Value} {ps : List (List Int)}, RowsIn O news vs ps → RowsIn O news' vs ps
  | _, _, .nil => .nil
  | _, _, .cons ⟨ad, xs, k, e, hne, hm, hi⟩ r => .cons ⟨ad, xs, k, e, hne, hs _ _ hne hm, hi⟩ (r.mono hs)
theorem RowsIn.snoc {O : Addr} {news : List (Addr × Obj)} {v : Value} {p : List Int} (h : RowIn O news v p) : ∀ {vs : List Value} {ps : List (List Int)}, RowsIn O news vs ps → RowsIn O news (vs ++ [v]) (ps ++ [p])
  | _, _, .nil => .cons h .nil
  | _, _, .cons q r => .cons q (r.snoc h)
theorem RowsIn.length {O : Addr} {news : List (Addr × Obj)} : ∀ {vs : List Value} {ps : List (List Int)}, RowsIn O news vs ps → vs.length = ps.length
  | _, _, .nil => rfl
  | _, _, .cons _ r => by rw [List.length_cons, List.length_cons, r.length]
theorem RowsIn.get {O : Addr} {news : List (Addr × Obj)} : ∀ {vs : List Value} {ps : List (List Int)}, RowsIn O news vs ps → ∀ {k : Nat} {v : Value}, vs[k]? = some v → ∃ p, ps[k]? = some p ∧ RowIn O news v p
  | _, _, .nil, _, _, e => by simp at e
  | _, _, .cons q r, 0, _, e => by
    simp at e; subst e; exact ⟨_, rfl, q⟩
  | _, _, .cons q r, k + 1, _, e => by
    simp at e; exact r.get e
theorem ints_set {a : Int} {t : Tok} : ∀ {vs : List Value} {ns : List Int} (k : Nat), IntsAre vs ns → IntsAre (vs.set k (.int a t)) (ns.set k a)
  | _, _, _, .nil => .nil
  | _, _, 0, .cons _ _ r => .cons _ _ r
  | _, _, k + 1, .cons _ _ r => .cons _ _ (ints_set k r)
theorem rowsAt_yes {one other leaf : Int} {n i j : Nat} (h : i < j ∨ (j < i ∧ one ≠ other)) : rowsAt one other leaf n i (j + 1) = rowsAt one other leaf n i j ++ [rowF one other leaf n i j] := by
  unfold rowsAt
  rw [List.range_succ, List.filterMap_append, List.filterMap_cons, if_pos h]
  rfl
theorem rowsAt_no {one other leaf : Int} {n i j : Nat} (h : ¬ (i < j ∨ (j < i ∧ one ≠ other))) : rowsAt one other leaf n i (j + 1) = rowsAt one other leaf n i j := by
  unfold rowsAt
  rw [List.range_succ, List.filterMap_append, List.filterMap_cons, if_neg h]
  exact List.append_nil _
theorem rowsF_succ {one other leaf : Int} {n i : Nat} : rowsF one other leaf n (i + 1) = rowsF one other leaf n i ++ rowsAt one other leaf n i n := by
  unfold rowsF
  rw [List.range_succ, List.flatMap_append]
  simp
theorem RowsIn.perm {O O' : Addr} {news news' : List (Addr × Obj)} {vs : List Value} {ps : List (List Int)} (h : RowsIn O news vs ps) (hs : ∀ q ∈ news, q ∈ news' ∧ q.1 ≠ O') : ∀ (l : List Nat), (∀ i ∈ l, i < ps.length) → RowsIn O' news' (l.map fun i => vs.getD i Value.none) (l.map fun i => ps.getD i [])
  | [], _ => .nil
  | i :: l, hl => by
    have hi := hl i (.head _)
    have hiv : i < vs.length := by rw [h.length]; exact hi
    obtain ⟨p, hp, ad, xs, k, e, hne, hm, hx⟩ := h.get (List.getElem?_eq_getElem hiv)
    refine .cons ⟨ad, xs, k, ?_, (hs _ hm).2, (hs _ hm).1, ?_⟩ (h.perm hs l fun j hj => hl j (.tail _ hj))
    · show vs.getD i Value.none = _
      rw [List.getD_eq_getElem?_getD, List.getElem?_eq_getElem hiv, Option.getD_some, e]
    · show IntsAre xs (ps.getD i [])
      rw [List.getD_eq_getElem?_getD, hp, Option.getD_some]; exact hx
/-- two rows by their places -/
def rowLt (rows : List (List Int)) (i j : Nat) : Bool := lexLt (rows.getD i []) (rows.getD j [])
def permOf (rows : List (List Int)) : Option (Array Nat) := runT rows.length (rowLt rows) (kas_sort rows.length)
theorem orders_spec : ∀ (w : World) (mean : ExcName → Option Value) (mg mb : Str → Option Value) (A : Around) (s : Shared) (Q E : Value → Shared → Prop) (one other leaf : Int) (n : Nat) (t1 t2 t3 t4 : Tok) (p : Array Nat),
    Grd w mean mg mb s.heap → Low A 350 3000 → n ≤ 10 → permOf (rowsF one other leaf n n) = some p → 2 ≤ (rowsF one other leaf n n).length → (rowsF one other leaf n n).length < 64 → (∀ i ∈ p.toList, i < (rowsF one other leaf n n).length) →
    (∀ h' tk' r vs k rn, Keeps s.heap h' → (∀ q ∈ rn, h'.get? q.1 = some q.2 ∧ s.heap.get? q.1 = none) → (r, W.listOf (List.toArray vs) k) ∈ rn → RowsIn r rn vs (p.toList.map fun i => (rowsF one other leaf n n).getD i []) → Q (.ref r) { s with heap := h', toks := tk' }) →
    wpAny (MM w) A (call (.ref 97) [.int one t1, .int other t2, .int leaf t3, .int n t4]) Q E s := by
  intro w mean mg mb A s Q E one other leaf n t1 t2 t3 t4 p G lo hn hrun hR2 hR64 hpl hq
  refine lo.wp ?_
  have X := G.X
  have T := G.T
  refine' enterC [(Str.ofString "one", .int one t1), (Str.ofString "other", .int other t2), (Str.ofString "leaf", .int leaf t3), (Str.ofString "size", .int n t4)] X T ?k6 ?k7 (by decide) ?k9 ?kB ?kD ?c2 ?c3 ?c4 ?_
  case k6 => k_is
  case k7 => k_is
  case k9 => exact BindsTo.of_eq rfl
  case kB => exact rfl
  case kD => decide +kernel
  case c2 => exact rfl
  case c3 => exact rfl
  case c4 => exact rfl
  intro L h₁ tk cells F N Y
  k_cells Y
  (try simp only [List.cons_append, List.nil_append] at N)
  try dsimp only
  k_steps
  (rename IsRange _ _ _ _ _ _ _ _ => hr)
  (rename Fr _ _ _ _ => F1)
  (rename News _ _ _ _ => N1)
  rename_i oc hcell O _ _ _ _ _ _ _ _ _ _ _
  refine ⟨iter_rangeL (fun i m news => m (Str.ofString "one") = some (.int one t1) ∧ m (Str.ofString "other") = some (.int other t2) ∧ m (Str.ofString "size") = some (.int n t4) ∧ m (Str.ofString "orders") = some (.ref O) ∧ (L + 1, oc) ∈ news ∧
    ∃ vs k, (O, W.listOf (List.toArray vs) k) ∈ news ∧ RowsIn O news vs (rowsF one other leaf n i) ∧ vs.length ≤ 10 * i) rfl hr (by omega) (by omega) (by omega) F1 N1 ⟨rfl, rfl, rfl, rfl, .tail _ (.head _), [], 0, .head _, .nil, Nat.zero_le _⟩ ?_ ?_⟩
  · intro i t m₁ news₁ h tk2 own hlt hJ hoff hsz hown F2 N2
    obtain ⟨h1, h2, h3, h4, hcm, vs, k, hOm, hrows, hvl⟩ := hJ
    rw [mapName h1, mapName h2, mapName h3, mapName h4] at F2
    clear F1 N1
    k_steps
    (rename IsRange _ _ _ _ _ _ _ _ => hr2)
    (rename Fr _ _ _ _ => F3)
    (rename News _ _ _ _ => N3)
    have hcell2 : oc.data = Data.cell (some (.int leaf t3)) := hcell
    refine ⟨iter_rangeL (fun j m news => m (Str.ofString "one") = some (.int one t1) ∧ m (Str.ofString "other") = some (.int other t2) ∧ m (Str.ofString "size") = some (.int n t4) ∧ m (Str.ofString "orders") = some (.ref O) ∧ m (Str.ofString "i") = some (.int (0 + (i : Int)) t) ∧
      ∃ news', news = own ++ news' ∧ (∀ p ∈ news', p.1 ≠ _) ∧ (L + 1, oc) ∈ news' ∧ ∃ vs k, (O, W.listOf (List.toArray vs) k) ∈ news' ∧ RowsIn O news' vs (rowsF one other leaf n i ++ rowsAt one other leaf n i j) ∧ vs.length ≤ 10 * i + j) rfl hr2 (by omega) (by omega) (by omega) F3 N3
      ⟨rfl, rfl, rfl, rfl, rfl, news₁, rfl, hoff, hcm, vs, k, hOm, by show RowsIn O news₁ vs (_ ++ []); rw [List.append_nil]; exact hrows, by omega⟩ ?_ ?_⟩
    · intro j tj m₂ news₂ h2 tk3 own2 hlt2 hJ hoff2 hsz2 hown2 F4 N4
      obtain ⟨g1, g2, g3, g4, g5, news', rfl, hoff', hcm', vs', k', hOm', hrows', hvl'⟩ := hJ
      rw [mapName g1, mapName g2, mapName g3, mapName g4, mapName g5] at F4
      clear F3 N3
      have hOo : (O, W.listOf (List.toArray vs') k') ∈ own2 ++ (own ++ news') := List.mem_append_right _ (List.mem_append_right _ hOm')
      have hco : (L + 1, oc) ∈ own2 ++ (own ++ news') := List.mem_append_right _ (List.mem_append_right _ hcm')
      k_steps
      iterate 2 (
        focus
        (rename Fr _ _ _ _ => F5)
        (rename News _ _ _ _ => N5)
        refine ⟨Assign_ListComp_DCr (h₀ := s.heap) (m := mapOf F5) (pz := fun _ => true) (d := fun _ => PyData.int leaf) (by with_unfolding_all rfl) rfl rfl (by with_unfolding_all rfl) (by decide) (by with_unfolding_all rfl) (by decide) (by with_unfolding_all rfl) (by with_unfolding_all rfl) (by with_unfolding_all rfl) (wpAny_halt ?_) (by intro _; with_unfolding_all rfl)⟩
        k_steps
        (rename IsRange _ _ _ _ _ _ _ _ => hr3)
        (rename Fr _ _ _ _ => F6)
        (rename News _ _ _ _ => N6)
        refine ⟨⟨_, _, _, _, _, _, _, _, n, rfl, hr3, small_of (by omega) (by omega) (by omega) (by omega), by rw [size_of (by omega)]; omega, by rw [sizeLine_eq]; omega, F6, N6, ?_, ?_, ?_⟩⟩
        · intro C a v s₂ m₂ E' _ _ _ _ _ _
          rw [List.forIn_nil]
          exact wpAny_pure ⟨rfl, ⟨s₂.heap, s₂.toks, rfl, fun _ _ e => e⟩⟩
        · intro C a v s₂ m₂ E' hC ha hv _ hns hmx kk
          k_steps
          · exact Carried.int _ _
          · exact ⟨_, _, rfl, fun _ _ e => e⟩
        · intro D ys h' tk4 F7 N7 hD hlD hplD hys
          obtain ⟨⟨kD, hDo⟩, hDn⟩ := hplD
          have hint : IntsAre ys (List.replicate n leaf) := by
            have := CarriedAll.intsOf (f := fun _ => leaf) hys
            rw [List.filter_eq_self.mpr (fun _ _ => rfl), List.map_const'] at this
            simpa [rangeInts] using this
          have N8 := newsHere F7 N7 hD hDo (by simp)
          clear F6 N6 N7
          k_steps
          have hyl : ys.length = n := by have := hint.length; rw [List.length_replicate] at this; exact this
          have zD := N8 _ (.head _)
          refine ⟨setItem_at zD.1 (by omega) (by omega) (by omega) ?_⟩
          intro hA kA oA
          have F8 := frBut F7 kA zD.2.1 zD.2.2
          have N9 := newsHead N8 kA oA hDn
          clear F7 N8 kA oA
          k_steps
          have zD2 := N9 _ (.head _)
          refine ⟨setItem_at zD2.1 (by omega) (by rw [List.length_set]; omega) (by rw [List.length_set]; omega) ?_⟩
          intro hB kB oB
          have F9 := frBut F8 kB zD2.2.1 zD2.2.2
          have N10 := newsHead N9 kB oB hDn
          clear F8 N9 kB oB
          k_steps
          have zO := N10 _ (.tail _ hOo)
          refine ⟨method_at zO.1 PySem.F.slot_list_append PySem.F.type_list_append ?_⟩
          k_steps
          refine ⟨append_at zO.1 (by omega) ?_⟩
          intro h'' kk ho
          have F10 := frBut F9 kk zO.2.1 zO.2.2
          clear F9
          k_steps
          have hOL : O ≠ L + 1 := by (rename L + 1 < O => l1); exact Nat.ne_of_gt l1
          obtain ⟨oI, hoI⟩ := hsz
          obtain ⟨oI2, hoI2⟩ := hsz2
          have hPown : ∀ p ∈ own2 ++ own, p.1 ≠ O := fun p hp e => by
            rcases List.mem_append.mp hp with q | q
            · exact hoff2 _ (List.mem_append_right _ hOm') (e.symm.trans (hown2 p q))
            · exact hoff' _ hOm' (e.symm.trans (hown p q))
          have NN := closeTurnNe (own := own2 ++ own) (news₁ := news') (by rw [List.append_assoc]; exact N10) hOm' kk ho hPown (by rw [List.append_assoc]; exact hDn)
          rw [List.append_assoc] at NN
          have hc : i < j ∨ (j < i ∧ one ≠ other) := by first | (left; omega) | exact Or.inr ⟨by omega, by assumption⟩
          refine LEnd.intro F10 NN ?_ ⟨rfl, rfl, rfl, rfl, rfl, _, rfl, ?_, List.mem_cons_of_mem _ (mem_setL hcm' hOL.symm), _, _, List.mem_cons_of_mem _ (mem_setL_self hOm'), ?_, ?_⟩
          · intro p hp
            rcases List.mem_append.mp hp with q | q
            · exact hoff2 _ (List.mem_append_left _ q)
            · rcases List.mem_cons.mp q with rfl | q
              · exact (hDn _ (List.mem_append_left _ hoI2)).symm
              · exact off_setL (fun p hp => hoff2 _ (List.mem_append_right _ hp)) p q
          · intro p hp
            rcases List.mem_cons.mp hp with rfl | hp
            · exact (hDn _ (List.mem_append_right _ (List.mem_append_left _ hoI))).symm
            · exact off_setL hoff' p hp
          · rw [rowsAt_yes hc, ← List.append_assoc]
            refine RowsIn.snoc ⟨D, _, _, rfl, (hDn _ hOo).symm, .head _, ?_⟩ (hrows'.mono fun a o hne hm => List.mem_cons_of_mem _ (mem_setL hm hne))
            have e1 : (0 + (i : Int)).toNat = i := by omega
            have e2 : (0 + (j : Int)).toNat = j := by omega
            rw [e1, e2]
            exact ints_set j (ints_set i hint)
          · rw [List.length_append, List.length_singleton]
            omega)
      all_goals (
        rename Fr _ _ _ _ => F5
        rename News _ _ _ _ => N5
        have hc : ¬ (i < j ∨ (j < i ∧ one ≠ other)) := by
          rintro (q | ⟨q1, q2⟩)
          · omega
          · first | omega | exact q2 (by assumption)
        refine LEnd.intro F5 N5 hoff2 ⟨rfl, rfl, rfl, rfl, rfl, news', rfl, hoff', hcm', vs', k', hOm', ?_, ?_⟩
        · rw [rowsAt_no hc]
          exact hrows'
        · omega)
    · intro m₂ news₂ h2 tk3 hJ F4 N4
      obtain ⟨g1, g2, g3, g4, g5, news', rfl, hoff', hcm', vs', k', hOm', hrows', hvl'⟩ := hJ
      rw [mapName g1, mapName g2, mapName g3, mapName g4] at F4
      clear F3 N3
      k_steps
      rename Fr _ _ _ _ => F5
      rename News _ _ _ _ => N5
      have en : ((n : Int) - 0).toNat = n := by omega
      rw [en] at hrows' hvl'
      refine LEnd.intro F5 N5 hoff' ⟨rfl, rfl, rfl, rfl, hcm', vs', k', hOm', ?_, ?_⟩
      · rw [rowsF_succ]
        exact hrows'
      · omega
  · intro m₁ news₁ h tk2 hJ F2 N2
    obtain ⟨h1, h2, h3, h4, hcm, vs, k, hOm, hrows, hvl⟩ := hJ
    rw [mapName h4] at F2
    clear F1 N1
    k_steps
    have en : ((n : Int) - 0).toNat = n := by omega
    rw [en] at hrows
    have evl := hrows.length
    have zO := N2 _ hOm
    refine ⟨kas_sorted (T := .type "list") F2 N2 (vs := vs) ⟨_, zO.1, rfl, _, rfl⟩ (by omega) (by omega) ?_ rfl ?_⟩
    · intro h' F' N' v hv
      obtain ⟨j, hj⟩ := List.getElem?_of_mem hv
      obtain ⟨q, hq, ad, xs, k, rfl, hne, hm, hx⟩ := hrows.get hj
      exact (show Looks _ h' (typeOf (.ref ad)) (W.listOf xs.toArray k).cls from (Looks.ld (N' _ hm).1).andThen .now)
    intro D e1 h' F3 N3 l1
    rw [evl]
    refine runT_wp ?_ _ p hrun ?_
    · intro i j C hi hj hC
      have hi' : i < vs.length := by omega
      have hj' : j < vs.length := by omega
      obtain ⟨qi, hqi, ai, xi, ki, ei, hni, hmi, hxi⟩ := hrows.get (List.getElem?_eq_getElem hi')
      obtain ⟨qj, hqj, aj, xj, kj, ej, hnj, hmj, hxj⟩ := hrows.get (List.getElem?_eq_getElem hj')
      unfold kas_ask
      rw [List.getD_eq_getElem?_getD, List.getD_eq_getElem?_getD, List.getElem?_eq_getElem hi', List.getElem?_eq_getElem hj', Option.getD_some, Option.getD_some, ei, ej]
      refine keyLt_lists ⟨_, (N3 _ (.tail _ hmi)).1, rfl, _, rfl⟩ ⟨_, (N3 _ (.tail _ hmj)).1, rfl, _, rfl⟩ hxi hxj (Nat.le_of_ble_eq_true rfl) ?_
      unfold rowLt at hC
      rw [List.getD_eq_getElem?_getD, List.getD_eq_getElem?_getD, hqi, hqj, Option.getD_some, Option.getD_some] at hC
      exact hC
    · refine KasFin.intro F3 N3 (UpdF.head fun q hq => Nat.ne_of_lt (l1 q hq)) ?_
      · intro h2 c F4 N4
        k_steps
        refine hq _ _ _ _ c _ F4.keep (fun q hq => ⟨(N4 q hq).1, (N4 q hq).2.2⟩) (.head _) (hrows.perm (fun q hq => ⟨.tail _ hq, Nat.ne_of_lt (l1 q hq)⟩) _ hpl)
end Mine
namespace Mine
local macro_rules | `(tactic| walk_at "call ref cons nil") => `(tactic| refine Halt.out ?_)
local macro_rules | `(tactic| walk_at "call ref cons cons") => `(tactic| refine Halt.out ?_)
local macro_rules | `(tactic| walk_at "pyIter ref") => `(tactic| ((with_reducible show wpAny _ _ (pyIter _) (fun it s₂ => LoopAtV _ _ _ _ _ _ _ _ _ it s₂) _ _); refine Halt.out ?_))
local macro_rules | `(tactic| walk_at "LPost") => `(tactic| (dsimp only [LPost]))
local macro_rules | `(tactic| walk_at "compareOp Eq ref ref") => `(tactic| refine Halt.out ?_)
local macro_rules | `(tactic| walk_at "subscriptTail Name Name ref int") => `(tactic| refine Halt.out ?_)
theorem isnot_same {prog : Program} {w : World} {A : Around} {E : Value → Shared → Prop} {s : Shared} {b : Bool} {Q : Value → Shared → Prop} (h : Q (.bool false) s) : wpAny (model prog w) A (compareOp .IsNot (.bool b) (.bool b)) Q E s :=
  isnot_bool (by have e : (!(b == b)) = false := by simp
                 first | (rw [e]; exact h) | simpa using h)
local macro_rules | `(tactic| walk_at "compareOp IsNot bool bool") => `(tactic| with_reducible refine isnot_same ?_)
local macro_rules | `(tactic| walk_at "execs cons") => `(tactic| (with_reducible refine genToks ?_; intro tk htk))
local macro_rules | `(tactic| walk_at "execs nil") => `(tactic| (with_reducible refine genToks ?_; intro tk htk))
local macro_rules | `(tactic| walk_at "exec For Name Call cons nil") => `(tactic| refine Halt.out ?_)
local macro_rules | `(tactic| walk_at "subscriptTail Name Slice ref ref") => `(tactic| refine Halt.out ?_)
local macro_rules | `(tactic| walk_at "binaryOp Add ref ref") => `(tactic| refine Halt.out ?_)
/-- the last statement of the text -/
def lawStmt : Stmt := PySem.Challenge.pw_rs0099_01.main.body.getLast?.getD default
def lawBody : List Stmt := match lawStmt with | .FunctionDef _ _ body _ _ _ _ _ _ _ => body | _ => []
def lawScope : Scope := match lawStmt with | .FunctionDef _ _ _ _ _ _ scope _ _ _ => scope | _ => default
def lawTail : List Stmt := lawBody.drop 8
def sigF (k : Nat) : Int := if k % 2 = 0 then 1 else -1
theorem sigF_eq (i : Nat) : 1 - 2 * Int.fmod (0 + (i : Int)) 2 = sigF i := by
  unfold sigF
  rw [Int.fmod_eq_emod_of_nonneg _ (by decide)]
  split <;> omega
def rotF (l : List Int) : List Int := l.drop 1 ++ l.take 1
/-- a row is laid behind those that are no greater -/
def insXF (cur : List (List Int)) (x : List Int) : List (List Int) :=
  cur.take (bis (fun k => lexLt x (cur.getD k [])) 100 0 cur.length) ++ x :: cur.drop (bis (fun k => lexLt x (cur.getD k [])) 100 0 cur.length)
def reachF (hv : Int → UInt64) (rows : List (List Int)) : Nat → List (List Int)
  | 0 => []
  | i + 1 => insXF (reachF hv rows i) (sweptF hv (rows.getD i []) (i % 2 == 1))
theorem insXF_length (cur : List (List Int)) (x : List Int) : (insXF cur x).length = cur.length + 1 := by
  unfold insXF
  rw [List.length_append, List.length_cons, List.length_take, List.length_drop]
  omega
theorem reachF_length {hv : Int → UInt64} {rows : List (List Int)} : ∀ i, (reachF hv rows i).length = i
  | 0 => rfl
  | i + 1 => by
    show (insXF _ _).length = _
    rw [insXF_length, reachF_length i]
structure LawOK (n sz : Nat) (hv : Int → UInt64) (rows : List (List Int)) : Prop where
  len : rows.length ≤ 40
  lens : ∀ (k : Nat) (row : List Int), rows[k]? = some row → 1 ≤ row.length ∧ row.length ≤ 20
  pos : ∀ (k : Nat) (row : List Int), rows[k]? = some row → ∀ i, i < row.length → -(n : Int) ≤ posAt row (i + 1) ∧ posAt row (i + 1) < n
  tree : ∀ (k : Nat) (row : List Int), rows[k]? = some row → treeF (sigF k) (sigF k) row = plainF row
  rot : n ≤ sz → ∀ (k : Nat) (row : List Int), rows[k]? = some row → treeF (-sigF k) (-sigF k) (rotF (sweptF hv row (k % 2 == 1))) = treeF (sigF k) (sigF k) row
  reach : reachF hv rows rows.length = rows
theorem RowsIn.take {O : Addr} {news : List (Addr × Obj)} : ∀ (k : Nat) {vs : List Value} {ps : List (List Int)}, RowsIn O news vs ps → RowsIn O news (vs.take k) (ps.take k)
  | 0, _, _, _ => .nil
  | _ + 1, _, _, .nil => .nil
  | k + 1, _, _, .cons q r => .cons q (r.take k)
theorem RowsIn.drop {O : Addr} {news : List (Addr × Obj)} : ∀ (k : Nat) {vs : List Value} {ps : List (List Int)}, RowsIn O news vs ps → RowsIn O news (vs.drop k) (ps.drop k)
  | 0, _, _, h => h
  | _ + 1, _, _, .nil => .nil
  | k + 1, _, _, .cons _ r => r.drop k
theorem RowsIn.append {O : Addr} {news : List (Addr × Obj)} {us : List Value} {qs : List (List Int)} (h : RowsIn O news us qs) : ∀ {vs : List Value} {ps : List (List Int)}, RowsIn O news vs ps → RowsIn O news (vs ++ us) (ps ++ qs)
  | _, _, .nil => h
  | _, _, .cons q r => .cons q (RowsIn.append h r)
theorem RowsIn.ins {O : Addr} {news : List (Addr × Obj)} {v : Value} {p : List Int} (k : Nat) (h : RowIn O news v p) {vs : List Value} {ps : List (List Int)} (r : RowsIn O news vs ps) : RowsIn O news (insAt k v vs) (ps.take k ++ p :: ps.drop k) :=
  RowsIn.append (.cons h (r.drop k)) (r.take k)
theorem newsAdds {h₀ h h' : Heap} {L : Addr} {m : Str → Option Value} {news rn : List (Addr × Obj)} (F : Fr h₀ L h m) (N : News h₀ L h' news) (hr : ∀ q ∈ rn, h'.get? q.1 = some q.2 ∧ h.get? q.1 = none) : News h₀ L h' (rn ++ news) := by
  intro q hq
  rcases List.mem_append.mp hq with hq | hq
  · exact newsAdd F N (hr q hq).2 (hr q hq).1 q (.head _)
  · exact N q hq
theorem hues_at {n sz : Nat} {fs fv : UInt64} {kvs : List (Int × Value)} (h : HuesUp n sz fs fv kvs (n + n)) {z : Int} (h1 : -(n : Int) ≤ z) (h2 : z < n) : ∃ t, valueAt kvs z = some (.float (hueV z sz fs fv) t) := by
  have hk : (z + n).toNat < n + n := by omega
  obtain ⟨t, e⟩ := h.2 (z + n).toNat hk
  have ez : -(n : Int) + ((z + n).toNat : Int) = z := by omega
  rw [ez] at e
  refine ⟨t, ?_⟩
  have hm : (z, Value.float (hueV z sz fs fv) t) ∈ kvs := List.mem_of_getElem? e
  have huniq : ∀ v, (z, v) ∈ kvs → v = Value.float (hueV z sz fs fv) t := by
    intro v hv
    obtain ⟨j, hj⟩ := List.getElem?_of_mem hv
    have hjl : j < n + n := by
      rw [← h.1]
      exact (List.getElem?_eq_some_iff.mp hj).1
    obtain ⟨t', e'⟩ := h.2 j hjl
    rw [hj] at e'
    have e1 := congrArg Prod.fst (Option.some.inj e')
    have ej : j = (z + n).toNat := by
      have e1' : z = -(n : Int) + (j : Int) := e1
      omega
    rw [ej] at hj
    rw [hj] at e
    exact congrArg Prod.snd (Option.some.inj e)
  unfold valueAt
  cases hf : kvs.find? (fun kv => kv.1 = z) with
  | none =>
    have := List.find?_eq_none.mp hf _ hm
    simp at this
  | some kv =>
    have h3 := List.find?_some hf
    have h4 := List.mem_of_find?_eq_some hf
    have h5 : kv.1 = z := by simpa using h3
    obtain ⟨k1, v1⟩ := kv
    simp only at h5
    subst h5
    show some v1 = _
    rw [huniq v1 h4]
theorem sweptF_length {hv : Int → UInt64} {ns : List Int} {bw : Bool} : (sweptF hv ns bw).length = ns.length := by
  cases bw with
  | false =>
    show (((placesF hv ns).foldl insRF []).reverse.map _).length = _
    rw [List.length_map, List.length_reverse, fold_length insRF_length, placesF_length, List.length_nil, Nat.zero_add]
  | true =>
    show (((placesF hv ns).reverse.foldl insLF []).reverse.map _).length = _
    rw [List.length_map, List.length_reverse, fold_length insLF_length, List.length_reverse, placesF_length, List.length_nil, Nat.zero_add]
theorem pick_tail (l : List Value) : kms_pick l (some 1) none = l.drop 1 := by
  cases l with
  | nil => rfl
  | cons a r =>
    unfold kms_pick kms_lo kms_hi
    simp
theorem pick_head (l : List Value) : kms_pick l none (some 1) = l.take 1 := by
  cases l with
  | nil => rfl
  | cons a r =>
    have e : kms_hi (some 1) (a :: r).length = 1 := by
      show (if (1 : Int) < 0 then (a :: r).length - (-(1 : Int)).toNat else min (1 : Int).toNat (a :: r).length) = 1
      rw [if_neg (by decide), List.length_cons]
      omega
    show ((a :: r).drop 0).take (kms_hi (some 1) (a :: r).length - 0) = _
    rw [e]
    rfl
theorem ints_take : ∀ (k : Nat) {vs : List Value} {ns : List Int}, IntsAre vs ns → IntsAre (vs.take k) (ns.take k)
  | 0, _, _, _ => .nil
  | _ + 1, _, _, .nil => .nil
  | k + 1, _, _, .cons _ _ r => .cons _ _ (ints_take k r)
theorem ints_drop : ∀ (k : Nat) {vs : List Value} {ns : List Int}, IntsAre vs ns → IntsAre (vs.drop k) (ns.drop k)
  | 0, _, _, h => h
  | _ + 1, _, _, .nil => .nil
  | k + 1, _, _, .cons _ _ r => ints_drop k r
theorem ints_append {us : List Value} {ms : List Int} (h : IntsAre us ms) : ∀ {vs : List Value} {ns : List Int}, IntsAre vs ns → IntsAre (vs ++ us) (ns ++ ms)
  | _, _, .nil => h
  | _, _, .cons _ _ r => .cons _ _ (ints_append h r)
theorem all_true (n : Nat) : ((List.range n).all fun _ => true) = true := by rw [List.all_eq_true]; intro _ _; rfl
theorem eq_ints {A : Around} {s : Shared} {a b : Addr} {xs ys : List Value} {ns : List Int} (ha : s.heap.IsList a xs.toArray) (hb : s.heap.IsList b ys.toArray) (hi : IntsAre xs ns) (hj : IntsAre ys ns) (hu : A.units < cLine) : SeqAt.EqAt A s (.ref a) (.ref b) true := by
  by_cases q : a = b
  · subst q
    exact SeqAt.EqAt.same _
  · have e1 := hi.length
    have e2 := hj.length
    have := SeqAt.RcAt.lists (A := A) (e := fun _ => true) ha hb (by rw [List.size_toArray, List.size_toArray]; omega) hu (fun j h1 h2 => ?_)
    · rw [all_true] at this
      exact SeqAt.EqAt.of_refs q this
    · rw [List.size_toArray] at h1 h2
      have hjn : j < ns.length := by omega
      obtain ⟨t, et⟩ := hi.get j ns[j] (List.getElem?_eq_getElem hjn)
      obtain ⟨u, eu⟩ := hj.get j ns[j] (List.getElem?_eq_getElem hjn)
      have x1 : xs.toArray[j] = .int ns[j] t := by
        rw [List.getElem_toArray]
        exact Option.some.inj ((List.getElem?_eq_getElem h1).symm.trans et)
      have x2 : ys.toArray[j] = .int ns[j] u := by
        rw [List.getElem_toArray]
        exact Option.some.inj ((List.getElem?_eq_getElem h2).symm.trans eu)
      rw [x1, x2]
      have := SeqAt.EqAt.int_int (A := A.in1) (s := s) ns[j] t ns[j] u
      rw [beq_self_eq_true] at this
      exact this
theorem law_tail : ∀ (w : World) (mean : ExcName → Option Value) (mg mb : Str → Option Value) (A : Around) (s : Shared) (Q : Flow → Shared → Prop) (h₀ : Heap) (L fa : Addr) (cdv : Value) (m : Str → Option Value) (news : List (Addr × Obj)) (one other leaf : Int) (n sz : Nat) (fs fv : UInt64) (t1 t2 t3 t4 t5 t6 t7 : Tok) (p : Array Nat),
    Grd w mean mg mb h₀ → Low A 310 1000 → Fr h₀ L s.heap m → News h₀ L s.heap news →
    m (Str.ofString "one") = some (.int one t1) → m (Str.ofString "other") = some (.int other t2) → m (Str.ofString "leaf") = some (.int leaf t3) → m (Str.ofString "leaves") = some (.int n t4) → m (Str.ofString "size") = some (.int sz t5) →
    m (Str.ofString "share") = some (.float fs t6) → m (Str.ofString "level") = some (.float fv t7) →
    1 ≤ n → n ≤ 8 → 1 ≤ sz → sz ≤ 16 → (∀ z : Int, -(n : Int) ≤ z → z < n → Paints sz fs fv z) →
    permOf (rowsF one other leaf (n + 2) (n + 2)) = some p → 2 ≤ (rowsF one other leaf (n + 2) (n + 2)).length → (rowsF one other leaf (n + 2) (n + 2)).length < 64 → (∀ i ∈ p.toList, i < (rowsF one other leaf (n + 2) (n + 2)).length) →
    LawOK n sz (fun z => hueV z sz fs fv) (p.toList.map fun i => (rowsF one other leaf (n + 2) (n + 2)).getD i []) →
    (∀ h' tk' m', Fr h₀ L h' m' → Q (.ret (.bool true)) { s with heap := h', toks := tk' }) →
    wpAny (MM w) A (execs lawTail (envOf (Str.ofString "law") lawScope L fa cdv)) Q (fun _ _ => False) s := by
  intro w mean mg mb A s Q h₀ L fa cdv m news one other leaf n sz fs fv t1 t2 t3 t4 t5 t6 t7 p G lo F N m1 m2 m3 m4 m5 m6 m7 hn1 hn8 hs1 hs2 hP hrun hR2 hR64 hpl hOK hq
  refine lo.wp ?_
  have X := G.X
  have T := G.T
  rw [mapName m1, mapName m2, mapName m3, mapName m4, mapName m5, mapName m6, mapName m7] at F
  change wpAny _ _ (execs (_ :: _) _) _ _ _
  k_steps
  (rename Fr _ _ _ _ => F1)
  (rename News _ _ _ _ => N1)
  refine ⟨wheel_spec w mean mg mb _ _ _ _ n sz fs fv _ _ _ _ (G.keeps F1.keep) ⟨rfl, Nat.le_of_ble_eq_true rfl, Nat.le_of_ble_eq_true rfl⟩ (by omega) hs1 hs2 hP ?_⟩
  intro h1 tk1 H kvs k1 hHn hHsys hHd hues
  obtain ⟨oH, hoH, hH⟩ := Heap.dictOf_iff.mp hHd
  have N2 := newsAdd F1 (N1.grown k1) hHn hoH
  have F2 := F1.kept k1
  clear F1 N1 k1
  k_steps
  (rename Fr _ _ _ _ => F3)
  (rename News _ _ _ _ => N3)
  rename_i D0 _ o0 lo0 _ _ hi0 _ _
  have hkl := hues.1
  refine ⟨keq_eq (knd := intKind PySem.Challenge.rw_rs0099_01.row.prog w) (ka := kvs) (kb := []) (r := false) hHsys lo0 (Heap.dictOf_iff.mpr ⟨oH, (N3 _ (.tail _ (.head _))).1, hH⟩) (Heap.dictOf_iff.mpr ⟨o0, (N3 _ (.head _)).1, hi0⟩) (Nat.le_of_ble_eq_true rfl) (fun e => absurd e (by rw [hkl, List.length_nil]; omega)) ?_⟩
  rw [Bool.and_false]
  k_steps
  (rename Fr _ _ _ _ => F4)
  (rename News _ _ _ _ => N4)
  have en2 : ((n : Int) + 2) = ((n + 2 : Nat) : Int) := by omega
  rw [en2]
  refine ⟨orders_spec w mean mg mb _ _ _ _ one other leaf (n + 2) _ _ _ _ p (G.keeps F4.keep) ⟨rfl, Nat.le_of_ble_eq_true rfl, Nat.le_of_ble_eq_true rfl⟩ (by omega) hrun hR2 hR64 hpl ?_⟩
  intro h2 tk2 O ovs ok rn k2 hrn hOm hrows
  have N5 := newsAdds F4 (N4.grown k2) hrn
  have F5 := F4.kept k2
  clear F4 N4 k2
  have hOo : (O, W.listOf (List.toArray ovs) ok) ∈ rn ++ (D0, o0) :: (H, oH) :: news := List.mem_append_left _ hOm
  have elen := hrows.length
  have hlen := hOK.len
  generalize (p.toList.map fun i => (rowsF one other leaf (n + 2) (n + 2)).getD i []) = rows at hrows hOK elen hlen
  k_steps
  rename_i R _ l1 _ F6' N6' _ _
  refine ⟨For_invV h₀ rfl rfl ?_⟩
  k_steps
  (rename Fr _ _ _ _ => F6)
  (rename News _ _ _ _ => N6)
  refine len_list (show Heap.IsList _ O ovs.toArray from ⟨_, (N6 _ (.tail _ hOo)).1, rfl, _, rfl⟩) (by simp only [List.size_toArray]; omega) ?_
  k_steps
  (rename IsRange _ _ _ _ _ _ _ _ => hr)
  (rename Fr _ _ _ _ => F7)
  (rename News _ _ _ _ => N7)
  have esz : ovs.toArray.size = rows.length := by rw [List.size_toArray]; exact elen
  rw [esz] at hr
  have hHR : H ≠ R := Nat.ne_of_lt (l1 (H, oH) (List.mem_append_right _ (.tail _ (.head _))))
  have hrnR : ∀ q ∈ rn, q.1 ≠ R := fun q hq => Nat.ne_of_lt (l1 q (List.mem_append_left _ hq))
  have hnR : ∀ q ∈ news, q.1 ≠ R := fun q hq => Nat.ne_of_lt (l1 q (List.mem_append_right _ (.tail _ (.tail _ hq))))
  refine ⟨iter_rangeL (fun i m news' => m (Str.ofString "leaves") = some (.int n t4) ∧ m (Str.ofString "size") = some (.int sz t5) ∧ m (Str.ofString "hues") = some (.ref H) ∧ m (Str.ofString "orders") = some (.ref O) ∧ m (Str.ofString "reached") = some (.ref R) ∧
    (H, oH) ∈ news' ∧ (∀ q ∈ rn, q ∈ news') ∧ ∃ rvs k, (R, W.listOf (List.toArray rvs) k) ∈ news' ∧ RowsIn R news' rvs (reachF (fun z => hueV z sz fs fv) rows i)) rfl hr (by omega) (by omega) (by omega) F7 N7
    ⟨rfl, rfl, rfl, rfl, rfl, ?_, ?_, [], 0, .head _, .nil⟩ ?_ ?_⟩
  · exact .tail _ (List.mem_append_right _ (.tail _ (.head _)))
  · exact fun q hq => .tail _ (List.mem_append_left _ hq)
  · intro i t m₁ news₁ h3 tk3 own hlt hJ hoff hsz hown F8 N8
    obtain ⟨j1, j2, j3, j4, j5, hHm, hrnm, rvs, k, hRm, hrr⟩ := hJ
    rw [mapName j1, mapName j2, mapName j3, mapName j4, mapName j5] at F8
    clear F7 N7
    have hil : i < rows.length := by omega
    have hiv : i < ovs.length := by omega
    obtain ⟨row, hrow, ra, rxs, rk, era, hraO, hram, hrai⟩ := hrows.get (List.getElem?_eq_getElem hiv)
    have eki : (0 + (i : Int)).toNat = i := by omega
    have hsg : sigF i = 1 ∨ sigF i = -1 := by unfold sigF; split; exact Or.inl rfl; exact Or.inr rfl
    k_steps
    (rename Fr _ _ _ _ => F9)
    (rename News _ _ _ _ => N9)
    rw [sigF_eq] at F9
    have zO := N9 _ (List.mem_append_right _ (hrnm _ hOm))
    have zr := N9 _ (List.mem_append_right _ (hrnm _ hram))
    refine ⟨item_listL (show Heap.IsList _ O ovs.toArray from ⟨_, zO.1, rfl, _, rfl⟩) (by omega) (by omega) (x := .ref ra) (by rw [← era, eki]; exact List.getElem?_eq_getElem hiv) ?_⟩
    k_steps
    (rename Fr _ _ _ _ => F10)
    (rename News _ _ _ _ => N10)
    refine ⟨tree_spec w mean mg mb _ _ _ _ ra rxs row (sigF i) _ (G.keeps F10.keep) ⟨rfl, Nat.le_of_ble_eq_true rfl, Nat.le_of_ble_eq_true rfl⟩ ⟨_, zr.1, rfl, _, rfl⟩ hrai hsg ?_⟩
    intro h4 tk4 k4
    replace F10 := F10.kept k4
    replace N10 := N10.grown k4
    clear k4
    k_steps
    (rename Fr _ _ _ _ => F11)
    (rename News _ _ _ _ => N11)
    have zO := N11 _ (List.mem_append_right _ (hrnm _ hOm))
    have zr := N11 _ (List.mem_append_right _ (hrnm _ hram))
    obtain ⟨hrl1, hrl2⟩ := hOK.lens i row hrow
    have htree := hOK.tree i row hrow
    refine ⟨item_listL (show Heap.IsList _ O ovs.toArray from ⟨_, zO.1, rfl, _, rfl⟩) (by omega) (by omega) (x := .ref ra) (by rw [← era, eki]; exact List.getElem?_eq_getElem hiv) ?_⟩
    k_steps
    (rename Fr _ _ _ _ => F12)
    (rename News _ _ _ _ => N12)
    refine ⟨plain_spec w mean mg mb _ _ _ _ ra rxs row (G.keeps F12.keep) ⟨rfl, Nat.le_of_ble_eq_true rfl, Nat.le_of_ble_eq_true rfl⟩ ⟨_, zr.1, rfl, _, rfl⟩ hrai hrl1 (by omega) ?_⟩
    intro h5 tk5 k5
    replace F12 := F12.kept k5
    replace N12 := N12.grown k5
    clear k5
    rw [← htree]
    k_steps
    (rename Fr _ _ _ _ => F13)
    (rename News _ _ _ _ => N13)
    have zO := N13 _ (List.mem_append_right _ (hrnm _ hOm))
    have zr := N13 _ (List.mem_append_right _ (hrnm _ hram))
    have zH := N13 _ (List.mem_append_right _ hHm)
    refine ⟨item_listL (show Heap.IsList _ O ovs.toArray from ⟨_, zO.1, rfl, _, rfl⟩) (by omega) (by omega) (x := .ref ra) (by rw [← era, eki]; exact List.getElem?_eq_getElem hiv) ?_⟩
    k_steps
    (rename Fr _ _ _ _ => F14)
    (rename News _ _ _ _ => N14)
    have ebw : (Int.fmod (0 + (i : Int)) 2 == 1) = (i % 2 == 1) := by
      rw [Int.fmod_eq_emod_of_nonneg _ (by decide), Bool.eq_iff_iff, beq_iff_eq, beq_iff_eq]
      omega
    rw [ebw]
    have hposr := hOK.pos i row hrow
    refine ⟨swept_spec w mean mg mb _ _ _ _ ra H rxs row (i % 2 == 1) (valueAt kvs) (fun z => hueV z sz fs fv) (G.keeps F14.keep) ⟨rfl, Nat.le_of_ble_eq_true rfl, Nat.le_of_ble_eq_true rfl⟩ ⟨_, zr.1, rfl, _, rfl⟩ hrai (by omega) (Heap.dictOf_iff.mpr ⟨oH, zH.1, hH⟩).mapOf (fun j hj => hues_at hues (hposr j hj).1 (hposr j hj).2) ?_⟩
    intro h6 tk6 sw sws swk k6 hswn hswo hswi
    have hswne : ∀ q ∈ own ++ news₁, q.1 ≠ sw := fun q hq e => by
      have z := (N14 q hq).1
      have hswn' := hswn
      rw [← e] at hswn'
      exact nomatch z.symm.trans hswn'
    have hswl : sws.length = row.length := hswi.length.trans sweptF_length
    have N15 := newsAdd F14 (N14.grown k6) hswn hswo
    have F15 := F14.kept k6
    clear F14 N14 k6
    k_steps
    focus
      (rename Fr _ _ _ _ => F16)
      (rename News _ _ _ _ => N16)
      refine ⟨kms_slice_lit F16 N16 (its := sws.toArray) ⟨_, (N16 _ (.head _)).1, rfl, _, rfl⟩ (IsPart.int _ _) .none (pick_tail sws) ?_ (by with_unfolding_all rfl) (by intro _; with_unfolding_all rfl) (by rw [List.size_toArray, sizeLine_eq]; omega)⟩
      intro S1 h7 F17 N17 l7
      clear F16 N16
      k_steps
      (rename Fr _ _ _ _ => F18)
      (rename News _ _ _ _ => N18)
      refine ⟨kms_slice_lit F18 N18 (its := sws.toArray) ⟨_, (N18 _ (.tail _ (.head _))).1, rfl, _, rfl⟩ .none (IsPart.int _ _) (pick_head sws) ?_ (by with_unfolding_all rfl) (by intro _; with_unfolding_all rfl) (by rw [List.size_toArray, sizeLine_eq]; omega)⟩
      intro S2 h8 F19 N19 l8
      clear F18 N18
      k_steps
      (rename Fr _ _ _ _ => F20)
      (rename News _ _ _ _ => N20)
      refine ⟨kmk_add_ints F20 N20 (vs := sws.drop 1) (ws := sws.take 1) ⟨_, (N20 _ (.tail _ (.head _))).1, rfl, _, rfl⟩ ⟨_, (N20 _ (.head _)).1, rfl, _, rfl⟩ (ints_drop 1 hswi) (ints_take 1 hswi) ?_ (by rw [List.length_drop, List.length_take, sweptF_length, sizeLine_eq]; omega)⟩
      intro S3 us h9 F21 N21 l9 hus
      clear F20 N20
      k_steps
      (rename Fr _ _ _ _ => F22)
      (rename News _ _ _ _ => N22)
      refine ⟨tree_spec w mean mg mb _ _ _ _ S3 us (rotF (sweptF (fun z => hueV z sz fs fv) row (i % 2 == 1))) (-(sigF i)) _ (G.keeps F22.keep) ⟨rfl, Nat.le_of_ble_eq_true rfl, Nat.le_of_ble_eq_true rfl⟩ ⟨_, (N22 _ (.head _)).1, rfl, _, rfl⟩ hus (by omega) ?_⟩
      intro h10 tk10 k10
      replace F22 := F22.kept k10
      replace N22 := N22.grown k10
      clear k10
      rw [hOK.rot (by omega) i row hrow]
      k_steps
    all_goals (
      rename Fr _ _ _ _ => F30
      rename News _ _ _ _ => N30
      have NN : News h₀ L _ ((sw, W.listOf sws.toArray swk) :: (own ++ news₁)) := fun q hq => N30 q (by first | exact hq | exact .tail _ (.tail _ (.tail _ hq)))
      have zR := NN _ (.tail _ (List.mem_append_right _ hRm))
      have zs := NN _ (.head _)
      have erl : rvs.length = i := by rw [hrr.length, reachF_length]
      have hswR : sw ≠ R := (hswne _ (List.mem_append_right _ hRm)).symm
      refine ⟨insR_list w mean mg mb _ _ _ _ h₀ R sw rvs k sws (sweptF (fun z => hueV z sz fs fv) row (i % 2 == 1)) (fun k => lexLt (sweptF (fun z => hueV z sz fs fv) row (i % 2 == 1)) ((reachF (fun z => hueV z sz fs fv) rows i).getD k [])) G F30.keep ⟨rfl, Nat.le_of_ble_eq_true rfl, Nat.le_of_ble_eq_true rfl⟩ zR.1 zR.2.2 (by omega) ⟨_, zs.1, rfl, _, rfl⟩ hswi hswR ?_ ?_⟩
      · intro k v hk
        obtain ⟨q, hq, ad, xs, k', rfl, hne, hm, hx⟩ := hrr.get hk
        refine ⟨ad, xs.toArray, q, rfl, ⟨_, (NN _ (.tail _ (List.mem_append_right _ hm))).1, rfl, _, rfl⟩, hx, ?_⟩
        show lexLt _ ((reachF (fun z => hueV z sz fs fv) rows i).getD k []) = _
        rw [List.getD_eq_getElem?_getD, hq, Option.getD_some]
      intro h11 tk11 n11 kk ho
      have F31 := frBut F30 kk zR.2.1 zR.2.2
      clear F30
      k_steps
      obtain ⟨oI, hoI⟩ := hsz
      have hPown : ∀ p ∈ own, p.1 ≠ R := fun p hp e => hoff _ hRm (e.symm.trans (hown p hp))
      refine LEnd.intro F31 (closeTurnNe NN hRm kk ho hPown hswne) ?_ ⟨rfl, rfl, rfl, rfl, rfl, .tail _ (mem_setL hHm hHR), fun q hq => .tail _ (mem_setL (a := q.1) (o := q.2) (hrnm q hq) (hrnR q hq)), _, _, .tail _ (mem_setL_self hRm), ?_⟩
      · intro p hp
        rcases List.mem_cons.mp hp with rfl | hp
        · exact (hswne _ (List.mem_append_left _ hoI)).symm
        · exact off_setL hoff p hp
      · have erow : rows.getD i [] = row := by rw [List.getD_eq_getElem?_getD, hrow, Option.getD_some]
        show RowsIn R _ _ (insXF (reachF (fun z => hueV z sz fs fv) rows i) (sweptF (fun z => hueV z sz fs fv) (rows.getD i []) (i % 2 == 1)))
        rw [erow, hrr.length]
        exact RowsIn.ins _ ⟨sw, sws, swk, rfl, hswR, .head _, hswi⟩ (hrr.mono fun a o hne hm => .tail _ (mem_setL hm hne)))
  · intro m₁ news₁ h3 tk3 hJ F8 N8
    obtain ⟨j1, j2, j3, j4, j5, hHm, hrnm, rvs, k, hRm, hrr⟩ := hJ
    rw [mapName j4, mapName j5] at F8
    clear F7 N7
    k_steps
    have er : ((rows.length : Nat) : Int) - 0 = rows.length := by omega
    rw [er, Int.toNat_natCast, hOK.reach] at hrr
    have zR := N8 _ hRm
    have zO := N8 _ (hrnm _ hOm)
    have erl := hrr.length
    refine ⟨SeqAt.eq_listAt (e := fun _ => true) (show Heap.IsList _ R rvs.toArray from ⟨_, zR.1, rfl, _, rfl⟩) (show Heap.IsList _ O ovs.toArray from ⟨_, zO.1, rfl, _, rfl⟩) (by rw [List.size_toArray, List.size_toArray]; omega) (Nat.le_of_ble_eq_true rfl) ?_ ?_⟩
    · intro j g1 g2
      rw [List.size_toArray] at g1 g2
      obtain ⟨p1, hp1, a1, x1, k1, q1, ne1, mm1, i1⟩ := hrr.get (List.getElem?_eq_getElem g1)
      obtain ⟨p2, hp2, a2, x2, k2, q2, ne2, mm2, i2⟩ := hrows.get (List.getElem?_eq_getElem g2)
      rw [hp1] at hp2
      cases hp2
      rw [List.getElem_toArray, List.getElem_toArray, q1, q2]
      exact eq_ints ⟨_, (N8 _ mm1).1, rfl, _, rfl⟩ ⟨_, (N8 _ (hrnm _ mm2)).1, rfl, _, rfl⟩ i1 i2 (Nat.le_of_ble_eq_true rfl)
    · rw [all_true]
      exact hq _ _ _ F8
end Mine
namespace Mine
/-- the rank of a place among sixteen -/
def keyF (sz : Nat) (z : Int) : Fin 16 := ⟨(z.fmod sz * (16 / sz : Nat)).toNat % 16, Nat.mod_lt _ (by decide)⟩
def tabF (k : Fin 16) : UInt64 := quotF (k.val : Int) 16
def paintsB (sz : Nat) (fs fv : UInt64) (z : Int) : Bool :=
  !(Float64.cmp fs 0 == some Ordering.eq) && !Float64.isNaN (Float64.mul (hueIn z sz) 4618441417868443648) && !Float64.isInf (Float64.mul (hueIn z sz) 4618441417868443648)
  && decide ((hsvI (hueIn z sz)).natAbs < 1000000) && !(Float64.cmp (mnF z sz fs fv) (mxF z sz fs fv) == some Ordering.eq) && !Float64.isZero (Float64.sub (mxF z sz fs fv) (mnF z sz fs fv))
  && (!hlsLow (mxF z sz fs fv) (mnF z sz fs fv) || !Float64.isZero (Float64.add (mxF z sz fs fv) (mnF z sz fs fv)))
  && !Float64.isInf (quotF (z.fmod sz) sz) && !Float64.isZero (denF fs fv)
  && (Float64.cmp (hueV z sz fs fv) (quotF (z.fmod sz) sz) == some Ordering.eq)
  && (Float64.cmp (hlsL (mxF z sz fs fv) (mnF z sz fs fv)) (lightF fs fv) == some Ordering.eq)
  && (Float64.cmp (hlsS (mxF z sz fs fv) (mnF z sz fs fv)) (Float64.div (Float64.mul fv fs) (denF fs fv)) == some Ordering.eq)
  && (hlsLow (mxF z sz fs fv) (mnF z sz fs fv) || !Float64.isZero (Float64.sub (Float64.sub 4611686018427387904 (mxF z sz fs fv)) (mnF z sz fs fv)))
  && decide (hueV z sz fs fv = tabF (keyF sz z))
def quar (c : Nat) : UInt64 := quotF (1 + (c : Int)) 4
def zs10 : List Int := [-5, -4, -3, -2, -1, 0, 1, 2, 3, 4]
end Mine
namespace Mine
/-! rows of plain signs: 0 is the leaf, s above it is the branch 255 + s -/
def symV (leaf : Int) (s : Nat) : Int := if s = 0 then leaf else 255 + (s : Int)
def rowG (one other n i j : Nat) : List Nat := ((List.replicate n 0).set i one).set j other
def rowsAtG (one other n i j : Nat) : List (List Nat) := (List.range j).filterMap fun k => if i < k ∨ (k < i ∧ one ≠ other) then some (rowG one other n i k) else none
def rowsG (one other n i : Nat) : List (List Nat) := (List.range i).flatMap fun k => rowsAtG one other n k n
def lexG : List Nat → List Nat → Bool
  | [], [] => false
  | [], _ :: _ => true
  | _ :: _, [] => false
  | x :: xs, y :: ys => if x = y then lexG xs ys else decide (x < y)
def rowLtG (rows : List (List Nat)) (i j : Nat) : Bool := lexG (rows.getD i []) (rows.getD j [])
def permG (rows : List (List Nat)) : Option (Array Nat) := runT rows.length (rowLtG rows) (kas_sort rows.length)
def treeG (sign : Int) : Int → List Nat → Bool
  | wanted, [] => wanted == 0
  | wanted, x :: r => if wanted = 0 then false else treeG sign (if 1 ≤ x then wanted + sign * ((x : Int) - 1) else wanted - sign) r
def branches : List Nat → Int
  | [] => 0
  | x :: r => (if 1 ≤ x then (x : Int) - 1 else 0) + branches r
def leavesG : List Nat → Nat
  | [] => 0
  | x :: r => (if 1 ≤ x then 0 else 1) + leavesG r
def plainG (r : List Nat) : Bool := (List.range (r.length - 1)).all fun i => !decide (branches (r.take (1 + i)) < (leavesG (r.take (1 + i)) : Int))
def stepG (a : Int) (x : Nat) : Int := if 1 ≤ x then a + ((x : Int) - 1) else a - 1
def posG (r : List Nat) (i : Nat) : Int := (r.take i).foldl stepG 0
def placesG (key : Int → Fin 16) (r : List Nat) : List (Fin 16 × Nat) := ((List.range r.length).map fun i => key (posG r (i + 1))).zip r
def insRG (cur : List (Fin 16 × Nat)) (x : Fin 16 × Nat) : List (Fin 16 × Nat) :=
  cur.take (bis (fun k => match cur[k]? with | some p => decide (x.1 < p.1) | none => false) 100 0 cur.length) ++ x :: cur.drop (bis (fun k => match cur[k]? with | some p => decide (x.1 < p.1) | none => false) 100 0 cur.length)
def insLG (cur : List (Fin 16 × Nat)) (x : Fin 16 × Nat) : List (Fin 16 × Nat) :=
  cur.take (bis (fun k => match cur[k]? with | some p => !decide (p.1 < x.1) | none => false) 100 0 cur.length) ++ x :: cur.drop (bis (fun k => match cur[k]? with | some p => !decide (p.1 < x.1) | none => false) 100 0 cur.length)
def sweptG (key : Int → Fin 16) (r : List Nat) (bw : Bool) : List Nat :=
  match bw with
  | false => ((placesG key r).foldl insRG []).reverse.map (·.2)
  | true => ((placesG key r).reverse.foldl insLG []).reverse.map (·.2)
def rotG (l : List Nat) : List Nat := l.drop 1 ++ l.take 1
def insXG (cur : List (List Nat)) (x : List Nat) : List (List Nat) :=
  cur.take (bis (fun k => lexG x (cur.getD k [])) 100 0 cur.length) ++ x :: cur.drop (bis (fun k => lexG x (cur.getD k [])) 100 0 cur.length)
def reachG (key : Int → Fin 16) (rows : List (List Nat)) : Nat → List (List Nat)
  | 0 => []
  | i + 1 => insXG (reachG key rows i) (sweptG key (rows.getD i []) (i % 2 == 1))
def okRow (n sz : Nat) (k : Nat) (row : List Nat) : Bool :=
  decide (1 ≤ row.length) && decide (row.length ≤ 20) && ((List.range row.length).all fun i => decide (-(n : Int) ≤ posG row (i + 1)) && decide (posG row (i + 1) < n)) && (treeG (sigF k) (sigF k) row == plainG row)
  && (!decide (n ≤ sz) || (treeG (-sigF k) (-sigF k) (rotG (sweptG (keyF sz) row (k % 2 == 1))) == treeG (sigF k) (sigF k) row))
def okAll (n sz : Nat) (rows : List (List Nat)) : Bool :=
  decide (rows.length ≤ 40) && ((List.range rows.length).all fun k => okRow n sz k (rows.getD k [])) && (reachG (keyF sz) rows rows.length == rows)
def sortedG (rows : List (List Nat)) (p : Array Nat) : List (List Nat) := p.toList.map fun i => rows.getD i []
def okCase (one other sz : Nat) : Bool :=
  match permG (rowsG one other (one + other + 1) (one + other + 1)) with
  | none => false
  | some p => decide (2 ≤ (rowsG one other (one + other + 1) (one + other + 1)).length) && decide ((rowsG one other (one + other + 1) (one + other + 1)).length < 64)
    && (p.toList.all fun i => decide (i < (rowsG one other (one + other + 1) (one + other + 1)).length)) && okAll (one + other - 1) sz (sortedG (rowsG one other (one + other + 1) (one + other + 1)) p)
end Mine
namespace Mine
section
variable {leaf : Int}
theorem symV_zero : symV leaf 0 = leaf := rfl
theorem symV_lt (h : leaf ≤ 255) {a b : Nat} : symV leaf a < symV leaf b ↔ (a < b) := by
  unfold symV
  split <;> split <;> omega
theorem symV_eq (h : leaf ≤ 255) {a b : Nat} : symV leaf a = symV leaf b ↔ a = b := by
  unfold symV
  split <;> split <;> omega
theorem symV_ge (h : leaf ≤ 255) {a : Nat} : 256 ≤ symV leaf a ↔ 1 ≤ a := by
  unfold symV
  split <;> omega
theorem symV_low (h : leaf ≤ 255) {a : Nat} : symV leaf a < 256 ↔ ¬ 1 ≤ a := by
  unfold symV
  split <;> omega
theorem symV_val {a : Nat} (h : 1 ≤ a) : symV leaf a = 255 + (a : Int) := by
  unfold symV
  rw [if_neg (by omega)]
theorem rowF_map (one other n i j : Nat) : rowF (symV leaf one) (symV leaf other) leaf n i j = (rowG one other n i j).map (symV leaf) := by
  unfold rowF rowG
  rw [List.map_set, List.map_set, List.map_replicate, symV_zero]
theorem rowsAt_map (h : leaf ≤ 255) (one other n i j : Nat) : rowsAt (symV leaf one) (symV leaf other) leaf n i j = (rowsAtG one other n i j).map (List.map (symV leaf)) := by
  unfold rowsAt rowsAtG
  rw [List.map_filterMap]
  congr 1
  funext k
  have e : (symV leaf one ≠ symV leaf other) ↔ (one ≠ other) := not_congr (symV_eq h)
  by_cases q : i < k ∨ (k < i ∧ one ≠ other)
  · rw [if_pos q, if_pos (q.imp id fun z => ⟨z.1, e.mpr z.2⟩), rowF_map]
    rfl
  · rw [if_neg q, if_neg (fun z => q (z.imp id fun y => ⟨y.1, e.mp y.2⟩))]
    rfl
theorem rowsF_map (h : leaf ≤ 255) (one other n i : Nat) : rowsF (symV leaf one) (symV leaf other) leaf n i = (rowsG one other n i).map (List.map (symV leaf)) := by
  unfold rowsF rowsG
  rw [List.map_flatMap]
  congr 1
  funext k
  exact rowsAt_map h one other n k n
theorem lexLt_map (h : leaf ≤ 255) : ∀ a b : List Nat, lexLt (a.map (symV leaf)) (b.map (symV leaf)) = lexG a b
  | [], [] => rfl
  | [], _ :: _ => rfl
  | _ :: _, [] => rfl
  | x :: xs, y :: ys => by
    show (if symV leaf x = symV leaf y then lexLt (xs.map (symV leaf)) (ys.map (symV leaf)) else decide (symV leaf x < symV leaf y)) = (if x = y then lexG xs ys else decide (x < y))
    rw [lexLt_map h xs ys]
    by_cases q : x = y
    · rw [if_pos q, if_pos ((symV_eq h).mpr q)]
    · rw [if_neg q, if_neg (fun z => q ((symV_eq h).mp z))]
      exact decide_eq_decide.mpr (symV_lt h)
theorem getD_mapV {α β : Type} (f : List α → List β) (hf : f [] = []) (rows : List (List α)) (i : Nat) : (rows.map f).getD i [] = f (rows.getD i []) := by
  rw [List.getD_eq_getElem?_getD, List.getD_eq_getElem?_getD, List.getElem?_map]
  cases rows[i]? with
  | none => exact hf.symm
  | some r => rfl
theorem permOf_map (h : leaf ≤ 255) (rows : List (List Nat)) : permOf (rows.map (List.map (symV leaf))) = permG rows := by
  have e : rowLt (rows.map (List.map (symV leaf))) = rowLtG rows := by
    funext i j
    unfold rowLt rowLtG
    rw [getD_mapV _ rfl, getD_mapV _ rfl, lexLt_map h]
  unfold permOf permG
  rw [e, List.length_map]
theorem treeF_map (h : leaf ≤ 255) (sg : Int) : ∀ (r : List Nat) (a : Int), treeF sg a (r.map (symV leaf)) = treeG sg a r
  | [], _ => rfl
  | x :: r, a => by
    show (if a = 0 then false else treeF sg (if 256 ≤ symV leaf x then a + sg * (symV leaf x - 256) else a - sg) (r.map (symV leaf))) = (if a = 0 then false else treeG sg (if 1 ≤ x then a + sg * ((x : Int) - 1) else a - sg) r)
    have e : (if 256 ≤ symV leaf x then a + sg * (symV leaf x - 256) else a - sg) = (if 1 ≤ x then a + sg * ((x : Int) - 1) else a - sg) := by
      by_cases q : 1 ≤ x
      · rw [if_pos q, if_pos ((symV_ge h).mpr q), symV_val q]
        congr 2
        omega
      · rw [if_neg q, if_neg (fun z => q ((symV_ge h).mp z))]
    rw [e, treeF_map h sg r]
theorem branches_map (h : leaf ≤ 255) : ∀ r : List Nat, (List.map (fun a => a - 256) (List.filter (fun a => decide (256 ≤ a)) (r.map (symV leaf)))).sum = branches r
  | [] => rfl
  | x :: r => by
    rw [List.map_cons, List.filter_cons]
    show _ = (if 1 ≤ x then (x : Int) - 1 else 0) + branches r
    by_cases q : 1 ≤ x
    · rw [if_pos q, if_pos (decide_eq_true ((symV_ge h).mpr q)), List.map_cons, List.sum_cons, branches_map h r, symV_val q]
      omega
    · rw [if_neg q, if_neg (fun z => q ((symV_ge h).mp (of_decide_eq_true z))), branches_map h r]
      omega
theorem leavesG_map (h : leaf ≤ 255) : ∀ r : List Nat, (List.filter (fun a' => decide (a' < 256)) (r.map (symV leaf))).length = leavesG r
  | [] => rfl
  | x :: r => by
    rw [List.map_cons, List.filter_cons]
    show _ = (if 1 ≤ x then 0 else 1) + leavesG r
    by_cases q : 1 ≤ x
    · rw [if_pos q, if_neg (fun z => (symV_low h).mp (of_decide_eq_true z) q), leavesG_map h r]
      omega
    · rw [if_neg q, if_pos (decide_eq_true ((symV_low h).mpr q)), List.length_cons, leavesG_map h r]
      omega
theorem plainF_map (h : leaf ≤ 255) (r : List Nat) : plainF (r.map (symV leaf)) = plainG r := by
  unfold plainF plainG
  rw [List.length_map]
  congr 1
  funext i
  unfold plainBad
  rw [← List.map_take, branches_map h, leavesG_map h]
theorem posAt_map (h : leaf ≤ 255) (r : List Nat) (i : Nat) : posAt (r.map (symV leaf)) i = posG r i := by
  unfold posAt posG
  rw [← List.map_take, List.foldl_map]
  congr 1
  funext a x
  unfold stepG
  by_cases q : 1 ≤ x
  · rw [if_pos q, if_neg (fun z => (symV_low h).mp z q), symV_val q]
    omega
  · rw [if_neg q, if_pos ((symV_low h).mpr q)]
def pairV (leaf : Int) (p : Fin 16 × Nat) : UInt64 × Int := (tabF p.1, symV leaf p.2)
theorem zip_mapV : ∀ (ks : List (Fin 16)) (r : List Nat), (ks.map tabF).zip (r.map (symV leaf)) = (ks.zip r).map (pairV leaf)
  | [], _ => rfl
  | _ :: _, [] => rfl
  | k :: ks, x :: r => by
    rw [List.map_cons, List.map_cons, List.zip_cons_cons, List.zip_cons_cons, List.map_cons, zip_mapV ks r]
    rfl
theorem placesF_map (h : leaf ≤ 255) {hv : Int → UInt64} {key : Int → Fin 16} (r : List Nat) (hk : ∀ i, i < r.length → hv (posG r (i + 1)) = tabF (key (posG r (i + 1)))) : placesF hv (r.map (symV leaf)) = (placesG key r).map (pairV leaf) := by
  unfold placesF placesG
  rw [← zip_mapV, List.map_map, List.length_map]
  congr 1
  refine List.map_congr_left fun i hi => ?_
  rw [posAt_map h]
  exact hk i (List.mem_range.mp hi)
def insC {α : Type} (c : Nat → Bool) (cur : List α) (x : α) : List α := cur.take (bis c 100 0 cur.length) ++ x :: cur.drop (bis c 100 0 cur.length)
def askC {α : Type} (f : α → Bool) (cur : List α) (k : Nat) : Bool := match cur[k]? with | some p => f p | none => false
theorem askC_map {α β : Type} {F : α → β} {f : α → Bool} {g : β → Bool} (h : ∀ p, g (F p) = f p) (cur : List α) : askC g (cur.map F) = askC f cur := by
  funext k
  unfold askC
  rw [List.getElem?_map]
  cases cur[k]? with
  | none => rfl
  | some p => exact h p
theorem insC_map {α β : Type} {F : α → β} {c c' : Nat → Bool} (h : c' = c) (cur : List α) (x : α) : insC c' (cur.map F) (F x) = (insC c cur x).map F := by
  subst h
  unfold insC
  rw [List.length_map, ← List.map_take, ← List.map_drop, List.map_append, List.map_cons]
set_option smartUnfolding false in
theorem insRF_is (cur : List (UInt64 × Int)) (x : UInt64 × Int) : insRF cur x = insC (askC (fun p => Float64.cmp x.1 p.1 == some Ordering.lt) cur) cur x := rfl
set_option smartUnfolding false in
theorem insLF_is (cur : List (UInt64 × Int)) (x : UInt64 × Int) : insLF cur x = insC (askC (fun p => !(Float64.cmp p.1 x.1 == some Ordering.lt)) cur) cur x := rfl
set_option smartUnfolding false in
theorem insRG_is (cur : List (Fin 16 × Nat)) (x : Fin 16 × Nat) : insRG cur x = insC (askC (fun p => decide (x.1 < p.1)) cur) cur x := rfl
set_option smartUnfolding false in
theorem insLG_is (cur : List (Fin 16 × Nat)) (x : Fin 16 × Nat) : insLG cur x = insC (askC (fun p => !decide (p.1 < x.1)) cur) cur x := rfl
theorem insRF_map (hT : ∀ a b : Fin 16, (Float64.cmp (tabF a) (tabF b) == some Ordering.lt) = decide (a < b)) (cur : List (Fin 16 × Nat)) (x : Fin 16 × Nat) : insRF (cur.map (pairV leaf)) (pairV leaf x) = (insRG cur x).map (pairV leaf) := by
  rw [insRF_is, insRG_is]
  exact insC_map (askC_map (fun p => hT x.1 p.1) cur) cur x
theorem insLF_map (hT : ∀ a b : Fin 16, (Float64.cmp (tabF a) (tabF b) == some Ordering.lt) = decide (a < b)) (cur : List (Fin 16 × Nat)) (x : Fin 16 × Nat) : insLF (cur.map (pairV leaf)) (pairV leaf x) = (insLG cur x).map (pairV leaf) := by
  rw [insLF_is, insLG_is]
  exact insC_map (askC_map (f := fun (p : Fin 16 × Nat) => !decide (p.1 < x.1)) (g := fun (p : UInt64 × Int) => !(Float64.cmp p.1 (pairV leaf x).1 == some Ordering.lt)) (fun p => congrArg not (hT p.1 x.1)) cur) cur x
theorem fold_map {α β : Type} {f : α → β} {g : List α → α → List α} {g' : List β → β → List β} (hg : ∀ c x, g' (c.map f) (f x) = (g c x).map f) : ∀ (l c : List α), (l.map f).foldl g' (c.map f) = (l.foldl g c).map f
  | [], _ => rfl
  | x :: l, c => by rw [List.map_cons, List.foldl_cons, List.foldl_cons, hg, fold_map hg l]
theorem seconds_map (l : List (Fin 16 × Nat)) : (l.map (pairV leaf)).reverse.map (·.2) = (l.reverse.map (·.2)).map (symV leaf) := by
  rw [← List.map_reverse, List.map_map, List.map_map]
  rfl
theorem sweptF_map (h : leaf ≤ 255) (hT : ∀ a b : Fin 16, (Float64.cmp (tabF a) (tabF b) == some Ordering.lt) = decide (a < b)) {hv : Int → UInt64} {key : Int → Fin 16} (r : List Nat) (bw : Bool) (hk : ∀ i, i < r.length → hv (posG r (i + 1)) = tabF (key (posG r (i + 1)))) :
    sweptF hv (r.map (symV leaf)) bw = (sweptG key r bw).map (symV leaf) := by
  cases bw with
  | false =>
    show ((placesF hv (r.map (symV leaf))).foldl insRF []).reverse.map (·.2) = (((placesG key r).foldl insRG []).reverse.map (·.2)).map (symV leaf)
    rw [placesF_map h r hk, ← seconds_map, ← fold_map (insRF_map hT)]
    rfl
  | true =>
    show ((placesF hv (r.map (symV leaf))).reverse.foldl insLF []).reverse.map (·.2) = (((placesG key r).reverse.foldl insLG []).reverse.map (·.2)).map (symV leaf)
    have e : (List.map (pairV leaf) (placesG key r)).reverse = List.map (pairV leaf) (placesG key r).reverse := by rw [List.map_reverse]
    rw [placesF_map h r hk, e, ← seconds_map, ← fold_map (insLF_map hT)]
    rfl
theorem insXF_map (h : leaf ≤ 255) (cur : List (List Nat)) (x : List Nat) : insXF (cur.map (List.map (symV leaf))) (x.map (symV leaf)) = (insXG cur x).map (List.map (symV leaf)) := by
  have e : (fun k => lexLt (x.map (symV leaf)) ((cur.map (List.map (symV leaf))).getD k [])) = (fun k => lexG x (cur.getD k [])) := by
    funext k
    rw [getD_mapV _ rfl, lexLt_map h]
  unfold insXF insXG
  rw [e, List.length_map, ← List.map_take, ← List.map_drop, List.map_append, List.map_cons]
theorem rotF_map (l : List Nat) : rotF (l.map (symV leaf)) = (rotG l).map (symV leaf) := by
  unfold rotF rotG
  rw [List.map_append, List.map_drop, List.map_take]
theorem reachF_map (h : leaf ≤ 255) (hT : ∀ a b : Fin 16, (Float64.cmp (tabF a) (tabF b) == some Ordering.lt) = decide (a < b)) {hv : Int → UInt64} {key : Int → Fin 16} (rows : List (List Nat)) (hk : ∀ (k : Nat) (row : List Nat), rows[k]? = some row → ∀ i, i < row.length → hv (posG row (i + 1)) = tabF (key (posG row (i + 1)))) :
    ∀ i, i ≤ rows.length → reachF hv (rows.map (List.map (symV leaf))) i = (reachG key rows i).map (List.map (symV leaf))
  | 0, _ => rfl
  | i + 1, hi => by
    show insXF (reachF hv _ i) (sweptF hv ((rows.map (List.map (symV leaf))).getD i []) (i % 2 == 1)) = _
    have e : rows[i]? = some (rows.getD i []) := by
      rw [List.getD_eq_getElem?_getD, List.getElem?_eq_getElem (by omega), Option.getD_some]
    rw [getD_mapV _ rfl, sweptF_map h hT (rows.getD i []) (i % 2 == 1) (hk i _ e), reachF_map h hT rows hk i (by omega), insXF_map h]
    rfl
theorem lawOK_of (h : leaf ≤ 255) (hT : ∀ a b : Fin 16, (Float64.cmp (tabF a) (tabF b) == some Ordering.lt) = decide (a < b)) {n sz : Nat} {hv : Int → UInt64} (hh : ∀ z : Int, -(n : Int) ≤ z → z < n → hv z = tabF (keyF sz z)) (rows : List (List Nat)) (ok : okAll n sz rows = true) :
    LawOK n sz hv (rows.map (List.map (symV leaf))) := by
  unfold okAll at ok
  simp only [Bool.and_eq_true, decide_eq_true_eq, List.all_eq_true, List.mem_range, beq_iff_eq] at ok
  obtain ⟨⟨o1, o2⟩, o3⟩ := ok
  have row_at : ∀ (k : Nat) (row : List Int), (rows.map (List.map (symV leaf)))[k]? = some row → ∃ r, rows[k]? = some r ∧ row = r.map (symV leaf) ∧ okRow n sz k r = true := by
    intro k row e
    rw [List.getElem?_map] at e
    cases er : rows[k]? with
    | none => rw [er] at e; cases e
    | some r =>
      rw [er] at e
      refine ⟨r, rfl, (Option.some.inj e).symm, ?_⟩
      have := o2 k (List.getElem?_eq_some_iff.mp er).1
      rw [List.getD_eq_getElem?_getD, er, Option.getD_some] at this
      exact this
  have ok_row : ∀ (k : Nat) (r : List Nat), okRow n sz k r = true → (1 ≤ r.length ∧ r.length ≤ 20) ∧ (∀ i, i < r.length → -(n : Int) ≤ posG r (i + 1) ∧ posG r (i + 1) < n) ∧ treeG (sigF k) (sigF k) r = plainG r ∧
      (n ≤ sz → treeG (-sigF k) (-sigF k) (rotG (sweptG (keyF sz) r (k % 2 == 1))) = treeG (sigF k) (sigF k) r) := by
    intro k r e
    unfold okRow at e
    simp only [Bool.and_eq_true, decide_eq_true_eq, List.all_eq_true, List.mem_range, beq_iff_eq, Bool.or_eq_true, Bool.not_eq_true', decide_eq_false_iff_not] at e
    obtain ⟨⟨⟨⟨e1, e2⟩, e3⟩, e4⟩, e5⟩ := e
    exact ⟨⟨e1, e2⟩, e3, e4, fun hn => e5.resolve_left fun q => q hn⟩
  have hkr : ∀ (k : Nat) (r : List Nat), okRow n sz k r = true → ∀ i, i < r.length → hv (posG r (i + 1)) = tabF (keyF sz (posG r (i + 1))) := fun k r e i hi => by
    have z := (ok_row k r e).2.1 i hi
    exact hh _ z.1 z.2
  refine ⟨by rw [List.length_map]; exact o1, ?_, ?_, ?_, ?_, ?_⟩
  · intro k row e
    obtain ⟨r, _, rfl, okr⟩ := row_at k row e
    rw [List.length_map]
    exact (ok_row k r okr).1
  · intro k row e i hi
    obtain ⟨r, _, rfl, okr⟩ := row_at k row e
    rw [List.length_map] at hi
    rw [posAt_map h]
    exact (ok_row k r okr).2.1 i hi
  · intro k row e
    obtain ⟨r, _, rfl, okr⟩ := row_at k row e
    rw [treeF_map h, plainF_map h]
    exact (ok_row k r okr).2.2.1
  · intro hn k row e
    obtain ⟨r, _, rfl, okr⟩ := row_at k row e
    rw [sweptF_map h hT r _ (hkr k r okr), rotF_map, treeF_map h, treeF_map h]
    exact (ok_row k r okr).2.2.2 hn
  · rw [List.length_map, reachF_map h hT rows (fun k r e => hkr k r (by
      have := o2 k (List.getElem?_eq_some_iff.mp e).1
      rw [List.getD_eq_getElem?_getD, e, Option.getD_some] at this
      exact this)) rows.length (Nat.le_refl _), o3]
end
end Mine
namespace Mine
theorem case_1_1 : (([16, 8, 4, 2] : List Nat).all fun sz => okCase 1 1 sz) = true := by decide +kernel
theorem case_1_2 : (([16, 8, 4, 2] : List Nat).all fun sz => okCase 1 2 sz) = true := by decide +kernel
theorem case_1_3 : (([16, 8, 4, 2] : List Nat).all fun sz => okCase 1 3 sz) = true := by decide +kernel
theorem case_2_1 : (([16, 8, 4, 2] : List Nat).all fun sz => okCase 2 1 sz) = true := by decide +kernel
theorem case_2_2 : (([16, 8, 4, 2] : List Nat).all fun sz => okCase 2 2 sz) = true := by decide +kernel
theorem case_2_3 : (([16, 8, 4, 2] : List Nat).all fun sz => okCase 2 3 sz) = true := by decide +kernel
theorem case_3_1 : (([16, 8, 4, 2] : List Nat).all fun sz => okCase 3 1 sz) = true := by decide +kernel
theorem case_3_2 : (([16, 8, 4, 2] : List Nat).all fun sz => okCase 3 2 sz) = true := by decide +kernel
theorem case_3_3 : (([16, 8, 4, 2] : List Nat).all fun sz => okCase 3 3 sz) = true := by decide +kernel
theorem tab_lt : ((List.finRange 16).all fun a => (List.finRange 16).all fun b => (Float64.cmp (tabF a) (tabF b) == some Ordering.lt) == decide (a < b)) = true := by decide +kernel
theorem hue_16_0 : ((List.range 4).all fun d => zs10.all fun z => paintsB 16 (quar 0) (quar d) z) = true := by decide +kernel
theorem hue_16_1 : ((List.range 4).all fun d => zs10.all fun z => paintsB 16 (quar 1) (quar d) z) = true := by decide +kernel
theorem hue_16_2 : ((List.range 4).all fun d => zs10.all fun z => paintsB 16 (quar 2) (quar d) z) = true := by decide +kernel
theorem hue_16_3 : ((List.range 4).all fun d => zs10.all fun z => paintsB 16 (quar 3) (quar d) z) = true := by decide +kernel
theorem hue_8_0 : ((List.range 4).all fun d => zs10.all fun z => paintsB 8 (quar 0) (quar d) z) = true := by decide +kernel
theorem hue_8_1 : ((List.range 4).all fun d => zs10.all fun z => paintsB 8 (quar 1) (quar d) z) = true := by decide +kernel
theorem hue_8_2 : ((List.range 4).all fun d => zs10.all fun z => paintsB 8 (quar 2) (quar d) z) = true := by decide +kernel
theorem hue_8_3 : ((List.range 4).all fun d => zs10.all fun z => paintsB 8 (quar 3) (quar d) z) = true := by decide +kernel
theorem hue_4_0 : ((List.range 4).all fun d => zs10.all fun z => paintsB 4 (quar 0) (quar d) z) = true := by decide +kernel
theorem hue_4_1 : ((List.range 4).all fun d => zs10.all fun z => paintsB 4 (quar 1) (quar d) z) = true := by decide +kernel
theorem hue_4_2 : ((List.range 4).all fun d => zs10.all fun z => paintsB 4 (quar 2) (quar d) z) = true := by decide +kernel
theorem hue_4_3 : ((List.range 4).all fun d => zs10.all fun z => paintsB 4 (quar 3) (quar d) z) = true := by decide +kernel
theorem hue_2_0 : ((List.range 4).all fun d => zs10.all fun z => paintsB 2 (quar 0) (quar d) z) = true := by decide +kernel
theorem hue_2_1 : ((List.range 4).all fun d => zs10.all fun z => paintsB 2 (quar 1) (quar d) z) = true := by decide +kernel
theorem hue_2_2 : ((List.range 4).all fun d => zs10.all fun z => paintsB 2 (quar 2) (quar d) z) = true := by decide +kernel
theorem hue_2_3 : ((List.range 4).all fun d => zs10.all fun z => paintsB 2 (quar 3) (quar d) z) = true := by decide +kernel
end Mine
namespace Mine
theorem hT_all (a b : Fin 16) : (Float64.cmp (tabF a) (tabF b) == some Ordering.lt) = decide (a < b) := by
  have h := List.all_eq_true.mp (List.all_eq_true.mp tab_lt a (List.mem_finRange a)) b (List.mem_finRange b)
  exact beq_iff_eq.mp h
theorem hue_all {sz c d : Nat} (hs : sz = 16 ∨ sz = 8 ∨ sz = 4 ∨ sz = 2) (hc : c < 4) (hd : d < 4) {z : Int} (h1 : -5 ≤ z) (h2 : z < 5) : paintsB sz (quar c) (quar d) z = true := by
  have hz : z ∈ zs10 := by
    have : z = -5 ∨ z = -4 ∨ z = -3 ∨ z = -2 ∨ z = -1 ∨ z = 0 ∨ z = 1 ∨ z = 2 ∨ z = 3 ∨ z = 4 := by omega
    unfold zs10
    simp only [List.mem_cons, List.not_mem_nil, or_false]
    exact this
  have hdm : d ∈ List.range 4 := List.mem_range.mpr hd
  have go : ∀ {S C : Nat}, ((List.range 4).all fun d => zs10.all fun z => paintsB S (quar C) (quar d) z) = true → paintsB S (quar C) (quar d) z = true := fun h => List.all_eq_true.mp (List.all_eq_true.mp h d hdm) z hz
  have hc' : c = 0 ∨ c = 1 ∨ c = 2 ∨ c = 3 := by omega
  rcases hs with rfl | rfl | rfl | rfl <;> rcases hc' with rfl | rfl | rfl | rfl
  · exact go hue_16_0
  · exact go hue_16_1
  · exact go hue_16_2
  · exact go hue_16_3
  · exact go hue_8_0
  · exact go hue_8_1
  · exact go hue_8_2
  · exact go hue_8_3
  · exact go hue_4_0
  · exact go hue_4_1
  · exact go hue_4_2
  · exact go hue_4_3
  · exact go hue_2_0
  · exact go hue_2_1
  · exact go hue_2_2
  · exact go hue_2_3
theorem paints_of {sz : Nat} {fs fv : UInt64} {z : Int} (h : paintsB sz fs fv z = true) : Paints sz fs fv z ∧ hueV z sz fs fv = tabF (keyF sz z) := by
  unfold paintsB at h
  simp only [Bool.and_eq_true, Bool.not_eq_true', decide_eq_true_eq, Bool.or_eq_true] at h
  obtain ⟨⟨⟨⟨⟨⟨⟨⟨⟨⟨⟨⟨⟨a1, a2⟩, a3⟩, a4⟩, a5⟩, a6⟩, a7⟩, a8⟩, a9⟩, a10⟩, a11⟩, a12⟩, a13⟩, a14⟩ := h
  refine ⟨⟨a1, a2, a3, a4, a5, a6, fun q => ?_, a8, a9, a10, a11, a12, fun q => ?_⟩, a14⟩
  · rcases a7 with x | x
    · rw [q] at x; cases x
    · exact x
  · rcases a13 with x | x
    · rw [q] at x; cases x
    · exact x
theorem case_all {a b sz : Nat} (ha : a = 1 ∨ a = 2 ∨ a = 3) (hb : b = 1 ∨ b = 2 ∨ b = 3) (hs : sz = 16 ∨ sz = 8 ∨ sz = 4 ∨ sz = 2) : okCase a b sz = true := by
  have hm : sz ∈ ([16, 8, 4, 2] : List Nat) := by
    simp only [List.mem_cons, List.not_mem_nil, or_false]
    exact hs
  have go : ∀ {C D : Nat}, (([16, 8, 4, 2] : List Nat).all fun sz => okCase C D sz) = true → okCase C D sz = true := fun h => List.all_eq_true.mp h sz hm
  rcases ha with rfl | rfl | rfl <;> rcases hb with rfl | rfl | rfl
  · exact go case_1_1
  · exact go case_1_2
  · exact go case_1_3
  · exact go case_2_1
  · exact go case_2_2
  · exact go case_2_3
  · exact go case_3_1
  · exact go case_3_2
  · exact go case_3_3
theorem plain_pack {leaf : Int} (hl : leaf ≤ 255) {a b sz c d n : Nat} (ha : a = 1 ∨ a = 2 ∨ a = 3) (hb : b = 1 ∨ b = 2 ∨ b = 3) (hs : sz = 16 ∨ sz = 8 ∨ sz = 4 ∨ sz = 2) (hc : c < 4) (hd : d < 4) (hn : n + 1 = a + b) :
    ∃ p, permOf (rowsF (symV leaf a) (symV leaf b) leaf (n + 2) (n + 2)) = some p ∧ 2 ≤ (rowsF (symV leaf a) (symV leaf b) leaf (n + 2) (n + 2)).length ∧ (rowsF (symV leaf a) (symV leaf b) leaf (n + 2) (n + 2)).length < 64 ∧
      (∀ i ∈ p.toList, i < (rowsF (symV leaf a) (symV leaf b) leaf (n + 2) (n + 2)).length) ∧ LawOK n sz (fun z => hueV z sz (quar c) (quar d)) (p.toList.map fun i => (rowsF (symV leaf a) (symV leaf b) leaf (n + 2) (n + 2)).getD i []) ∧
      ∀ z : Int, -(n : Int) ≤ z → z < n → Paints sz (quar c) (quar d) z := by
  have hz : ∀ z : Int, -(n : Int) ≤ z → z < n → paintsB sz (quar c) (quar d) z = true := fun z h1 h2 => hue_all hs hc hd (by omega) (by omega)
  have ok := case_all ha hb hs
  have e1 : a + b + 1 = n + 2 := by omega
  have e2 : a + b - 1 = n := by omega
  unfold okCase at ok
  rw [e1, e2] at ok
  cases hp : permG (rowsG a b (n + 2) (n + 2)) with
  | none => rw [hp] at ok; cases ok
  | some p =>
    rw [hp] at ok
    simp only [Bool.and_eq_true, decide_eq_true_eq, List.all_eq_true] at ok
    obtain ⟨⟨⟨o1, o2⟩, o3⟩, o4⟩ := ok
    rw [rowsF_map hl, permOf_map hl, List.length_map]
    refine ⟨p, hp, o1, o2, o3, ?_, fun z h1 h2 => (paints_of (hz z h1 h2)).1⟩
    have e3 : (p.toList.map fun i => ((rowsG a b (n + 2) (n + 2)).map (List.map (symV leaf))).getD i []) = (sortedG (rowsG a b (n + 2) (n + 2)) p).map (List.map (symV leaf)) := by
      unfold sortedG
      rw [List.map_map]
      exact List.map_congr_left fun i _ => getD_mapV _ rfl _ i
    rw [e3]
    exact lawOK_of hl hT_all (fun z h1 h2 => (paints_of (hz z h1 h2)).2) _ o4
theorem law_end : ∀ (w : World) (mean : ExcName → Option Value) (mg mb : Str → Option Value) (A : Around) (s : Shared) (Q : Flow → Shared → Prop) (E : Value → Shared → Prop) (h₀ : Heap) (L fa : Addr) (cdv : Value) (m : Str → Option Value) (news : List (Addr × Obj)) (x0 x1 x2 x3 one other leaf leaves size : Int) (fs fv : UInt64) (t1 t2 t3 t4 t5 t6 t7 : Tok),
    Grd w mean mg mb h₀ → Low A 310 1000 → Fr h₀ L s.heap m → News h₀ L s.heap news →
    m (Str.ofString "one") = some (.int one t1) → m (Str.ofString "other") = some (.int other t2) → m (Str.ofString "leaf") = some (.int leaf t3) → m (Str.ofString "leaves") = some (.int leaves t4) → m (Str.ofString "size") = some (.int size t5) →
    m (Str.ofString "share") = some (.float fs t6) → m (Str.ofString "level") = some (.float fv t7) →
    one = 256 + x0.fmod 3 → other = 256 + x1.fmod 3 → leaf = 255 - x2.fmod 255 → leaves = one + other - 511 → size = 2 ^ (4 - (x2.fdiv 255).fmod 4).toNat → fs = quotF (1 + x3.fmod 4) 4 → fv = quotF (1 + (x3.fdiv 4).fmod 4) 4 →
    (∀ h' tk' m', Fr h₀ L h' m' → Q (.ret (.bool true)) { s with heap := h', toks := tk' }) →
    wpAny (MM w) A (execs lawTail (envOf (Str.ofString "law") lawScope L fa cdv)) Q E s := by
  intro w mean mg mb A s Q E h₀ L fa cdv m news x0 x1 x2 x3 one other leaf leaves size fs fv t1 t2 t3 t4 t5 t6 t7 G lo F N m1 m2 m3 m4 m5 m6 m7 h1 h2 h3 h4 h5 h6 h7 hq
  have a1 := Int.fmod_nonneg_of_pos x0 (show (0 : Int) < 3 by decide)
  have a2 := Int.fmod_lt_of_pos x0 (show (0 : Int) < 3 by decide)
  have b1 := Int.fmod_nonneg_of_pos x1 (show (0 : Int) < 3 by decide)
  have b2 := Int.fmod_lt_of_pos x1 (show (0 : Int) < 3 by decide)
  have l1 := Int.fmod_nonneg_of_pos x2 (show (0 : Int) < 255 by decide)
  have k1 := Int.fmod_nonneg_of_pos (x2.fdiv 255) (show (0 : Int) < 4 by decide)
  have k2 := Int.fmod_lt_of_pos (x2.fdiv 255) (show (0 : Int) < 4 by decide)
  have c1 := Int.fmod_nonneg_of_pos x3 (show (0 : Int) < 4 by decide)
  have c2 := Int.fmod_lt_of_pos x3 (show (0 : Int) < 4 by decide)
  have d1 := Int.fmod_nonneg_of_pos (x3.fdiv 4) (show (0 : Int) < 4 by decide)
  have d2 := Int.fmod_lt_of_pos (x3.fdiv 4) (show (0 : Int) < 4 by decide)
  generalize x0.fmod 3 = a at a1 a2 h1
  generalize x1.fmod 3 = b at b1 b2 h2
  generalize x2.fmod 255 = e at l1 h3
  generalize (x2.fdiv 255).fmod 4 = k at k1 k2 h5
  generalize x3.fmod 4 = c at c1 c2 h6
  generalize (x3.fdiv 4).fmod 4 = d at d1 d2 h7
  have hl : leaf ≤ 255 := by omega
  obtain ⟨sa, hsa, ea⟩ : ∃ sa : Nat, (sa = 1 ∨ sa = 2 ∨ sa = 3) ∧ a = (sa : Int) - 1 := ⟨(a + 1).toNat, by omega, by omega⟩
  obtain ⟨sb, hsb, eb⟩ : ∃ sb : Nat, (sb = 1 ∨ sb = 2 ∨ sb = 3) ∧ b = (sb : Int) - 1 := ⟨(b + 1).toNat, by omega, by omega⟩
  obtain ⟨n, hn⟩ : ∃ n : Nat, n + 1 = sa + sb := ⟨sa + sb - 1, by omega⟩
  obtain ⟨sz, hsz, es⟩ : ∃ sz : Nat, (sz = 16 ∨ sz = 8 ∨ sz = 4 ∨ sz = 2) ∧ size = (sz : Int) := by
    have hk : k = 0 ∨ k = 1 ∨ k = 2 ∨ k = 3 := by omega
    rcases hk with rfl | rfl | rfl | rfl
    · exact ⟨16, by decide, h5⟩
    · exact ⟨8, by decide, h5⟩
    · exact ⟨4, by decide, h5⟩
    · exact ⟨2, by decide, h5⟩
  have e1 : one = symV leaf sa := by rw [symV_val (by omega)]; omega
  have e2 : other = symV leaf sb := by rw [symV_val (by omega)]; omega
  have e4 : leaves = (n : Int) := by omega
  have e6 : fs = quar c.toNat := by
    have : 1 + c = 1 + ((c.toNat : Nat) : Int) := by omega
    rw [h6, this]
    rfl
  have e7 : fv = quar d.toNat := by
    have : 1 + d = 1 + ((d.toNat : Nat) : Int) := by omega
    rw [h7, this]
    rfl
  clear h1 h2 h3 h4 h5 h6 h7
  subst e1 e2 e4 es e6 e7
  obtain ⟨p, q1, q2, q3, q4, q5, q6⟩ := plain_pack (c := c.toNat) (d := d.toNat) hl hsa hsb hsz (by omega) (by omega) hn
  exact wpAny_mono (law_tail w mean mg mb A s Q h₀ L fa cdv m news _ _ _ n sz _ _ _ _ _ _ _ _ _ p G lo F N m1 m2 m3 m4 m5 m6 m7 (by omega) (by omega) (by omega) (by omega) q6 q1 q2 q3 q4 q5 hq) (fun _ _ x => x) (fun _ _ x => x.elim)
end Mine
namespace Mine
local macro_rules | `(tactic| walk_at "execs cons") => `(tactic| (with_reducible refine genToks ?_; intro tk htk))
local macro_rules | `(tactic| walk_at "execs cons") => `(tactic| ((with_reducible show wpAny _ _ (execs (Stmt.Assign [PySem.Expr.Name (Str.ofString "hues") _] _ _ :: _) _) _ _ _); refine Halt.out ?_))
local macro_rules | `(tactic| walk_at "binaryOp Add ref ref") => `(tactic| refine Halt.out ?_)
local macro_rules | `(tactic| walk_at "subscriptTail") => `(tactic| ((with_reducible show wpAny _ _ (subscriptTail (PySem.Expr.BinOp _ _ _ _) _ _ _) _ _ _); refine Halt.out ?_))
theorem pick_head3 (l : List Value) : kms_pick l none (some 3) = l.take 3 := by
  show (l.drop 0).take (kms_hi (some 3) l.length - 0) = _
  show (l.drop 0).take ((if (3 : Int) < 0 then l.length - (-(3 : Int)).toNat else min (3 : Int).toNat l.length) - 0) = _
  rw [if_neg (by decide), List.drop_zero, Nat.sub_zero]
  have e : (3 : Int).toNat = 3 := rfl
  rw [e]
  by_cases h : 3 ≤ l.length
  · rw [Nat.min_eq_left h]
  · rw [Nat.min_eq_right (by omega), List.take_of_length_le (Nat.le_refl _), List.take_of_length_le (by omega)]
theorem quar_fin (x : Int) : Float64.isInf (Float64.ofFrac (decide (1 + x.fmod 4 < 0) != decide ((4 : Int) < 0)) (1 + x.fmod 4).natAbs (Int.natAbs 4)) = false := by
  have b1 := Int.fmod_nonneg_of_pos x (show (0 : Int) < 4 by decide)
  have b2 := Int.fmod_lt_of_pos x (show (0 : Int) < 4 by decide)
  generalize x.fmod 4 = c at b1 b2
  have : c = 0 ∨ c = 1 ∨ c = 2 ∨ c = 3 := by omega
  rcases this with rfl | rfl | rfl | rfl <;> decide +kernel
theorem law0 : PySem.Challenge.rw_rs0099_01.Holds := hd (by
  w_strict (k_go0; (all_goals try k_fold); k_steps)
  (rename Fr _ _ _ _ => F1)
  (rename News _ _ _ _ => N1)
  (rename IntsAre _ _ => hI8)
  refine ⟨kmk_add_ints F1 N1 ⟨_, (N1 _ (.tail _ (.head _))).1, rfl, _, rfl⟩ ⟨_, (N1 _ (.head _)).1, rfl, _, rfl⟩ hI8 (ms := [1, 4, 510]) (.cons _ _ (.cons _ _ (.cons _ _ .nil))) ?_ (by rw [sizeLine_eq, List.length_map, List.length_take]; show _ + 3 ≤ _; omega)⟩
  intro D us h' F' N' l1 hus
  clear F1 N1
  k_steps
  (rename Fr _ _ _ _ => F2)
  (rename News _ _ _ _ => N2)
  have husl := hus.length
  rw [List.length_append, List.length_map, List.length_take] at husl
  refine ⟨kba_turn (value' := PySem.Expr.Name (PySem.Str.ofString "x") ⟨0, 0, 0, 0⟩) (fun _ => rfl) ?_⟩
  refine kms_slice_lit F2 N2 (its := us.toArray) ⟨_, (N2 _ (.head _)).1, rfl, _, rfl⟩ .none (IsPart.int _ _) (pick_head3 us) ?_ (by with_unfolding_all rfl) (by intro _; with_unfolding_all rfl) (by rw [List.size_toArray, sizeLine_eq, husl]; show _ + 3 ≤ _; omega)
  intro D3 h3 F3 N3 l3
  have hus3 := ints_take 3 hus
  clear F2 N2
  k_steps
  all_goals first
    | (rename Float64.isInf _ = true => hc; exact absurd hc (by rw [quar_fin]; decide))
    | skip
  (rename Fr _ _ _ _ => F1)
  (rename News _ _ _ _ => N1)
  (rename (hd.heap_39 _).In _ => KX)
  (rename Top _ _ _ _ _ _ => TT)
  refine ⟨wpAny_mono (law_end _ _ _ _ _ _ _ (fun _ _ => False) _ _ _ _ _ _ _ _ _ _ _ _ _ _ _ _ _ _ _ _ _ _ _ _ ⟨KX, TT⟩ ⟨rfl, Nat.le_of_ble_eq_true rfl, Nat.le_of_ble_eq_true rfl⟩ F1 N1 rfl rfl rfl rfl rfl rfl rfl rfl rfl rfl rfl rfl rfl rfl ?_) (fun _ _ x => x) (fun _ _ x => x.elim)⟩
  (rename Shared.gens _ = #[] => hg)
  intro h' tk' m' F'
  refine goodW_bool F' hg (raisesW_false ?_) ?_
  · wrow_none_raised
  · wrow_post
  )
end Mine
set_option maxHeartbeats 8000000 in
theorem PySem.Challenge.cw_rs0099_01_holds : PySem.Challenge.rw_rs0099_01.Holds := by
  exact Mine.law0
