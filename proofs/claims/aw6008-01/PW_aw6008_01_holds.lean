import PyProof.Rows.All
import Wide.All
import OpenK.AllK
import Wide.FinOn
import PySem.Challenge.RW_aw6008_01
set_option Elab.async false
section PHd
namespace Mine
theorem rst_Hd : (1 : Nat) = 1 := by
  w_top off
  first | walk1 | rfl
end Mine
open PySem PySem.W PyProof.Rows
set_option maxRecDepth 100000
set_option maxHeartbeats 0
namespace Mine
open_top hd for PySem.Challenge.rw_aw6008_01
end Mine
end PHd
section PBase
namespace Mine
theorem rst_Base : (1 : Nat) = 1 := by
  w_top off
  first | walk1 | rfl
end Mine
open PySem PySem.W PyProof.Rows
set_option maxRecDepth 100000
set_option maxHeartbeats 0
namespace Mine
theorem fill : PySem.Challenge.rw_aw6008_01 = PySem.Challenge.rw_aw6008_01 ∧ hd.heap_39 = hd.heap_39 := by
  k_fill
  exact ⟨rfl, rfl⟩

abbrev loose8 : List Str := [Str.ofString "_twin_re_1", Str.ofString "_twin_re_2", Str.ofString "_twin_re_3", Str.ofString "_twin_re_4",
        Str.ofString "Pattern", Str.ofString "ChildPattern", Str.ofString "Argument", Str.ofString "Option"]

/-- what stands at the top, of any program's view -/
def TopA (mean : ExcName → Option Value) (mg mb : Str → Option Value) (h : Heap) : Prop := ∃ p loose, Top p loose mean mg mb h

/-- the contract of a call: from a ledger, the value and the ledger behind it -/
def Spec (z : Nat) (w : World) (mean : ExcName → Option Value) (mg mb : Str → Option Value) (f : Addr) (vs : List Value) (news : List (Addr × Obj)) (R : Value → List (Addr × Obj) → Prop) : Prop :=
  ∀ (dp un : Nat) (gd : Option (List Code)) (cn : Str) (cs : Scope) (a : Addr) (ccd : Value) (cl : List (Str × Addr)) (outer : List Env) (A₀ : Around) (base h₀ : Heap) (L : Addr) (m : Str → Option Value) (s : Shared)
    (Q E : Value → Shared → Prop),
    Below A₀ base outer h₀ → Fr h₀ L s.heap m → (hd.heap_39 w.params).In h₀ → News h₀ L s.heap news → TopA mean mg mb h₀ → cs.kind = .function → dp + z < recursionLimit → un + 8 * z < cLine →
    (∀ v news' h' tk', R v news' → Fr h₀ L h' m → News h₀ L h' news' → Q v { s with heap := h', toks := tk' }) →
    wpAny (model PySem.Challenge.rw_aw6008_01.row.prog w) (ktrTop dp un gd cn cs L a ccd cl outer) (call (.ref f) vs) Q E s

/-- the same for a call's code (a bound method's too) -/
def SpecC (z : Nat) (w : World) (mean : ExcName → Option Value) (mg mb : Str → Option Value) (f : Addr) (vs : List Value) (news : List (Addr × Obj)) (R : Value → List (Addr × Obj) → Prop) : Prop :=
  ∀ (dp un : Nat) (gd : Option (List Code)) (cn : Str) (cs : Scope) (a : Addr) (ccd : Value) (cl : List (Str × Addr)) (outer : List Env) (A₀ : Around) (base h₀ : Heap) (L : Addr) (m : Str → Option Value) (s : Shared)
    (Q E : Value → Shared → Prop),
    Below A₀ base outer h₀ → Fr h₀ L s.heap m → (hd.heap_39 w.params).In h₀ → News h₀ L s.heap news → TopA mean mg mb h₀ → cs.kind = .function → dp + z < recursionLimit → un + 8 * z < cLine →
    (∀ v news' h' tk', R v news' → Fr h₀ L h' m → News h₀ L h' news' → Q v { s with heap := h', toks := tk' }) →
    codeAny (model PySem.Challenge.rw_aw6008_01.row.prog w) (ktrTop dp un gd cn cs L a ccd cl outer) (.call (.ref f) ⟨vs, []⟩) (fun r s' => match r with | .ok (.ret v) => Q v s' | .ok _ => False | .error e => E e s') s

/-- the draw's two objects stand at the ledger's head -/
abbrev drawL (b d : Addr) (vs : List Value) (nb nd : Nat) (sd : Int) (ts : Tok) (rest : List (Addr × Obj)) : List (Addr × Obj) :=
  (b, W.listOf vs.toArray nb) :: (d, W.listOf [.ref b, .int sd ts].toArray nd) :: rest

theorem all_ne {l : List (Addr × Obj)} {D : Addr} (h : AllLt D l) : ∀ p ∈ l, p.1 ≠ D := fun p hp => Nat.ne_of_lt (ktn_ltOf h p hp)

/-- one above every address of a ledger's opaque tail -/
def bnd : List (Addr × Obj) → Nat
  | [] => 0
  | p :: r => max (@HAdd.hAdd Nat Nat Nat _ p.1 1) (bnd r)
theorem bnd_lt {l : List (Addr × Obj)} {p : Addr × Obj} (h : p ∈ l) : @LT.lt Nat _ p.1 (bnd l) := by
  induction l with
  | nil => cases h
  | cons q r ih =>
    have e : bnd (q :: r) = max (@HAdd.hAdd Nat Nat Nat _ q.1 1) (bnd r) := rfl
    rw [e]
    rcases List.mem_cons.mp h with h | h
    · subst h
      exact Nat.lt_of_lt_of_le (Nat.lt_succ_self _) (Nat.le_max_left _ _)
    · exact Nat.lt_of_lt_of_le (ih h) (Nat.le_max_right _ _)
theorem allLt_bnd (x : Nat) : ∀ (l : List (Addr × Obj)), AllLt x l = (bnd l ≤ x)
  | [] => by simp [AllLt, bnd]
  | p :: r => by
    simp only [AllLt, bnd, allLt_bnd x r]
    apply propext
    exact ⟨fun h => Nat.max_le.mpr ⟨h.1, h.2⟩, fun h => ⟨(Nat.max_le.mp h).1, (Nat.max_le.mp h).2⟩⟩
theorem bnd_ne {l : List (Addr × Obj)} {D : Nat} (h : bnd l ≤ D) : ∀ p ∈ l, p.1 ≠ D := fun p hp => Nat.ne_of_lt (Nat.lt_of_lt_of_le (bnd_lt hp) h)

theorem drop1 {h₀ h : Heap} {L : Addr} {q : Addr × Obj} {l : List (Addr × Obj)} (N : News h₀ L h (q :: l)) : News h₀ L h l := fun p hp => N p (.tail _ hp)

theorem pop0 {prog : Program} {w : World} {A : Around} {E : Value → Shared → Prop} {s : Shared} {h₀ : Heap} {L D : Addr} {m : Str → Option Value} {news news' : List (Addr × Obj)} {n : Nat} {u : Tok} {q : List Value} {y : Value} {Q : Value → Shared → Prop}
    (F : Fr h₀ L s.heap m) (N : News h₀ L s.heap news) (U : Upd D (listOf (y :: q).toArray n) (listOf q.toArray (n + 1)) news news')
    (hz : q.length < 1000) (h : ∀ h', Fr h₀ L h' m → News h₀ L h' news' → Q y { s with heap := h' }) : wpAny (model prog w) A (call (.builtin "list.pop") [.ref D, .int 0 u]) Q E s := by
  refine kl_popAt (k := 0) (p := []) (q := q) (y := y) F N rfl ?_ rfl U ?_ h
  · unfold seqIndex?
    simp
  · rw [sizeLine_eq]; simp; omega
local macro_rules | `(tactic| k_all) => `(tactic| first | with_reducible assumption | exact bnd_ne (by omega))
local macro_rules | `(tactic| k_lt $h:ident) => `(tactic| (replace $h := allLt_of $h; simp only [AllLt, and_true] at $h:ident; (try simp only [allLt_bnd] at $h:ident)))
local macro_rules | `(tactic| walk_at "call builtin:list.pop") => `(tactic| (k_here; k_dflt (refine' pop0 ?F ?N ?U ?z ?_; (case F => k_asm); (case N => k_asm); (case U => k_upd); (case z => omega)); (intro h' F' N'; (try dsimp only [List.nil_append, List.cons_append] at N'))))

/-- what is known of a draw: its ints, its seed's bounds -/
structure DrawOk (vs : List Value) (sd : Int) : Prop where
  cells : ∃ ns, IntsAre vs ns ∧ ns.length ≤ 63
  lo : 0 ≤ sd
  hi : sd < 2147483647

theorem take_spec (w : World) (mean : ExcName → Option Value) (mg mb : Str → Option Value) (b d : Addr) (vs : List Value) (nb nd : Nat) (sd : Int) (ts : Tok) (rest : List (Addr × Obj)) (many : Int) (tm : Tok)
    (hbd : @LT.lt Nat _ b d) (hrb : ∀ p ∈ rest, p.1 ≠ b) (hrd : ∀ p ∈ rest, p.1 ≠ d) (hok : DrawOk vs sd) (hm : 0 < many) (hm2 : many ≤ 8) :
    Spec 20 w mean mg mb 298 [.ref d, .int many tm] (drawL b d vs nb nd sd ts rest) (fun v news' => ∃ r t vs' nb' nd' sd' ts', v = .int r t ∧ 0 ≤ r ∧ r < many ∧ DrawOk vs' sd' ∧ news' = drawL b d vs' nb' nd' sd' ts' rest) := by
  obtain ⟨⟨ns, hi, hl⟩, h0, h1⟩ := hok
  unfold Spec
  intro dp un gd cn cs a ccd cl outer A₀ base h₀ L m s Q E B F X N T hk hd hu hret
  obtain ⟨pT, lT, T⟩ := T
  dsimp only [drawL] at N
  have hlv := hi.length
  cases hi
  all_goals try simp only [List.length_cons] at hl hlv
  all_goals (
    refine wpAny_call ?_
    k_dflt cell_enter
    k_steps)
  all_goals (
    rename News _ _ _ _ => kN9
    refine hret _ _ _ _ ⟨_, _, _, _, _, _, _, rfl, ?_, ?_, ⟨?_, ?_, ?_⟩, rfl⟩ (by k_asm) (drop1 kN9)
    all_goals first
      | exact fmod_lo _ (by omega)
      | exact fmod_hi _ (by omega)
      | omega
      | exact ⟨[], IntsAre.nil, by decide⟩
      | exact ⟨_, IntsAre.cons _ _ (by assumption), by simp only [List.length_cons]; omega⟩
      | exact ⟨_, by assumption, by omega⟩)

/-- the draw's two objects are drawn to the ledger's head -/
inductive Pull (B D : Addr × Obj) : List (Addr × Obj) → List (Addr × Obj) → Prop where
  | here {rest} : Pull B D (B :: D :: rest) rest
  | there {x news rest} : Pull B D news rest → Pull B D (x :: news) (x :: rest)
theorem Pull.news {B D : Addr × Obj} {news rest : List (Addr × Obj)} (h : Pull B D news rest) {h₀ hp : Heap} {L : Addr} (N : News h₀ L hp news) : News h₀ L hp (B :: D :: rest) := by
  have all : ∀ p ∈ B :: D :: rest, p ∈ news := by
    induction h with
    | here => exact fun p hp => hp
    | there _ ih =>
      intro p hp
      simp only [List.mem_cons] at hp ih ⊢
      rcases hp with h | h | h | h
      · exact .inr (ih (fun q hq => N q (.tail _ hq)) p (.inl h))
      · exact .inr (ih (fun q hq => N q (.tail _ hq)) p (.inr (.inl h)))
      · exact .inl h
      · exact .inr (ih (fun q hq => N q (.tail _ hq)) p (.inr (.inr h)))
  exact fun p hp => N p (all p hp)

/-- a mark at which the walk stands still -/
def Hold (P : Prop) : Prop := P
theorem Hold.mk {P : Prop} (h : Hold P) : P := h
theorem Hold.out {P : Prop} (h : P) : Hold P := h
end Mine
end PBase
section PEn
namespace Mine
theorem rst_En : (1 : Nat) = 1 := by
  w_top off
  first | walk1 | rfl
end Mine
open PySem PySem.W PyProof.Rows PySem.Calls PyProof.Rows.LCg
set_option maxRecDepth 100000
set_option maxHeartbeats 4000000
namespace Mine
section
variable {prog : Program} {w : World} {A : Around} {E : Value → Shared → Prop} {s : Shared} {h₀ : Heap} {L : Addr} {m : Str → Option Value} {env : Env} {news : List (Addr × Obj)}

/-- one element of a comprehension over enumerate, that leaves the heap as it is -/
def EltAt (prog : Program) (w : World) (A : Around) (h₀ : Heap) (L : Addr) (m : Str → Option Value) (env : Env) (elt : PySem.Expr) (a b : Str) (scope : Scope) (cl : List (Str × Addr)) (news : List (Addr × Obj)) (s : Shared) (i : Nat) (v : Value) (G : Value → Prop) : Prop :=
  ∀ (t : Tok) (C : Addr) (oC : Obj) (m₂ : Str → Option Value) (h : Heap) (tk : Nat) (Q' E' : Value → Shared → Prop), NsObj oC m₂ → m₂ a = some (.int i t) → m₂ b = some v → Fr h₀ L h m → News h₀ L h ((C, oC) :: news) → (∀ p ∈ news, p.1 < C) →
    (∀ y tk', G y → Q' y { s with heap := h, toks := tk' }) → wpAny (model prog w) A (eval elt (compEnvC scope cl C env)) Q' E' { s with heap := h, toks := tk }

/-- what a comprehension over enumerate wants to know of its source -/
def EnSrc (prog : Program) (w : World) (A : Around) (h₀ : Heap) (L : Addr) (m : Str → Option Value) (env : Env) (elt : PySem.Expr) (a b : Str) (scope : Scope) (cl : List (Str × Addr)) (G : Nat → Value → Prop) (Fin : List Value → Addr → List (Addr × Obj) → Heap → Nat → Shared → Prop) (xv : Value) (s₁ : Shared) : Prop :=
  ∃ (e it l : Addr) (items : Array Value) (news : List (Addr × Obj)) (n : Nat), xv = .ref e ∧ A.handled = none ∧ e ≠ it ∧ l ≠ e ∧ l ≠ it ∧ IsEnum s₁.heap e it 0 .none ∧ s₁.heap.IsListIter it l 0 ∧ (l, W.listOf items n) ∈ news ∧ items.size ≤ 1000 ∧
    Fr h₀ L s₁.heap m ∧ News h₀ L s₁.heap news ∧ (∀ p ∈ news, p.1 < e ∧ p.1 < it) ∧ L < it ∧ L < e ∧
    (∀ i v, items[i]? = some v → ∀ g, EltAt prog w A h₀ L m env elt a b scope cl news { s₁ with heap := g } i v (G i)) ∧
    (∀ D ys h tk, ys.length = items.size → (∀ i y, ys[i]? = some y → G i y) → (∀ p ∈ news, p.1 < D) → Fr h₀ L h m → News h₀ L h ((D, lst ys) :: news) → Fin ys D news h tk s₁)

theorem en_block {elt iter : PySem.Expr} {a b : Str} {pa pb tp : Pos} {kk : Nat} {scope : Scope} {cl : List (Str × Addr)} {pos : Pos} {s₂ : Shared} {e it l : Addr} {items : Array Value} {nl : Nat} {G : Nat → Value → Prop} {RR : Value → Addr → Result → Shared → Prop}
    (hh : A.handled = none) (hei : e ≠ it) (hle : l ≠ e) (hli : l ≠ it) (he : IsEnum s₂.heap e it 0 .none) (hit : s₂.heap.IsListIter it l 0) (hl : (l, W.listOf items nl) ∈ news) (hsz : items.size ≤ 1000)
    (F : Fr h₀ L s₂.heap m) (N : News h₀ L s₂.heap news) (hlow : ∀ p ∈ news, p.1 < e ∧ p.1 < it) (hLi : L < it) (hLe : L < e)
    (hcell : ∀ y ∈ scope.names, y.2 ≠ .cell) (hkind : scope.kind = .function) (hxa : scope.names.lookup a = some .local) (hxb : scope.names.lookup b = some .local) (hab : ¬ a = b)
    (R : ∀ i v, items[i]? = some v → ∀ g, EltAt prog w A h₀ L m env elt a b scope cl news { s₂ with heap := g } i v (G i))
    (hRR : ∀ D C h tk m' ys, Fr h₀ L h m → News h₀ L h ((D, lst ys) :: news) → (∀ p ∈ news, p.1 < D) → h.Ns C m' → h₀.get? C = none → h₀.get? D = none → C ≠ L → D ≠ L → C ≠ D → (∀ p ∈ news, p.1 ≠ C) → ys.length = items.size → (∀ i y, ys[i]? = some y → G i y) → RR (.ref D) C (.ok .next) { s₂ with heap := h, toks := tk }) :
    wpAny (model prog w) A (newList []) (fun acc s₃ => wpAny (model prog w) A (newFunctionEnv scope env.globals cl [] env.qual none .none (some env)) (fun cenv s₄ =>
      codeAny (model prog w) A (.compStart (.ListComp elt [⟨.Tuple [.Name a pa, .Name b pb] kk tp, iter, [], 0⟩] scope pos) 0 (.ref e) acc { cenv with scope := relabel scope env }) (RR acc cenv.locals) s₄) E s₃) E s₂ := by
  refine wpAny_newObj_type (wpAny_newFunctionEnv hcell (by intro y hy; simp at hy) (fun h₁ hns₁ hsb₁ => ?_) hkind)
  dsimp only at hns₁ hsb₁ ⊢
  -- D: the list that is built; C: the block's own names
  obtain ⟨D, hD⟩ : ∃ D, D = s₂.heap.objs.size := ⟨_, rfl⟩
  obtain ⟨H2, hH2⟩ : ∃ H2, H2 = s₂.heap.push { cls := .type "list", dict := none, data := .seq ([] : List Value).toArray } := ⟨_, rfl⟩
  rw [← hH2] at hns₁ hsb₁ ⊢
  rw [← hD] at ⊢
  obtain ⟨C, hC⟩ : ∃ C, C = H2.objs.size := ⟨_, rfl⟩
  rw [← hC] at hns₁ hsb₁ ⊢
  have hCD : C = D + 1 := by rw [hC, hH2, Heap.size_push, hD]
  have low : ∀ b o, s₂.heap.get? b = some o → b < D := fun b o x => hD ▸ Heap.lt_size x
  have old : ∀ b o, s₂.heap.get? b = some o → h₁.get? b = some o := fun b o x => by
    have hb := low b o x
    exact hsb₁.extBut b o (by rw [hCD]; exact Nat.ne_of_lt (Nat.lt_succ_of_lt hb)) (Heap.get?_push_of_some _ (hH2 ▸ Heap.get?_push_of_some _ x))
  have hacc : h₁.get? D = some (lst []) := by
    refine hsb₁.extBut D (lst []) (by rw [hCD]; exact Nat.ne_of_lt (Nat.lt_succ_self _)) (Heap.get?_push_of_some _ ?_)
    rw [hH2, hD]
    exact Heap.get?_push_size _ rfl
  have helt : e < D := low _ _ he
  have hilt : it < D := by obtain ⟨o, x, _⟩ := hit; exact low _ _ x
  have hLD : L < D := by obtain ⟨o, _, _, x, _⟩ := F.ns; exact low _ _ x
  have hnD : ∀ p ∈ news, p.1 < D := fun p hp => low _ _ (N p hp).1
  have old₀ : ∀ b o, h₀.get? b = some o → b < D := fun b o x => low b o (F.keep b o x)
  have hD₀ : h₀.get? D = none := by
    cases x : h₀.get? D with
    | none => rfl
    | some o => exact absurd (old₀ D o x) (Nat.lt_irrefl _)
  have hC₀ : h₀.get? C = none := by
    cases x : h₀.get? C with
    | none => rfl
    | some o => have := old₀ C o x; rw [hCD] at this; exact absurd this (Nat.not_lt.mpr (Nat.le_succ _))
  have hCne : ∀ b, b < D → b ≠ C := fun b hb => by rw [hCD]; exact Nat.ne_of_lt (Nat.lt_succ_of_lt hb)
  have hDC : D ≠ C := by rw [hCD]; exact Nat.ne_of_lt (Nat.lt_succ_self _)
  have W := WalksT.enumerate (prog := prog) (w := w) (A := A) hh e it l hei hle hli items
  have hl' : ∀ h : Heap, News h₀ L h news → h.IsList l items := fun h Nh => ⟨_, (Nh _ hl).1, rfl, nl, rfl⟩
  have loop : ∀ s₃ : Shared, s₃ = { s₂ with heap := h₁, toks := s₂.toks + ([] : List (Str × Value)).length } →
      codeAny (model prog w) A (.compLoop (.ListComp elt [⟨.Tuple [.Name a pa, .Name b pb] kk tp, iter, [], 0⟩] scope pos) 0 (.ref e) (.ref D) (compEnvC scope cl C env)) (RR (.ref D) C) s₃ := by
    rintro s₃ rfl
    refine kcp_loop
      (fun k s' => ∃ h' tk i ys m', s' = { s₂ with heap := h', toks := tk } ∧ i ≤ items.size ∧ k = items.size + 1 - i ∧ ys.length = i ∧ (∀ i y, ys[i]? = some y → G i y) ∧ (∃ old, IsEnum h' e it i old) ∧ h'.IsListIter it l i ∧ Fr h₀ L h' m ∧ h'.Ns C m' ∧
        News h₀ L h' ((D, lst ys) :: news)) ?_ (items.size + 1)
      ⟨h₁, _, 0, [], _, rfl, Nat.zero_le _, rfl, rfl, fun _ _ x => by simp at x, ⟨_, old _ _ he⟩, hit.at fun o x => old _ o x, F.keeps old, hns₁, fun p hp => ?_⟩
    · rintro k s' ⟨h', tk, i, ys, m', rfl, hi, rfl, hyl, hG, hE', hI', F', hn', N'⟩
      have Nn : News h₀ L h' news := fun p hp => N' p (.tail _ hp)
      by_cases hlt : i < items.size
      · refine W.item i _ _ _ hlt ⟨hE', hI', hl' _ Nn⟩ fun T vals h₂ tk₂ hPt hT₀ hT hMid hk₂ => ?_
        obtain ⟨t, x, hx, rfl⟩ := hPt
        have hTw := W.apart _ _ _ hMid
        refine W.go _ _ _ i T _ _ _ hMid fun h₃ hSt hk₃ => ?_
        obtain ⟨hE₃, hI₃, _⟩ := hSt
        have up₃ : ∀ b o, b ≠ e → b ≠ it → h'.get? b = some o → h₃.get? b = some o := fun b o h1 h2 x =>
          hk₃ b o (by simp [h1, h2]) (hk₂ b o (by simp [h1, h2]) x)
        have hT₃ : h₃.IsTuple T #[.int i t, x] := by
          obtain ⟨o, ho, r⟩ := hT
          exact ⟨o, hk₃ T o hTw ho, r⟩
        refine kcp_assign (env := compEnvC scope cl C env) hh hT₃ (lookup_relabel_local hxa) (lookup_relabel_local hxb) (by simp [compEnvC, relabel, hkind])
          (hn'.at' fun o x => up₃ C o (fun q => hCne e helt q.symm) (fun q => hCne it hilt q.symm) x) fun h₄ tk₄ hn₄ hs₄ => ?_
        have up : ∀ b o, b ≠ e → b ≠ it → b ≠ C → h'.get? b = some o → h₄.get? b = some o := fun b o h1 h2 h3 x => hs₄ b o h3 (up₃ b o h1 h2 x)
        obtain ⟨oC, heC, hoC⟩ := ns_obj hn₄
        have F₄ : Fr h₀ L h₄ m := ⟨F'.ns.at' fun o x => up L o (Nat.ne_of_lt hLe) (Nat.ne_of_lt hLi) (hCne L hLD) x,
          fun b o x => up b o (fun q => ?_) (fun q => ?_) (fun q => by rw [q, hC₀] at x; cases x) (F'.keep b o x), F'.above⟩
        rotate_left
        · subst q; exact absurd (Heap.lt_size x) (Nat.not_lt.mpr (Nat.le_trans F.above (Nat.le_of_lt hLe)))
        · subst q; exact absurd (Heap.lt_size x) (Nat.not_lt.mpr (Nat.le_trans F.above (Nat.le_of_lt hLi)))
        have N₄ : News h₀ L h₄ ((C, oC) :: news) := fun p hp => by
          rcases List.mem_cons.mp hp with hp | hp
          · subst hp; exact ⟨heC, (hCne L hLD).symm, hC₀⟩
          · exact ⟨up _ _ (Nat.ne_of_lt (hlow p hp).1) (Nat.ne_of_lt (hlow p hp).2) (hCne _ (hnD p hp)) (Nn p hp).1, (Nn p hp).2⟩
        refine R i x hx h₄ t C oC _ h₄ tk₄ _ _ hoC (by simp [hab]) (by simp) F₄ N₄ (fun p hp => by rw [hCD]; exact Nat.lt_succ_of_lt (hnD p hp)) fun y tk₅ hy => ?_
        have hDD : h₄.get? D = some (lst ys) := up D _ (Nat.ne_of_gt helt) (Nat.ne_of_gt hilt) hDC (N' _ (.head _)).1
        refine append_at (hsz := by show ys.toArray.size ≤ sizeLine; rw [List.size_toArray, hyl, sizeLine_eq]; omega) hDD fun h₆ hs₆ hD₆ => ?_
        have k6 : ∀ b o, b ≠ D → h₄.get? b = some o → h₆.get? b = some o := fun b o hb x => hs₆.extBut b o hb x
        refine ⟨items.size + 1 - (i + 1), by omega, h₆, tk₅, i + 1, ys ++ [y], _, rfl, hlt, rfl, by rw [List.length_append, List.length_singleton, hyl], fun j z hz => ?_, ?_, ?_, F₄.change hs₆ (Nat.ne_of_gt hLD) hD₀, hn₄.sameBut hs₆ (Ne.symm hDC), fun p hp => ?_⟩
        · rw [List.getElem?_append] at hz
          split at hz
          · exact hG j z hz
          · rename_i hj
            have hjl : j = ys.length := by
              by_cases q : j - ys.length = 0
              · omega
              · rw [List.getElem?_eq_none (by simp; omega)] at hz; cases hz
            subst hjl
            simp at hz
            subst hz
            rw [hyl]; exact hy
        · obtain ⟨o, hE₃⟩ := hE₃
          exact ⟨o, k6 _ _ (Nat.ne_of_lt helt) (hs₄ e _ (hCne e helt) hE₃)⟩
        · exact hI₃.at fun o x => k6 _ o (Nat.ne_of_lt hilt) (hs₄ it o (hCne it hilt) x)
        · rcases List.mem_cons.mp hp with hp | hp
          · subst hp
            exact ⟨hD₆.trans (congrArg some (lst_snoc ys y)), Nat.ne_of_gt hLD, hD₀⟩
          · exact ⟨k6 _ _ (Nat.ne_of_lt (hnD p hp)) (N₄ p (.tail _ hp)).1, (Nn p hp).2⟩
      · have hin : i = items.size := Nat.le_antisymm hi (Nat.not_lt.mp hlt)
        subst hin
        refine W.done _ _ _ ⟨hE', hI', hl' _ Nn⟩ fun h₂ tk₂ hk₂ => ?_
        have up₂ : ∀ b o, b ≠ e → b ≠ it → h'.get? b = some o → h₂.get? b = some o := fun b o h1 h2 x => hk₂ b o (by simp [h1, h2]) x
        refine hRR D C h₂ tk₂ m' ys ⟨F'.ns.at' fun o x => up₂ L o (Nat.ne_of_lt hLe) (Nat.ne_of_lt hLi) x, fun b o x => up₂ b o (fun q => ?_) (fun q => ?_) (F'.keep b o x), F'.above⟩ (fun p hp => ?_) hnD
          (hn'.at' fun o x => up₂ C o (fun q => hCne e helt q.symm) (fun q => hCne it hilt q.symm) x) hC₀ hD₀ (hCne L hLD).symm (Nat.ne_of_gt hLD) (Ne.symm hDC) (fun p hp => hCne _ (hnD p hp)) hyl hG
        · subst q; exact absurd (Heap.lt_size x) (Nat.not_lt.mpr (Nat.le_trans F.above (Nat.le_of_lt hLe)))
        · subst q; exact absurd (Heap.lt_size x) (Nat.not_lt.mpr (Nat.le_trans F.above (Nat.le_of_lt hLi)))
        · rcases List.mem_cons.mp hp with hp | hp
          · subst hp
            exact ⟨up₂ D _ (Nat.ne_of_gt helt) (Nat.ne_of_gt hilt) (N' _ (.head _)).1, Nat.ne_of_gt hLD, hD₀⟩
          · exact ⟨up₂ _ _ (Nat.ne_of_lt (hlow p hp).1) (Nat.ne_of_lt (hlow p hp).2) (Nn p hp).1, (Nn p hp).2⟩
    · rcases List.mem_cons.mp hp with hp | hp
      · subst hp; exact ⟨hacc, Nat.ne_of_gt hLD, hD₀⟩
      · exact ⟨old _ _ (N p hp).1, (N p hp).2⟩
  exact codeAny_compStart_list (loop _ rfl) (wpAny_pyIter_enum (old _ _ he) (loop _ rfl))

theorem en_Assign {elt iter : PySem.Expr} {a b y : Str} {pa pb tp py : Pos} {kk : Nat} {scope : Scope} {cl : List (Str × Addr)} {pos spos : Pos} {Q : Flow → Shared → Prop} (G : Nat → Value → Prop) (_F₀ : Fr h₀ L s.heap m) (hLe : env.locals = L)
    (hsw : swapsWith (.ListComp elt [⟨.Tuple [.Name a pa, .Name b pb] kk tp, iter, [], 0⟩] scope pos) (some (.Name y py)) spos.line env = pure true)
    (hclos : closureFor scope env = pure cl) (hcell : ∀ z ∈ scope.names, z.2 ≠ .cell) (hkind : scope.kind = .function)
    (hnames : ∀ z ∈ scope.names, z.2 = .local → scope.names.lookup z.1 = some .local) (hxa : scope.names.lookup a = some .local) (hxb : scope.names.lookup b = some .local) (hab : ¬ a = b)
    (hy : env.kindOf y = some .local) (hp : (env.scope.kind == .class || (env.scope.kind == .module && env.locals != env.globals)) = false)
    (h : wpAny (model prog w) A (eval iter env) (EnSrc prog w A h₀ L m env elt a b scope cl G (fun ys D news h tk s₁ => ∀ h₂ tk₂, Fr h₀ L h₂ (fun z => if z = y then some (.ref D) else m z) → News h₀ L h₂ ((D, lst ys) :: news) → Q .next { s₁ with heap := h₂, toks := tk₂ })) E s)
    (hs : ∀ x, foldedSetIterable iter env x = pure x := by intro _; rfl) :
    wpAny (model prog w) A (exec (.Assign [.Name y py] (.ListComp elt [⟨.Tuple [.Name a pa, .Name b pb] kk tp, iter, [], 0⟩] scope pos) spos) env) Q E s := by
  subst hLe
  rw [exec_Assign_Name_used _ _ _ _ hsw]
  refine wpAny_bind (wpAny_standAt (wpAny_bind ?_))
  show wpAny _ A (do let _ ← comprehension (.ListComp elt [⟨.Tuple [.Name a pa, .Name b pb] kk tp, iter, [], 0⟩] scope pos) scope env _ (newList []) false (eval iter env) (some (assign (.Name y py) env))) _ _ s
  refine wpAny_bind (wpAny_mono (wpAny_comprehension_free (use := some (assign (.Name y py) env)) (Q := fun _ s' => Q .next s') rfl hs hclos hkind hnames
    (wpAny_mono h (fun xv s₁ h₁ => ?_) fun _ _ e => e)) (fun _ s' hq => wpAny_pure (wpAny_pure hq)) fun _ _ e => e)
  obtain ⟨e, it, l, items, news, n, rfl, hh, hei, hle, hli, hE, hI, hl, hsz, F, N, hlow, hLi, hLe, R, Fin⟩ := h₁
  refine wpAny_pyIter_enum hE ?_
  refine en_block hh hei hle hli hE hI hl hsz F N hlow hLi hLe hcell hkind hxa hxb hab R ?_
  intro D C h' tk m' ys F' N' hD hn hC₀ hD₀ hCL hDL hCD offC hyl hG
  show wpAny _ A (assign (.Name y py) env (.ref D)) _ _ _
  refine wpAny_assign_Name (wpAny_storeName_local hy F'.ns (fun h₂ hn₂ hs₂ => ?_) hp)
  have hL₀ : h₀.get? env.locals = none := Heap.get?_none_of_le F'.above
  have F₂ : Fr h₀ env.locals h₂ (fun z => if z = y then some (.ref D) else m z) := ⟨hn₂, fun b o x => hs₂.extBut b o (fun q => by rw [q, hL₀] at x; cases x) (F'.keep b o x), F'.above⟩
  refine ⟨m', hn.sameBut hs₂ hCL, fun h'' hs'' => Fin D ys h' tk hyl hG hD F' N' h'' _ (F₂.change hs'' hCL hC₀) (fun p hp => ?_)⟩
  have z : h₂.get? p.1 = some p.2 := hs₂.extBut _ _ (N' p hp).2.1 (N' p hp).1
  refine ⟨hs''.extBut _ _ ?_ z, (N' p hp).2⟩
  rcases List.mem_cons.mp hp with hp | hp
  · subst hp; exact Ne.symm hCD
  · exact offC p hp

/-- enumerate of a list of the ledger's is such a source -/
theorem en_call {elt : PySem.Expr} {a b : Str} {scope : Scope} {cl : List (Str × Addr)} {G : Nat → Value → Prop} {Fin : List Value → Addr → List (Addr × Obj) → Heap → Nat → Shared → Prop} {l : Addr} {items : Array Value} {n : Nat}
    (hh : A.handled = none) (F : Fr h₀ L s.heap m) (N : News h₀ L s.heap news) (hl : (l, W.listOf items n) ∈ news) (hsz : items.size ≤ 1000)
    (hR : ∀ i v, items[i]? = some v → ∀ g, EltAt prog w A h₀ L m env elt a b scope cl news { s with heap := g } i v (G i))
    (hF : ∀ D ys h tk, ys.length = items.size → (∀ i y, ys[i]? = some y → G i y) → (∀ p ∈ news, p.1 < D) → ∀ g, Fin ys D news h tk { s with heap := g }) :
    wpAny (model prog w) A (call (.type "enumerate") [.ref l]) (EnSrc prog w A h₀ L m env elt a b scope cl G Fin) E s := by
  refine call_enumerate_list (items := items) ⟨_, (N _ hl).1, rfl, n, rfl⟩ fun h' hE hI hz hk => ?_
  have low : ∀ p ∈ news, p.1 < s.heap.objs.size := fun p hp => Heap.lt_size (N p hp).1
  have hL : L < s.heap.objs.size := F.ns.lt
  exact ⟨s.heap.objs.size + 1, s.heap.objs.size, l, items, news, n, rfl, hh, Nat.succ_ne_self _, Nat.ne_of_lt (Nat.lt_succ_of_lt (low _ hl)), Nat.ne_of_lt (low _ hl), hE, hI, hl, hsz,
    F.keeps hk, fun p hp => ⟨hk _ _ (N p hp).1, (N p hp).2⟩, fun p hp => ⟨Nat.lt_succ_of_lt (low p hp), low p hp⟩, hL, Nat.lt_succ_of_lt hL, fun i v hv g => hR i v hv g, fun D ys h tk h1 h2 h3 _ _ => hF D ys h tk h1 h2 h3 _⟩
end
end Mine
end PEn
section PPure1
namespace Mine
theorem rst_Pure1 : (1 : Nat) = 1 := by
  w_top off
  first | walk1 | rfl
end Mine
open PySem PySem.W PyProof.Rows
set_option maxRecDepth 100000
set_option maxHeartbeats 4000000
namespace Mine
abbrev vM : List Str := [Str.ofString "", Str.ofString "=<x>", Str.ofString " NAME", Str.ofString "=V"]
abbrev beM : List Str := [Str.ofString ", ", Str.ofString " ", Str.ofString ","]
abbrev wM : List Str := [Str.ofString "", Str.ofString "what it does", Str.ofString "it does  [default: 7]", Str.ofString "[DEFAULT: a b.c]", Str.ofString "x [default: ]"]
abbrev prM : List Str := [Str.ofString "", Str.ofString "  "]
abbrev gM : List Str := [Str.ofString "  ", Str.ofString "     "]
abbrev nA : Str := Str.ofString "-a"
abbrev nL : Str := Str.ofString "--long-one"
abbrev nmM : List (List Str) := [[nA], [nL], [nA, nL], [nL, nA]]
def toldItem (nms : List Str) (V : Str) (ev : Int) (i : Nat) : Str := nms.getD i Str.empty ++ (if ev = 1 ∨ i + 1 = nms.length then V else Str.ofString "")
def optText (P B V W G : Str) (nms : List Str) (ev : Int) : Str :=
  P ++ Txt.join B ((List.range nms.length).map (toldItem nms V ev)) ++ (if (W != Str.ofString "") = true then G ++ W else Str.ofString "")
def dfltD (W : Str) : Dat :=
  if W = Str.ofString "it does  [default: 7]" then .str (Str.ofString "7") else if W = Str.ofString "[DEFAULT: a b.c]" then .str (Str.ofString "a b.c") else if W = Str.ofString "x [default: ]" then .str (Str.ofString "") else .none
def optDue (nms : List Str) (V W : Str) : List Dat :=
  [if nA ∈ nms then .str nA else .none, if nL ∈ nms then .str nL else .none, .int (if (V == Str.ofString "") = true then 0 else 1), if (V == Str.ofString "") = true then .bool false else dfltD W]

theorem told_eq {nms : List Str} {V : Str} {ev : Int} {i : Nat} {x : Str} (h : x = nms.getD i Str.empty ++ (if ev = 1 ∨ i + 1 = nms.length then V else Str.ofString "")) {t : Tok} : ∃ t', Value.str x t = .str (toldItem nms V ev i) t' := ⟨t, by rw [h]; rfl⟩
theorem told_len {nms : List Str} {V : Str} {ev : Int} {i : Nat} (hn : nms.all (fun s => decide (s.length ≤ 10)) = true) (hV : V.length ≤ 30) : (toldItem nms V ev i).length ≤ 40 := by
  have h1 : (nms.getD i Str.empty).length ≤ 10 := KOpn.len_getD (by rw [List.all_cons, hn]; rfl)
  unfold toldItem
  rw [PySem.Str.length_append]
  have h2 : (if ev = 1 ∨ i + 1 = nms.length then V else Str.ofString "").length ≤ 30 := by
    split
    · exact hV
    · decide +kernel
  omega

section
variable {prog : Program} {w : World} {A : Around} {E : Value → Shared → Prop} {s : Shared}
/-- an item of a list of four, case by case -/
theorem item4 {value slice : PySem.Expr} {l : Addr} {v0 v1 v2 v3 : Value} {k : Int} {u : Tok} {Q : Value → Shared → Prop}
    (hl : s.heap.IsList l [v0, v1, v2, v3].toArray) (h0 : 0 ≤ k) (h1 : k < 4) (c0 : k = 0 → Q v0 s) (c1 : k = 1 → Q v1 s) (c2 : k = 2 → Q v2 s) (c3 : k = 3 → Q v3 s)
    (hs : subscripted slice false (.ref l) (.int k u) = operate [.ref l, .int k u] (getItem (.ref l) (.int k u)) := by with_unfolding_all rfl) :
    wpAny (model prog w) A (subscriptTail value slice (.ref l) (.int k u)) Q E s := by
  have hk : k = 0 ∨ k = 1 ∨ k = 2 ∨ k = 3 := by omega
  rcases hk with hk | hk | hk | hk <;> subst hk
  · exact tail_any hl.typeIs slot_list_getitem.lookup (wpAny_getItem_list hl (by decide) (by decide) (x := v0) (by simp) (c0 rfl)) hs
  · exact tail_any hl.typeIs slot_list_getitem.lookup (wpAny_getItem_list hl (by decide) (by decide) (x := v1) (by simp) (c1 rfl)) hs
  · exact tail_any hl.typeIs slot_list_getitem.lookup (wpAny_getItem_list hl (by decide) (by decide) (x := v2) (by simp) (c2 rfl)) hs
  · exact tail_any hl.typeIs slot_list_getitem.lookup (wpAny_getItem_list hl (by decide) (by decide) (x := v3) (by simp) (c3 rfl)) hs
/-- an item of a written table of texts: a letter, one of them -/
theorem item_letter {value slice : PySem.Expr} {l : Addr} {vs : List Value} {ws : List Str} {i : Int} {u : Tok} {Q : Value → Shared → Prop} (hl : s.heap.IsList l vs.toArray) (hw : StrsAre vs ws) (h0 : 0 ≤ i) (h1 : i < (ws.length : Int)) (hfit : i < 2 ^ 63)
    (hz : ws.all (fun x => decide (x.length ≤ 30)) = true) (h : ∀ x t', x ∈ ws → x.length ≤ 30 → Q (.str x t') s)
    (hs : subscripted slice false (.ref l) (.int i u) = operate [.ref l, .int i u] (getItem (.ref l) (.int i u)) := by with_unfolding_all rfl) :
    wpAny (model prog w) A (subscriptTail value slice (.ref l) (.int i u)) Q E s :=
  KTb.item_list hl hw h0 h1 hfit (fun t' hlt => by
    have hm : ws.getD i.toNat PySem.Str.empty ∈ ws := by rw [List.getD_eq_getElem?_getD, List.getElem?_eq_getElem hlt]; exact List.getElem_mem hlt
    exact h _ t' hm (of_decide_eq_true (List.all_eq_true.mp hz _ hm))) hs
theorem join1 {x T0 : Str} {t t0 : Tok} {D : Addr} {Q : Value → Shared → Prop} (hl : s.heap.IsList D [Value.str T0 t0].toArray) (hz : T0.length + x.length ≤ 1000000)
    (hq : ∀ t' k, (Txt.join x [T0]).length ≤ T0.length + x.length → Q (.str (Txt.join x [T0]) t') { s with toks := k }) : wpAny (model prog w) A (call (.builtin "str.join") [.str x t, .ref D]) Q E s := by
  have hb : (Txt.join x [T0]).length ≤ T0.length + x.length := by
    have := StrLaws.join_length_le x [T0]
    simp at this
    exact this
  have hok : JoinOk x [T0] = true := by
    unfold JoinOk
    rw [StrLaws.joinFits (B := T0.length) (by simp) (by simp; omega)]
    rfl
  exact SC.join (l := [(T0, t0)]) hl rfl hok fun t' k => hq t' k hb
theorem join2 {x T0 T1 : Str} {t t0 t1 : Tok} {D : Addr} {Q : Value → Shared → Prop} (hl : s.heap.IsList D [Value.str T0 t0, Value.str T1 t1].toArray) (hz : T0.length + T1.length + x.length ≤ 1000000)
    (hq : ∀ t' k, (Txt.join x [T0, T1]).length ≤ T0.length + T1.length + 2 * x.length → Q (.str (Txt.join x [T0, T1]) t') { s with toks := k }) : wpAny (model prog w) A (call (.builtin "str.join") [.str x t, .ref D]) Q E s := by
  have hb : (Txt.join x [T0, T1]).length ≤ T0.length + T1.length + 2 * x.length := by
    have := StrLaws.join_length_le x [T0, T1]
    simp at this
    exact this
  have hok : JoinOk x [T0, T1] = true := by
    unfold JoinOk
    rw [StrLaws.joinFits (B := T0.length + T1.length) (by simp) (by simp; omega)]
    rfl
  exact SC.join (l := [(T0, t0), (T1, t1)]) hl rfl hok fun t' k => hq t' k hb
end
theorem cellStr {o : Obj} {V : Str} {t : Tok} (h : o.data = .cell (some (.str V t))) : ∃ V', V' = V ∧ o.data = .cell (some (.str V' t)) := ⟨V, rfl, h⟩
theorem cellInt {o : Obj} {V : Int} {t : Tok} (h : o.data = .cell (some (.int V t))) : ∃ V', V' = V ∧ o.data = .cell (some (.int V' t)) := ⟨V, rfl, h⟩
theorem dflt7 : dfltD (Str.ofString "it does  [default: 7]") = .str (Str.ofString "7") := if_pos rfl
theorem dfltAb : dfltD (Str.ofString "[DEFAULT: a b.c]") = .str (Str.ofString "a b.c") := (if_neg (by decide +kernel)).trans (if_pos rfl)
theorem dfltE : dfltD (Str.ofString "x [default: ]") = .str (Str.ofString "") := (if_neg (by decide +kernel)).trans ((if_neg (by decide +kernel)).trans (if_pos rfl))
theorem dfltN {W : Str} (h1 : ¬ W = Str.ofString "it does  [default: 7]") (h2 : ¬ W = Str.ofString "[DEFAULT: a b.c]") (h3 : ¬ W = Str.ofString "x [default: ]") : dfltD W = .none := (if_neg h1).trans ((if_neg h2).trans (if_neg h3))
theorem same_str (a b : Str) : Spec.same (.str a) (.str b) = (a == b) := by simp [Spec.same]
theorem lookup_ne {W k : Str} {v : PyData} {r : List (PyData × PyData)} (h : ¬ W = k) : Spec.lookup (.str W) ((.str k, v) :: r) = Spec.lookup (.str W) r := if_neg (by rw [same_str]; simpa using Ne.symm h)
theorem lookup_is {W k : Str} {v : PyData} {r : List (PyData × PyData)} (h : W = k) : Spec.lookup (.str W) ((.str k, v) :: r) = some v := by subst h; exact if_pos (Spec.same_self _)
theorem lk_dflt {W : Str} {t1 t2 t3 t4 t5 t6 : Tok} {b : Bool} (h : (Spec.lookup (PyData.str W) (strData [(Value.str (Str.ofString "it does  [default: 7]") t1, Value.str (Str.ofString "7") t2), (Value.str (Str.ofString "[DEFAULT: a b.c]") t3, Value.str (Str.ofString "a b.c") t4), (Value.str (Str.ofString "x [default: ]") t5, Value.str (Str.ofString "") t6)])).isSome = b) :
    (b = true → ¬ W = Str.ofString "it does  [default: 7]" → ¬ W = Str.ofString "[DEFAULT: a b.c]" → ¬ W = Str.ofString "x [default: ]" → False) ∧ (b = false → dfltD W = .none) := by
  subst h
  have e : strData [(Value.str (Str.ofString "it does  [default: 7]") t1, Value.str (Str.ofString "7") t2), (Value.str (Str.ofString "[DEFAULT: a b.c]") t3, Value.str (Str.ofString "a b.c") t4), (Value.str (Str.ofString "x [default: ]") t5, Value.str (Str.ofString "") t6)] = [(.str (Str.ofString "it does  [default: 7]"), .str (Str.ofString "7")), (.str (Str.ofString "[DEFAULT: a b.c]"), .str (Str.ofString "a b.c")), (.str (Str.ofString "x [default: ]"), .str (Str.ofString ""))] := rfl
  rw [e]
  by_cases h1 : W = Str.ofString "it does  [default: 7]"
  · rw [lookup_is h1]; exact ⟨fun _ h _ _ => h h1, fun h => by cases h⟩
  · rw [lookup_ne h1]
    by_cases h2 : W = Str.ofString "[DEFAULT: a b.c]"
    · rw [lookup_is h2]; exact ⟨fun _ _ h _ => h h2, fun h => by cases h⟩
    · rw [lookup_ne h2]
      by_cases h3 : W = Str.ofString "x [default: ]"
      · rw [lookup_is h3]; exact ⟨fun _ _ _ h => h h3, fun h => by cases h⟩
      · rw [lookup_ne h3]; exact ⟨fun h => (by cases h), fun _ => dfltN h1 h2 h3⟩
theorem optText_some {P B V W G : Str} {nms : List Str} {ev : Int} (h : (W != Str.ofString "") = true) : optText P B V W G nms ev = P ++ Txt.join B ((List.range nms.length).map (toldItem nms V ev)) ++ (G ++ W) := by
  unfold optText
  rw [if_pos h]
theorem optText_none {P B V W G : Str} {nms : List Str} {ev : Int} (h : (W != Str.ofString "") = false) : optText P B V W G nms ev = P ++ Txt.join B ((List.range nms.length).map (toldItem nms V ev)) ++ Str.ofString "" := by
  unfold optText
  rw [if_neg (by rw [h]; decide)]
theorem len2 {ys : List Value} (h : ys.length = 2) : ∃ y0 y1, ys = [y0, y1] := by
  match ys, h with
  | [a, b], _ => exact ⟨a, b, rfl⟩
end Mine
end PPure1
section PTok
namespace Mine
theorem rst_Tok : (1 : Nat) = 1 := by
  w_top off
  first | walk1 | rfl
end Mine
open PySem PySem.W PyProof.Rows
set_option maxRecDepth 100000
set_option maxHeartbeats 4000000
namespace Mine
theorem runs_toks {M : Model} {Γ : Ctx} {p : Pos} {t : Sem Fin} {fs : List Frame} {s : Shared} {e : End} {s' : Shared} (h : Runs M Γ p t fs s e s') : s.toks ≤ s'.toks := by
  induction h <;> first
    | exact Nat.le_refl _
    | assumption
    | exact Nat.le_trans (Nat.le_succ _) (by assumption)
    | exact Nat.le_trans (by assumption) (by assumption)
theorem wakes_toks {M : Model} {Γ : Ctx} {p : Pos} {g : Nat} {r : Resume} {s : Shared} {res : GenResult} {s' : Shared} (h : Wakes M Γ p g r s res s') : s.toks ≤ s'.toks := by
  unfold Wakes at h
  split at h
  · exact h.elim
  · split at h
    · obtain ⟨e₁, s₁, hr, _, _, rfl⟩ := h
      exact (runs_toks hr : (s.setGen g _).toks ≤ s₁.toks)
    · rw [h.2]; exact Nat.le_refl _
    · rw [h.2]; exact Nat.le_refl _
  · obtain ⟨e₁, s₁, hr, _, _, rfl⟩ := h
    exact (runs_toks hr : (s.setGen g _).toks ≤ s₁.toks)
  · rw [h.2]; exact Nat.le_refl _
  · rw [h.2]; exact Nat.le_refl _
theorem wp_toks {α : Type} {M : Model} {Γ : Ctx} {n : Nat} (t : Sem α) (Q : α → Pos → Shared → Prop) (E : Value → Pos → Shared → Prop) (p : Pos) (s : Shared) (hn : n ≤ s.toks) :
    Sem.wp M Γ t (fun a p' s' => n ≤ s'.toks → Q a p' s') (fun e p' s' => n ≤ s'.toks → E e p' s') p s → Sem.wp M Γ t Q E p s := by
  induction t generalizing p s with
  | pure a => exact fun h => h hn
  | raise e => exact fun h => h hn
  | unsupported w => exact fun h => h
  | finish e => exact fun h => h
  | rule tag k ih => exact fun h => ih _ _ _ hn h
  | «at» q k ih => exact fun h => ih _ _ _ hn h
  | load a q k ih => exact fun ⟨o, ho, h⟩ => ⟨o, ho, ih _ _ _ hn h⟩
  | update a q f k ih => exact fun ⟨ho, h⟩ => ⟨ho, ih _ _ _ hn h⟩
  | alloc o k ih => exact fun h => ih _ _ _ hn h
  | loadIfAlive a k ih => exact fun h => ih _ _ _ hn h
  | point l k ih => exact fun h => ih _ _ _ hn h
  | register a k ih => exact fun h => h
  | fresh k ih => exact fun h => ih _ _ _ (Nat.le_succ_of_le hn) h
  | ask k ih => exact fun h => ih _ _ _ hn h
  | choose src m k ih => exact fun ⟨h0, h⟩ => ⟨h0, ih _ _ _ hn h⟩
  | os q l k ih => exact fun h => ih _ _ _ hn h
  | call c hd g l k ih => exact fun ⟨r, s₁, hr, h⟩ => ⟨r, s₁, hr, ih _ _ _ (Nat.le_trans hn (runs_toks hr)) h⟩
  | handled o k ih => exact fun h => ih _ _ _ hn h
  | newGen c k ih => exact fun h => ih _ _ _ hn h
  | genState g k ih => exact fun ⟨st, hs, h⟩ => ⟨st, hs, ih _ _ _ hn h⟩
  | resume g r l k ih => exact fun ⟨res, s₁, hr, h⟩ => ⟨res, s₁, hr, ih _ _ _ (Nat.le_trans hn (wakes_toks hr)) h⟩
  | yield v g l k ih => exact fun h => h
  | stack k ih => exact fun h => ih _ _ _ hn h
  | fork c k ih => exact fun h => h
  | thread k ih => exact fun h => ih _ _ _ hn h
  | await a t d l k ih => exact fun h => h
/-- what a tree makes comes with no fewer tokens than it began with -/
theorem any_toks {α : Type} {M : Model} {A : Around} {t : Sem α} {Q : α → Shared → Prop} {E : Value → Shared → Prop} {s : Shared} (n : Nat) (hn : n ≤ s.toks) (h : wpAny M A t (fun a s' => n ≤ s'.toks → Q a s') E s) : wpAny M A t Q E s :=
  fun Γ p hΓ => wp_toks (n := n) t (fun a _ s' => Q a s') (fun e _ s' => E e s') p s hn (Sem.wp_mono M Γ t (post := fun a _ s' => n ≤ s'.toks → Q a s') (exc := fun e _ s' => E e s') (exc' := fun e _ s' => n ≤ s'.toks → E e s') (fun _ _ _ x => x) (fun _ _ _ x _ => x) p s (h Γ p hΓ))
/-- str.replace by written signs, where the tokens are known to have begun -/
theorem replace_pos {prog : Program} {w : World} {A : Around} {E : Value → Shared → Prop} {s : Shared} {x y z : Str} {t u v : Tok} {Q : Value → Shared → Prop} (hu : @Ne Nat u 0) (hv : @Ne Nat v 0) (huv : @Ne Nat u v) (hyz : (y == z) = false) (hx : x.length ≤ 1048576) (hz : z.length ≤ 14) (hp : 0 < s.toks)
    (hq : ∀ t' k, 0 < k → Q (.str (Txt.replace x y z) t') { s with toks := k }) : wpAny (model prog w) A (call (.builtin "str.replace") [.str x t, .str y u, .str z v]) Q E s :=
  any_toks 1 hp (SC.replaceW hu hv huv hyz hx hz fun t' k hk => hq t' k hk)
/-- a body's statements, one by one, the tokens having begun -/
theorem execs_pos {M : Model} {A : Around} {E : Value → Shared → Prop} {s : Shared} {env : Env} {st : Stmt} {rest : List Stmt} {Q : Flow → Shared → Prop} (hp : 0 < s.toks)
    (h : wpAny M A (exec st env) (fun f s' => 0 < s'.toks → match f with | .next => wpAny M A (execs rest env) Q E s' | f => Q f s') E s) : wpAny M A (execs (st :: rest) env) Q E s :=
  wpAny_execs_cons (any_toks 1 hp h)
end Mine
end PTok
section PLp
namespace Mine
theorem rst_Lp : (1 : Nat) = 1 := by
  w_top off
  first | walk1 | rfl
end Mine
open PySem PySem.W PyProof.Rows PySem.Calls
set_option maxRecDepth 100000
set_option maxHeartbeats 4000000
namespace Mine
section
variable {prog : Program} {w : World} {A : Around} {E : Value → Shared → Prop} {s : Shared} {env : Env} {h₀ : Heap} {x : Str} {body : List Stmt} {Q : Flow → Shared → Prop}
/-- what a turn of a loop leaves that stores names alone -/
def TurnEnd (h₀ : Heap) (L : Addr) (led : List (Addr × Obj)) (J : (Str → Option Value) → Prop) (s₁ : Shared) (f : Flow) (s₂ : Shared) : Prop :=
  f = .next ∧ ∃ h' tk' m', s₂ = { s₁ with heap := h', toks := tk' } ∧ Fr h₀ L h' m' ∧ News h₀ L h' led ∧ J m'
/-- a loop over a list of the ledger's whose turns store names alone -/
theorem list_loop {l : Addr} {vs : List Value} {nl : Nat} {m₀ : Str → Option Value} {news : List (Addr × Obj)} (J : Nat → (Str → Option Value) → Prop)
    (hh : A.handled = none) (hl : (l, W.listOf vs.toArray nl) ∈ news) (F : Fr h₀ env.locals s.heap m₀) (N : News h₀ env.locals s.heap news) (hj : J 0 m₀)
    (turn : ∀ i v m₁ h tk own, vs[i]? = some v → J i m₁ → Fr h₀ env.locals h (fun y => if y = x then some v else m₁ y) → News h₀ env.locals h (own ++ news) →
      wpAny (model prog w) A (execs body env) (TurnEnd h₀ env.locals (own ++ news) (J (i + 1)) { s with heap := h, toks := tk }) E { s with heap := h, toks := tk })
    (done : ∀ m₁ h tk, J vs.length m₁ → Fr h₀ env.locals h m₁ → News h₀ env.locals h news → Q .next { s with heap := h, toks := tk }) :
    wpAny (model prog w) A (pyIter (.ref l)) (fun it s₂ => LoopAtV prog w A h₀ env x body Q E it s₂) E s := by
  have zl := N _ hl
  have hls : s.heap.IsList l vs.toArray := ⟨_, zl.1, rfl, nl, rfl⟩
  have hlt : l < s.heap.objs.size := Heap.lt_size zl.1
  refine wpAny_pyIter_list hls ?_
  have W := Walks.list (prog := prog) (w := w) hh s.heap.objs.size l (Nat.ne_of_lt hlt) vs.toArray
  have hsz : vs.toArray.size = vs.length := List.size_toArray
  rw [hsz] at W
  refine ⟨_, _, _, vs.length, _, _, m₀, news, fun i m nx => nx = news ∧ J i m, rfl, W, ?_, ?_, ?_, ⟨⟨_, Heap.get?_push_size _ rfl, rfl, rfl⟩, hls.at fun o e => Heap.get?_push_of_some _ e⟩, F.push _, (fun p hp => ⟨Heap.get?_push_of_some _ (N p hp).1, (N p hp).2⟩), ⟨rfl, hj⟩, ?_, ?_⟩
  · intro hm
    rcases List.mem_cons.mp hm with e | hm
    · exact absurd F.ns.lt (e ▸ Nat.lt_irrefl _)
    · exact zl.2.1 (List.mem_singleton.mp hm).symm
  · intro b hb
    rw [List.mem_singleton.mp hb]
    exact next_is_new F
  · intro p hp hI
    exact absurd (Heap.lt_size (N p hp).1) ((List.mem_singleton.mp hI) ▸ Nat.lt_irrefl _)
  · rintro i v m₁ news₁ s₁ own ⟨hh', tk', rfl⟩ _ hP ⟨rfl, hJ⟩ _ _ _ _ _ F₁ N₁
    refine wpAny_mono (turn i v m₁ hh' tk' own (by simpa using hP) hJ F₁ N₁) (fun f s₂ p => ?_) fun _ _ e => e
    obtain ⟨rfl, h', tk, m', rfl, F', N', hJ'⟩ := p
    exact .next ⟨rfl, h', tk, m', news₁, rfl, F', N', fun p hp hI => absurd (Heap.lt_size (N p hp).1) ((List.mem_singleton.mp hI) ▸ Nat.lt_irrefl _), rfl, hJ'⟩
  · rintro h' tk m' news' F' N' _ ⟨rfl, hJ⟩
    exact done m' h' tk hJ F' N'
end
end Mine
end PLp
section PPure2
namespace Mine
theorem rst_Pure2 : (1 : Nat) = 1 := by
  w_top off
  first | walk1 | rfl
end Mine
open PySem PySem.W PyProof.Rows PySem.Calls
set_option maxRecDepth 100000
set_option maxHeartbeats 4000000
namespace Mine
/-- the state of Option.parse's loop: short, long, argcount -/
abbrev PSt := Option Str × Option Str × Int
def pstep (st : PSt) (w : Str) : PSt :=
  if Txt.startswith w (Str.ofString "--") = true then (st.1, some w, st.2.2) else if Txt.startswith w (Str.ofString "-") = true then (some w, st.2.1, st.2.2) else (st.1, st.2.1, 1)
def OV : Option Str → Value → Prop
  | none, v => v = .none
  | some x, v => ∃ t, v = .str x t
abbrev mkM (m₀ : Str → Option Value) (a l c : Value) (sv : Option Value) : Str → Option Value :=
  fun y => if y = Str.ofString "argcount" then some c else if y = Str.ofString "long" then some l else if y = Str.ofString "short" then some a else if y = Str.ofString "s" then sv else m₀ y
def PJ (m₀ : Str → Option Value) (st : PSt) (m₁ : Str → Option Value) : Prop := ∃ a l c t sv, m₁ = mkM m₀ a l c sv ∧ OV st.1 a ∧ OV st.2.1 l ∧ c = .int st.2.2 t
theorem mkM_start {m₀ : Str → Option Value} {a l c : Value} (h1 : m₀ (Str.ofString "argcount") = some c) (h2 : m₀ (Str.ofString "long") = some l) (h3 : m₀ (Str.ofString "short") = some a) : m₀ = mkM m₀ a l c (m₀ (Str.ofString "s")) := by
  funext y
  unfold mkM
  by_cases e1 : y = Str.ofString "argcount"
  · rw [if_pos e1, e1, h1]
  · rw [if_neg e1]
    by_cases e2 : y = Str.ofString "long"
    · rw [if_pos e2, e2, h2]
    · rw [if_neg e2]
      by_cases e3 : y = Str.ofString "short"
      · rw [if_pos e3, e3, h3]
      · rw [if_neg e3]
        by_cases e4 : y = Str.ofString "s"
        · rw [if_pos e4, e4]
        · rw [if_neg e4]
theorem mkM_long {m₀ : Str → Option Value} {a l c v u : Value} {sv : Option Value} :
    (fun y => if y = Str.ofString "long" then some v else if y = Str.ofString "s" then some u else mkM m₀ a l c sv y) = mkM m₀ a v c (some u) := by
  funext y
  unfold mkM
  by_cases e2 : y = Str.ofString "long"
  · have e1 : ¬ y = Str.ofString "argcount" := by rw [e2]; decide +kernel
    rw [if_pos e2, if_neg e1, if_pos e2]
  · rw [if_neg e2]
    by_cases e4 : y = Str.ofString "s"
    · have e1 : ¬ y = Str.ofString "argcount" := by rw [e4]; decide +kernel
      have e3 : ¬ y = Str.ofString "short" := by rw [e4]; decide +kernel
      rw [if_pos e4, if_neg e1, if_neg e2, if_neg e3, if_pos e4]
    · rw [if_neg e4, if_neg e2]
      by_cases e1 : y = Str.ofString "argcount"
      · rw [if_pos e1, if_pos e1]
      · rw [if_neg e1, if_neg e1, if_neg e2]
        by_cases e3 : y = Str.ofString "short"
        · rw [if_pos e3, if_pos e3]
        · rw [if_neg e3, if_neg e3, if_neg e4, if_neg e4]
theorem mkM_short {m₀ : Str → Option Value} {a l c v u : Value} {sv : Option Value} :
    (fun y => if y = Str.ofString "short" then some v else if y = Str.ofString "s" then some u else mkM m₀ a l c sv y) = mkM m₀ v l c (some u) := by
  funext y
  unfold mkM
  by_cases e3 : y = Str.ofString "short"
  · have e1 : ¬ y = Str.ofString "argcount" := by rw [e3]; decide +kernel
    have e2 : ¬ y = Str.ofString "long" := by rw [e3]; decide +kernel
    rw [if_pos e3, if_neg e1, if_neg e2, if_pos e3]
  · rw [if_neg e3]
    by_cases e4 : y = Str.ofString "s"
    · have e1 : ¬ y = Str.ofString "argcount" := by rw [e4]; decide +kernel
      have e2 : ¬ y = Str.ofString "long" := by rw [e4]; decide +kernel
      rw [if_pos e4, if_neg e1, if_neg e2, if_neg e3, if_pos e4]
    · rw [if_neg e4]
      by_cases e1 : y = Str.ofString "argcount"
      · rw [if_pos e1, if_pos e1]
      · rw [if_neg e1, if_neg e1]
        by_cases e2 : y = Str.ofString "long"
        · rw [if_pos e2, if_pos e2]
        · rw [if_neg e2, if_neg e2, if_neg e3, if_neg e3, if_neg e4, if_neg e4]
theorem mkM_argc {m₀ : Str → Option Value} {a l c v u : Value} {sv : Option Value} :
    (fun y => if y = Str.ofString "argcount" then some v else if y = Str.ofString "s" then some u else mkM m₀ a l c sv y) = mkM m₀ a l v (some u) := by
  funext y
  unfold mkM
  by_cases e1 : y = Str.ofString "argcount"
  · rw [if_pos e1, if_pos e1]
  · rw [if_neg e1]
    by_cases e4 : y = Str.ofString "s"
    · have e2 : ¬ y = Str.ofString "long" := by rw [e4]; decide +kernel
      have e3 : ¬ y = Str.ofString "short" := by rw [e4]; decide +kernel
      rw [if_pos e4, if_neg e1, if_neg e2, if_neg e3, if_pos e4]
    · rw [if_neg e4, if_neg e1, if_neg e1]
      by_cases e2 : y = Str.ofString "long"
      · rw [if_pos e2, if_pos e2]
      · rw [if_neg e2, if_neg e2]
        by_cases e3 : y = Str.ofString "short"
        · rw [if_pos e3, if_pos e3]
        · rw [if_neg e3, if_neg e3, if_neg e4, if_neg e4]
section
variable {prog : Program} {w : World} {A : Around} {E : Value → Shared → Prop} {s : Shared} {env : Env} {h₀ : Heap} {body : List Stmt} {Q : Flow → Shared → Prop}
/-- Option.parse's loop over the words of the description's head -/
theorem parse_loop {l : Addr} {ws : List (Str × Tok)} {nl : Nat} {m₀ : Str → Option Value} {news : List (Addr × Obj)} {t₀ : Tok}
    (hh : A.handled = none) (hl : (l, W.listOf (strValues ws).toArray nl) ∈ news) (F : Fr h₀ env.locals s.heap m₀) (N : News h₀ env.locals s.heap news)
    (h1 : m₀ (Str.ofString "argcount") = some (.int 0 t₀)) (h2 : m₀ (Str.ofString "long") = some .none) (h3 : m₀ (Str.ofString "short") = some .none)
    (turn : ∀ x t a l c tc sv st h tk own, OV st.1 a → OV st.2.1 l → c = .int st.2.2 tc → Fr h₀ env.locals h (fun y => if y = Str.ofString "s" then some (.str x t) else mkM m₀ a l c sv y) → News h₀ env.locals h (own ++ news) →
      wpAny (model prog w) A (execs body env) (TurnEnd h₀ env.locals (own ++ news) (PJ m₀ (pstep st x)) { s with heap := h, toks := tk }) E { s with heap := h, toks := tk })
    (done : ∀ a l c tc sv h tk, OV ((ws.map (·.1)).foldl pstep (none, none, 0)).1 a → OV ((ws.map (·.1)).foldl pstep (none, none, 0)).2.1 l → c = .int ((ws.map (·.1)).foldl pstep (none, none, 0)).2.2 tc →
      Fr h₀ env.locals h (mkM m₀ a l c sv) → News h₀ env.locals h news → Q .next { s with heap := h, toks := tk }) :
    wpAny (model prog w) A (pyIter (.ref l)) (fun it s₂ => LoopAtV prog w A h₀ env (Str.ofString "s") body Q E it s₂) E s := by
  refine list_loop (fun i m₁ => PJ m₀ (((ws.map (·.1)).take i).foldl pstep (none, none, 0)) m₁) hh hl F N ⟨_, _, _, t₀, _, mkM_start h1 h2 h3, rfl, rfl, rfl⟩ ?_ ?_
  · rintro i v m₁ h tk own hv ⟨a, l, c, tc, sv, rfl, ha, hb, hc⟩ F' N'
    have hlen : i < ws.length := by
      have := (List.getElem?_eq_some_iff.mp hv).1
      simpa [strValues] using this
    have hx : v = .str ws[i].1 ws[i].2 := by
      have e : (strValues ws)[i]? = some (.str ws[i].1 ws[i].2) := by simp [strValues, hlen]
      rw [e] at hv
      exact (Option.some.inj hv).symm
    subst hx
    have e : ((ws.map (·.1)).take (i + 1)).foldl pstep (none, none, 0) = pstep (((ws.map (·.1)).take i).foldl pstep (none, none, 0)) ws[i].1 := by
      rw [List.take_add_one, List.getElem?_map, List.getElem?_eq_getElem hlen, List.foldl_append]
      rfl
    rw [e]
    exact turn _ _ a l c tc sv _ h tk own ha hb hc F' N'
  · rintro m₁ h tk ⟨a, l, c, tc, sv, rfl, ha, hb, hc⟩ F' N'
    have e : (ws.map (·.1)).take (strValues ws).length = ws.map (·.1) := by
      rw [List.take_of_length_le]
      simp [strValues]
    rw [e] at ha hb hc
    exact done a l c tc sv h tk ha hb hc F' N'
end
theorem fold_argc (ws : List Str) : ∀ st : PSt, (st.2.2 = 0 ∨ st.2.2 = 1) → ((ws.foldl pstep st).2.2 = 0 ∨ (ws.foldl pstep st).2.2 = 1) := by
  induction ws with
  | nil => exact fun st h => h
  | cons w r ih =>
    intro st h
    refine ih _ ?_
    unfold pstep
    split
    · exact h
    · split
      · exact h
      · exact .inr rfl
end Mine
end PPure2
section PC1
namespace Mine
theorem rst_C1 : (1 : Nat) = 1 := by
  w_top off
  first | walk1 | rfl
end Mine
open PySem PySem.W PyProof.Rows
set_option maxRecDepth 100000
set_option maxHeartbeats 0
namespace Mine
local macro_rules | `(tactic| k_all) => `(tactic| first | with_reducible assumption | exact bnd_ne (by omega))
local macro_rules | `(tactic| k_lt $h:ident) => `(tactic| (replace $h := allLt_of $h; simp only [AllLt, and_true] at $h:ident; (try simp only [allLt_bnd] at $h:ident)))
local macro_rules | `(tactic| cell_enter) => `(tactic| (refine' code_defC ?k1 ?k2 ?k3 ?k4 ?k5 ?kA ?kF ?kK ?k6 ?k7 ?k8 ?k9 ?kB ?kD ?_ ?c2 ?c3 ?c4; (case kA => exact rfl); (case kF => exact rfl); (case kK => assumption); (case k1 => k_asm); (case k2 => k_asm); (case k3 => k_asm); (case k4 => k_asm); (case k5 => k_asm); (case k6 => k_is); (case k7 => k_is); (case k8 => ktr_room); (case k9 => first | exact BindsTo.of_eq rfl | exact binds_K (by k_in) rfl (by k_is) rfl rfl rfl); (case kB => exact rfl); (case kD => decide +kernel); (case c2 => exact rfl); (case c3 => exact rfl); (case c4 => exact rfl); k_whole; intro g' L' h' tk' cells' FG' F' N' Y' B' X' T' l1; (try k_lt l1); k_cells Y'; (try simp only [List.cons_append, List.nil_append] at N'); (try dsimp only); (try k_lift B'); (try k_fold)))
local macro_rules | `(tactic| walk_at "call ref") => `(tactic| (k_here; (with_reducible show wpAny _ _ (call (Value.ref 298) _) _ _ _); (rename News _ _ _ _ => kN9); k_dflt ( refine' take_spec _ _ _ _ _ _ _ _ _ _ _ _ _ _ ?bd ?rb ?rd ?ok ?m1 ?m2 _ _ _ _ _ _ _ _ _ _ _ _ _ _ _ _ _ ?kB ?kF ?kX ?kN ?kT ?kk ?khd ?khu ?_; (case kN => (refine' Pull.news ?pu kN9; (case pu => (repeat (first | exact Pull.here | apply Pull.there))))); (case kB => k_asm); (case kF => k_asm); (case kX => k_asm); (case kT => exact ⟨_, _, by k_asm⟩); (case kk => first | rfl | assumption); (case bd => assumption); (case rb => k_all); (case rd => k_all); (case ok => assumption); (case m1 => decide); (case m2 => decide); (case khd => ktr_room); (case khu => ktr_units)); (rintro v9 news9 h9 tk9 ⟨r9, t9, vs9, nb9, nd9, sd9, ts9, e9, hr9, hs9, hok9, e8⟩ F9 N9); subst e9; subst e8; clear kN9; (try dsimp only [drawL] at N9); (try dsimp only); (try k_fold)))
local macro_rules | `(tactic| walk_at "subscriptTail") => `(tactic| (k_here; (with_reducible show wpAny _ _ (subscriptTail _ _ (Value.ref _) (Value.int _ _)) _ _ _); ktb_letter; k_dflt (refine' item4 ?ktbl ?ktb0 ?ktb1 ?_ ?_ ?_ ?_; (case ktbl => exact News.isList (by k_asm) (by k_mem)); (case ktb0 => assumption); (case ktb1 => assumption)); all_goals intro hk9))
local macro_rules | `(tactic| walk_at "subscriptTail") => `(tactic| (k_here; (with_reducible show wpAny _ _ (subscriptTail _ _ (Value.ref _) (Value.int _ _)) _ _ _); ktb_letter; k_dflt (refine' item_letter ?ktbl ?ktbw ?ktb0 ?ktb1 ?ktbf ?ktbz ?_; (case ktbl => exact News.isList (by k_asm) (by k_mem)); (case ktbw => repeat constructor); (case ktb0 => assumption); (case ktb1 => (simp only [List.length_cons, List.length_nil]; omega)); (case ktbf => omega); (case ktbz => decide +kernel)); intro x9 t9 hx9 hz9))
local macro_rules | `(tactic| walk_at "exec Assign cons ListComp") => `(tactic| ((with_reducible show wpAny _ _ (exec (Stmt.Assign [Expr.Name (Str.ofString "told") _] _ _) _) _ _ _); refine Hold.mk ?_))
local macro_rules | `(tactic| walk_at "binaryOp Add str str") => `(tactic| (k_here; (with_reducible show wpAny _ _ (binaryOp Operator.Add (Value.str _ _) (Value.str _ _)) _ _ _); (refine KOpn.add (by kopn_len) ?_); intro _ _ _))
local macro_rules | `(tactic| walk_at "False") => `(tactic| exact (lk_dflt (by assumption)).1 rfl (by assumption) (by assumption) (by assumption))
local macro_rules | `(tactic| walk_at "call builtin:str.join") => `(tactic| (k_here; (with_reducible show wpAny _ _ (call (Value.builtin "str.join") [Value.str _ _, Value.ref _]) _ _ _); first | (refine join1 (News.isList (by k_asm) (by k_mem)) (by kopn_len) ?_; intro _ _ _) | (refine join2 (News.isList (by k_asm) (by k_mem)) (by kopn_len) ?_; intro _ _ _)))

abbrev tupObj (vs : List Value) : Obj := { cls := .type "tuple", data := .seq vs.toArray }
/-- what _law_option hands back -/
def OptOut (b d : Addr) (rest : List (Addr × Obj)) (v : Value) (news' : List (Addr × Obj)) : Prop :=
  ∃ (P B V W G : Str) (nms : List Str) (ev : Int) (x : Str) (T U : Addr) (sV lV cV dV : Value) (tt : Tok) (vs' : List Value) (nb' nd' : Nat) (sd' : Int) (ts' : Tok),
    (P ∈ prM ∧ B ∈ beM ∧ V ∈ vM ∧ W ∈ wM ∧ G ∈ gM ∧ nms ∈ nmM ∧ 0 ≤ ev ∧ ev < 2) ∧ v = .ref T ∧ x = optText P B V W G nms ev ∧ DatAll [] [sV, lV, cV, dV] (optDue nms V W) ∧ DrawOk vs' sd' ∧
    (@LT.lt Nat _ b U ∧ @LT.lt Nat _ d U ∧ @LT.lt Nat _ U T ∧ bnd rest ≤ U) ∧
    news' = (T, tupObj [.str x tt, .ref U]) :: (U, tupObj [sV, lV, cV, dV]) :: drawL b d vs' nb' nd' sd' ts' rest
theorem opt_sub {p1 p2 B D : Addr × Obj} {xs rest : List (Addr × Obj)} {h₀ h : Heap} {L : Addr} (N : News h₀ L h (p1 :: p2 :: B :: D :: xs)) (hs : ∀ p ∈ rest, p ∈ xs) : News h₀ L h (p1 :: p2 :: B :: D :: rest) := fun p hp => N p (by
  simp only [List.mem_cons] at hp ⊢
  rcases hp with h | h | h | h | h
  · exact .inl h
  · exact .inr (.inl h)
  · exact .inr (.inr (.inl h))
  · exact .inr (.inr (.inr (.inl h)))
  · exact .inr (.inr (.inr (.inr (hs p h)))))
theorem named {α : Type} {x : α} {L : List α} (h : x ∈ L) : ∃ y, y = x ∧ y ∈ L := ⟨x, rfl, h⟩
theorem prune0 {D b d x1 x2 x3 x4 x5 x6 x7 c1 c2 c3 : Addr × Obj} {rest : List (Addr × Obj)} {h₀ h : Heap} {L : Addr} (N : News h₀ L h (D :: b :: d :: x1 :: x2 :: x3 :: x4 :: x5 :: x6 :: x7 :: c1 :: c2 :: c3 :: rest)) : News h₀ L h (D :: b :: d :: x7 :: c1 :: c2 :: c3 :: rest) := fun p hp => N p (by
  simp only [List.mem_cons] at hp ⊢
  rcases hp with h | h | h | h | h | h | h | h <;> simp only [h, true_or, or_true])
theorem prune1 {D b d x1 x2 x3 x4 x5 x6 x7 c1 c2 c3 : Addr × Obj} {rest : List (Addr × Obj)} {h₀ h : Heap} {L : Addr} (N : News h₀ L h (D :: b :: d :: x1 :: x2 :: x3 :: x4 :: x5 :: x6 :: x7 :: c1 :: c2 :: c3 :: rest)) : News h₀ L h (D :: b :: d :: x6 :: c1 :: c2 :: c3 :: rest) := fun p hp => N p (by
  simp only [List.mem_cons] at hp ⊢
  rcases hp with h | h | h | h | h | h | h | h <;> simp only [h, true_or, or_true])
theorem prune2 {D b d x1 x2 x3 x4 x5 x6 x7 c1 c2 c3 : Addr × Obj} {rest : List (Addr × Obj)} {h₀ h : Heap} {L : Addr} (N : News h₀ L h (D :: b :: d :: x1 :: x2 :: x3 :: x4 :: x5 :: x6 :: x7 :: c1 :: c2 :: c3 :: rest)) : News h₀ L h (D :: b :: d :: x5 :: c1 :: c2 :: c3 :: rest) := fun p hp => N p (by
  simp only [List.mem_cons] at hp ⊢
  rcases hp with h | h | h | h | h | h | h | h <;> simp only [h, true_or, or_true])
theorem prune3 {D b d x1 x2 x3 x4 x5 x6 x7 c1 c2 c3 : Addr × Obj} {rest : List (Addr × Obj)} {h₀ h : Heap} {L : Addr} (N : News h₀ L h (D :: b :: d :: x1 :: x2 :: x3 :: x4 :: x5 :: x6 :: x7 :: c1 :: c2 :: c3 :: rest)) : News h₀ L h (D :: b :: d :: x4 :: c1 :: c2 :: c3 :: rest) := fun p hp => N p (by
  simp only [List.mem_cons] at hp ⊢
  rcases hp with h | h | h | h | h | h | h | h <;> simp only [h, true_or, or_true])
set_option maxHeartbeats 0 in
theorem option_spec (w : World) (mean : ExcName → Option Value) (mg mb : Str → Option Value) (b d : Addr) (vs : List Value) (nb nd : Nat) (sd : Int) (ts : Tok) (rest : List (Addr × Obj))
    (hbd : @LT.lt Nat _ b d) (hrb : ∀ p ∈ rest, p.1 ≠ b) (hrd : ∀ p ∈ rest, p.1 ≠ d) (hok : DrawOk vs sd) :
    Spec 40 w mean mg mb 303 [.ref d] (drawL b d vs nb nd sd ts rest) (OptOut b d rest) := by
  unfold Spec
  intro dp un gd cn cs a ccd cl outer A₀ base h₀ L m s Q E B F X N T hk hd hu hret
  obtain ⟨pT, lT, T⟩ := T
  dsimp only [drawL] at N
  refine wpAny_call ?_
  k_dflt cell_enter
  k_steps
  · apply Hold.out
    rename Fr _ _ _ _ => lF
    rename Obj.data _ = Data.cell (some (Value.str _ _)) => dV
    rename Obj.data _ = Data.cell (some (Value.int _ _)) => dE
    obtain ⟨V, eV, dV9⟩ := cellStr dV
    obtain ⟨ev, eE, dE9⟩ := cellInt dE
    subst eV eE
    clear dV9 dE9
    have hVm : V ∈ vM := by assumption
    have hVl : V.length ≤ 30 := by assumption
    have hev0 : 0 ≤ ev := by assumption
    have hev2 : ev < 2 := by assumption
    k_dflt (refine en_Assign (fun i y => ∃ t, y = .str (toldItem [nA] V ev i) t) lF (by rfl) (by with_unfolding_all rfl) (by rfl) (by decide) (by rfl) (by decide) (by rfl) (by rfl) (by decide) (by rfl) (by rfl) ?_)
    k_steps
    rename Fr _ _ _ _ => lF
    rename News _ _ _ _ => lN
    refine en_call (by rfl) lF lN (by k_mem) (by exact Nat.le_of_ble_eq_true rfl) ?_ ?_
    · intro i v hv g
      rcases i with _ | i
      · simp only [List.getElem?_toArray, List.getElem?_cons_zero, List.getElem?_cons_succ, Option.some.injEq] at hv
        subst hv
        intro t C oC m₂ h tk Q' E' hC ha hb F9 N9 hlt9 hQ
        k_steps
        all_goals exact hQ _ _ (told_eq (by simp_all))
      · simp at hv
    · intro D ys h tk hy1 hy2 hy3 g h₂ tk₂ F2 N2
      obtain ⟨y0, rfl⟩ : ∃ y0, ys = [y0] := List.length_eq_one_iff.mp hy1
      obtain ⟨t0, rfl⟩ := hy2 0 y0 rfl
      have hT0 := told_len (nms := [nA]) (V := V) (ev := ev) (i := 0) (by decide +kernel) hVl
      obtain ⟨T0, eT0⟩ : ∃ T0, T0 = toldItem [nA] V ev 0 := ⟨_, rfl⟩
      rw [← eT0] at hT0 N2
      replace N2 := prune0 N2
      k_lt hy3
      clear lF lN hy1 hy2
      k_steps
      all_goals first
        | (exfalso; exact (lk_dflt (by assumption)).1 rfl (by assumption) (by assumption) (by assumption))
        | (rename Fr _ _ _ _ => kF9
           rename News _ _ _ _ => kN9
           obtain ⟨P, eP, hPm⟩ := named (L := prM) (by with_reducible assumption)
           obtain ⟨B9, eB, hBm⟩ := named (L := beM) (by with_reducible assumption)
           obtain ⟨W, eW, hWm⟩ := named (L := wM) (by with_reducible assumption)
           subst eP eB eW eT0
           (try dsimp only at kF9 kN9 ⊢)
           first
             | (obtain ⟨G, eG, hGm⟩ := named (L := gM) (by with_reducible assumption)
                subst eG
                refine hret _ _ _ _ ⟨P, B9, V, W, G, [nA], ev, _, _, _, _, _, _, _, _, _, _, _, _, _, ⟨hPm, hBm, hVm, hWm, hGm, (by first | exact List.Mem.head _ | exact List.Mem.tail _ (List.Mem.head _) | exact List.Mem.tail _ (List.Mem.tail _ (List.Mem.head _)) | exact List.Mem.tail _ (List.Mem.tail _ (List.Mem.tail _ (List.Mem.head _)))), hev0, hev2⟩, rfl, (optText_some (by with_reducible assumption)).symm, ?_, by assumption, ⟨by omega, by omega, by omega, by omega⟩, rfl⟩ kF9 (opt_sub kN9 (by intro p9 hp9; repeat (first | exact hp9 | apply List.mem_cons_of_mem)))
                refine DatAll.cons ?_ (DatAll.cons ?_ (DatAll.cons ?_ (DatAll.cons ?_ DatAll.nil)))
                · first | (rw [if_pos (by decide +kernel)]; exact DatIn.str _ _) | (rw [if_neg (by decide +kernel)]; exact DatIn.none)
                · first | (rw [if_pos (by decide +kernel)]; exact DatIn.str _ _) | (rw [if_neg (by decide +kernel)]; exact DatIn.none)
                · first | (rw [if_pos (by with_reducible assumption)]; exact DatIn.int _ _) | (rw [if_neg (ne_true_of_eq_false (by with_reducible assumption))]; exact DatIn.int _ _)
                · first | (rw [if_pos (by with_reducible assumption)]; exact DatIn.bool _) | (rw [if_neg (ne_true_of_eq_false (by with_reducible assumption))]; first | (rw [show W = Str.ofString "it does  [default: 7]" from by with_reducible assumption, dflt7]; exact DatIn.str _ _) | (rw [show W = Str.ofString "[DEFAULT: a b.c]" from by with_reducible assumption, dfltAb]; exact DatIn.str _ _) | (rw [show W = Str.ofString "x [default: ]" from by with_reducible assumption, dfltE]; exact DatIn.str _ _) | (rw [(lk_dflt (W := W) (by assumption)).2 rfl]; exact DatIn.none)))
             | (have hGm : Str.ofString "  " ∈ gM := List.Mem.head _
                refine hret _ _ _ _ ⟨P, B9, V, W, (Str.ofString "  "), [nA], ev, _, _, _, _, _, _, _, _, _, _, _, _, _, ⟨hPm, hBm, hVm, hWm, hGm, (by first | exact List.Mem.head _ | exact List.Mem.tail _ (List.Mem.head _) | exact List.Mem.tail _ (List.Mem.tail _ (List.Mem.head _)) | exact List.Mem.tail _ (List.Mem.tail _ (List.Mem.tail _ (List.Mem.head _)))), hev0, hev2⟩, rfl, (optText_none (by with_reducible assumption)).symm, ?_, by assumption, ⟨by omega, by omega, by omega, by omega⟩, rfl⟩ kF9 (opt_sub kN9 (by intro p9 hp9; repeat (first | exact hp9 | apply List.mem_cons_of_mem)))
                refine DatAll.cons ?_ (DatAll.cons ?_ (DatAll.cons ?_ (DatAll.cons ?_ DatAll.nil)))
                · first | (rw [if_pos (by decide +kernel)]; exact DatIn.str _ _) | (rw [if_neg (by decide +kernel)]; exact DatIn.none)
                · first | (rw [if_pos (by decide +kernel)]; exact DatIn.str _ _) | (rw [if_neg (by decide +kernel)]; exact DatIn.none)
                · first | (rw [if_pos (by with_reducible assumption)]; exact DatIn.int _ _) | (rw [if_neg (ne_true_of_eq_false (by with_reducible assumption))]; exact DatIn.int _ _)
                · first | (rw [if_pos (by with_reducible assumption)]; exact DatIn.bool _) | (rw [if_neg (ne_true_of_eq_false (by with_reducible assumption))]; first | (rw [show W = Str.ofString "it does  [default: 7]" from by with_reducible assumption, dflt7]; exact DatIn.str _ _) | (rw [show W = Str.ofString "[DEFAULT: a b.c]" from by with_reducible assumption, dfltAb]; exact DatIn.str _ _) | (rw [show W = Str.ofString "x [default: ]" from by with_reducible assumption, dfltE]; exact DatIn.str _ _) | (rw [(lk_dflt (W := W) (by assumption)).2 rfl]; exact DatIn.none))))
  · apply Hold.out
    rename Fr _ _ _ _ => lF
    rename Obj.data _ = Data.cell (some (Value.str _ _)) => dV
    rename Obj.data _ = Data.cell (some (Value.int _ _)) => dE
    obtain ⟨V, eV, dV9⟩ := cellStr dV
    obtain ⟨ev, eE, dE9⟩ := cellInt dE
    subst eV eE
    clear dV9 dE9
    have hVm : V ∈ vM := by assumption
    have hVl : V.length ≤ 30 := by assumption
    have hev0 : 0 ≤ ev := by assumption
    have hev2 : ev < 2 := by assumption
    k_dflt (refine en_Assign (fun i y => ∃ t, y = .str (toldItem [nL] V ev i) t) lF (by rfl) (by with_unfolding_all rfl) (by rfl) (by decide) (by rfl) (by decide) (by rfl) (by rfl) (by decide) (by rfl) (by rfl) ?_)
    k_steps
    rename Fr _ _ _ _ => lF
    rename News _ _ _ _ => lN
    refine en_call (by rfl) lF lN (by k_mem) (by exact Nat.le_of_ble_eq_true rfl) ?_ ?_
    · intro i v hv g
      rcases i with _ | i
      · simp only [List.getElem?_toArray, List.getElem?_cons_zero, List.getElem?_cons_succ, Option.some.injEq] at hv
        subst hv
        intro t C oC m₂ h tk Q' E' hC ha hb F9 N9 hlt9 hQ
        k_steps
        all_goals exact hQ _ _ (told_eq (by simp_all))
      · simp at hv
    · intro D ys h tk hy1 hy2 hy3 g h₂ tk₂ F2 N2
      obtain ⟨y0, rfl⟩ : ∃ y0, ys = [y0] := List.length_eq_one_iff.mp hy1
      obtain ⟨t0, rfl⟩ := hy2 0 y0 rfl
      have hT0 := told_len (nms := [nL]) (V := V) (ev := ev) (i := 0) (by decide +kernel) hVl
      obtain ⟨T0, eT0⟩ : ∃ T0, T0 = toldItem [nL] V ev 0 := ⟨_, rfl⟩
      rw [← eT0] at hT0 N2
      replace N2 := prune1 N2
      k_lt hy3
      clear lF lN hy1 hy2
      k_steps
      all_goals first
        | (exfalso; exact (lk_dflt (by assumption)).1 rfl (by assumption) (by assumption) (by assumption))
        | (rename Fr _ _ _ _ => kF9
           rename News _ _ _ _ => kN9
           obtain ⟨P, eP, hPm⟩ := named (L := prM) (by with_reducible assumption)
           obtain ⟨B9, eB, hBm⟩ := named (L := beM) (by with_reducible assumption)
           obtain ⟨W, eW, hWm⟩ := named (L := wM) (by with_reducible assumption)
           subst eP eB eW eT0
           (try dsimp only at kF9 kN9 ⊢)
           first
             | (obtain ⟨G, eG, hGm⟩ := named (L := gM) (by with_reducible assumption)
                subst eG
                refine hret _ _ _ _ ⟨P, B9, V, W, G, [nL], ev, _, _, _, _, _, _, _, _, _, _, _, _, _, ⟨hPm, hBm, hVm, hWm, hGm, (by first | exact List.Mem.head _ | exact List.Mem.tail _ (List.Mem.head _) | exact List.Mem.tail _ (List.Mem.tail _ (List.Mem.head _)) | exact List.Mem.tail _ (List.Mem.tail _ (List.Mem.tail _ (List.Mem.head _)))), hev0, hev2⟩, rfl, (optText_some (by with_reducible assumption)).symm, ?_, by assumption, ⟨by omega, by omega, by omega, by omega⟩, rfl⟩ kF9 (opt_sub kN9 (by intro p9 hp9; repeat (first | exact hp9 | apply List.mem_cons_of_mem)))
                refine DatAll.cons ?_ (DatAll.cons ?_ (DatAll.cons ?_ (DatAll.cons ?_ DatAll.nil)))
                · first | (rw [if_pos (by decide +kernel)]; exact DatIn.str _ _) | (rw [if_neg (by decide +kernel)]; exact DatIn.none)
                · first | (rw [if_pos (by decide +kernel)]; exact DatIn.str _ _) | (rw [if_neg (by decide +kernel)]; exact DatIn.none)
                · first | (rw [if_pos (by with_reducible assumption)]; exact DatIn.int _ _) | (rw [if_neg (ne_true_of_eq_false (by with_reducible assumption))]; exact DatIn.int _ _)
                · first | (rw [if_pos (by with_reducible assumption)]; exact DatIn.bool _) | (rw [if_neg (ne_true_of_eq_false (by with_reducible assumption))]; first | (rw [show W = Str.ofString "it does  [default: 7]" from by with_reducible assumption, dflt7]; exact DatIn.str _ _) | (rw [show W = Str.ofString "[DEFAULT: a b.c]" from by with_reducible assumption, dfltAb]; exact DatIn.str _ _) | (rw [show W = Str.ofString "x [default: ]" from by with_reducible assumption, dfltE]; exact DatIn.str _ _) | (rw [(lk_dflt (W := W) (by assumption)).2 rfl]; exact DatIn.none)))
             | (have hGm : Str.ofString "  " ∈ gM := List.Mem.head _
                refine hret _ _ _ _ ⟨P, B9, V, W, (Str.ofString "  "), [nL], ev, _, _, _, _, _, _, _, _, _, _, _, _, _, ⟨hPm, hBm, hVm, hWm, hGm, (by first | exact List.Mem.head _ | exact List.Mem.tail _ (List.Mem.head _) | exact List.Mem.tail _ (List.Mem.tail _ (List.Mem.head _)) | exact List.Mem.tail _ (List.Mem.tail _ (List.Mem.tail _ (List.Mem.head _)))), hev0, hev2⟩, rfl, (optText_none (by with_reducible assumption)).symm, ?_, by assumption, ⟨by omega, by omega, by omega, by omega⟩, rfl⟩ kF9 (opt_sub kN9 (by intro p9 hp9; repeat (first | exact hp9 | apply List.mem_cons_of_mem)))
                refine DatAll.cons ?_ (DatAll.cons ?_ (DatAll.cons ?_ (DatAll.cons ?_ DatAll.nil)))
                · first | (rw [if_pos (by decide +kernel)]; exact DatIn.str _ _) | (rw [if_neg (by decide +kernel)]; exact DatIn.none)
                · first | (rw [if_pos (by decide +kernel)]; exact DatIn.str _ _) | (rw [if_neg (by decide +kernel)]; exact DatIn.none)
                · first | (rw [if_pos (by with_reducible assumption)]; exact DatIn.int _ _) | (rw [if_neg (ne_true_of_eq_false (by with_reducible assumption))]; exact DatIn.int _ _)
                · first | (rw [if_pos (by with_reducible assumption)]; exact DatIn.bool _) | (rw [if_neg (ne_true_of_eq_false (by with_reducible assumption))]; first | (rw [show W = Str.ofString "it does  [default: 7]" from by with_reducible assumption, dflt7]; exact DatIn.str _ _) | (rw [show W = Str.ofString "[DEFAULT: a b.c]" from by with_reducible assumption, dfltAb]; exact DatIn.str _ _) | (rw [show W = Str.ofString "x [default: ]" from by with_reducible assumption, dfltE]; exact DatIn.str _ _) | (rw [(lk_dflt (W := W) (by assumption)).2 rfl]; exact DatIn.none))))
  · apply Hold.out
    rename Fr _ _ _ _ => lF
    rename Obj.data _ = Data.cell (some (Value.str _ _)) => dV
    rename Obj.data _ = Data.cell (some (Value.int _ _)) => dE
    obtain ⟨V, eV, dV9⟩ := cellStr dV
    obtain ⟨ev, eE, dE9⟩ := cellInt dE
    subst eV eE
    clear dV9 dE9
    have hVm : V ∈ vM := by assumption
    have hVl : V.length ≤ 30 := by assumption
    have hev0 : 0 ≤ ev := by assumption
    have hev2 : ev < 2 := by assumption
    k_dflt (refine en_Assign (fun i y => ∃ t, y = .str (toldItem [nA, nL] V ev i) t) lF (by rfl) (by with_unfolding_all rfl) (by rfl) (by decide) (by rfl) (by decide) (by rfl) (by rfl) (by decide) (by rfl) (by rfl) ?_)
    k_steps
    rename Fr _ _ _ _ => lF
    rename News _ _ _ _ => lN
    refine en_call (by rfl) lF lN (by k_mem) (by exact Nat.le_of_ble_eq_true rfl) ?_ ?_
    · intro i v hv g
      rcases i with _ | _ | i
      · simp only [List.getElem?_toArray, List.getElem?_cons_zero, List.getElem?_cons_succ, Option.some.injEq] at hv
        subst hv
        intro t C oC m₂ h tk Q' E' hC ha hb F9 N9 hlt9 hQ
        k_steps
        all_goals exact hQ _ _ (told_eq (by simp_all))
      · simp only [List.getElem?_toArray, List.getElem?_cons_zero, List.getElem?_cons_succ, Option.some.injEq] at hv
        subst hv
        intro t C oC m₂ h tk Q' E' hC ha hb F9 N9 hlt9 hQ
        k_steps
        all_goals exact hQ _ _ (told_eq (by simp_all))
      · simp at hv
    · intro D ys h tk hy1 hy2 hy3 g h₂ tk₂ F2 N2
      obtain ⟨y0, y1, rfl⟩ : ∃ y0 y1, ys = [y0, y1] := len2 hy1
      obtain ⟨t0, rfl⟩ := hy2 0 y0 rfl
      have hT0 := told_len (nms := [nA, nL]) (V := V) (ev := ev) (i := 0) (by decide +kernel) hVl
      obtain ⟨T0, eT0⟩ : ∃ T0, T0 = toldItem [nA, nL] V ev 0 := ⟨_, rfl⟩
      rw [← eT0] at hT0 N2
      obtain ⟨t1, rfl⟩ := hy2 1 y1 rfl
      have hT1 := told_len (nms := [nA, nL]) (V := V) (ev := ev) (i := 1) (by decide +kernel) hVl
      obtain ⟨T1, eT1⟩ : ∃ T1, T1 = toldItem [nA, nL] V ev 1 := ⟨_, rfl⟩
      rw [← eT1] at hT1 N2
      replace N2 := prune2 N2
      k_lt hy3
      clear lF lN hy1 hy2
      k_steps
      all_goals first
        | (exfalso; exact (lk_dflt (by assumption)).1 rfl (by assumption) (by assumption) (by assumption))
        | (rename Fr _ _ _ _ => kF9
           rename News _ _ _ _ => kN9
           obtain ⟨P, eP, hPm⟩ := named (L := prM) (by with_reducible assumption)
           obtain ⟨B9, eB, hBm⟩ := named (L := beM) (by with_reducible assumption)
           obtain ⟨W, eW, hWm⟩ := named (L := wM) (by with_reducible assumption)
           subst eP eB eW eT0 eT1
           (try dsimp only at kF9 kN9 ⊢)
           first
             | (obtain ⟨G, eG, hGm⟩ := named (L := gM) (by with_reducible assumption)
                subst eG
                refine hret _ _ _ _ ⟨P, B9, V, W, G, [nA, nL], ev, _, _, _, _, _, _, _, _, _, _, _, _, _, ⟨hPm, hBm, hVm, hWm, hGm, (by first | exact List.Mem.head _ | exact List.Mem.tail _ (List.Mem.head _) | exact List.Mem.tail _ (List.Mem.tail _ (List.Mem.head _)) | exact List.Mem.tail _ (List.Mem.tail _ (List.Mem.tail _ (List.Mem.head _)))), hev0, hev2⟩, rfl, (optText_some (by with_reducible assumption)).symm, ?_, by assumption, ⟨by omega, by omega, by omega, by omega⟩, rfl⟩ kF9 (opt_sub kN9 (by intro p9 hp9; repeat (first | exact hp9 | apply List.mem_cons_of_mem)))
                refine DatAll.cons ?_ (DatAll.cons ?_ (DatAll.cons ?_ (DatAll.cons ?_ DatAll.nil)))
                · first | (rw [if_pos (by decide +kernel)]; exact DatIn.str _ _) | (rw [if_neg (by decide +kernel)]; exact DatIn.none)
                · first | (rw [if_pos (by decide +kernel)]; exact DatIn.str _ _) | (rw [if_neg (by decide +kernel)]; exact DatIn.none)
                · first | (rw [if_pos (by with_reducible assumption)]; exact DatIn.int _ _) | (rw [if_neg (ne_true_of_eq_false (by with_reducible assumption))]; exact DatIn.int _ _)
                · first | (rw [if_pos (by with_reducible assumption)]; exact DatIn.bool _) | (rw [if_neg (ne_true_of_eq_false (by with_reducible assumption))]; first | (rw [show W = Str.ofString "it does  [default: 7]" from by with_reducible assumption, dflt7]; exact DatIn.str _ _) | (rw [show W = Str.ofString "[DEFAULT: a b.c]" from by with_reducible assumption, dfltAb]; exact DatIn.str _ _) | (rw [show W = Str.ofString "x [default: ]" from by with_reducible assumption, dfltE]; exact DatIn.str _ _) | (rw [(lk_dflt (W := W) (by assumption)).2 rfl]; exact DatIn.none)))
             | (have hGm : Str.ofString "  " ∈ gM := List.Mem.head _
                refine hret _ _ _ _ ⟨P, B9, V, W, (Str.ofString "  "), [nA, nL], ev, _, _, _, _, _, _, _, _, _, _, _, _, _, ⟨hPm, hBm, hVm, hWm, hGm, (by first | exact List.Mem.head _ | exact List.Mem.tail _ (List.Mem.head _) | exact List.Mem.tail _ (List.Mem.tail _ (List.Mem.head _)) | exact List.Mem.tail _ (List.Mem.tail _ (List.Mem.tail _ (List.Mem.head _)))), hev0, hev2⟩, rfl, (optText_none (by with_reducible assumption)).symm, ?_, by assumption, ⟨by omega, by omega, by omega, by omega⟩, rfl⟩ kF9 (opt_sub kN9 (by intro p9 hp9; repeat (first | exact hp9 | apply List.mem_cons_of_mem)))
                refine DatAll.cons ?_ (DatAll.cons ?_ (DatAll.cons ?_ (DatAll.cons ?_ DatAll.nil)))
                · first | (rw [if_pos (by decide +kernel)]; exact DatIn.str _ _) | (rw [if_neg (by decide +kernel)]; exact DatIn.none)
                · first | (rw [if_pos (by decide +kernel)]; exact DatIn.str _ _) | (rw [if_neg (by decide +kernel)]; exact DatIn.none)
                · first | (rw [if_pos (by with_reducible assumption)]; exact DatIn.int _ _) | (rw [if_neg (ne_true_of_eq_false (by with_reducible assumption))]; exact DatIn.int _ _)
                · first | (rw [if_pos (by with_reducible assumption)]; exact DatIn.bool _) | (rw [if_neg (ne_true_of_eq_false (by with_reducible assumption))]; first | (rw [show W = Str.ofString "it does  [default: 7]" from by with_reducible assumption, dflt7]; exact DatIn.str _ _) | (rw [show W = Str.ofString "[DEFAULT: a b.c]" from by with_reducible assumption, dfltAb]; exact DatIn.str _ _) | (rw [show W = Str.ofString "x [default: ]" from by with_reducible assumption, dfltE]; exact DatIn.str _ _) | (rw [(lk_dflt (W := W) (by assumption)).2 rfl]; exact DatIn.none))))
  · apply Hold.out
    rename Fr _ _ _ _ => lF
    rename Obj.data _ = Data.cell (some (Value.str _ _)) => dV
    rename Obj.data _ = Data.cell (some (Value.int _ _)) => dE
    obtain ⟨V, eV, dV9⟩ := cellStr dV
    obtain ⟨ev, eE, dE9⟩ := cellInt dE
    subst eV eE
    clear dV9 dE9
    have hVm : V ∈ vM := by assumption
    have hVl : V.length ≤ 30 := by assumption
    have hev0 : 0 ≤ ev := by assumption
    have hev2 : ev < 2 := by assumption
    k_dflt (refine en_Assign (fun i y => ∃ t, y = .str (toldItem [nL, nA] V ev i) t) lF (by rfl) (by with_unfolding_all rfl) (by rfl) (by decide) (by rfl) (by decide) (by rfl) (by rfl) (by decide) (by rfl) (by rfl) ?_)
    k_steps
    rename Fr _ _ _ _ => lF
    rename News _ _ _ _ => lN
    refine en_call (by rfl) lF lN (by k_mem) (by exact Nat.le_of_ble_eq_true rfl) ?_ ?_
    · intro i v hv g
      rcases i with _ | _ | i
      · simp only [List.getElem?_toArray, List.getElem?_cons_zero, List.getElem?_cons_succ, Option.some.injEq] at hv
        subst hv
        intro t C oC m₂ h tk Q' E' hC ha hb F9 N9 hlt9 hQ
        k_steps
        all_goals exact hQ _ _ (told_eq (by simp_all))
      · simp only [List.getElem?_toArray, List.getElem?_cons_zero, List.getElem?_cons_succ, Option.some.injEq] at hv
        subst hv
        intro t C oC m₂ h tk Q' E' hC ha hb F9 N9 hlt9 hQ
        k_steps
        all_goals exact hQ _ _ (told_eq (by simp_all))
      · simp at hv
    · intro D ys h tk hy1 hy2 hy3 g h₂ tk₂ F2 N2
      obtain ⟨y0, y1, rfl⟩ : ∃ y0 y1, ys = [y0, y1] := len2 hy1
      obtain ⟨t0, rfl⟩ := hy2 0 y0 rfl
      have hT0 := told_len (nms := [nL, nA]) (V := V) (ev := ev) (i := 0) (by decide +kernel) hVl
      obtain ⟨T0, eT0⟩ : ∃ T0, T0 = toldItem [nL, nA] V ev 0 := ⟨_, rfl⟩
      rw [← eT0] at hT0 N2
      obtain ⟨t1, rfl⟩ := hy2 1 y1 rfl
      have hT1 := told_len (nms := [nL, nA]) (V := V) (ev := ev) (i := 1) (by decide +kernel) hVl
      obtain ⟨T1, eT1⟩ : ∃ T1, T1 = toldItem [nL, nA] V ev 1 := ⟨_, rfl⟩
      rw [← eT1] at hT1 N2
      replace N2 := prune3 N2
      k_lt hy3
      clear lF lN hy1 hy2
      k_steps
      all_goals first
        | (exfalso; exact (lk_dflt (by assumption)).1 rfl (by assumption) (by assumption) (by assumption))
        | (rename Fr _ _ _ _ => kF9
           rename News _ _ _ _ => kN9
           obtain ⟨P, eP, hPm⟩ := named (L := prM) (by with_reducible assumption)
           obtain ⟨B9, eB, hBm⟩ := named (L := beM) (by with_reducible assumption)
           obtain ⟨W, eW, hWm⟩ := named (L := wM) (by with_reducible assumption)
           subst eP eB eW eT0 eT1
           (try dsimp only at kF9 kN9 ⊢)
           first
             | (obtain ⟨G, eG, hGm⟩ := named (L := gM) (by with_reducible assumption)
                subst eG
                refine hret _ _ _ _ ⟨P, B9, V, W, G, [nL, nA], ev, _, _, _, _, _, _, _, _, _, _, _, _, _, ⟨hPm, hBm, hVm, hWm, hGm, (by first | exact List.Mem.head _ | exact List.Mem.tail _ (List.Mem.head _) | exact List.Mem.tail _ (List.Mem.tail _ (List.Mem.head _)) | exact List.Mem.tail _ (List.Mem.tail _ (List.Mem.tail _ (List.Mem.head _)))), hev0, hev2⟩, rfl, (optText_some (by with_reducible assumption)).symm, ?_, by assumption, ⟨by omega, by omega, by omega, by omega⟩, rfl⟩ kF9 (opt_sub kN9 (by intro p9 hp9; repeat (first | exact hp9 | apply List.mem_cons_of_mem)))
                refine DatAll.cons ?_ (DatAll.cons ?_ (DatAll.cons ?_ (DatAll.cons ?_ DatAll.nil)))
                · first | (rw [if_pos (by decide +kernel)]; exact DatIn.str _ _) | (rw [if_neg (by decide +kernel)]; exact DatIn.none)
                · first | (rw [if_pos (by decide +kernel)]; exact DatIn.str _ _) | (rw [if_neg (by decide +kernel)]; exact DatIn.none)
                · first | (rw [if_pos (by with_reducible assumption)]; exact DatIn.int _ _) | (rw [if_neg (ne_true_of_eq_false (by with_reducible assumption))]; exact DatIn.int _ _)
                · first | (rw [if_pos (by with_reducible assumption)]; exact DatIn.bool _) | (rw [if_neg (ne_true_of_eq_false (by with_reducible assumption))]; first | (rw [show W = Str.ofString "it does  [default: 7]" from by with_reducible assumption, dflt7]; exact DatIn.str _ _) | (rw [show W = Str.ofString "[DEFAULT: a b.c]" from by with_reducible assumption, dfltAb]; exact DatIn.str _ _) | (rw [show W = Str.ofString "x [default: ]" from by with_reducible assumption, dfltE]; exact DatIn.str _ _) | (rw [(lk_dflt (W := W) (by assumption)).2 rfl]; exact DatIn.none)))
             | (have hGm : Str.ofString "  " ∈ gM := List.Mem.head _
                refine hret _ _ _ _ ⟨P, B9, V, W, (Str.ofString "  "), [nL, nA], ev, _, _, _, _, _, _, _, _, _, _, _, _, _, ⟨hPm, hBm, hVm, hWm, hGm, (by first | exact List.Mem.head _ | exact List.Mem.tail _ (List.Mem.head _) | exact List.Mem.tail _ (List.Mem.tail _ (List.Mem.head _)) | exact List.Mem.tail _ (List.Mem.tail _ (List.Mem.tail _ (List.Mem.head _)))), hev0, hev2⟩, rfl, (optText_none (by with_reducible assumption)).symm, ?_, by assumption, ⟨by omega, by omega, by omega, by omega⟩, rfl⟩ kF9 (opt_sub kN9 (by intro p9 hp9; repeat (first | exact hp9 | apply List.mem_cons_of_mem)))
                refine DatAll.cons ?_ (DatAll.cons ?_ (DatAll.cons ?_ (DatAll.cons ?_ DatAll.nil)))
                · first | (rw [if_pos (by decide +kernel)]; exact DatIn.str _ _) | (rw [if_neg (by decide +kernel)]; exact DatIn.none)
                · first | (rw [if_pos (by decide +kernel)]; exact DatIn.str _ _) | (rw [if_neg (by decide +kernel)]; exact DatIn.none)
                · first | (rw [if_pos (by with_reducible assumption)]; exact DatIn.int _ _) | (rw [if_neg (ne_true_of_eq_false (by with_reducible assumption))]; exact DatIn.int _ _)
                · first | (rw [if_pos (by with_reducible assumption)]; exact DatIn.bool _) | (rw [if_neg (ne_true_of_eq_false (by with_reducible assumption))]; first | (rw [show W = Str.ofString "it does  [default: 7]" from by with_reducible assumption, dflt7]; exact DatIn.str _ _) | (rw [show W = Str.ofString "[DEFAULT: a b.c]" from by with_reducible assumption, dfltAb]; exact DatIn.str _ _) | (rw [show W = Str.ofString "x [default: ]" from by with_reducible assumption, dfltE]; exact DatIn.str _ _) | (rw [(lk_dflt (W := W) (by assumption)).2 rfl]; exact DatIn.none))))
end Mine
end PC1
section PRe
namespace Mine
theorem rst_Re : (1 : Nat) = 1 := by
  w_top off
  first | walk1 | rfl
end Mine
open PySem PySem.W PyProof.Rows PySem.Builtin PySem.Builtin.Re
set_option maxRecDepth 100000
set_option maxHeartbeats 4000000
namespace Mine
theorem runFor_stop {m : Sre.M} (h : m.outcome.isSome = true) : ∀ n, Sre.M.runFor n m = m
  | 0 => rfl
  | n + 1 => by unfold Sre.M.runFor; rw [if_pos h]
theorem runFor_succ (n : Nat) (m : Sre.M) : Sre.M.runFor (n + 1) m = if m.outcome.isSome then m else Sre.M.runFor n m.step := rfl
theorem runFor_add (b : Nat) : ∀ (a : Nat) (m : Sre.M), Sre.M.runFor (a + b) m = Sre.M.runFor b (Sre.M.runFor a m)
  | 0, m => by rw [Nat.zero_add]; rfl
  | a + 1, m => by
    have e : a + 1 + b = (a + b) + 1 := by omega
    rw [e, runFor_succ, runFor_succ]
    by_cases h : m.outcome.isSome = true
    · rw [if_pos h, if_pos h, runFor_stop h]
    · rw [if_neg h, if_neg h]
      exact runFor_add b a _
section
variable {M : Model} {A : Around} {E : Value → Shared → Prop} {s : Shared}
theorem drive_ok {Q : Sre.M → Shared → Prop} : ∀ (k turns n : Nat) (m : Sre.M), (Sre.M.runFor n m).outcome.isSome = true → n ≤ 4 * k → k ≤ turns → 0 < k → Q (Sre.M.runFor n m) s → wpAny M A (reDrive turns m) Q E s
  | 0, _, _, _, _, _, _, h0, _ => absurd h0 (Nat.lt_irrefl 0)
  | k + 1, 0, _, _, _, _, h, _, _ => absurd h (Nat.not_succ_le_zero _)
  | k + 1, turns + 1, n, m, h, hn, hk, _, hQ => by
    unfold reDrive
    dsimp only
    by_cases hs : (Sre.M.runFor reTurnSteps m).outcome.isSome = true
    · rw [if_pos hs]
      have e : Sre.M.runFor n m = Sre.M.runFor reTurnSteps m := by
        rcases Nat.le_total n reTurnSteps with q | q
        · obtain ⟨d, hd⟩ := Nat.exists_eq_add_of_le q
          rw [hd, runFor_add, runFor_stop h]
        · obtain ⟨d, hd⟩ := Nat.exists_eq_add_of_le q
          rw [hd, runFor_add, runFor_stop hs]
      rw [e] at hQ
      exact wpAny_pure hQ
    · rw [if_neg hs]
      refine wpAny_bind (wpAny_rule ?_)
      have q : reTurnSteps ≤ n := by
        rcases Nat.le_total n reTurnSteps with q | q
        · obtain ⟨d, hd⟩ := Nat.exists_eq_add_of_le q
          exfalso
          rw [hd, runFor_add, runFor_stop h] at hs
          exact hs h
        · exact q
      obtain ⟨d, hd⟩ := Nat.exists_eq_add_of_le q
      have q4 : reTurnSteps = 4 := rfl
      have hk0 : 0 < k := by
        rcases Nat.eq_zero_or_pos k with z | z
        · exfalso
          subst z
          have : n = reTurnSteps := by omega
          rw [this] at h
          exact hs h
        · exact z
      rw [hd, runFor_add] at h hQ
      exact drive_ok k turns d _ h (by omega) (Nat.le_of_succ_le_succ hk) hk0 hQ
/-- a machine that ends within the turns -/
def Got (m₀ m : Sre.M) : Prop := ∃ n, n ≤ 1000000000 ∧ Sre.M.runFor n m₀ = m ∧ m.outcome = some .matched
def Lost (m₀ : Sre.M) : Prop := ∃ n, n ≤ 1000000000 ∧ (Sre.M.runFor n m₀).outcome = some .failed
theorem rules_ok {f : Nat → PUnit → Sem (ForInStep PUnit)} {Q : PUnit → Shared → Prop} (h : Q ⟨⟩ s) (hf : ∀ i (R : ForInStep PUnit → Shared → Prop) s', R (.yield ⟨⟩) s' → wpAny M A (f i ⟨⟩) R E s') (l : List Nat) : wpAny M A (forIn l PUnit.unit f) Q E s := by
  refine wpAny_forIn_list _ (fun _ _ s' => s' = s) Q ?_ ?_ _ _ rfl
  · rintro x rest b s' rfl
    exact hf x _ _ rfl
  · rintro b s' rfl
    exact h
theorem toEnd_got {m₀ m : Sre.M} {Q : Option Sre.M → Shared → Prop} (h : Got m₀ m) (hQ : Q (some m) s) : wpAny M A (reRunToEnd m₀) Q E s := by
  obtain ⟨n, hn, he, ho⟩ := h
  unfold reRunToEnd
  refine wpAny_bind (drive_ok 250000000 (2 ^ 64) n m₀ (by rw [he, ho]; rfl) (by omega) (by decide) (by decide) ?_)
  rw [he]
  refine wpAny_bind ?_
  refine rules_ok ?_ ?_ _
  · rw [ho]
    exact wpAny_pure hQ
  · intro i R s' hR
    split
    · exact wpAny_bind (wpAny_rule (wpAny_pure hR))
    · exact wpAny_pure hR
theorem toEnd_lost {m₀ : Sre.M} {Q : Option Sre.M → Shared → Prop} (h : Lost m₀) (hQ : Q none s) : wpAny M A (reRunToEnd m₀) Q E s := by
  obtain ⟨n, hn, ho⟩ := h
  unfold reRunToEnd
  refine wpAny_bind (drive_ok 250000000 (2 ^ 64) n m₀ (by rw [ho]; rfl) (by omega) (by decide) (by decide) ?_)
  refine wpAny_bind ?_
  refine rules_ok ?_ ?_ _
  · rw [ho]
    exact wpAny_pure hQ
  · intro i R s' hR
    split
    · exact wpAny_bind (wpAny_rule (wpAny_pure hR))
    · exact wpAny_pure hR
end
theorem re_attrs : PlainAttrs "re.Pattern" :=
  ⟨⟨"object.__getattribute__", by rw [typeLookup_type, builtinLookup_eq_fast]; kernel_rfl, by decide +kernel⟩, by rw [typeLookup_type, builtinLookup_eq_fast]; kernel_rfl⟩
theorem slot_findall : Slot "re.Pattern" "findall" "re.Pattern.findall" :=
  .of (owner := "re.Pattern") (n := "findall") (by rw [typeLookup_type, builtinLookup_eq_fast]; kernel_rfl) (by decide +kernel) (by decide +kernel) (by decide +kernel)
    (by first | exact .inl (by decide +kernel) | exact .inr (by decide +kernel)) (by rw [isSubtype_type]; kernel_rfl)
theorem type_findall : typeOf (.builtin "re.Pattern.findall") = pure (.type "method_descriptor") := by show builtinType _ = _; rw [builtinType_eq_fast]; kernel_rfl
theorem entry_findall : entryFor table "re.Pattern.findall" = some Builtin.«re.Pattern.findall» := entryFor_of_tree (by kernel_rfl)
theorem args_findall (a b : Value) : argsOk "re.Pattern.findall" ⟨[a, b], []⟩ := by
  unfold argsOk; kernel_rfl
theorem slot_resplit : Slot "re.Pattern" "split" "re.Pattern.split" :=
  .of (owner := "re.Pattern") (n := "split") (by rw [typeLookup_type, builtinLookup_eq_fast]; kernel_rfl) (by decide +kernel) (by decide +kernel) (by decide +kernel)
    (by first | exact .inl (by decide +kernel) | exact .inr (by decide +kernel)) (by rw [isSubtype_type]; kernel_rfl)
theorem type_resplit : typeOf (.builtin "re.Pattern.split") = pure (.type "method_descriptor") := by show builtinType _ = _; rw [builtinType_eq_fast]; kernel_rfl
theorem entry_resplit : entryFor table "re.Pattern.split" = some Builtin.«re.Pattern.split» := entryFor_of_tree (by kernel_rfl)
theorem args_resplit (a b : Value) : argsOk "re.Pattern.split" ⟨[a, b], []⟩ := by
  unfold argsOk; kernel_rfl
end Mine
end PRe
section PRe2
namespace Mine
theorem rst_Re2 : (1 : Nat) = 1 := by
  w_top off
  first | walk1 | rfl
end Mine
open PySem PySem.W PyProof.Rows PySem.Builtin PySem.Builtin.Re
set_option maxRecDepth 100000
set_option maxHeartbeats 4000000
namespace Mine
/-- a compiled pattern of the heap's -/
structure RePat (h : Heap) (P : Addr) (code : Array Nat) (groups : Nat) : Prop where
  ex : ∃ (o oc : Obj) (C : Addr) (fs items : Array Value) (n : Nat), h.get? P = some o ∧ o.cls = .type "re.Pattern" ∧ o.dict = none ∧ o.data = .fields fs ∧ reRawNat (fs.getD 2 .none) = groups ∧ reRawNat (fs.getD 6 .none) = 0 ∧
    fs.getD 5 .none = .ref C ∧ h.get? C = some oc ∧ oc.data = .seq items n ∧ (items.map reRawOf).map (·.toNat) = code
abbrev tgt (P : Addr) (x : Str) (t : Tok) (code : Array Nat) (groups : Nat) : ReTarget := { pattern := .ref P, string := .str x t, code, text := x.cps, kind := 0, groups, pos := 0, lim := x.cps.size }
section
variable {M : Model} {A : Around} {E : Value → Shared → Prop} {s : Shared}
theorem target_ok {P : Addr} {x : Str} {t : Tok} {code : Array Nat} {groups : Nat} {id f : String} {Q : ReTarget → Shared → Prop} (hp : RePat s.heap P code groups) (hx : x.length ≤ 1000000) (h : Q (tgt P x t code groups) s) :
    wpAny M A (reTarget id f ⟨[.ref P, .str x t], []⟩) Q E s := by
  obtain ⟨o, oc, C, fs, items, n, h1, h2, h3, h4, h5, h6, h7, h8, h9, h10⟩ := hp.ex
  unfold reTarget
  dsimp only
  have e1 : reNamed id f ["string", "pos", "endpos"] 1 [Value.str x t] [] = pure [some (.str x t), none, none] := rfl
  rw [e1]
  refine wpAny_bind (wpAny_pure ?_)
  dsimp only
  refine wpAny_bind (wpAny_pure ?_)
  refine wpAny_bind (wpAny_pure ?_)
  have e2 : wpAny M A (fieldsOf (.ref P)) (fun r s' => r = fs ∧ s' = s) E s := by
    unfold fieldsOf
    refine wpAny_bind (wpAny_load h1 ?_)
    rw [h4]
    exact wpAny_pure ⟨rfl, rfl⟩
  refine wpAny_bind (wpAny_mono e2 ?_ fun _ _ e => e)
  rintro r s' ⟨rfl, rfl⟩
  have e3 : reTextOf (.str x t) = pure (x.cps, 0) := rfl
  rw [e3]
  refine wpAny_bind (wpAny_pure ?_)
  dsimp only
  rw [h6, h7, h5]
  rw [if_neg (by decide), if_neg (by decide)]
  have e4 : reNoCollectionInside (Value.str x t) 0 = pure () := rfl
  rw [e4]
  refine wpAny_bind (wpAny_pure ?_)
  have e5 : wpAny M A (reRawItems (.ref C)) (fun r s'' => r = items.map reRawOf ∧ s'' = s') E s' := by
    unfold reRawItems
    exact wpAny_bind (wpAny_seqItems h8 h9 (wpAny_pure ⟨rfl, rfl⟩))
  refine wpAny_bind (wpAny_mono e5 ?_ fun _ _ e => e)
  rintro r2 s'' ⟨rfl, rfl⟩
  refine wpAny_pure ?_
  rw [h10]
  have e6 : Min.min (Int.toNat 0) x.cps.size = 0 := Nat.zero_min _
  have e7 : Min.min ((2 : Int) ^ 63 - 1).toNat x.cps.size = x.cps.size := by
    have : ((2 : Int) ^ 63 - 1).toNat = 9223372036854775807 := by decide
    have h2 : x.cps.size ≤ 1000000 := hx
    rw [this]
    omega
  rw [e6, e7]
  exact h
theorem wholeTarget_ok {P : Addr} {x : Str} {t : Tok} {code : Array Nat} {groups : Nat} {Q : ReTarget → Shared → Prop} (hp : RePat s.heap P code groups) (h : Q (tgt P x t code groups) s) :
    wpAny M A (reWholeTarget (.ref P) (.str x t)) Q E s := by
  obtain ⟨o, oc, C, fs, items, n, h1, h2, h3, h4, h5, h6, h7, h8, h9, h10⟩ := hp.ex
  unfold reWholeTarget
  have e2 : wpAny M A (fieldsOf (.ref P)) (fun r s' => r = fs ∧ s' = s) E s := by
    unfold fieldsOf
    refine wpAny_bind (wpAny_load h1 ?_)
    rw [h4]
    exact wpAny_pure ⟨rfl, rfl⟩
  refine wpAny_bind (wpAny_mono e2 ?_ fun _ _ e => e)
  rintro r s' ⟨rfl, rfl⟩
  have e3 : reTextOf (.str x t) = pure (x.cps, 0) := rfl
  rw [e3]
  refine wpAny_bind (wpAny_pure ?_)
  dsimp only
  rw [h6, h7, h5]
  rw [if_neg (by decide), if_neg (by decide)]
  have e4 : reNoCollectionInside (Value.str x t) 0 = pure () := rfl
  rw [e4]
  refine wpAny_bind (wpAny_pure ?_)
  have e5 : wpAny M A (reRawItems (.ref C)) (fun r s'' => r = items.map reRawOf ∧ s'' = s') E s' := by
    unfold reRawItems
    exact wpAny_bind (wpAny_seqItems h8 h9 (wpAny_pure ⟨rfl, rfl⟩))
  refine wpAny_bind (wpAny_mono e5 ?_ fun _ _ e => e)
  rintro r2 s'' ⟨rfl, rfl⟩
  refine wpAny_pure ?_
  rw [h10]
  exact h
theorem slice_ok {x : Str} {b e : Nat} {Q : Value → Shared → Prop} (hx : x.length ≤ 1000000) (h : ∀ t k, Q (.str ⟨x.cps.extract b e⟩ t) { s with toks := k }) : wpAny M A (reSlice x.cps 0 b e) Q E s := by
  unfold reSlice
  rw [if_pos (by decide)]
  refine wpAny_mkStr (h _ _) ?_
  show (x.cps.extract b e).size ≤ sizeLine
  have h1 : x.cps.size ≤ 1000000 := hx
  rw [sizeLine_eq, Array.size_extract]
  omega
/-- the text of a machine's first group -/
def grp1 (T : Array Nat) (m : Sre.M) (g : Str) : Prop := ∃ b e, ¬ ((0 : Int) ≥ m.lastmark) ∧ m.marks.getD 0 none = some b ∧ m.marks.getD 1 none = some e ∧ ¬ e < b ∧ g = ⟨T.extract b e⟩
theorem group_ok {P : Addr} {x : Str} {t : Tok} {code : Array Nat} {groups : Nat} {m : Sre.M} {g : Str} {d : Sem Value} {Q : Value → Shared → Prop} (hx : x.length ≤ 1000000) (hg : grp1 x.cps m g) (h : ∀ t k, Q (.str g t) { s with toks := k }) :
    wpAny M A (reMachineGroup (tgt P x t code groups) m 1 d) Q E s := by
  obtain ⟨b, e, h1, h2, h3, h4, rfl⟩ := hg
  unfold reMachineGroup
  rw [if_neg (by simpa using h1)]
  simp only [Nat.sub_self, Nat.mul_zero, Nat.zero_add, h2, h3]
  rw [if_neg h4]
  exact slice_ok hx h
/-- findall's hits, from a place on -/
inductive Hits (code T : Array Nat) : Nat → Bool → List Str → Prop
  | stop {st must} : Lost (Sre.forSearch code T 1 st T.size must) → Hits code T st must []
  | more {st must m g xs} : st ≤ T.size → Got (Sre.forSearch code T 1 st T.size must) m → grp1 T m g → Hits code T m.handed (m.handed == m.start) xs → Hits code T st must (g :: xs)
theorem findall_tree {P : Addr} {x : Str} {t : Tok} {code : Array Nat} {xs : List Str} {Q : Fin → Shared → Prop} (hp : RePat s.heap P code 1) (hx : x.length ≤ 1000000) (hh : Hits code x.cps 0 false xs) (hxs : xs.length ≤ 2 * x.length)
    (h : ∀ l k, l.map (·.1) = xs → Q (.done (.ret (.ref s.heap.objs.size))) { s with heap := s.heap.push { cls := .type "list", data := .seq (strValues l).toArray }, toks := k }) :
    wpAny M A (Builtin.«re.Pattern.findall» ⟨[.ref P, .str x t], []⟩) Q E s := by
  unfold Builtin.«re.Pattern.findall»
  refine wpAny_bind (target_ok hp hx ?_)
  dsimp only
  refine wpAny_bind ?_
  refine wpAny_forIn_list _ (fun (rest : List Nat) b s' => ∃ (l : List (Str × Tok)) (k : Nat), b.1.toList = strValues l ∧ s' = { s with toks := k } ∧
    ((b.2.2.2 = false ∧ ∃ xs', l.map (·.1) ++ xs' = xs ∧ Hits code x.cps b.2.1 b.2.2.1 xs' ∧ xs'.length < rest.length) ∨ (b.2.2.2 = true ∧ l.map (·.1) = xs))) _ ?_ ?_ _ _ ?_
  · rintro i rest ⟨out, st, must, over⟩ s' ⟨l, k, h1, rfl, h2⟩
    dsimp only at h1 h2 ⊢
    rcases h2 with ⟨rfl, xs', h3, h4, h5⟩ | ⟨rfl, h3⟩
    · rw [if_pos (by rfl)]
      rw [List.length_cons] at h5
      refine wpAny_bind ?_
      cases h4 with
      | stop hl =>
        have e : wpAny M A (if st > x.cps.size then pure none else reNextFound (tgt P x t code 1) st must) (fun r s' => r = none ∧ s' = { s with toks := k }) E { s with toks := k } := by
          by_cases hq : st > x.cps.size
          · rw [if_pos hq]; exact wpAny_pure ⟨rfl, rfl⟩
          · rw [if_neg hq]
            unfold reNextFound
            exact toEnd_lost hl ⟨rfl, rfl⟩
        refine wpAny_mono e ?_ fun _ _ e => e
        rintro r s' ⟨rfl, rfl⟩
        refine wpAny_pure ?_
        exact ⟨l, k, h1, rfl, .inr ⟨rfl, by simpa using h3⟩⟩
      | more hq hg hr hm =>
        rename_i m g xs2
        rw [if_neg (Nat.not_lt.mpr hq)]
        unfold reNextFound
        refine toEnd_got hg ?_
        dsimp only
        refine wpAny_bind (group_ok hx hr fun t' k' => wpAny_pure ?_)
        refine ⟨l ++ [(g, t')], k', ?_, rfl, .inl ⟨rfl, xs2, ?_, hm, ?_⟩⟩
        · simp only [Array.toList_push, h1, strValues, List.map_append, List.map_cons, List.map_nil]
        · rw [List.map_append, List.append_assoc]; exact h3
        · rw [List.length_cons] at h5; omega
    · rw [if_neg (by simp)]
      exact wpAny_pure ⟨l, k, h1, rfl, .inr ⟨rfl, h3⟩⟩
  · rintro ⟨out, st, must, over⟩ s' ⟨l, k, h1, rfl, h2⟩
    dsimp only at h1 h2 ⊢
    rcases h2 with ⟨_, xs', _, _, h5⟩ | ⟨rfl, h3⟩
    · exact absurd h5 (Nat.not_lt_zero _)
    · rw [if_neg (by simp)]
      have e : (strValues l).length = xs.length := by rw [← h3]; simp [strValues]
      refine wpAny_bind ?_
      unfold newList
      refine wpAny_newObj_type ?_ ?_
      · refine wpAny_pure ?_
        rw [h1]
        exact h l k h3
      · show out.toList.toArray.size ≤ sizeLine
        rw [h1, List.size_toArray, e, sizeLine_eq]
        omega
  · refine ⟨[], s.toks, rfl, rfl, .inl ⟨rfl, xs, rfl, hh, ?_⟩⟩
    rw [List.length_range]
    show xs.length < 2 * x.cps.size + 3
    have : x.length = x.cps.size := rfl
    omega
/-- split's pieces, from a place on -/
inductive Cuts (code T : Array Nat) (groups : Nat) : Nat → Bool → List Str → Prop
  | stop {st must} : Lost (Sre.forSearch code T groups st T.size must) → Cuts code T groups st must [⟨T.extract st T.size⟩]
  | more0 {st must m xs} : groups = 0 → Got (Sre.forSearch code T groups st T.size must) m → Cuts code T groups m.handed (m.handed == m.start) xs → Cuts code T groups st must (⟨T.extract st m.start⟩ :: xs)
  | more1 {st must m g xs} : groups = 1 → Got (Sre.forSearch code T groups st T.size must) m → grp1 T m g → Cuts code T groups m.handed (m.handed == m.start) xs → Cuts code T groups st must (⟨T.extract st m.start⟩ :: g :: xs)
theorem split_tree {P : Addr} {x : Str} {t : Tok} {code : Array Nat} {groups : Nat} {xs : List Str} {Q : Fin → Shared → Prop} (hp : RePat s.heap P code groups) (hx : x.length ≤ 1000000) (hh : Cuts code x.cps groups 0 false xs) (hxs : xs.length ≤ 2 * x.length + 2)
    (h : ∀ l k, l.map (·.1) = xs → Q (.done (.ret (.ref s.heap.objs.size))) { s with heap := s.heap.push { cls := .type "list", data := .seq (strValues l).toArray }, toks := k }) :
    wpAny M A (Builtin.«re.Pattern.split» ⟨[.ref P, .str x t], []⟩) Q E s := by
  unfold Builtin.«re.Pattern.split»
  dsimp only
  have e1 : reNamed "re.Pattern.split" "split" ["string", "maxsplit"] 1 [Value.str x t] [] = pure [some (.str x t), none] := rfl
  rw [e1]
  refine wpAny_bind (wpAny_pure ?_)
  dsimp only
  refine wpAny_bind (wpAny_pure ?_)
  refine wpAny_bind (wholeTarget_ok hp ?_)
  dsimp only
  refine wpAny_bind ?_
  refine wpAny_forIn_list _ (fun (rest : List Nat) b s' => ∃ (l : List (Str × Tok)) (k : Nat), b.1.toList = strValues l ∧ s' = { s with toks := k } ∧ b.2.2.1 = b.2.1 ∧
    ((b.2.2.2.2.2 = false ∧ ∃ xs', l.map (·.1) ++ xs' = xs ∧ Cuts code x.cps groups b.2.1 b.2.2.2.1 xs' ∧ xs'.length ≤ rest.length) ∨ (b.2.2.2.2.2 = true ∧ l.map (·.1) ++ [⟨x.cps.extract b.2.2.1 x.cps.size⟩] = xs))) _ ?_ ?_ _ _ ?_
  · rintro i rest ⟨out, st, last, must, n, over⟩ s' ⟨l, k, h1, rfl, hls, h2⟩
    dsimp only at h1 h2 hls ⊢
    subst hls
    rcases h2 with ⟨rfl, xs', h3, h4, h5⟩ | ⟨rfl, h3⟩
    · rw [if_pos (by rfl)]
      rw [List.length_cons] at h5
      refine wpAny_bind ?_
      rw [if_neg (by simp)]
      cases h4 with
      | stop hl =>
        unfold reNextFound
        refine toEnd_lost hl ?_
        exact wpAny_pure ⟨l, k, h1, rfl, rfl, .inr ⟨rfl, h3⟩⟩
      | more0 hz hg hm =>
        rename_i m xs2
        subst hz
        unfold reNextFound
        refine toEnd_got hg ?_
        dsimp only
        refine wpAny_bind (slice_ok hx fun t' k' => ?_)
        refine wpAny_bind ?_
        rw [show List.range 0 = [] from rfl, List.forIn_nil]
        refine wpAny_pure (wpAny_pure ?_)
        refine ⟨l ++ [((⟨x.cps.extract last m.start⟩ : Str), t')], k', ?_, rfl, rfl, .inl ⟨rfl, xs2, ?_, hm, ?_⟩⟩
        · simp only [Array.toList_push, h1, strValues, List.map_append, List.map_cons, List.map_nil]
        · rw [List.map_append, List.append_assoc]; exact h3
        · rw [List.length_cons] at h5; omega
      | more1 hz hg hr hm =>
        rename_i m g xs2
        subst hz
        unfold reNextFound
        refine toEnd_got hg ?_
        dsimp only
        refine wpAny_bind (slice_ok hx fun t' k' => ?_)
        refine wpAny_bind ?_
        rw [show List.range 1 = [0] from rfl, List.forIn_cons]
        refine wpAny_bind (wpAny_bind (group_ok hx hr fun t2 k2 => ?_))
        refine wpAny_pure ?_
        dsimp only
        rw [List.forIn_nil]
        refine wpAny_pure (wpAny_pure ?_)
        refine ⟨l ++ [((⟨x.cps.extract last m.start⟩ : Str), t'), (g, t2)], k2, ?_, rfl, rfl, .inl ⟨rfl, xs2, ?_, hm, ?_⟩⟩
        · simp only [Array.toList_push, h1, strValues, List.map_append, List.map_cons, List.map_nil, List.append_assoc, List.cons_append, List.nil_append]
        · rw [List.map_append, List.append_assoc]; exact h3
        · rw [List.length_cons, List.length_cons] at h5; omega
    · rw [if_neg (by simp)]
      exact wpAny_pure ⟨l, k, h1, rfl, rfl, .inr ⟨rfl, h3⟩⟩
  · rintro ⟨out, st, last, must, n, over⟩ s' ⟨l, k, h1, rfl, hls, h2⟩
    dsimp only at h1 h2 hls ⊢
    subst hls
    rcases h2 with ⟨_, xs', _, h4, h5⟩ | ⟨rfl, h3⟩
    · exfalso
      cases h4 <;> simp at h5
    · rw [if_neg (by simp)]
      refine wpAny_bind (slice_ok hx fun t' k' => ?_)
      have h4 : (l ++ [((⟨x.cps.extract last x.cps.size⟩ : Str), t')]).map (·.1) = xs := by rw [List.map_append]; exact h3
      have e : (out.push (Value.str ⟨x.cps.extract last x.cps.size⟩ t')).toList = strValues (l ++ [((⟨x.cps.extract last x.cps.size⟩ : Str), t')]) := by
        simp only [Array.toList_push, h1, strValues, List.map_append, List.map_cons, List.map_nil]
      have e2 : (strValues (l ++ [((⟨x.cps.extract last x.cps.size⟩ : Str), t')])).length = xs.length := by rw [← h4]; simp only [strValues, List.length_map]
      refine wpAny_bind ?_
      unfold newList
      refine wpAny_newObj_type ?_ ?_
      · refine wpAny_pure ?_
        rw [e]
        exact h _ k' h4
      · show (out.push (Value.str ⟨x.cps.extract last x.cps.size⟩ t')).toList.toArray.size ≤ sizeLine
        rw [e, List.size_toArray, e2, sizeLine_eq]
        omega
  · refine ⟨[], s.toks, rfl, rfl, rfl, .inl ⟨rfl, xs, rfl, hh, ?_⟩⟩
    rw [List.length_range]
    show xs.length ≤ 2 * x.cps.size + 3
    have : x.length = x.cps.size := rfl
    omega
end
section
variable {prog : Program} {w : World} {A : Around} {E : Value → Shared → Prop} {s : Shared} {h₀ : Heap} {L : Addr} {m : Str → Option Value} {news : List (Addr × Obj)}
theorem RePat.method {P : Addr} {code : Array Nat} {groups : Nat} (hp : RePat s.heap P code groups) {name : Str} {id : String} {pl : Sem Bool} {Q : Value × List Value → Shared → Prop} (slot : Slot "re.Pattern" name id) (hty : typeOf (.builtin id) = pure (.type "method_descriptor"))
    (h : Q (.builtin id, [.ref P]) s) : wpAny (model prog w) A (getMethod (.ref P) name pl) Q E s := by
  obtain ⟨o, oc, C, fs, items, n, h1, h2, h3, h4, _⟩ := hp.ex
  exact getMethod_builtin ⟨_, h1, h2⟩ re_attrs slot hty (fun a e => by cases e; exact ⟨_, h1, h3⟩) h
theorem findall_call {P : Addr} {x : Str} {t : Tok} {code : Array Nat} {xs : List Str} {Q : Value → Shared → Prop} (F : Fr h₀ L s.heap m) (N : News h₀ L s.heap news) (hp : RePat s.heap P code 1) (hx : x.length ≤ 1000000) (hh : Hits code x.cps 0 false xs) (hxs : xs.length ≤ 2 * x.length)
    (h : ∀ D l h' k, l.map (·.1) = xs → StrsAre (strValues l) (l.map (·.1)) → Fr h₀ L h' m → News h₀ L h' ((D, W.listOf (strValues l).toArray 0) :: news) → (∀ p ∈ news, p.1 < D) → Q (.ref D) { s with heap := h', toks := k }) :
    wpAny (model prog w) A (call (.builtin "re.Pattern.findall") [.ref P, .str x t]) Q E s := by
  obtain ⟨o, oc, C, fs, items, n, h1, h2, _⟩ := id hp.ex
  refine wpAny_call (codeAny_call_builtin slot_findall.plain entry_findall (slot_findall.check _ _ _ _ _ _ _ _ ⟨_, h1, h2⟩ (args_findall _ _) ?_))
  refine findall_tree hp hx hh hxs fun l k hl => ?_
  exact h _ l _ k hl (strsAre_of_values l) (F.push _) (News.push F N _ rfl) fun p hp => Heap.lt_size (N p hp).1
theorem split_call {P : Addr} {x : Str} {t : Tok} {code : Array Nat} {groups : Nat} {xs : List Str} {Q : Value → Shared → Prop} (F : Fr h₀ L s.heap m) (N : News h₀ L s.heap news) (hp : RePat s.heap P code groups) (hx : x.length ≤ 1000000) (hh : Cuts code x.cps groups 0 false xs) (hxs : xs.length ≤ 2 * x.length + 2)
    (h : ∀ D l h' k, l.map (·.1) = xs → StrsAre (strValues l) (l.map (·.1)) → Fr h₀ L h' m → News h₀ L h' ((D, W.listOf (strValues l).toArray 0) :: news) → (∀ p ∈ news, p.1 < D) → Q (.ref D) { s with heap := h', toks := k }) :
    wpAny (model prog w) A (call (.builtin "re.Pattern.split") [.ref P, .str x t]) Q E s := by
  obtain ⟨o, oc, C, fs, items, n, h1, h2, _⟩ := id hp.ex
  refine wpAny_call (codeAny_call_builtin slot_resplit.plain entry_resplit (slot_resplit.check _ _ _ _ _ _ _ _ ⟨_, h1, h2⟩ (args_resplit _ _) ?_))
  refine split_tree hp hx hh hxs fun l k hl => ?_
  exact h _ l _ k hl (strsAre_of_values l) (F.push _) (News.push F N _ rfl) fun p hp => Heap.lt_size (N p hp).1
end
end Mine
end PRe2
section PLs
namespace Mine
theorem rst_Ls : (1 : Nat) = 1 := by
  w_top off
  first | walk1 | rfl
end Mine
open PySem PySem.W PyProof.Rows Builtin.Str
set_option maxRecDepth 100000
set_option maxHeartbeats 4000000
namespace Mine
/-- one sign for another, in a list -/
def swap1 (c d : Nat) (l : List Nat) : List Nat := l.map fun k => if k = c then d else k
theorem swap1_free (c d : Nat) (l : List Nat) (h : c ∉ l) : swap1 c d l = l := by
  unfold swap1
  rw [List.map_congr_left (g := id), List.map_id]
  intro k hk
  have : ¬ k = c := fun e => h (e ▸ hk)
  simp [this]
theorem swap1_join (c d : Nat) : ∀ parts : List Str, (∀ p ∈ parts, c ∉ p.cps.toList) → swap1 c d (Str.join ⟨#[c]⟩ parts).cps.toList = (Str.join ⟨#[d]⟩ parts).cps.toList
  | [], _ => rfl
  | [p], h => swap1_free c d _ (h p (List.mem_singleton.mpr rfl))
  | p :: q :: r, h => by
    have ih := swap1_join c d (q :: r) fun a ha => h a (List.mem_cons_of_mem _ ha)
    show swap1 c d (p ++ ⟨#[c]⟩ ++ Str.join ⟨#[c]⟩ (q :: r)).cps.toList = (p ++ ⟨#[d]⟩ ++ Str.join ⟨#[d]⟩ (q :: r)).cps.toList
    simp only [Str.cps_append, Array.toList_append]
    have e : ∀ a b, swap1 c d (a ++ b) = swap1 c d a ++ swap1 c d b := fun a b => List.map_append
    rw [e, e, ih, swap1_free c d _ (h p (List.mem_cons_self ..))]
    simp [swap1]
theorem replace_swap (x : Str) (c d : Nat) : Txt.replace x ⟨#[c]⟩ ⟨#[d]⟩ = ⟨(swap1 c d x.cps.toList).toArray⟩ := by
  have h : (Txt.replace x ⟨#[c]⟩ ⟨#[d]⟩).cps.toList = swap1 c d x.cps.toList := by
    rw [StrLaws.replace_one, ← swap1_join c d _ (StrLaws.split_free x c), StrLaws.join_split]
  refine Str.ext' (Array.toList_inj.mp ?_)
  rw [h]
/-- the first double blank of a list -/
def cut2 : List Nat → Option (List Nat × List Nat)
  | [] => none
  | [_] => none
  | c :: d :: r => if c = 32 ∧ d = 32 then some ([], r) else (cut2 (d :: r)).map fun p => (c :: p.1, p.2)
def Dbl (l : List Nat) (k : Nat) : Prop := l[k]? = some 32 ∧ l[k + 1]? = some 32
theorem cut2_spec : ∀ l : List Nat, match cut2 l with
    | some (a, b) => l = a ++ 32 :: 32 :: b ∧ ∀ k, k < a.length → ¬ Dbl l k
    | none => ∀ k, ¬ Dbl l k
  | [] => fun k h => by simp [Dbl] at h
  | [c] => fun k h => by
    obtain ⟨_, h2⟩ := h
    simp at h2
  | c :: d :: r => by
    have ih := cut2_spec (d :: r)
    unfold cut2
    by_cases hc : c = 32 ∧ d = 32
    · rw [if_pos hc]
      obtain ⟨rfl, rfl⟩ := hc
      exact ⟨rfl, fun k hk => absurd hk (Nat.not_lt_zero _)⟩
    · rw [if_neg hc]
      have h0 : ¬ Dbl (c :: d :: r) 0 := fun h => hc ⟨by simpa using h.1, by simpa using h.2⟩
      have hs : ∀ k, Dbl (c :: d :: r) (k + 1) → Dbl (d :: r) k := fun k h => ⟨by simpa using h.1, by simpa using h.2⟩
      cases e : cut2 (d :: r) with
      | none =>
        rw [e] at ih
        intro k h
        cases k with
        | zero => exact h0 h
        | succ k => exact ih k (hs k h)
      | some p =>
        obtain ⟨a, b⟩ := p
        rw [e] at ih
        refine ⟨?_, ?_⟩
        · show c :: d :: r = c :: (a ++ 32 :: 32 :: b)
          rw [ih.1]
        · intro k hk h
          cases k with
          | zero => exact h0 h
          | succ k => exact ih.2 k (by simpa using hk) (hs k h)
theorem at_dbl {x : Str} {k : Nat} : StrLaws.At x ⟨#[32, 32]⟩ x.length k ↔ Dbl x.cps.toList k := by
  obtain ⟨⟨l⟩⟩ := x
  have e : subAt ⟨⟨l⟩⟩ ⟨#[32, 32]⟩ k = ((l.drop k).take 2 == [32, 32]) := by
    unfold subAt
    rw [Bool.eq_iff_iff, beq_iff_eq, beq_iff_eq, ← Array.toList_inj]
    simp [Str.length, List.extract_eq_take_drop]
  have hl : (⟨⟨l⟩⟩ : Str).length = l.length := rfl
  unfold StrLaws.At Dbl
  rw [e, hl, beq_iff_eq]
  constructor
  · rintro ⟨h1, h2⟩
    have h3 : ((l.drop k).take 2)[0]? = some 32 := by rw [h2]; rfl
    have h4 : ((l.drop k).take 2)[1]? = some 32 := by rw [h2]; rfl
    rw [List.getElem?_take_of_lt (by decide), List.getElem?_drop] at h3 h4
    exact ⟨h3, h4⟩
  · rintro ⟨h1, h2⟩
    have hb : k + 1 < l.length := (List.getElem?_eq_some_iff.mp h2).1
    refine ⟨hb, ?_⟩
    have h3 : (l.drop k)[0]? = some 32 := by rw [List.getElem?_drop]; exact h1
    have h4 : (l.drop k)[1]? = some 32 := by rw [List.getElem?_drop]; exact h2
    match hd : l.drop k, h3, h4 with
    | a :: b :: r, h3, h4 =>
      simp at h3 h4
      subst h3 h4
      rfl
theorem partition_cut (x : Str) : Txt.partition x ⟨#[32, 32]⟩ = match cut2 x.cps.toList with
    | some (a, b) => (⟨a.toArray⟩, ⟨#[32, 32]⟩, ⟨b.toArray⟩)
    | none => (x, Str.empty, Str.empty) := by
  have hs := cut2_spec x.cps.toList
  unfold Txt.partition
  rcases StrLaws.occ_head x ⟨#[32, 32]⟩ 1 (Nat.le_refl 1) with ⟨h0, hn⟩ | ⟨i, r, h0, hi, hn⟩
  · rw [h0]
    cases e : cut2 x.cps.toList with
    | none => rfl
    | some p =>
      obtain ⟨a, b⟩ := p
      rw [e] at hs
      exfalso
      refine hn a.length (at_dbl.mpr ⟨?_, ?_⟩)
      · rw [hs.1]; simp
      · rw [hs.1]; simp
  · rw [h0]
    have hi' := at_dbl.mp hi
    cases e : cut2 x.cps.toList with
    | none =>
      rw [e] at hs
      exact absurd hi' (hs i)
    | some p =>
      obtain ⟨a, b⟩ := p
      rw [e] at hs
      have h1 : a.length ≤ i := Nat.le_of_not_lt fun h => hs.2 i h hi'
      have h2 : ¬ a.length < i := fun h => hn a.length h (at_dbl.mpr ⟨by rw [hs.1]; simp, by rw [hs.1]; simp⟩)
      have h3 : i = a.length := by omega
      subst h3
      obtain ⟨⟨l⟩⟩ := x
      have hl : l = a ++ 32 :: 32 :: b := hs.1
      subst hl
      have e1 : strSub ⟨⟨a ++ 32 :: 32 :: b⟩⟩ 0 a.length = ⟨a.toArray⟩ := by
        unfold strSub
        refine congrArg Str.mk (Array.toList_inj.mp ?_)
        simp [List.extract_eq_take_drop]
      have e2 : strSub ⟨⟨a ++ 32 :: 32 :: b⟩⟩ (a.length + (⟨#[32, 32]⟩ : Str).length) (⟨⟨a ++ 32 :: 32 :: b⟩⟩ : Str).length = ⟨b.toArray⟩ := by
        unfold strSub
        refine congrArg Str.mk (Array.toList_inj.mp ?_)
        have : (a.length + (⟨#[32, 32]⟩ : Str).length) = (a ++ [32, 32]).length := by simp [Str.length]
        rw [this]
        have h9 : a ++ 32 :: 32 :: b = (a ++ [32, 32]) ++ b := by simp
        simp only [h9, Array.toList_extract, List.extract_eq_take_drop, List.drop_left, Str.length, List.size_toArray, List.length_append]
        simp
      show (strSub _ 0 a.length, _, strSub _ _ _) = _
      rw [e1, e2]
end Mine
end PLs
section PLs2
namespace Mine
theorem rst_Ls2 : (1 : Nat) = 1 := by
  w_top off
  first | walk1 | rfl
end Mine
open PySem PySem.W PyProof.Rows Builtin.Str
set_option maxRecDepth 100000
set_option maxHeartbeats 4000000
namespace Mine
abbrev sp : Nat → Bool := Unicode.isSpace
def stripL (l : List Nat) : List Nat := ((l.dropWhile sp).reverse.dropWhile sp).reverse
theorem drop_take {p : Nat → Bool} : ∀ l : List Nat, l.drop (l.takeWhile p).length = l.dropWhile p
  | [] => rfl
  | c :: r => by
    by_cases h : p c = true
    · rw [List.takeWhile_cons_of_pos h, List.dropWhile_cons_of_pos h]
      exact drop_take r
    · rw [List.takeWhile_cons_of_neg h, List.dropWhile_cons_of_neg h]
      rfl
theorem strip_list (x : Str) : (Txt.strip x).cps.toList = stripL x.cps.toList := by
  unfold Txt.strip
  rw [W.stripBy_eq]
  unfold W.stripped
  dsimp only
  rw [if_pos rfl, if_pos rfl]
  rw [drop_take]
  unfold stripL
  rw [StrLaws.strSub_toList]
  obtain ⟨⟨l⟩⟩ := x
  have hl : (⟨⟨l⟩⟩ : Str).length = l.length := rfl
  show (l.drop (l.takeWhile sp).length).take (l.length - ((l.dropWhile sp).reverse.takeWhile sp).length - (l.takeWhile sp).length) = ((l.dropWhile sp).reverse.dropWhile sp).reverse
  rw [drop_take]
  have h1 := List.takeWhile_append_dropWhile (p := sp) (l := l)
  have h2 : (l.takeWhile sp).length + (l.dropWhile sp).length = l.length := by rw [← List.length_append, h1]
  generalize hA : l.dropWhile sp = A at h2 ⊢
  have h3 := List.takeWhile_append_dropWhile (p := sp) (l := A.reverse)
  have h4 : A = (A.reverse.dropWhile sp).reverse ++ (A.reverse.takeWhile sp).reverse := by rw [← List.reverse_append, h3, List.reverse_reverse]
  have h5 : A.length = (A.reverse.dropWhile sp).reverse.length + (A.reverse.takeWhile sp).length := by
    have := congrArg List.length h4
    rw [List.length_append, List.length_reverse (as := List.takeWhile _ _)] at this
    exact this
  have h6 : l.length - (A.reverse.takeWhile sp).length - (l.takeWhile sp).length = (A.reverse.dropWhile sp).reverse.length := by omega
  rw [h6]
  generalize (A.reverse.dropWhile sp).reverse = U at h4 ⊢
  rw [h4, List.take_left]
/-- the words of a list, a run at hand -/
def wgo : List Nat → List Nat → List (List Nat)
  | cur, [] => if cur.isEmpty then [] else [cur.reverse]
  | cur, c :: r => if sp c then (if cur.isEmpty then wgo [] r else cur.reverse :: wgo [] r) else wgo (c :: cur) r
def mkS (l : List Nat) : Str := ⟨l.toArray⟩
theorem scan_wgo : ∀ (l cur : List Nat) (ws : List Str), KWd.fin (l.foldl KWd.step (ws, mkS cur.reverse)) = ws ++ (wgo cur l).map mkS
  | [], cur, ws => by
    show KWd.fin (ws, mkS cur.reverse) = _
    unfold KWd.fin wgo
    cases cur with
    | nil => simp [mkS, Str.length]
    | cons c r => simp [mkS, Str.length]
  | c :: l, cur, ws => by
    rw [List.foldl_cons]
    unfold KWd.step wgo
    dsimp only
    by_cases hc : sp c = true
    · rw [if_pos hc, if_pos hc]
      cases cur with
      | nil =>
        rw [if_pos (by rfl), if_pos (by rfl)]
        exact scan_wgo l [] ws
      | cons a r =>
        rw [if_neg (by simp [mkS, Str.length]), if_neg (by simp)]
        have ih := scan_wgo l [] (ws ++ [mkS (a :: r).reverse])
        rw [List.map_cons]
        rw [show (ws ++ mkS (a :: r).reverse :: List.map mkS (wgo [] l)) = (ws ++ [mkS (a :: r).reverse]) ++ List.map mkS (wgo [] l) by simp]
        exact ih
    · rw [if_neg hc, if_neg hc]
      have ih := scan_wgo l (c :: cur) ws
      rw [← ih]
      refine congrArg KWd.fin (congrArg (fun z => List.foldl KWd.step z l) (Prod.ext rfl ?_))
      show mkS cur.reverse ++ (⟨#[c]⟩ : Str) = mkS (c :: cur).reverse
      refine Str.ext' (Array.toList_inj.mp ?_)
      rw [Str.cps_append]
      simp [mkS]
theorem words_list (x : Str) : Txt.words x = (wgo [] x.cps.toList).map mkS := by
  rw [KWd.words_scan]
  unfold KWd.scan
  exact scan_wgo _ [] []
theorem starts_list (l y : List Nat) : Txt.startswith (mkS l) (mkS y) = (l.take y.length == y) := by
  unfold Txt.startswith subAt
  rw [Bool.eq_iff_iff]
  simp only [Bool.and_eq_true, decide_eq_true_eq, beq_iff_eq, ← Array.toList_inj, Nat.zero_add]
  have e1 : ((mkS l).cps.extract 0 (mkS y).length).toList = l.take y.length := by simp [mkS, Str.length, List.extract_eq_take_drop]
  have e2 : (mkS y).cps.toList = y := rfl
  rw [e1, e2]
  constructor
  · exact fun h => h.2
  · intro h
    refine ⟨?_, h⟩
    have := congrArg List.length h
    rw [List.length_take] at this
    show y.toArray.size ≤ l.toArray.size
    simp
    omega
end Mine
end PLs2
section PP3
namespace Mine
theorem rst_P3 : (1 : Nat) = 1 := by
  w_top off
  first | walk1 | rfl
end Mine
open PySem PySem.W PyProof.Rows Builtin.Str
set_option maxRecDepth 100000
set_option maxHeartbeats 4000000
namespace Mine
abbrev opt1 (x : Str) : Str := (Txt.partition (Txt.strip x) (Str.ofString "  ")).1
abbrev optDesc (x : Str) : Str := (Txt.partition (Txt.strip x) (Str.ofString "  ")).2.2
abbrev opt2 (x : Str) : Str := Txt.replace (Txt.replace (opt1 x) (Str.ofString ",") (Str.ofString " ")) (Str.ofString "=") (Str.ofString " ")
abbrev cpl (s : Str) : List Nat := s.cps.toList
theorem mkS_cpl (s : Str) : mkS (cpl s) = s := rfl
theorem mkS_inj {a b : List Nat} (h : mkS a = mkS b) : a = b := by
  have := congrArg cpl h
  exact this
def vC : List (List Nat) := [[], [61, 60, 120, 62], [32, 78, 65, 77, 69], [61, 86]]
def beC : List (List Nat) := [[44, 32], [32], [44]]
def wC : List (List Nat) := [[], [119, 104, 97, 116, 32, 105, 116, 32, 100, 111, 101, 115], [105, 116, 32, 100, 111, 101, 115, 32, 32, 91, 100, 101, 102, 97, 117, 108, 116, 58, 32, 55, 93], [91, 68, 69, 70, 65, 85, 76, 84, 58, 32, 97, 32, 98, 46, 99, 93], [120, 32, 91, 100, 101, 102, 97, 117, 108, 116, 58, 32, 93]]
def prC : List (List Nat) := [[], [32, 32]]
def gC : List (List Nat) := [[32, 32], [32, 32, 32, 32, 32]]
def nAC : List Nat := [45, 97]
def nLC : List Nat := [45, 45, 108, 111, 110, 103, 45, 111, 110, 101]
def nmC : List (List (List Nat)) := [[nAC], [nLC], [nAC, nLC], [nLC, nAC]]
theorem vM_C : vM = vC.map mkS := by decide +kernel
theorem beM_C : beM = beC.map mkS := by decide +kernel
theorem wM_C : wM = wC.map mkS := by decide +kernel
theorem prM_C : prM = prC.map mkS := by decide +kernel
theorem gM_C : gM = gC.map mkS := by decide +kernel
theorem nA_C : nA = mkS nAC := by decide +kernel
theorem nL_C : nL = mkS nLC := by decide +kernel
theorem nmM_C : nmM = nmC.map (·.map mkS) := by
  show [[nA], [nL], [nA, nL], [nL, nA]] = [[mkS nAC], [mkS nLC], [mkS nAC, mkS nLC], [mkS nLC, mkS nAC]]
  rw [nA_C, nL_C]
theorem empty_C : Str.ofString "" = mkS [] := by decide +kernel
theorem two_C : Str.ofString "  " = ⟨#[32, 32]⟩ := by decide +kernel
theorem comma_C : Str.ofString "," = ⟨#[44]⟩ := by decide +kernel
theorem eq_C : Str.ofString "=" = ⟨#[61]⟩ := by decide +kernel
theorem sp_C : Str.ofString " " = ⟨#[32]⟩ := by decide +kernel
theorem dash_C : Str.ofString "-" = mkS [45] := by decide +kernel
theorem dashes_C : Str.ofString "--" = mkS [45, 45] := by decide +kernel
def joinL (B : List Nat) : List (List Nat) → List Nat
  | [] => []
  | [a] => a
  | a :: b :: r => a ++ B ++ joinL B (b :: r)
theorem mkS_append (a b : List Nat) : mkS a ++ mkS b = mkS (a ++ b) := Str.ext' (Array.toList_inj.mp (by rw [Str.cps_append]; simp [mkS]))
theorem join_list (B : List Nat) : ∀ l : List (List Nat), Txt.join (mkS B) (l.map mkS) = mkS (joinL B l)
  | [] => rfl
  | [a] => by
    show Txt.join _ [mkS a] = mkS a
    unfold Txt.join
    rw [StrLaws.glued_eq_join]
    rfl
  | a :: b :: r => by
    have ih := join_list B (b :: r)
    unfold Txt.join at ih ⊢
    rw [StrLaws.glued_eq_join] at ih ⊢
    show mkS a ++ mkS B ++ Str.join (mkS B) ((b :: r).map mkS) = mkS (a ++ B ++ joinL B (b :: r))
    rw [ih, mkS_append, mkS_append]
def textL (P B V W G : List Nat) (nms : List (List Nat)) (ev : Int) : List Nat :=
  P ++ joinL B ((List.range nms.length).map fun i => nms.getD i [] ++ (if ev = 1 ∨ i + 1 = nms.length then V else [])) ++ (if W != [] then G ++ W else [])
theorem optText_list (P B V W G : List Nat) (nms : List (List Nat)) (ev : Int) : optText (mkS P) (mkS B) (mkS V) (mkS W) (mkS G) (nms.map mkS) ev = mkS (textL P B V W G nms ev) := by
  unfold optText textL
  have e1 : (List.range (nms.map mkS).length).map (toldItem (nms.map mkS) (mkS V) ev) = ((List.range nms.length).map fun i => nms.getD i [] ++ (if ev = 1 ∨ i + 1 = nms.length then V else [])).map mkS := by
    rw [List.length_map, List.map_map]
    refine List.map_congr_left fun i hi => ?_
    have hi' : i < nms.length := List.mem_range.mp hi
    unfold toldItem
    have e2 : (nms.map mkS).getD i Str.empty = mkS (nms.getD i []) := by
      rw [List.getD_eq_getElem?_getD, List.getD_eq_getElem?_getD, List.getElem?_map, List.getElem?_eq_getElem hi']
      rfl
    rw [e2, List.length_map, empty_C]
    have e3 : (if ev = 1 ∨ i + 1 = nms.length then mkS V else mkS []) = mkS (if ev = 1 ∨ i + 1 = nms.length then V else []) := by split <;> rfl
    rw [e3, mkS_append]
    rfl
  rw [e1, join_list, empty_C]
  have e4 : (mkS W != mkS []) = (W != []) := by
    cases W with
    | nil => simp
    | cons a r =>
      have h1 : (mkS (a :: r) != mkS []) = true := by
        rw [bne_iff_ne]
        intro h
        exact absurd (mkS_inj h) (by simp)
      rw [h1]
      rfl
  rw [e4]
  have e5 : (if (W != []) = true then mkS G ++ mkS W else mkS []) = mkS (if (W != []) = true then G ++ W else []) := by
    split
    · rw [mkS_append]
    · rfl
  rw [e5, mkS_append, mkS_append]
abbrev PStL := Option (List Nat) × Option (List Nat) × Int
def pstepL (st : PStL) (w : List Nat) : PStL :=
  if w.take 2 == [45, 45] then (st.1, some w, st.2.2) else if w.take 1 == [45] then (some w, st.2.1, st.2.2) else (st.1, st.2.1, 1)
def upS (st : PStL) : PSt := (st.1.map mkS, st.2.1.map mkS, st.2.2)
theorem pstep_list (st : PStL) (w : List Nat) : pstep (upS st) (mkS w) = upS (pstepL st w) := by
  unfold pstep pstepL
  rw [dash_C, dashes_C, starts_list, starts_list]
  show (if (w.take 2 == [45, 45]) = true then _ else if (w.take 1 == [45]) = true then _ else _) = _
  split
  · rfl
  · split
    · rfl
    · rfl
theorem pfold_list : ∀ (ws : List (List Nat)) (st : PStL), (ws.map mkS).foldl pstep (upS st) = upS (ws.foldl pstepL st)
  | [], _ => rfl
  | w :: r, st => by
    rw [List.map_cons, List.foldl_cons, List.foldl_cons, pstep_list]
    exact pfold_list r _
def stDue (nms : List Str) (V : Str) : PSt := (if nA ∈ nms then some nA else none, if nL ∈ nms then some nL else none, if (V == Str.ofString "") = true then 0 else 1)
def stL (nms : List (List Nat)) (V : List Nat) : PStL := (if nms.contains nAC then some nAC else none, if nms.contains nLC then some nLC else none, if V == [] then 0 else 1)
def cutS (l : List Nat) : List Nat × List Nat := match cut2 l with | some p => p | none => (l, [])
def okL (P B V W G : List Nat) (nms : List (List Nat)) (ev : Int) : Bool :=
  let x := textL P B V W G nms ev
  let p := cutS (stripL x)
  decide (x.length ≤ 200) && ((wgo [] (swap1 61 32 (swap1 44 32 p.1))).foldl pstepL (none, none, 0) == stL nms V) && (p.2 == W || p.2 == [32, 32, 32] ++ W)
def okAll (nms : List (List Nat)) : Bool := prC.all fun P => beC.all fun B => vC.all fun V => wC.all fun W => gC.all fun G => okL P B V W G nms 0 && okL P B V W G nms 1
theorem okAll_1 : okAll [nAC] = true := by decide +kernel
theorem okAll_2 : okAll [nLC] = true := by decide +kernel
theorem okAll_3 : okAll [nAC, nLC] = true := by decide +kernel
theorem okAll_4 : okAll [nLC, nAC] = true := by decide +kernel
theorem okL_all {P B V W G : List Nat} {nms : List (List Nat)} {ev : Int} (hP : P ∈ prC) (hB : B ∈ beC) (hV : V ∈ vC) (hW : W ∈ wC) (hG : G ∈ gC) (hn : nms ∈ nmC) (h0 : 0 ≤ ev) (h2 : ev < 2) : okL P B V W G nms ev = true := by
  have h : okAll nms = true := by
    simp only [nmC, List.mem_cons, List.not_mem_nil, or_false] at hn
    rcases hn with rfl | rfl | rfl | rfl
    · exact okAll_1
    · exact okAll_2
    · exact okAll_3
    · exact okAll_4
  unfold okAll at h
  have h := List.all_eq_true.mp h P hP
  have h := List.all_eq_true.mp h B hB
  have h := List.all_eq_true.mp h V hV
  have h := List.all_eq_true.mp h W hW
  have h := List.all_eq_true.mp h G hG
  have h := Bool.and_eq_true_iff.mp h
  have e : ev = 0 ∨ ev = 1 := by omega
  rcases e with rfl | rfl
  · exact h.1
  · exact h.2
theorem nodash : ¬ mkS nAC = mkS nLC := by decide +kernel
theorem stDue_list (nms : List (List Nat)) (V : List Nat) : stDue (nms.map mkS) (mkS V) = upS (stL nms V) := by
  unfold stDue stL upS
  have hm : ∀ a, (mkS a ∈ nms.map mkS) ↔ nms.contains a = true := fun a => by
    rw [List.contains_iff_mem, List.mem_map]
    exact ⟨fun ⟨b, hb, e⟩ => mkS_inj e ▸ hb, fun h => ⟨a, h, rfl⟩⟩
  have e1 : (if nA ∈ nms.map mkS then some nA else none) = Option.map mkS (if nms.contains nAC then some nAC else none) := by
    rw [nA_C]
    by_cases h : nms.contains nAC = true
    · rw [if_pos ((hm _).mpr h), if_pos h]; rfl
    · rw [if_neg (fun q => h ((hm _).mp q)), if_neg h]; rfl
  have e2 : (if nL ∈ nms.map mkS then some nL else none) = Option.map mkS (if nms.contains nLC then some nLC else none) := by
    rw [nL_C]
    by_cases h : nms.contains nLC = true
    · rw [if_pos ((hm _).mpr h), if_pos h]; rfl
    · rw [if_neg (fun q => h ((hm _).mp q)), if_neg h]; rfl
  have e3 : (mkS V == Str.ofString "") = (V == []) := by
    rw [empty_C, Bool.eq_iff_iff, beq_iff_eq, beq_iff_eq]
    exact ⟨mkS_inj, fun h => h ▸ rfl⟩
  rw [e1, e2, e3]
/-- what the parse finds in an option's text -/
theorem parse_law {P B V W G : Str} {nms : List Str} {ev : Int} (hP : P ∈ prM) (hB : B ∈ beM) (hV : V ∈ vM) (hW : W ∈ wM) (hG : G ∈ gM) (hn : nms ∈ nmM) (h0 : 0 ≤ ev) (h2 : ev < 2) :
    let x := optText P B V W G nms ev
    x.length ≤ 200 ∧ (Txt.replace (opt1 x) (Str.ofString ",") (Str.ofString " ")).length ≤ 200 ∧ (opt2 x).length ≤ 200 ∧ (Txt.words (opt2 x)).foldl pstep (none, none, 0) = stDue nms V ∧ (optDesc x = W ∨ optDesc x = mkS [32, 32, 32] ++ W) := by
  rw [prM_C] at hP; rw [beM_C] at hB; rw [vM_C] at hV; rw [wM_C] at hW; rw [gM_C] at hG; rw [nmM_C] at hn
  obtain ⟨P, hP9, rfl⟩ := List.mem_map.mp hP
  obtain ⟨B, hB9, rfl⟩ := List.mem_map.mp hB
  obtain ⟨V, hV9, rfl⟩ := List.mem_map.mp hV
  obtain ⟨W, hW9, rfl⟩ := List.mem_map.mp hW
  obtain ⟨G, hG9, rfl⟩ := List.mem_map.mp hG
  obtain ⟨nms, hn9, rfl⟩ := List.mem_map.mp hn
  have ok := okL_all hP9 hB9 hV9 hW9 hG9 hn9 h0 h2
  unfold okL at ok
  dsimp only at ok ⊢
  rw [optText_list]
  generalize textL P B V W G nms ev = l at ok ⊢
  simp only [Bool.and_eq_true, Bool.or_eq_true, decide_eq_true_eq, beq_iff_eq] at ok
  obtain ⟨⟨ok1, ok2⟩, ok3⟩ := ok
  have hs : Txt.strip (mkS l) = mkS (stripL l) := Str.ext' (Array.toList_inj.mp (strip_list _))
  have hp : opt1 (mkS l) = mkS (cutS (stripL l)).1 ∧ optDesc (mkS l) = mkS (cutS (stripL l)).2 := by
    unfold opt1 optDesc
    rw [hs, two_C, partition_cut]
    unfold cutS
    show (match cut2 (stripL l) with | some (a, b) => ((⟨a.toArray⟩, ⟨#[32, 32]⟩, ⟨b.toArray⟩) : Str × Str × Str) | none => (mkS (stripL l), Str.empty, Str.empty)).1 = _ ∧ (match cut2 (stripL l) with | some (a, b) => ((⟨a.toArray⟩, ⟨#[32, 32]⟩, ⟨b.toArray⟩) : Str × Str × Str) | none => (mkS (stripL l), Str.empty, Str.empty)).2.2 = _
    cases cut2 (stripL l) with
    | none => exact ⟨rfl, rfl⟩
    | some p => exact ⟨rfl, rfl⟩
  obtain ⟨h1, hd⟩ := hp
  have hlen1 : (cutS (stripL l)).1.length ≤ l.length := by
    have q1 : (mkS (cutS (stripL l)).1).length ≤ (mkS l).length := by
      rw [← h1]
      exact Nat.le_trans (fact_partition _ _).1 (fact_strip _)
    simpa [mkS, Str.length] using q1
  have hr1 : Txt.replace (opt1 (mkS l)) (Str.ofString ",") (Str.ofString " ") = mkS (swap1 44 32 (cutS (stripL l)).1) := by
    rw [h1, comma_C, sp_C, replace_swap]
    rfl
  have hr2 : opt2 (mkS l) = mkS (swap1 61 32 (swap1 44 32 (cutS (stripL l)).1)) := by
    unfold opt2
    rw [hr1, eq_C, sp_C, replace_swap]
    rfl
  have hsz : ∀ (q : List Nat), (mkS q).length = q.length := fun q => by simp [mkS, Str.length]
  have hsw : ∀ c d q, (swap1 c d q).length = q.length := fun c d q => List.length_map _
  refine ⟨by rw [hsz]; exact ok1, by rw [hr1, hsz, hsw]; omega, by rw [hr2, hsz, hsw, hsw]; omega, ?_, ?_⟩
  · rw [hr2, words_list]
    show ((wgo [] (swap1 61 32 (swap1 44 32 (cutS (stripL l)).1))).map mkS).foldl pstep (upS (none, none, 0)) = _
    rw [pfold_list, ok2, stDue_list]
  · rw [hd, mkS_append]
    rcases ok3 with e | e
    · exact .inl (congrArg mkS e)
    · exact .inr (congrArg mkS e)
end Mine
end PP3
section PRe3
namespace Mine
theorem rst_Re3 : (1 : Nat) = 1 := by
  w_top off
  first | walk1 | rfl
end Mine
open PySem PySem.W PyProof.Rows Builtin.Str
set_option maxRecDepth 100000
set_option maxHeartbeats 4000000
namespace Mine
abbrev code2 : Array Nat := #[14, 8, 1, 11, 4294967295, 1, 1, 91, 0, 16, 91, 40, 100, 40, 101, 40, 102, 40, 97, 40, 117, 40, 108, 40, 116, 16, 58, 16, 32, 17, 0, 24, 5, 0, 4294967295, 2, 1, 17, 1, 16, 93, 1]
abbrev code3 : Array Nat := #[14, 8, 1, 2, 4294967295, 1, 0, 60, 0, 17, 0, 16, 60, 26, 9, 0, 4294967295, 13, 4, 8, 13, 0, 1, 16, 62, 17, 1, 1]
def searchB (code T : Array Nat) (groups st : Nat) (must : Bool) : Option (Option Sre.M) :=
  let m := Sre.M.runFor 2000 (Sre.forSearch code T groups st T.size must)
  match m.outcome with
  | some .matched => some (some m)
  | some .failed => some none
  | _ => none
def grp1B (T : Array Nat) (m : Sre.M) : Option Str :=
  if decide ((0 : Int) ≥ m.lastmark) then none else
  match m.marks.getD 0 none, m.marks.getD 1 none with
  | some b, some e => if e < b then none else some ⟨T.extract b e⟩
  | _, _ => none
def hitsB (code T : Array Nat) : Nat → Nat → Bool → Option (List Str)
  | 0, _, _ => none
  | f + 1, st, must => match searchB code T 1 st must with
    | none => none
    | some none => some []
    | some (some m) => if st ≤ T.size then (match grp1B T m with
      | none => none
      | some g => match hitsB code T f m.handed (m.handed == m.start) with
        | none => none
        | some xs => some (g :: xs)) else none
theorem searchB_got {code T : Array Nat} {groups st : Nat} {must : Bool} {m : Sre.M} (h : searchB code T groups st must = some (some m)) : Got (Sre.forSearch code T groups st T.size must) m := by
  unfold searchB at h
  dsimp only at h
  split at h
  · rename_i e
    injection h with h; injection h with h
    exact ⟨2000, by decide, h, h ▸ e⟩
  · cases h
  · cases h
theorem searchB_lost {code T : Array Nat} {groups st : Nat} {must : Bool} (h : searchB code T groups st must = some none) : Lost (Sre.forSearch code T groups st T.size must) := by
  unfold searchB at h
  dsimp only at h
  split at h
  · cases h
  · rename_i e
    exact ⟨2000, by decide, e⟩
  · cases h
theorem grp1B_is {T : Array Nat} {m : Sre.M} {g : Str} (h : grp1B T m = some g) : grp1 T m g := by
  unfold grp1B at h
  split at h
  · cases h
  · rename_i h0
    split at h
    · rename_i b e h1 h2
      split at h
      · cases h
      · rename_i h3
        injection h with h
        exact ⟨b, e, by simpa using h0, h1, h2, h3, h.symm⟩
    · cases h
theorem hitsB_is {code T : Array Nat} : ∀ (f st : Nat) (must : Bool) (xs : List Str), hitsB code T f st must = some xs → Hits code T st must xs
  | 0, _, _, _, h => by cases h
  | f + 1, st, must, xs, h => by
    unfold hitsB at h
    split at h
    · cases h
    · rename_i e
      injection h with h
      subst h
      exact .stop (searchB_lost e)
    · rename_i m e
      split at h
      · rename_i hst
        split at h
        · cases h
        · rename_i g hg
          split at h
          · cases h
          · rename_i ys hy
            injection h with h
            subst h
            exact .more hst (searchB_got e) (grp1B_is hg) (hitsB_is f _ _ _ hy)
      · cases h
def oneOf : Option (List Nat) → List Str
  | none => []
  | some l => [mkS l]
def hitIs (code : Array Nat) (l : List Nat) (r : Option (List Nat)) : Bool := hitsB code l.toArray 4 0 false == some (oneOf r)
theorem hitIs_is {code : Array Nat} {l : List Nat} {r : Option (List Nat)} (h : hitIs code l r = true) : Hits code (mkS l).cps 0 false (oneOf r) := hitsB_is 4 0 false _ (eq_of_beq h)
theorem h2_0 : hitIs code2 [] none = true := by decide +kernel
theorem h2s_0 : hitIs code2 [32, 32, 32] none = true := by decide +kernel
theorem h2_1 : hitIs code2 [119, 104, 97, 116, 32, 105, 116, 32, 100, 111, 101, 115] none = true := by decide +kernel
theorem h2s_1 : hitIs code2 [32, 32, 32, 119, 104, 97, 116, 32, 105, 116, 32, 100, 111, 101, 115] none = true := by decide +kernel
theorem h2_2 : hitIs code2 [105, 116, 32, 100, 111, 101, 115, 32, 32, 91, 100, 101, 102, 97, 117, 108, 116, 58, 32, 55, 93] (some [55]) = true := by decide +kernel
theorem h2s_2 : hitIs code2 [32, 32, 32, 105, 116, 32, 100, 111, 101, 115, 32, 32, 91, 100, 101, 102, 97, 117, 108, 116, 58, 32, 55, 93] (some [55]) = true := by decide +kernel
theorem h2_3 : hitIs code2 [91, 68, 69, 70, 65, 85, 76, 84, 58, 32, 97, 32, 98, 46, 99, 93] (some [97, 32, 98, 46, 99]) = true := by decide +kernel
theorem h2s_3 : hitIs code2 [32, 32, 32, 91, 68, 69, 70, 65, 85, 76, 84, 58, 32, 97, 32, 98, 46, 99, 93] (some [97, 32, 98, 46, 99]) = true := by decide +kernel
theorem h2_4 : hitIs code2 [120, 32, 91, 100, 101, 102, 97, 117, 108, 116, 58, 32, 93] (some []) = true := by decide +kernel
theorem h2s_4 : hitIs code2 [32, 32, 32, 120, 32, 91, 100, 101, 102, 97, 117, 108, 116, 58, 32, 93] (some []) = true := by decide +kernel
def dOf : Option (List Nat) → Dat
  | none => .none
  | some l => .str (mkS l)
/-- what findall finds in an option's words -/
theorem found2 {W D : Str} (hW : W ∈ wM) (hD : D = W ∨ D = mkS [32, 32, 32] ++ W) : ∃ r, Hits code2 D.cps 0 false (oneOf r) ∧ (oneOf r).length ≤ 2 * D.length ∧ dfltD W = dOf r := by
  rw [wM_C] at hW
  obtain ⟨w, hw, rfl⟩ := List.mem_map.mp hW
  rw [mkS_append] at hD
  simp only [wC, List.mem_cons, List.not_mem_nil, or_false] at hw
  rcases hw with rfl | rfl | rfl | rfl | rfl
  · have hd : dfltD (mkS []) = dOf (none) := dfltN (by decide +kernel) (by decide +kernel) (by decide +kernel)
    rcases hD with rfl | rfl
    · exact ⟨none, hitIs_is h2_0, by simp [oneOf, mkS, Str.length], hd⟩
    · exact ⟨none, hitIs_is h2s_0, by simp [oneOf, mkS, Str.length], hd⟩
  · have hd : dfltD (mkS [119, 104, 97, 116, 32, 105, 116, 32, 100, 111, 101, 115]) = dOf (none) := dfltN (by decide +kernel) (by decide +kernel) (by decide +kernel)
    rcases hD with rfl | rfl
    · exact ⟨none, hitIs_is h2_1, by simp [oneOf, mkS, Str.length], hd⟩
    · exact ⟨none, hitIs_is h2s_1, by simp [oneOf, mkS, Str.length], hd⟩
  · have hd : dfltD (mkS [105, 116, 32, 100, 111, 101, 115, 32, 32, 91, 100, 101, 102, 97, 117, 108, 116, 58, 32, 55, 93]) = dOf (some [55]) := (by rw [show mkS [105, 116, 32, 100, 111, 101, 115, 32, 32, 91, 100, 101, 102, 97, 117, 108, 116, 58, 32, 55, 93] = Str.ofString "it does  [default: 7]" from by decide +kernel, dflt7, show Str.ofString "7" = mkS [55] from by decide +kernel]; rfl)
    rcases hD with rfl | rfl
    · exact ⟨some [55], hitIs_is h2_2, by simp [oneOf, mkS, Str.length], hd⟩
    · exact ⟨some [55], hitIs_is h2s_2, by simp [oneOf, mkS, Str.length], hd⟩
  · have hd : dfltD (mkS [91, 68, 69, 70, 65, 85, 76, 84, 58, 32, 97, 32, 98, 46, 99, 93]) = dOf (some [97, 32, 98, 46, 99]) := (by rw [show mkS [91, 68, 69, 70, 65, 85, 76, 84, 58, 32, 97, 32, 98, 46, 99, 93] = Str.ofString "[DEFAULT: a b.c]" from by decide +kernel, dfltAb, show Str.ofString "a b.c" = mkS [97, 32, 98, 46, 99] from by decide +kernel]; rfl)
    rcases hD with rfl | rfl
    · exact ⟨some [97, 32, 98, 46, 99], hitIs_is h2_3, by simp [oneOf, mkS, Str.length], hd⟩
    · exact ⟨some [97, 32, 98, 46, 99], hitIs_is h2s_3, by simp [oneOf, mkS, Str.length], hd⟩
  · have hd : dfltD (mkS [120, 32, 91, 100, 101, 102, 97, 117, 108, 116, 58, 32, 93]) = dOf (some []) := (by rw [show mkS [120, 32, 91, 100, 101, 102, 97, 117, 108, 116, 58, 32, 93] = Str.ofString "x [default: ]" from by decide +kernel, dfltE, show Str.ofString "" = mkS [] from by decide +kernel]; rfl)
    rcases hD with rfl | rfl
    · exact ⟨some [], hitIs_is h2_4, by simp [oneOf, mkS, Str.length], hd⟩
    · exact ⟨some [], hitIs_is h2s_4, by simp [oneOf, mkS, Str.length], hd⟩
theorem a2_0 : hitIs code2 [60, 110, 97, 109, 101, 62, 32, 32, 119, 104, 97, 116] none = true := by decide +kernel
theorem a3_0 : hitIs code3 [60, 110, 97, 109, 101, 62, 32, 32, 119, 104, 97, 116] (some [60, 110, 97, 109, 101, 62]) = true := by decide +kernel
theorem a2_1 : hitIs code2 [60, 110, 97, 109, 101, 62, 32, 32, 119, 104, 97, 116, 32, 91, 100, 101, 102, 97, 117, 108, 116, 58, 32, 53, 93] (some [53]) = true := by decide +kernel
theorem a3_1 : hitIs code3 [60, 110, 97, 109, 101, 62, 32, 32, 119, 104, 97, 116, 32, 91, 100, 101, 102, 97, 117, 108, 116, 58, 32, 53, 93] (some [60, 110, 97, 109, 101, 62]) = true := by decide +kernel
theorem a2_2 : hitIs code2 [60, 110, 97, 109, 101, 62, 32, 32, 119, 104, 97, 116, 32, 91, 100, 101, 102, 97, 117, 108, 116, 58, 32, 120, 32, 121, 93] (some [120, 32, 121]) = true := by decide +kernel
theorem a3_2 : hitIs code3 [60, 110, 97, 109, 101, 62, 32, 32, 119, 104, 97, 116, 32, 91, 100, 101, 102, 97, 117, 108, 116, 58, 32, 120, 32, 121, 93] (some [60, 110, 97, 109, 101, 62]) = true := by decide +kernel
end Mine
end PRe3
section PSx
namespace Mine
theorem rst_Sx : (1 : Nat) = 1 := by
  w_top off
  first | walk1 | rfl
end Mine
open PySem PySem.W PyProof.Rows PySem.Sre
set_option maxRecDepth 100000
set_option maxHeartbeats 4000000
namespace Mine
/-- within k steps the machine is at P -/
def Goes (k : Nat) (m : Sre.M) (P : Sre.M → Prop) : Prop := ∃ n, n ≤ k ∧ P (Sre.M.runFor n m)
theorem Goes.here {k : Nat} {m : Sre.M} {P : Sre.M → Prop} (h : P m) : Goes k m P := ⟨0, Nat.zero_le _, h⟩
theorem Goes.step {k : Nat} {m m' : Sre.M} {P : Sre.M → Prop} (ho : m.outcome = none) (e : m.step = m') (h : Goes k m' P) : Goes (k + 1) m P := by
  obtain ⟨n, hn, hp⟩ := h
  refine ⟨n + 1, Nat.succ_le_succ hn, ?_⟩
  rw [runFor_succ, ho, if_neg (by simp), e]
  exact hp
theorem Goes.mono {k k' : Nat} {m : Sre.M} {P : Sre.M → Prop} (hk : k ≤ k') (h : Goes k m P) : Goes k' m P := let ⟨n, hn, hp⟩ := h; ⟨n, Nat.le_trans hn hk, hp⟩
section
variable {m : Sre.M}
theorem step_exec (ho : m.outcome = none) (ha : m.answer = none) (hpc : m.pc < m.code.size) : m.step = m.exec := by
  unfold Sre.M.step
  rw [ho, if_neg (by simp), ha]
  dsimp only
  rw [if_pos hpc]
theorem exec_one {op : Op} (hop : ops[m.code.getD m.pc 0]? = some op) (hk : op = .IN ∨ op = .LITERAL) {b : Bool} {seen' : Sre.Seen} (hpos : m.pos < m.lim)
    (hacc : accepts m.code m.pc (m.text.getD m.pos 0) (m.seen.add (m.code.getD m.pc 0)) = .ok (b, seen')) :
    m.exec = if b = true then { m with seen := seen', pc := m.pc + itemWidth m.code m.pc, pos := m.pos + 1 } else { m with seen := seen', answer := some false } := by
  unfold Sre.M.exec
  have e : m.word 0 = m.code.getD m.pc 0 := rfl
  rw [e, hop]
  dsimp only
  rcases hk with rfl | rfl
  all_goals
    dsimp only
    rw [if_neg (Nat.not_le.mpr hpos), hacc]
    cases b
    · rfl
    · rfl
theorem exec_end {op : Op} (hop : ops[m.code.getD m.pc 0]? = some op) (hk : op = .IN ∨ op = .LITERAL) (hpos : ¬ m.pos < m.lim) :
    m.exec = { m with seen := m.seen.add (m.code.getD m.pc 0), answer := some false } := by
  unfold Sre.M.exec
  have e : m.word 0 = m.code.getD m.pc 0 := rfl
  rw [e, hop]
  dsimp only
  rcases hk with rfl | rfl
  all_goals
    dsimp only
    rw [if_pos (Nat.not_lt.mp hpos)]
    rfl
theorem exec_mark (hop : ops[m.code.getD m.pc 0]? = some .MARK) : m.exec = { m with seen := m.seen.add (m.code.getD m.pc 0) }.mark (m.word 1) := by
  unfold Sre.M.exec
  have e : m.word 0 = m.code.getD m.pc 0 := rfl
  rw [e, hop]
  rfl
theorem exec_success (hop : ops[m.code.getD m.pc 0]? = some .SUCCESS) (hw : m.wholeText = false) (hs : m.mustAdvance = false ∨ m.pos ≠ m.start) : m.exec = { m with seen := m.seen.add (m.code.getD m.pc 0), handed := m.pos, answer := some true } := by
  unfold Sre.M.exec
  have e : m.word 0 = m.code.getD m.pc 0 := rfl
  rw [e, hop]
  dsimp only
  rw [hw]
  have : (m.mustAdvance && m.pos == m.start) = false := by
    rcases hs with h | h
    · rw [h]; rfl
    · simp [h]
  rw [this]
  simp [Sre.M.say]
theorem step_resume {f : Sre.Frame} {rest : List Sre.Frame} {yes : Bool} (ho : m.outcome = none) (ha : m.answer = some yes) (hf : m.frames = f :: rest) :
    m.step = Sre.M.resume { m with answer := none, frames := rest, weight := m.weight - (1 + f.kept.marks.size), pc := f.pc, pos := f.pos, outermost := f.outermost } f yes := by
  unfold Sre.M.step
  rw [ho, if_neg (by simp), ha, hf]
theorem step_last {yes : Bool} (ho : m.outcome = none) (ha : m.answer = some yes) (hf : m.frames = []) : m.step = { m with outcome := some (if yes then .matched else .failed) } := by
  unfold Sre.M.step
  rw [ho, if_neg (by simp), ha, hf]
end
end Mine
end PSx
section PS1
namespace Mine
theorem rst_S1 : (1 : Nat) = 1 := by
  w_top off
  first | walk1 | rfl
end Mine
open PySem PySem.W PyProof.Rows PySem.Sre
set_option maxRecDepth 100000
set_option maxHeartbeats 4000000
namespace Mine
abbrev code1 : Array Nat := #[14, 9, 4, 6, 6, 16, 85, 16, 117, 0, 17, 0, 13, 6, 16, 85, 16, 117, 0, 13, 6, 16, 83, 16, 115, 0, 13, 6, 16, 65, 16, 97, 0, 13, 6, 16, 71, 16, 103, 0, 13, 6, 16, 69, 16, 101, 0, 16, 58, 17, 1, 1]
def isU (c : Nat) : Bool := c == 85 || c == 117
theorem inSet1 (c : Nat) (seen : Sre.Seen) : ∃ s1 s2 s3, inSet code1 c code1.size 5 true seen = if c == 85 then .ok (true, s1) else if c == 117 then .ok (true, s2) else .ok (false, s3) := ⟨_, _, _, rfl⟩
theorem inSet1_yes {c : Nat} (seen : Sre.Seen) (h : isU c = true) : ∃ s1, inSet code1 c code1.size 5 true seen = .ok (true, s1) := by
  obtain ⟨s1, s2, s3, e⟩ := inSet1 c seen
  rw [e]
  unfold isU at h
  by_cases h1 : (c == 85) = true
  · rw [if_pos h1]; exact ⟨_, rfl⟩
  · rw [if_neg h1]
    have h2 : (c == 117) = true := by simpa [h1] using h
    rw [if_pos h2]; exact ⟨_, rfl⟩
theorem inSet1_no {c : Nat} (seen : Sre.Seen) (h : isU c = false) : ∃ s1, inSet code1 c code1.size 5 true seen = .ok (false, s1) := by
  obtain ⟨s1, s2, s3, e⟩ := inSet1 c seen
  rw [e]
  unfold isU at h
  have h' := Bool.or_eq_false_iff.mp h
  rw [if_neg (by rw [h'.1]; decide), if_neg (by rw [h'.2]; decide)]
  exact ⟨_, rfl⟩
theorem adm_found {m : Sre.M} (hc : m.code = code1) {p : Nat} (hp : p < m.lim) (hu : isU (m.text.getD p 0) = true) : ∀ (fuel s : Nat) (seen : Sre.Seen), s ≤ p → p - s < fuel → (∀ k, s ≤ k → k < p → isU (m.text.getD k 0) = false) → ∃ s1, Sre.M.admitted m fuel s seen = .ok (some p, s1)
  | 0, _, _, _, h, _ => absurd h (Nat.not_lt_zero _)
  | fuel + 1, s, seen, hs, hf, hno => by
    unfold Sre.M.admitted
    rw [if_neg (Nat.not_le.mpr (Nat.lt_of_le_of_lt hs hp)), hc]
    by_cases e : s = p
    · subst e
      obtain ⟨s1, h1⟩ := inSet1_yes seen hu
      rw [h1]
      exact ⟨_, rfl⟩
    · obtain ⟨s1, h1⟩ := inSet1_no seen (hno s (Nat.le_refl _) (by omega))
      rw [h1]
      exact adm_found hc hp hu fuel (s + 1) s1 (by omega) (by omega) fun k h2 h3 => hno k (by omega) h3
theorem adm_none {m : Sre.M} (hc : m.code = code1) : ∀ (fuel s : Nat) (seen : Sre.Seen), (∀ k, s ≤ k → k < m.lim → isU (m.text.getD k 0) = false) → ∃ s1, Sre.M.admitted m fuel s seen = .ok (none, s1)
  | 0, _, _, _ => ⟨_, rfl⟩
  | fuel + 1, s, seen, hno => by
    unfold Sre.M.admitted
    by_cases e : s ≥ m.lim
    · rw [if_pos e]; exact ⟨_, rfl⟩
    · rw [if_neg e, hc]
      obtain ⟨s1, h1⟩ := inSet1_no seen (hno s (Nat.le_refl _) (by omega))
      rw [h1]
      exact adm_none hc fuel (s + 1) s1 fun k h2 h3 => hno k (by omega) h3
/-- the machine at its start -/
abbrev m1 (T : Array Nat) (st : Nat) (must : Bool) : Sre.M :=
  { code := code1, text := T, lim := T.size, start := st, lastStart := T.size, mustAdvance := must, pc := 10, pos := st, handed := st, marks := Array.replicate 2 none, seen := ({} : Sre.Seen).add 14 }
theorem search1_long {T : Array Nat} {st : Nat} {must : Bool} (h : st ≤ T.size) (h6 : 6 ≤ T.size - st) : Sre.forSearch code1 T 1 st T.size must = (m1 T st must).attemptFrom st true := by
  unfold Sre.forSearch
  dsimp only
  have e : (header code1).1 = 6 := rfl
  rw [if_neg (by rw [e]; simp; omega)]
  rfl
theorem search1_short {T : Array Nat} {st : Nat} {must : Bool} (h : ¬ (st ≤ T.size ∧ 6 ≤ T.size - st)) : ∃ m : Sre.M, Sre.forSearch code1 T 1 st T.size must = m ∧ m.outcome = none ∧ m.answer = some false ∧ m.frames = [] := by
  unfold Sre.forSearch
  dsimp only
  have e : (header code1).1 = 6 := rfl
  rw [if_pos (by rw [e]; simp; omega)]
  exact ⟨_, rfl, rfl, rfl, rfl⟩
theorem lost_of {m : Sre.M} (h1 : m.outcome = none) (h2 : m.answer = some false) (h3 : m.frames = []) : Lost m := by
  refine ⟨1, by decide, ?_⟩
  rw [runFor_succ, h1, if_neg (by simp), step_last h1 h2 h3]
  rfl
theorem lost1 {T : Array Nat} {st : Nat} {must : Bool} (hno : ∀ k, st ≤ k → k < T.size → isU (T.getD k 0) = false) : Lost (Sre.forSearch code1 T 1 st T.size must) := by
  by_cases h : st ≤ T.size ∧ 6 ≤ T.size - st
  · rw [search1_long h.1 h.2]
    unfold Sre.M.attemptFrom
    have e0 : (m1 T st must).hasFirstSet = true := rfl
    rw [e0, if_neg (by decide)]
    obtain ⟨s1, e⟩ := adm_none (m := m1 T st must) rfl ((m1 T st must).lim + 1 - st) st (m1 T st must).seen hno
    rw [e]
    exact lost_of rfl rfl rfl
  · obtain ⟨m, e, h1, h2, h3⟩ := search1_short (must := must) h
    rw [e]
    exact lost_of h1 h2 h3
/-- the machine at work on a place -/
abbrev w1 (T : Array Nat) (p pc pos handed : Nat) (marks : Array (Option Nat)) (lm li : Int) (ans : Option Bool) (first : Bool) (frames : List Sre.Frame) (weight : Nat) (seen : Sre.Seen) : Sre.M :=
  { code := code1, text := T, lim := T.size, start := p, lastStart := T.size, mustAdvance := false, pc, pos, handed, outermost := first, marks, lastmark := lm, lastindex := li, frames, weight, answer := ans, seen }
theorem acc1 {pc a b c : Nat} (h : pc = 12 ∧ a = 85 ∧ b = 117 ∨ pc = 19 ∧ a = 83 ∧ b = 115 ∨ pc = 26 ∧ a = 65 ∧ b = 97 ∨ pc = 33 ∧ a = 71 ∧ b = 103 ∨ pc = 40 ∧ a = 69 ∧ b = 101) (hc : c = a ∨ c = b) (seen : Sre.Seen) : ∃ s1, accepts code1 pc c seen = .ok (true, s1) := by
  rcases h with ⟨rfl, rfl, rfl⟩ | ⟨rfl, rfl, rfl⟩ | ⟨rfl, rfl, rfl⟩ | ⟨rfl, rfl, rfl⟩ | ⟨rfl, rfl, rfl⟩ <;> rcases hc with rfl | rfl <;> exact ⟨_, rfl⟩
theorem found1 {T : Array Nat} {st p : Nat} {must : Bool} (hst : st ≤ p) (hp : p + 6 ≤ T.size) (hno : ∀ k, st ≤ k → k < p → isU (T.getD k 0) = false)
    (h0 : T.getD p 0 = 85 ∨ T.getD p 0 = 117) (h1 : T.getD (p + 1) 0 = 83 ∨ T.getD (p + 1) 0 = 115) (h2 : T.getD (p + 2) 0 = 65 ∨ T.getD (p + 2) 0 = 97) (h3 : T.getD (p + 3) 0 = 71 ∨ T.getD (p + 3) 0 = 103) (h4 : T.getD (p + 4) 0 = 69 ∨ T.getD (p + 4) 0 = 101) (h5 : T.getD (p + 5) 0 = 58) :
    ∃ m, Got (Sre.forSearch code1 T 1 st T.size must) m ∧ m.start = p ∧ m.handed = p + 6 ∧ m.lastmark = 1 ∧ m.marks = #[some p, some (p + 6)] := by
  rw [search1_long (by omega) (by omega)]
  unfold Sre.M.attemptFrom
  have e0 : (m1 T st must).hasFirstSet = true := rfl
  rw [e0, if_neg (by decide)]
  have hu : isU (T.getD p 0) = true := by rcases h0 with h | h <;> rw [h] <;> rfl
  obtain ⟨s0, e⟩ := adm_found (m := m1 T st must) rfl (p := p) (by show p < T.size; omega) hu ((m1 T st must).lim + 1 - st) st (m1 T st must).seen hst (by show p - st < T.size + 1 - st; omega) hno
  rw [e]
  dsimp only
  have fin : Goes 11 (w1 T p 10 p p (Array.replicate 2 none) (-1) (-1) none true [{ wait := .nextStart, pc := 10, pos := p, outermost := true }] 1 s0) (fun m => m.outcome = some .matched ∧ m.start = p ∧ m.handed = p + 6 ∧ m.lastmark = 1 ∧ m.marks = #[some p, some (p + 6)]) := by
    have hz : ∀ i, i < 6 → p + i < T.size := fun i hi => by omega
    -- MARK 0
    refine Goes.step rfl ((step_exec rfl rfl (by show 10 < 52; decide)).trans ((exec_mark rfl).trans (show _ = w1 T p 12 p p #[some p, none] 0 (-1) none true [{ wait := .nextStart, pc := 10, pos := p, outermost := true }] 1 _ from rfl))) ?_
    obtain ⟨s1, a1⟩ := acc1 (.inl ⟨rfl, rfl, rfl⟩) h0 ((s0.add 17).add 13)
    refine Goes.step rfl ((step_exec rfl rfl (by show 12 < 52; decide)).trans ((exec_one (op := .IN) rfl (.inl rfl) (hz 0 (by decide)) a1).trans (show _ = w1 T p 19 (p + 1) p #[some p, none] 0 (-1) none true [{ wait := .nextStart, pc := 10, pos := p, outermost := true }] 1 s1 from rfl))) ?_
    obtain ⟨s2, a2⟩ := acc1 (.inr (.inl ⟨rfl, rfl, rfl⟩)) h1 (s1.add 13)
    refine Goes.step rfl ((step_exec rfl rfl (by show 19 < 52; decide)).trans ((exec_one (op := .IN) rfl (.inl rfl) (hz 1 (by decide)) a2).trans (show _ = w1 T p 26 (p + 2) p #[some p, none] 0 (-1) none true [{ wait := .nextStart, pc := 10, pos := p, outermost := true }] 1 s2 from rfl))) ?_
    obtain ⟨s3, a3⟩ := acc1 (.inr (.inr (.inl ⟨rfl, rfl, rfl⟩))) h2 (s2.add 13)
    refine Goes.step rfl ((step_exec rfl rfl (by show 26 < 52; decide)).trans ((exec_one (op := .IN) rfl (.inl rfl) (hz 2 (by decide)) a3).trans (show _ = w1 T p 33 (p + 3) p #[some p, none] 0 (-1) none true [{ wait := .nextStart, pc := 10, pos := p, outermost := true }] 1 s3 from rfl))) ?_
    obtain ⟨s4, a4⟩ := acc1 (.inr (.inr (.inr (.inl ⟨rfl, rfl, rfl⟩)))) h3 (s3.add 13)
    refine Goes.step rfl ((step_exec rfl rfl (by show 33 < 52; decide)).trans ((exec_one (op := .IN) rfl (.inl rfl) (hz 3 (by decide)) a4).trans (show _ = w1 T p 40 (p + 4) p #[some p, none] 0 (-1) none true [{ wait := .nextStart, pc := 10, pos := p, outermost := true }] 1 s4 from rfl))) ?_
    obtain ⟨s5, a5⟩ := acc1 (.inr (.inr (.inr (.inr ⟨rfl, rfl, rfl⟩)))) h4 (s4.add 13)
    refine Goes.step rfl ((step_exec rfl rfl (by show 40 < 52; decide)).trans ((exec_one (op := .IN) rfl (.inl rfl) (hz 4 (by decide)) a5).trans (show _ = w1 T p 47 (p + 5) p #[some p, none] 0 (-1) none true [{ wait := .nextStart, pc := 10, pos := p, outermost := true }] 1 s5 from rfl))) ?_
    have a6 : accepts code1 47 (T.getD (p + 5) 0) (s5.add 16) = .ok (true, s5.add 16) := by rw [h5]; rfl
    refine Goes.step rfl ((step_exec rfl rfl (by show 47 < 52; decide)).trans ((exec_one (op := .LITERAL) rfl (.inr rfl) (hz 5 (by decide)) a6).trans (show _ = w1 T p 49 (p + 6) p #[some p, none] 0 (-1) none true [{ wait := .nextStart, pc := 10, pos := p, outermost := true }] 1 _ from rfl))) ?_
    refine Goes.step rfl ((step_exec rfl rfl (by show 49 < 52; decide)).trans ((exec_mark rfl).trans (show Sre.M.mark _ 1 = w1 T p 51 (p + 6) p #[some p, some (p + 6)] 1 1 none true [{ wait := .nextStart, pc := 10, pos := p, outermost := true }] 1 ((s5.add 16).add 17) from rfl))) ?_
    refine Goes.step rfl ((step_exec rfl rfl (by show 51 < 52; decide)).trans (exec_success rfl rfl (.inl rfl))) ?_
    refine Goes.step rfl (step_resume (yes := true) rfl rfl rfl) ?_
    refine Goes.step rfl (step_last (yes := true) rfl rfl rfl) ?_
    exact Goes.here ⟨rfl, rfl, rfl, rfl, rfl⟩
  obtain ⟨n, hn, g1, g2, g3, g4, g5⟩ := fin
  exact ⟨_, ⟨n, by omega, rfl, g1⟩, g2, g3, g4, g5⟩
end Mine
end PS1
section PS4
namespace Mine
theorem rst_S4 : (1 : Nat) = 1 := by
  w_top off
  first | walk1 | rfl
end Mine
open PySem PySem.W PyProof.Rows PySem.Sre
set_option maxRecDepth 100000
set_option maxHeartbeats 4000000
namespace Mine
abbrev code4 : Array Nat := #[14, 8, 1, 2, 4294967295, 1, 1, 10, 0, 16, 10, 24, 9, 0, 4294967295, 13, 4, 8, 12, 0, 1, 16, 10, 1]
abbrev isp : Nat → Bool := Unicode.isSpace
theorem cat12 (c : Nat) : category 12 c = .ok (isp c) := by
  show (Except.ok (Unicode.isSpace c)).map (· != (12 % 2 == 1)) = _
  show Except.ok (Unicode.isSpace c != false) = Except.ok (Unicode.isSpace c)
  cases Unicode.isSpace c <;> rfl
theorem acc4 (c : Nat) (seen : Sre.Seen) : ∃ s1 s2, accepts code4 15 c seen = (category 12 c >>= fun b => if b = true then Except.ok (true, s1) else Except.ok (false, s2)) := ⟨_, _, rfl⟩
theorem acc4_is (c : Nat) (seen : Sre.Seen) : ∃ s1, accepts code4 15 c seen = .ok (isp c, s1) := by
  obtain ⟨s1, s2, e⟩ := acc4 c seen
  rw [e, cat12]
  show ∃ s, (if isp c = true then Except.ok (true, s1) else Except.ok (false, s2)) = _
  cases isp c
  · exact ⟨s2, rfl⟩
  · exact ⟨s1, rfl⟩
/-- how many blanks stand from a place on -/
def cnt (T : Array Nat) : Nat → Nat → Nat
  | 0, _ => 0
  | k + 1, p => if isp (T.getD p 0) = true then cnt T k (p + 1) + 1 else 0
theorem run4 (T : Array Nat) : ∀ (k p found : Nat) (seen : Sre.Seen), ∃ s1, Sre.run code4 T 15 k p found seen = .ok (found + cnt T k p, s1)
  | 0, _, _, seen => ⟨seen, rfl⟩
  | k + 1, p, found, seen => by
    obtain ⟨s1, e⟩ := acc4_is (T.getD p 0) seen
    unfold Sre.run cnt
    rw [e]
    show ∃ s, (if isp (T.getD p 0) = true then Sre.run code4 T 15 k (p + 1) (found + 1) s1 else Except.ok (found, s1)) = _
    by_cases h : isp (T.getD p 0) = true
    · rw [if_pos h, if_pos h]
      obtain ⟨s2, e2⟩ := run4 T k (p + 1) (found + 1) s1
      exact ⟨s2, by rw [e2]; exact congrArg (fun z => Except.ok (z, s2)) (by omega)⟩
    · rw [if_neg h, if_neg h]
      exact ⟨s1, rfl⟩
abbrev fr4 (p : Nat) (first : Bool) : Sre.Frame := { wait := .nextStart, pc := 9, pos := p, outermost := first }
abbrev gb4 (p c : Nat) (first : Bool) : Sre.Frame := { wait := .giveBack, pc := 11, pos := p + 1 + c, outermost := first, count := (c : Int), kept := { lastmark := -1, lastindex := -1, whole := false, marks := #[] } }
abbrev w4 (T : Array Nat) (p pc pos handed : Nat) (ans : Option Bool) (first : Bool) (frames : List Sre.Frame) (weight : Nat) (must : Bool) (seen : Sre.Seen) : Sre.M :=
  { code := code4, text := T, lim := T.size, start := p, lastStart := T.size, mustAdvance := must, pc, pos, handed, outermost := first, marks := #[], frames, weight, answer := ans, seen }
/-- at work on a place -/
abbrev at4 (T : Array Nat) (p : Nat) (first must : Bool) (seen : Sre.Seen) : Sre.M := w4 T p 9 p p none first [fr4 p first] 1 must seen
section
variable {T : Array Nat} {p k : Nat} {first must : Bool} {seen : Sre.Seen} {P : Sre.M → Prop}
theorem lit4 (pc c : Nat) (h : pc = 9 ∨ pc = 21) (seen : Sre.Seen) : accepts code4 pc c seen = .ok (c == 10, seen) := by
  rcases h with rfl | rfl <;> rfl
theorem no_next (hp : p < T.size) (hd : Nat) (pc pos : Nat) (h : ∀ s1, Goes k (at4 T (p + 1) false false s1) P) : Goes (k + 1) (w4 T p pc pos hd (some false) first [fr4 p first] 1 must seen) P := by
  refine Goes.step rfl (step_resume (yes := false) rfl rfl rfl) ?_
  show Goes k (if p < T.size then _ else _) P
  rw [if_pos hp]
  exact h seen
theorem no_end (hp : ¬ p < T.size) (hd : Nat) (pc pos : Nat) : Goes 2 (w4 T p pc pos hd (some false) first [fr4 p first] 1 must seen) (fun m => m.outcome = some .failed) := by
  refine Goes.step rfl (step_resume (yes := false) rfl rfl rfl) ?_
  show Goes 1 (if p < T.size then _ else _) _
  rw [if_neg hp]
  refine Goes.step rfl (step_last (yes := false) rfl rfl rfl) ?_
  exact Goes.here rfl
theorem miss4 (hp : p < T.size) (hc : ¬ T.getD p 0 = 10) (h : ∀ s1, Goes k (at4 T (p + 1) false false s1) P) : Goes (k + 2) (at4 T p first must seen) P := by
  refine Goes.step rfl ((step_exec rfl rfl (by show 9 < 24; decide)).trans ((exec_one (op := .LITERAL) (b := false) rfl (.inr rfl) hp ((lit4 9 _ (.inl rfl) _).trans (by rw [beq_eq_false_iff_ne.mpr hc]))).trans (if_neg (by decide)))) ?_
  exact no_next hp _ _ _ h
theorem over4 (hp : ¬ p < T.size) : Goes 3 (at4 T p first must seen) (fun m => m.outcome = some .failed) := by
  refine Goes.step rfl ((step_exec rfl rfl (by show 9 < 24; decide)).trans (exec_end (op := .LITERAL) rfl (.inr rfl) hp)) ?_
  exact no_end hp _ _ _
/-- giving back, from c blanks down -/
def down4 (T : Array Nat) (p : Nat) : Nat → Option Nat
  | 0 => if p + 1 < T.size ∧ T.getD (p + 1) 0 = 10 then some 0 else none
  | c + 1 => if p + 1 + (c + 1) < T.size ∧ T.getD (p + 1 + (c + 1)) 0 = 10 then some (c + 1) else down4 T p c
abbrev giv4 (T : Array Nat) (p c : Nat) (first must : Bool) (seen : Sre.Seen) : Sre.M := w4 T p 21 (p + 1 + c) (p + 1 + c) none first [gb4 p c first, fr4 p first] 2 must seen
theorem giv_yes {c : Nat} (hs : p + 1 + c < T.size ∧ T.getD (p + 1 + c) 0 = 10) : Goes 5 (giv4 T p c first must seen) (fun m => m.outcome = some .matched ∧ m.start = p ∧ m.handed = p + 2 + c) := by
  refine Goes.step rfl ((step_exec rfl rfl (by show 21 < 24; decide)).trans ((exec_one (op := .LITERAL) (b := true) rfl (.inr rfl) hs.1 ((lit4 21 _ (.inr rfl) _).trans (by rw [beq_iff_eq.mpr hs.2]))).trans (if_pos rfl))) ?_
  refine Goes.step rfl ((step_exec rfl rfl (by show 23 < 24; decide)).trans (exec_success rfl rfl (.inr (by show p + 1 + c + 1 ≠ p; omega)))) ?_
  refine Goes.step rfl (step_resume (yes := true) rfl rfl rfl) ?_
  refine Goes.step rfl (step_resume (yes := true) rfl rfl rfl) ?_
  refine Goes.step rfl (step_last (yes := true) rfl rfl rfl) ?_
  exact Goes.here ⟨rfl, rfl, by show p + 1 + c + 1 = p + 2 + c; omega⟩
theorem giv_lit_no {c : Nat} (hs : ¬ (p + 1 + c < T.size ∧ T.getD (p + 1 + c) 0 = 10)) (h : ∀ s1, Goes k (w4 T p 21 (p + 1 + c) (p + 1 + c) (some false) first [gb4 p c first, fr4 p first] 2 must s1) P) : Goes (k + 1) (giv4 T p c first must seen) P := by
  by_cases hp : p + 1 + c < T.size
  · have hc : ¬ T.getD (p + 1 + c) 0 = 10 := fun e => hs ⟨hp, e⟩
    exact Goes.step rfl ((step_exec rfl rfl (by show 21 < 24; decide)).trans ((exec_one (op := .LITERAL) (b := false) rfl (.inr rfl) hp ((lit4 21 _ (.inr rfl) _).trans (by rw [beq_eq_false_iff_ne.mpr hc]))).trans (if_neg (by decide)))) (h _)
  · exact Goes.step rfl ((step_exec rfl rfl (by show 21 < 24; decide)).trans (exec_end (op := .LITERAL) rfl (.inr rfl) hp)) (h _)
theorem giv_down {c : Nat} (h : ∀ s1, Goes k (giv4 T p c first must s1) P) : Goes (k + 1) (w4 T p 21 (p + 1 + (c + 1)) (p + 1 + (c + 1)) (some false) first [gb4 p (c + 1) first, fr4 p first] 2 must seen) P := by
  refine Goes.step rfl (step_resume (yes := false) rfl rfl rfl) ?_
  have e1 : ¬ ((((c + 1 : Nat) : Int) - 1) < ((0 : Nat) : Int)) := by omega
  have e2 : (((c + 1 : Nat) : Int) - 1) = ((c : Nat) : Int) := by omega
  show Goes k (if (((c + 1 : Nat) : Int) - 1) < ((0 : Nat) : Int) then _ else Sre.M.afterRun _ .giveBack (((c + 1 : Nat) : Int) - 1) _) P
  rw [if_neg e1, e2]
  exact h seen
theorem giv_out (hd pos : Nat) (h : ∀ s1, Goes k (w4 T p 11 pos hd (some false) first [fr4 p first] 1 must s1) P) (hpos : pos = p + 1 + 0) (hhd : hd = p + 1 + 0) : Goes (k + 1) (w4 T p 21 (p + 1 + 0) (p + 1 + 0) (some false) first [gb4 p 0 first, fr4 p first] 2 must seen) P := by
  subst hpos hhd
  refine Goes.step rfl (step_resume (yes := false) rfl rfl rfl) ?_
  exact h seen
theorem giv_all (hp : p < T.size) : ∀ (c : Nat) (seen : Sre.Seen), (match down4 T p c with
    | some d => Goes (2 * c + 5) (giv4 T p c first must seen) (fun m => m.outcome = some .matched ∧ m.start = p ∧ m.handed = p + 2 + d)
    | none => (∀ s1, Goes k (at4 T (p + 1) false false s1) P) → Goes (k + (2 * c + 3)) (giv4 T p c first must seen) P)
  | 0, seen => by
    unfold down4
    by_cases hs : p + 1 + 0 < T.size ∧ T.getD (p + 1 + 0) 0 = 10
    · rw [if_pos hs]
      exact giv_yes hs
    · rw [if_neg hs]
      intro h
      refine giv_lit_no hs fun s1 => giv_out _ _ (fun s2 => no_next hp _ _ _ h) rfl rfl
  | c + 1, seen => by
    unfold down4
    by_cases hs : p + 1 + (c + 1) < T.size ∧ T.getD (p + 1 + (c + 1)) 0 = 10
    · rw [if_pos hs]
      exact Goes.mono (by omega) (giv_yes hs)
    · rw [if_neg hs]
      have ih := fun s => giv_all hp c s
      cases e : down4 T p c with
      | some d =>
        rw [e] at ih
        have := giv_lit_no (k := 2 * c + 5 + 1) (must := must) (first := first) (seen := seen) hs fun s1 => giv_down fun s2 => ih s2
        exact Goes.mono (by omega) this
      | none =>
        rw [e] at ih
        intro h
        have := giv_lit_no (k := k + (2 * c + 3) + 1) (must := must) (first := first) (seen := seen) hs fun s1 => giv_down fun s2 => ih s2 h
        exact Goes.mono (by omega) this
end
end Mine
end PS4
section PS5
namespace Mine
theorem rst_S5 : (1 : Nat) = 1 := by
  w_top off
  first | walk1 | rfl
end Mine
open PySem PySem.W PyProof.Rows PySem.Sre
set_option maxRecDepth 100000
set_option maxHeartbeats 4000000
namespace Mine
section
variable {T : Array Nat} {p k : Nat} {first must : Bool} {seen : Sre.Seen} {P : Sre.M → Prop}
theorem exec_rep (hp : p < T.size) (hz : T.size ≤ 1000000) : ∃ s1, (w4 T p 11 (p + 1) p none first [fr4 p first] 1 must seen).exec = giv4 T p (cnt T (T.size - (p + 1)) (p + 1)) first must s1 := by
  obtain ⟨s1, e⟩ := run4 T (T.size - (p + 1)) (p + 1) 0 ((seen.add 24).add 13)
  refine ⟨s1, ?_⟩
  unfold Sre.M.exec
  have e0 : ops[(w4 T p 11 (p + 1) p none first [fr4 p first] 1 must seen).word 0]? = some Op.REPEAT_ONE := rfl
  rw [e0]
  dsimp only
  have h1 : ¬ (((0 : Nat) : Int) > (T.size : Int) - ((p + 1 : Nat) : Int)) := by omega
  have hk : min 4294967295 ((T.size : Int) - ((p + 1 : Nat) : Int)).toNat = T.size - (p + 1) := by omega
  show (if ((0 : Nat) : Int) > (T.size : Int) - ((p + 1 : Nat) : Int) then _ else (match Sre.run code4 T 15 (min 4294967295 ((T.size : Int) - ((p + 1 : Nat) : Int)).toNat) (p + 1) 0 ((seen.add 24).add 13) with
    | .error why => _
    | .ok (n, seen) => _)) = _
  rw [if_neg h1, hk, e]
  dsimp only
  rw [Nat.zero_add]
  exact (if_neg (Nat.not_lt_zero _)).trans rfl
/-- the first place of the pattern, by places -/
def find4P (T : Array Nat) : Nat → Nat → Option (Nat × Nat)
  | 0, _ => none
  | f + 1, p => if p < T.size then (if T.getD p 0 = 10 then (match down4 T p (cnt T (T.size - (p + 1)) (p + 1)) with | some c => some (p, p + 2 + c) | none => find4P T f (p + 1)) else find4P T f (p + 1)) else none
theorem cnt_le (T : Array Nat) : ∀ k p, cnt T k p ≤ k
  | 0, _ => Nat.le_refl _
  | k + 1, p => by
    unfold cnt
    split
    · exact Nat.succ_le_succ (cnt_le T k _)
    · exact Nat.zero_le _
theorem search4 (hz : T.size ≤ 1000) : ∀ (f p : Nat) (first must : Bool) (seen : Sre.Seen), T.size < p + f →
    (match find4P T f p with
    | some (a, e) => Goes (3000 * f) (at4 T p first must seen) (fun m => m.outcome = some .matched ∧ m.start = a ∧ m.handed = e)
    | none => Goes (3000 * f + 3) (at4 T p first must seen) (fun m => m.outcome = some .failed))
  | 0, p, first, must, seen, hf => by
    unfold find4P
    exact Goes.mono (by omega) (over4 (by omega))
  | f + 1, p, first, must, seen, hf => by
    unfold find4P
    by_cases hp : p < T.size
    · rw [if_pos hp]
      have ih := fun s => search4 hz f (p + 1) false false s (by omega)
      by_cases hc : T.getD p 0 = 10
      · rw [if_pos hc]
        have hn := cnt_le T (T.size - (p + 1)) (p + 1)
        generalize hN : cnt T (T.size - (p + 1)) (p + 1) = N at hn ⊢
        -- the newline, the run of blanks
        have go : ∀ {k P}, (∀ s1, Goes k (giv4 T p N first must s1) P) → Goes (k + 2) (at4 T p first must seen) P := by
          intro k P h
          refine Goes.step rfl ((step_exec rfl rfl (by show 9 < 24; decide)).trans ((exec_one (op := .LITERAL) (b := true) rfl (.inr rfl) hp ((lit4 9 _ (.inl rfl) _).trans (by rw [beq_iff_eq.mpr hc]))).trans (if_pos rfl))) ?_
          obtain ⟨s1, e⟩ := exec_rep (first := first) (must := must) (seen := seen.add 16) hp (by omega)
          rw [hN] at e
          exact Goes.step rfl ((step_exec rfl rfl (by show 11 < 24; decide)).trans e) (h s1)
        cases e : down4 T p N with
        | some c =>
          refine Goes.mono (k := 2 * N + 5 + 2) (by omega) (go fun s1 => ?_)
          have := giv_all (k := 0) (P := fun _ => True) (first := first) (must := must) hp N s1
          rw [e] at this
          exact this
        | none =>
          dsimp only
          cases e2 : find4P T f (p + 1) with
          | some q =>
            obtain ⟨a, b⟩ := q
            rw [e2] at ih
            refine Goes.mono (k := 3000 * f + (2 * N + 3) + 2) (by omega) (go fun s1 => ?_)
            have := giv_all (k := 3000 * f) (P := fun m => m.outcome = some .matched ∧ m.start = a ∧ m.handed = b) (first := first) (must := must) hp N s1
            rw [e] at this
            exact this ih
          | none =>
            rw [e2] at ih
            refine Goes.mono (k := 3000 * f + 3 + (2 * N + 3) + 2) (by omega) (go fun s1 => ?_)
            have := giv_all (k := 3000 * f + 3) (P := fun m => m.outcome = some .failed) (first := first) (must := must) hp N s1
            rw [e] at this
            exact this ih
      · rw [if_neg hc]
        cases e2 : find4P T f (p + 1) with
        | some q =>
          obtain ⟨a, b⟩ := q
          rw [e2] at ih
          exact Goes.mono (by omega) (miss4 hp hc ih)
        | none =>
          rw [e2] at ih
          exact Goes.mono (by omega) (miss4 hp hc ih)
    · rw [if_neg hp]
      exact Goes.mono (by omega) (over4 hp)
end
end Mine
end PS5
section PS6
namespace Mine
theorem rst_S6 : (1 : Nat) = 1 := by
  w_top off
  first | walk1 | rfl
end Mine
open PySem PySem.W PyProof.Rows PySem.Sre
set_option maxRecDepth 100000
set_option maxHeartbeats 4000000
namespace Mine
theorem search4_long {T : Array Nat} {st : Nat} {must : Bool} (h : st ≤ T.size) (h2 : 2 ≤ T.size - st) : Sre.forSearch code4 T 0 st T.size must = at4 T st true must (({} : Sre.Seen).add 14) := by
  unfold Sre.forSearch
  dsimp only
  have e : (header code4).1 = 2 := rfl
  rw [if_neg (by rw [e]; simp; omega)]
  rfl
theorem search4_short {T : Array Nat} {st : Nat} {must : Bool} (h : ¬ (st ≤ T.size ∧ 2 ≤ T.size - st)) : ∃ m : Sre.M, Sre.forSearch code4 T 0 st T.size must = m ∧ m.outcome = none ∧ m.answer = some false ∧ m.frames = [] := by
  unfold Sre.forSearch
  dsimp only
  have e : (header code4).1 = 2 := rfl
  rw [if_pos (by rw [e]; simp; omega)]
  exact ⟨_, rfl, rfl, rfl, rfl⟩
theorem lost4 {T : Array Nat} {st : Nat} {must : Bool} (hz : T.size ≤ 1000) (hn : find4P T (T.size + 1) st = none) : Lost (Sre.forSearch code4 T 0 st T.size must) := by
  by_cases h : st ≤ T.size ∧ 2 ≤ T.size - st
  · rw [search4_long h.1 h.2]
    have := search4 hz (T.size + 1) st true must (({} : Sre.Seen).add 14) (by omega)
    rw [hn] at this
    obtain ⟨n, hn, e⟩ := this
    exact ⟨n, by omega, e⟩
  · obtain ⟨m, e, h1, h2, h3⟩ := search4_short (must := must) h
    rw [e]
    exact lost_of h1 h2 h3
theorem found4 {T : Array Nat} {st a b : Nat} {must : Bool} (hz : T.size ≤ 1000) (hst : st ≤ T.size) (h2 : 2 ≤ T.size - st) (hn : find4P T (T.size + 1) st = some (a, b)) : ∃ m, Got (Sre.forSearch code4 T 0 st T.size must) m ∧ m.start = a ∧ m.handed = b := by
  rw [search4_long hst h2]
  have := search4 hz (T.size + 1) st true must (({} : Sre.Seen).add 14) (by omega)
  rw [hn] at this
  obtain ⟨n, hn, e1, e2, e3⟩ := this
  exact ⟨_, ⟨n, by omega, rfl, e1⟩, e2, e3⟩
/-- the last newline of the blanks ahead -/
def lastNl : List Nat → Option Nat
  | [] => none
  | c :: r => if isp c = true then (match lastNl r with | some k => some (k + 1) | none => if c = 10 then some 0 else none) else none
def downL (d : List Nat) : Nat → Option Nat
  | 0 => if d[0]? = some 10 then some 0 else none
  | c + 1 => if d[c + 1]? = some 10 then some (c + 1) else downL d c
theorem downL_cons (x : Nat) (r : List Nat) : ∀ c, downL (x :: r) (c + 1) = match downL r c with | some k => some (k + 1) | none => if x = 10 then some 0 else none
  | 0 => by
    unfold downL
    by_cases h : r[0]? = some 10
    · have h' : (x :: r)[0 + 1]? = some 10 := h
      rw [if_pos h', if_pos h]
    · have h' : ¬ (x :: r)[0 + 1]? = some 10 := h
      rw [if_neg h', if_neg h]
      show downL (x :: r) 0 = _
      unfold downL
      by_cases e : x = 10
      · rw [if_pos (by rw [e]; rfl), if_pos e]
      · rw [if_neg (by simpa using e), if_neg e]
  | c + 1 => by
    have ih := downL_cons x r c
    have u1 : downL (x :: r) (c + 1 + 1) = if (x :: r)[c + 1 + 1]? = some 10 then some (c + 1 + 1) else downL (x :: r) (c + 1) := rfl
    have u2 : downL r (c + 1) = if r[c + 1]? = some 10 then some (c + 1) else downL r c := rfl
    rw [u1, u2]
    by_cases h : r[c + 1]? = some 10
    · have h' : (x :: r)[c + 1 + 1]? = some 10 := h
      rw [if_pos h', if_pos h]
    · have h' : ¬ (x :: r)[c + 1 + 1]? = some 10 := h
      rw [if_neg h', if_neg h]
      exact ih
theorem lastNl_down : ∀ d : List Nat, downL d (d.takeWhile isp).length = lastNl d
  | [] => rfl
  | x :: r => by
    have ih := lastNl_down r
    unfold lastNl
    by_cases h : isp x = true
    · rw [List.takeWhile_cons_of_pos h, if_pos h, List.length_cons, downL_cons, ih]
    · rw [List.takeWhile_cons_of_neg h, if_neg h]
      show downL (x :: r) 0 = none
      unfold downL
      rw [if_neg]
      intro e
      have : x = 10 := by simpa using e
      subst this
      exact h (by decide +kernel)
theorem cnt_list (l : List Nat) : ∀ (k q : Nat), l.length ≤ q + k → cnt l.toArray k q = ((l.drop q).takeWhile isp).length
  | 0, q, h => by
    rw [List.drop_eq_nil_of_le (by omega)]
    rfl
  | k + 1, q, h => by
    unfold cnt
    by_cases hq : q < l.length
    · have e : l.toArray.getD q 0 = l[q] := by simp [Array.getD, hq]
      rw [e, List.drop_eq_getElem_cons hq]
      by_cases hs : isp l[q] = true
      · rw [if_pos hs, List.takeWhile_cons_of_pos hs, List.length_cons, cnt_list l k (q + 1) (by omega)]
      · rw [if_neg hs, List.takeWhile_cons_of_neg hs]
        rfl
    · have e : l.toArray.getD q 0 = 0 := by simp [Array.getD, hq]
      rw [e, if_neg (by decide +kernel), List.drop_eq_nil_of_le (by omega)]
      rfl
theorem down_list (l : List Nat) (p : Nat) : ∀ c, down4 l.toArray p c = downL (l.drop (p + 1)) c
  | 0 => by
    unfold down4 downL
    have e : (p + 1 < l.toArray.size ∧ l.toArray.getD (p + 1) 0 = 10) ↔ (l.drop (p + 1))[0]? = some 10 := by
      rw [List.getElem?_drop]
      by_cases h : p + 1 < l.length
      · simp [Array.getD, h]
      · simp [h]
    by_cases h : (l.drop (p + 1))[0]? = some 10
    · rw [if_pos h, if_pos (e.mpr h)]
    · rw [if_neg h, if_neg (fun q => h (e.mp q))]
  | c + 1 => by
    have ih := down_list l p c
    unfold down4 downL
    have e : (p + 1 + (c + 1) < l.toArray.size ∧ l.toArray.getD (p + 1 + (c + 1)) 0 = 10) ↔ (l.drop (p + 1))[c + 1]? = some 10 := by
      rw [List.getElem?_drop]
      by_cases h : p + 1 + (c + 1) < l.length
      · simp [Array.getD, h]
      · simp [h]
    by_cases h : (l.drop (p + 1))[c + 1]? = some 10
    · rw [if_pos h, if_pos (e.mpr h)]
    · rw [if_neg h, if_neg (fun q => h (e.mp q)), ih]
def inc2 (q : Nat × Nat) : Nat × Nat := (q.1 + 1, q.2 + 1)
/-- the first place of the pattern, in a list -/
def find4 : List Nat → Option (Nat × Nat)
  | [] => none
  | x :: r => if x = 10 then (match lastNl r with | some c => some (0, c + 2) | none => (find4 r).map inc2) else (find4 r).map inc2
theorem find4_list (l : List Nat) : ∀ (f p : Nat), l.length < p + f → find4P l.toArray f p = (find4 (l.drop p)).map fun q => (p + q.1, p + q.2)
  | 0, p, h => by
    rw [List.drop_eq_nil_of_le (by omega)]
    rfl
  | f + 1, p, h => by
    unfold find4P
    by_cases hp : p < l.length
    · have ih := find4_list l f (p + 1) (by omega)
      have hp' : p < l.toArray.size := by simpa using hp
      rw [if_pos hp', List.drop_eq_getElem_cons hp]
      have e : l.toArray.getD p 0 = l[p] := by simp [Array.getD, hp]
      have em : (find4P l.toArray f (p + 1)) = ((find4 (l.drop (p + 1))).map inc2).map fun q => (p + q.1, p + q.2) := by
        rw [ih]
        cases find4 (l.drop (p + 1)) with
        | none => rfl
        | some q =>
          obtain ⟨a, b⟩ := q
          show some (p + 1 + a, p + 1 + b) = some (p + (a + 1), p + (b + 1))
          rw [show p + 1 + a = p + (a + 1) by omega, show p + 1 + b = p + (b + 1) by omega]
      rw [e]
      unfold find4
      by_cases hc : l[p] = 10
      · rw [if_pos hc, if_pos hc]
        have ec := cnt_list l (l.toArray.size - (p + 1)) (p + 1) (by simp; omega)
        rw [ec, down_list, lastNl_down]
        cases lastNl (l.drop (p + 1)) with
        | none => exact em
        | some c =>
          show some (p, p + 2 + c) = some (p + 0, p + (c + 2))
          rw [show p + 2 + c = p + (c + 2) by omega]
          rfl
      · rw [if_neg hc, if_neg hc]
        exact em
    · have hp' : ¬ p < l.toArray.size := by simpa using hp
      rw [if_neg hp', List.drop_eq_nil_of_le (by omega)]
      rfl
theorem cuts4_none {X : List Nat} (hz : X.length ≤ 1000) (h : find4 X = none) : Cuts code4 (mkS X).cps 0 0 false [mkS X] := by
  have e : (mkS X) = ⟨(mkS X).cps.extract 0 (mkS X).cps.size⟩ := by
    show (⟨X.toArray⟩ : Str) = ⟨X.toArray.extract 0 X.toArray.size⟩
    simp
  have hl : Lost (Sre.forSearch code4 (mkS X).cps 0 0 (mkS X).cps.size false) := lost4 (by simpa [mkS] using hz) (by
    have := find4_list X ((mkS X).cps.size + 1) 0 (by show X.length < 0 + (X.toArray.size + 1); simp)
    rw [show (mkS X).cps = X.toArray from rfl] at this ⊢
    rw [this, List.drop_zero, h]
    rfl)
  have c := Cuts.stop (groups := 0) hl
  rw [← e] at c
  exact c
theorem cuts4_some {X : List Nat} {a b : Nat} (hz : X.length ≤ 1000) (h2 : 2 ≤ X.length) (h : find4 X = some (a, b)) (hr : find4 (X.drop b) = none) : Cuts code4 (mkS X).cps 0 0 false [mkS (X.take a), mkS (X.drop b)] := by
  have hs : (mkS X).cps.size = X.length := by simp [mkS]
  have h1 : find4P (mkS X).cps ((mkS X).cps.size + 1) 0 = some (a, b) := by
    have := find4_list X ((mkS X).cps.size + 1) 0 (by rw [hs]; omega)
    rw [show (mkS X).cps = X.toArray from rfl] at this ⊢
    rw [this, List.drop_zero, h]
    simp
  have h3 : ∀ must, Lost (Sre.forSearch code4 (mkS X).cps 0 b (mkS X).cps.size must) := fun must => lost4 (by rw [hs]; exact hz) (by
    have := find4_list X ((mkS X).cps.size + 1) b (by rw [hs]; omega)
    rw [show (mkS X).cps = X.toArray from rfl] at this ⊢
    rw [this, hr]
    rfl)
  obtain ⟨m, g, e1, e2⟩ := found4 (must := false) (st := 0) (by rw [hs]; exact hz) (Nat.zero_le _) (by rw [hs]; omega) h1
  have c1 := Cuts.stop (groups := 0) (h3 (m.handed == m.start))
  have p1 : (⟨(mkS X).cps.extract 0 m.start⟩ : Str) = mkS (X.take a) := by
    rw [e1]
    refine congrArg Str.mk (Array.toList_inj.mp ?_)
    simp [mkS, List.extract_eq_take_drop]
  have p2 : (⟨(mkS X).cps.extract b (mkS X).cps.size⟩ : Str) = mkS (X.drop b) := by
    refine congrArg Str.mk (Array.toList_inj.mp ?_)
    rw [hs, Array.toList_extract, List.extract_eq_take_drop]
    show (X.drop b).take (X.length - b) = X.drop b
    rw [List.take_of_length_le (by simp)]
  rw [← p1, ← p2]
  refine Cuts.more0 rfl g ?_
  rw [e2] at c1 ⊢
  exact c1
end Mine
end PS6
section PS7
namespace Mine
theorem rst_S7 : (1 : Nat) = 1 := by
  w_top off
  first | walk1 | rfl
end Mine
open PySem PySem.W PyProof.Rows PySem.Sre
set_option maxRecDepth 100000
set_option maxHeartbeats 4000000
namespace Mine
theorem getD_drop {X : List Nat} {st k : Nat} : (mkS X).cps.getD (st + k) 0 = (X.drop st)[k]?.getD 0 := by
  rw [List.getElem?_drop]
  show X.toArray.getD (st + k) 0 = _
  by_cases h : st + k < X.length
  · simp [Array.getD, h]
  · simp [Array.getD, h]
theorem cuts1_stop {X : List Nat} {st : Nat} {must : Bool} (h : (X.drop st).all (fun c => !isU c) = true) : Cuts code1 (mkS X).cps 1 st must [mkS (X.drop st)] := by
  have hs : (mkS X).cps.size = X.length := by simp [mkS]
  have hl : Lost (Sre.forSearch code1 (mkS X).cps 1 st (mkS X).cps.size must) := lost1 fun k h1 h2 => by
    obtain ⟨d, rfl⟩ := Nat.exists_eq_add_of_le h1
    rw [getD_drop]
    rw [hs] at h2
    have hd : d < (X.drop st).length := by rw [List.length_drop]; omega
    rw [List.getElem?_eq_getElem hd]
    have := List.all_eq_true.mp h _ (List.getElem_mem hd)
    simpa using this
  have c := Cuts.stop (groups := 1) hl
  have p2 : (⟨(mkS X).cps.extract st (mkS X).cps.size⟩ : Str) = mkS (X.drop st) := by
    refine congrArg Str.mk (Array.toList_inj.mp ?_)
    rw [hs, Array.toList_extract, List.extract_eq_take_drop]
    show (X.drop st).take (X.length - st) = X.drop st
    rw [List.take_of_length_le (by simp)]
  rw [p2] at c
  exact c
/-- a usage's word, in letters of either size -/
def wordB : List Nat → Bool
  | [a, b, c, d, e, f] => (a == 85 || a == 117) && (b == 83 || b == 115) && (c == 65 || c == 97) && (d == 71 || d == 103) && (e == 69 || e == 101) && f == 58
  | _ => false
theorem cuts1_more {X A wd R : List Nat} {st : Nat} {must : Bool} {xs : List Str} (h : X.drop st = A ++ wd ++ R) (hA : A.all (fun c => !isU c) = true) (hw : wordB wd = true) (hst : st ≤ X.length)
    (hr : Cuts code1 (mkS X).cps 1 (st + A.length + 6) false xs) : Cuts code1 (mkS X).cps 1 st must (mkS A :: mkS wd :: xs) := by
  have hs : (mkS X).cps.size = X.length := by simp [mkS]
  match wd, hw with
  | [a, b, c, d, e, f], hw =>
  simp only [wordB, Bool.and_eq_true, Bool.or_eq_true, beq_iff_eq] at hw
  obtain ⟨⟨⟨⟨⟨w0, w1⟩, w2⟩, w3⟩, w4⟩, w5⟩ := hw
  have hlen : X.length = st + (A.length + 6 + R.length) := by
    have := congrArg List.length h
    rw [List.length_drop] at this
    simp at this
    omega
  have at_ : ∀ i, (mkS X).cps.getD (st + A.length + i) 0 = ([a, b, c, d, e, f] ++ R)[i]?.getD 0 := fun i => by
    rw [Nat.add_assoc, getD_drop, h, List.append_assoc, List.getElem?_append_right (by omega), Nat.add_sub_cancel_left]
  obtain ⟨m, g, e1, e2, e3, e4⟩ := found1 (T := (mkS X).cps) (st := st) (p := st + A.length) (must := must) (by omega) (by rw [hs]; omega)
    (fun k h1 h2 => by
      obtain ⟨q, rfl⟩ := Nat.exists_eq_add_of_le h1
      have hq : q < A.length := by omega
      rw [getD_drop, h, List.append_assoc, List.getElem?_append_left hq, List.getElem?_eq_getElem hq]
      have := List.all_eq_true.mp hA _ (List.getElem_mem hq)
      simpa using this)
    (by have := at_ 0; rw [Nat.add_zero] at this; rw [this]; exact w0) (by rw [at_ 1]; exact w1) (by rw [at_ 2]; exact w2) (by rw [at_ 3]; exact w3) (by rw [at_ 4]; exact w4) (by rw [at_ 5]; exact w5)
  have hX : X = X.take st ++ (A ++ [a, b, c, d, e, f] ++ R) := by rw [← h, List.take_append_drop]
  have p1 : (⟨(mkS X).cps.extract st m.start⟩ : Str) = mkS A := by
    refine congrArg Str.mk (Array.toList_inj.mp ?_)
    rw [e1, Array.toList_extract, List.extract_eq_take_drop]
    show (X.drop st).take (st + A.length - st) = A
    rw [h, Nat.add_sub_cancel_left, List.append_assoc, List.take_left]
  have p2 : grp1 (mkS X).cps m (mkS [a, b, c, d, e, f]) := by
    refine ⟨st + A.length, st + A.length + 6, by rw [e3]; decide, by rw [e4]; rfl, by rw [e4]; rfl, by omega, ?_⟩
    refine congrArg Str.mk (Array.toList_inj.mp ?_)
    rw [Array.toList_extract, List.extract_eq_take_drop]
    show [a, b, c, d, e, f] = (X.drop (st + A.length)).take (st + A.length + 6 - (st + A.length))
    rw [← List.drop_drop, h, Nat.add_sub_cancel_left, List.append_assoc, List.drop_left]
    rfl
  rw [← p1]
  refine Cuts.more1 rfl g p2 ?_
  rw [e1, e2]
  have : (st + A.length + 6 == st + A.length) = false := beq_eq_false_iff_ne.mpr (by omega)
  rw [this]
  exact hr
end Mine
end PS7
section PS8
namespace Mine
theorem rst_S8 : (1 : Nat) = 1 := by
  w_top off
  first | walk1 | rfl
end Mine
open PySem PySem.W PyProof.Rows PySem.Sre
set_option maxRecDepth 100000
set_option maxHeartbeats 4000000
namespace Mine
def wdC : List (List Nat) := [[117, 115, 97, 103, 101, 58], [85, 115, 97, 103, 101, 58], [85, 83, 65, 71, 69, 58]]
def gpC : List (List Nat) := [[32], [10, 32, 32]]
def adC : List (List Nat) := [[], [77, 121, 32, 112, 114, 111, 103, 114, 97, 109, 46, 10, 10], [32, 32]]
def bhC : List (List Nat) := [[], [10], [10, 10, 79, 112, 116, 105, 111, 110, 115, 58, 10, 32, 32, 45, 97, 32, 32, 105, 116], [10, 32, 32, 32, 10, 109, 111, 114, 101]]
def rowC : List (List Nat) := [[112, 114, 111, 103, 32, 60, 120, 62], [112, 114, 111, 103, 32, 103, 111, 32, 91, 45, 45, 110, 111, 119, 93], [112, 114, 111, 103, 32, 40, 97, 32, 124, 32, 98, 41, 46, 46, 46]]
abbrev itM8 : List Str := [Str.ofString "<x>", Str.ofString "go [--now]", Str.ofString "(a | b)..."]
abbrev rowM8 : List Str := itM8.map (Str.ofString "prog " ++ ·)
theorem wd_C : [Str.ofString "usage:", Str.ofString "Usage:", Str.ofString "USAGE:"] = wdC.map mkS := by decide +kernel
theorem gp_C : [Str.ofString " ", Str.ofString "\n  "] = gpC.map mkS := by decide +kernel
theorem ad_C : [Str.ofString "", Str.ofString "My program.\n\n", Str.ofString "  "] = adC.map mkS := by decide +kernel
theorem bh_C : [Str.ofString "", Str.ofString "\n", Str.ofString "\n\nOptions:\n  -a  it", Str.ofString "\n   \nmore"] = bhC.map mkS := by decide +kernel
theorem row_C : rowM8 = rowC.map mkS := by decide +kernel
theorem nl_C : Str.ofString "\n  " = mkS [10, 32, 32] := by decide +kernel
theorem no_C : Str.ofString "no word" = mkS [110, 111, 32, 119, 111, 114, 100] := by decide +kernel
theorem two_word_C : Str.ofString "\nuSaGe: prog" = mkS [10, 117, 83, 97, 71, 101, 58, 32, 112, 114, 111, 103] := by decide +kernel
theorem op_C : Str.ofString "( " = mkS [40, 32] := by decide +kernel
theorem cl_C : Str.ofString " )" = mkS [32, 41] := by decide +kernel
theorem bar_C : Str.ofString ") | (" = mkS [41, 32, 124, 32, 40] := by decide +kernel
theorem bars_C : Str.ofString " ) | ( " = mkS [32, 41, 32, 124, 32, 40, 32] := by decide +kernel
theorem blank_C : Str.ofString " " = mkS [32] := by decide +kernel
def usageL (wd g : List Nat) (rows : List (List Nat)) : List Nat := wd ++ g ++ joinL [10, 32, 32] rows
def rowsC : List (List (List Nat)) := (rowC.map fun a => [a]) ++ (rowC.flatMap fun a => rowC.map fun b => [a, b]) ++ (rowC.flatMap fun a => rowC.flatMap fun b => rowC.map fun c => [a, b, c])
def okU (wd g : List Nat) (rows : List (List Nat)) (bh : List Nat) : Bool :=
  let U := usageL wd g rows
  let X := U ++ bh
  (match find4 X with
  | none => stripL X == U
  | some (a, b) => (find4 (X.drop b)).isNone && stripL (X.take a) == U) && decide (X.length ≤ 500) && decide (8 ≤ X.length) && (g ++ joinL [10, 32, 32] rows ++ bh).all (fun c => !isU c)
def okUs (wd g : List Nat) : Bool := rowsC.all fun rows => bhC.all fun bh => okU wd g rows bh
theorem okUs_all : (wdC.all fun wd => gpC.all fun g => okUs wd g) = true := by decide +kernel
def swapP (p s : List Nat) : List Nat := if s == p then [41, 32, 124, 32, 40] else s
def okF (wd g : List Nat) (rows : List (List Nat)) : Bool :=
  match wgo [] (usageL wd g rows) with
  | _ :: p :: ws => joinL [32] (ws.map (swapP p)) == joinL [32, 41, 32, 124, 32, 40, 32] (rows.map fun r => joinL [32] ((wgo [] r).drop 1))
  | _ => false
theorem okF_all : (wdC.all fun wd => gpC.all fun g => rowsC.all fun rows => okF wd g rows) = true := by decide +kernel
theorem ad_ok : adC.all (fun a => a.all (fun c => !isU c) && decide (a.length ≤ 20)) = true := by decide +kernel
theorem no_ok : adC.all (fun a => bhC.all fun bh => (a ++ [110, 111, 32, 119, 111, 114, 100] ++ bh).all (fun c => !isU c) && decide ((a ++ [110, 111, 32, 119, 111, 114, 100] ++ bh).length ≤ 100)) = true := by decide +kernel
theorem wd_ok : wdC.all wordB = true := by decide +kernel
end Mine
end PS8
section PS9
namespace Mine
theorem rst_S9 : (1 : Nat) = 1 := by
  w_top off
  first | walk1 | rfl
end Mine
open PySem PySem.W PyProof.Rows PySem.Sre
set_option maxRecDepth 100000
set_option maxHeartbeats 4000000
namespace Mine
theorem rows_list {rows : List Str} (hr : ∀ r ∈ rows, r ∈ rowM8) (h1 : 1 ≤ rows.length) (h3 : rows.length ≤ 3) : ∃ rs ∈ rowsC, rows = rs.map mkS := by
  rw [row_C] at hr
  match rows, h1, h3 with
  | [a], _, _ =>
    obtain ⟨x, hx, rfl⟩ := List.mem_map.mp (hr a (.head _))
    exact ⟨[x], List.mem_append_left _ (List.mem_append_left _ (List.mem_map.mpr ⟨x, hx, rfl⟩)), rfl⟩
  | [a, b], _, _ =>
    obtain ⟨x, hx, rfl⟩ := List.mem_map.mp (hr a (.head _))
    obtain ⟨y, hy, rfl⟩ := List.mem_map.mp (hr b (.tail _ (.head _)))
    exact ⟨[x, y], List.mem_append_left _ (List.mem_append_right _ (List.mem_flatMap.mpr ⟨x, hx, List.mem_map.mpr ⟨y, hy, rfl⟩⟩)), rfl⟩
  | [a, b, c], _, _ =>
    obtain ⟨x, hx, rfl⟩ := List.mem_map.mp (hr a (.head _))
    obtain ⟨y, hy, rfl⟩ := List.mem_map.mp (hr b (.tail _ (.head _)))
    obtain ⟨z, hz, rfl⟩ := List.mem_map.mp (hr c (.tail _ (.tail _ (.head _))))
    exact ⟨[x, y, z], List.mem_append_right _ (List.mem_flatMap.mpr ⟨x, hx, List.mem_flatMap.mpr ⟨y, hy, List.mem_map.mpr ⟨z, hz, rfl⟩⟩⟩), rfl⟩
theorem strip_mkS (l : List Nat) : Txt.strip (mkS l) = mkS (stripL l) := Str.ext' (Array.toList_inj.mp (strip_list _))
theorem len_mkS (l : List Nat) : (mkS l).length = l.length := by simp [mkS, Str.length]
theorem join_none2 (a b : List Nat) : Txt.join (Str.ofString "") [mkS a, mkS b] = mkS (a ++ b) := by
  rw [empty_C]
  have := join_list [] [a, b]
  rw [show [mkS a, mkS b] = [a, b].map mkS from rfl, this]
  simp [joinL]
/-- what is so of a usage's texts -/
structure UseLaw (wd g a bh : Str) (rows : List Str) : Prop where
  normal : ∃ p0 p1 p2 hh more, Cuts code1 (a ++ (wd ++ g ++ Txt.join (Str.ofString "\n  ") rows) ++ bh).cps 1 0 false [p0, p1, p2] ∧ p1.length ≤ 1000 ∧ p2.length ≤ 1000 ∧ Cuts code4 (Txt.join (Str.ofString "") [p1, p2]).cps 0 0 false (hh :: more) ∧ more.length ≤ 1 ∧ hh.length ≤ 1000 ∧
    Txt.strip hh = wd ++ g ++ Txt.join (Str.ofString "\n  ") rows
  nlen : (a ++ (wd ++ g ++ Txt.join (Str.ofString "\n  ") rows) ++ bh).length ≤ 900 ∧ 6 ≤ (a ++ (wd ++ g ++ Txt.join (Str.ofString "\n  ") rows) ++ bh).length
  twice : ∃ p0 p1 p2 p3 p4, Cuts code1 (a ++ (wd ++ g ++ Txt.join (Str.ofString "\n  ") rows) ++ bh ++ Str.ofString "\nuSaGe: prog").cps 1 0 false [p0, p1, p2, p3, p4]
  tlen : (a ++ (wd ++ g ++ Txt.join (Str.ofString "\n  ") rows) ++ bh ++ Str.ofString "\nuSaGe: prog").length ≤ 1000 ∧ 6 ≤ (a ++ (wd ++ g ++ Txt.join (Str.ofString "\n  ") rows) ++ bh ++ Str.ofString "\nuSaGe: prog").length
  none : ∃ p0, Cuts code1 (a ++ Str.ofString "no word" ++ bh).cps 1 0 false [p0]
  olen : (a ++ Str.ofString "no word" ++ bh).length ≤ 1000
  formal : ∃ w0 p ws, Txt.words (wd ++ g ++ Txt.join (Str.ofString "\n  ") rows) = w0 :: p :: ws ∧
    Txt.join (Str.ofString " ") (ws.map fun s => if (s == p) = true then Str.ofString ") | (" else s) = Txt.join (Str.ofString " ) | ( ") (rows.map fun r => Txt.join (Str.ofString " ") ((Txt.words r).drop 1))
  ulen : (wd ++ g ++ Txt.join (Str.ofString "\n  ") rows).length ≤ 500
theorem usage_law {wd g a bh : Str} {rows : List Str} (hwd : wd ∈ [Str.ofString "usage:", Str.ofString "Usage:", Str.ofString "USAGE:"]) (hg : g ∈ [Str.ofString " ", Str.ofString "\n  "]) (ha : a ∈ [Str.ofString "", Str.ofString "My program.\n\n", Str.ofString "  "])
    (hbh : bh ∈ [Str.ofString "", Str.ofString "\n", Str.ofString "\n\nOptions:\n  -a  it", Str.ofString "\n   \nmore"]) (hr : ∀ r ∈ rows, r ∈ rowM8) (h1 : 1 ≤ rows.length) (h3 : rows.length ≤ 3) : UseLaw wd g a bh rows := by
  obtain ⟨rs, hrs, rfl⟩ := rows_list hr h1 h3
  rw [wd_C] at hwd; rw [gp_C] at hg; rw [ad_C] at ha; rw [bh_C] at hbh
  obtain ⟨wd, hwd9, rfl⟩ := List.mem_map.mp hwd
  obtain ⟨g, hg9, rfl⟩ := List.mem_map.mp hg
  obtain ⟨a, ha9, rfl⟩ := List.mem_map.mp ha
  obtain ⟨bh, hbh9, rfl⟩ := List.mem_map.mp hbh
  have hU : mkS wd ++ mkS g ++ Txt.join (Str.ofString "\n  ") (rs.map mkS) = mkS (usageL wd g rs) := by
    rw [nl_C, join_list, mkS_append, mkS_append]
    rfl
  have ok := List.all_eq_true.mp (List.all_eq_true.mp (List.all_eq_true.mp (List.all_eq_true.mp okUs_all wd hwd9) g hg9) rs hrs) bh hbh9
  have okf := List.all_eq_true.mp (List.all_eq_true.mp (List.all_eq_true.mp okF_all wd hwd9) g hg9) rs hrs
  have oka := List.all_eq_true.mp ad_ok a ha9
  have okn := List.all_eq_true.mp (List.all_eq_true.mp no_ok a ha9) bh hbh9
  have okw := List.all_eq_true.mp wd_ok wd hwd9
  unfold okU at ok
  dsimp only at ok
  simp only [Bool.and_eq_true, decide_eq_true_eq] at ok oka okn
  obtain ⟨⟨⟨ok1, ok2⟩, ok3⟩, ok4⟩ := ok
  have hw6 : wd.length = 6 := by
    simp only [wdC, List.mem_cons, List.not_mem_nil, or_false] at hwd9
    rcases hwd9 with rfl | rfl | rfl <;> rfl
  have eX : usageL wd g rs ++ bh = wd ++ (g ++ joinL [10, 32, 32] rs ++ bh) := by simp [usageL]
  generalize hR : g ++ joinL [10, 32, 32] rs ++ bh = R at ok4 eX
  have eT : a ++ usageL wd g rs ++ bh = a ++ wd ++ R := by rw [List.append_assoc, eX, List.append_assoc]
  have hRl : R.length ≤ 500 := by
    have := congrArg List.length eX
    rw [List.length_append (as := wd)] at this
    omega
  have hTl : (a ++ wd ++ R).length = a.length + 6 + R.length := by rw [List.length_append, List.length_append, hw6]
  have cn : ∀ (_ : Nat) (_ : Bool), Cuts code1 (mkS (a ++ wd ++ R)).cps 1 0 false [mkS a, mkS wd, mkS R] := fun _ _ => by
    refine cuts1_more (X := a ++ wd ++ R) (A := a) (wd := wd) (R := R) (st := 0) rfl oka.1 okw (Nat.zero_le _) ?_
    have hd : (a ++ wd ++ R).drop (0 + a.length + 6) = R := by
      rw [List.append_assoc, Nat.zero_add, ← List.drop_drop, List.drop_left, ← hw6, List.drop_left]
    have := cuts1_stop (X := a ++ wd ++ R) (st := 0 + a.length + 6) (must := false) (by rw [hd]; exact ok4)
    rw [hd] at this
    exact this
  constructor
  · rw [hU, mkS_append, mkS_append, eT]
    have hj : Txt.join (Str.ofString "") [mkS wd, mkS R] = mkS (usageL wd g rs ++ bh) := by rw [join_none2, eX]
    cases hf : find4 (usageL wd g rs ++ bh) with
    | none =>
      rw [hf] at ok1
      have ok1' : stripL (usageL wd g rs ++ bh) = usageL wd g rs := eq_of_beq ok1
      refine ⟨mkS a, mkS wd, mkS R, mkS (usageL wd g rs ++ bh), [], cn 0 false, by rw [len_mkS]; omega, by rw [len_mkS]; omega, ?_, by decide, by rw [len_mkS]; omega, by rw [strip_mkS, ok1']⟩
      rw [hj]
      exact cuts4_none (by omega) hf
    | some q =>
      obtain ⟨s, e⟩ := q
      rw [hf] at ok1
      dsimp only at ok1
      simp only [Bool.and_eq_true, Option.isNone_iff_eq_none, beq_iff_eq] at ok1
      refine ⟨mkS a, mkS wd, mkS R, mkS ((usageL wd g rs ++ bh).take s), [mkS ((usageL wd g rs ++ bh).drop e)], cn 0 false, by rw [len_mkS]; omega, by rw [len_mkS]; omega, ?_, by simp, ?_, by rw [strip_mkS, ok1.2]⟩
      · rw [hj]
        exact cuts4_some (by omega) (by omega) hf ok1.1
      · rw [len_mkS, List.length_take]; omega
  · rw [hU, mkS_append, mkS_append, len_mkS, eT, hTl]
    have := oka.2
    omega
  · rw [hU, mkS_append, mkS_append, eT, two_word_C, mkS_append]
    generalize hZ : ([10, 117, 83, 97, 71, 101, 58, 32, 112, 114, 111, 103] : List Nat) = Z
    have hZ' : a ++ wd ++ R ++ Z = a ++ wd ++ (R ++ Z) := by simp
    refine ⟨mkS a, mkS wd, mkS (R ++ [10]), mkS [117, 83, 97, 71, 101, 58], mkS [32, 112, 114, 111, 103], ?_⟩
    refine cuts1_more (X := a ++ wd ++ R ++ Z) (A := a) (wd := wd) (R := R ++ Z) (st := 0) (by rw [List.drop_zero, hZ']) oka.1 okw (Nat.zero_le _) ?_
    have hd : (a ++ wd ++ R ++ Z).drop (0 + a.length + 6) = R ++ Z := by
      rw [hZ', List.append_assoc, Nat.zero_add, ← List.drop_drop, List.drop_left, ← hw6, List.drop_left]
    have hd2 : R ++ Z = (R ++ [10]) ++ [117, 83, 97, 71, 101, 58] ++ [32, 112, 114, 111, 103] := by rw [← hZ]; simp
    refine cuts1_more (X := a ++ wd ++ R ++ Z) (A := R ++ [10]) (wd := [117, 83, 97, 71, 101, 58]) (R := [32, 112, 114, 111, 103]) (by rw [hd, hd2]) (by rw [List.all_append, ok4]; rfl) rfl (by simp; omega) ?_
    have hd3 : (a ++ wd ++ R ++ Z).drop (0 + a.length + 6 + (R ++ [10]).length + 6) = [32, 112, 114, 111, 103] := by
      rw [Nat.add_assoc (0 + a.length + 6), ← List.drop_drop, hd, hd2, List.append_assoc, ← List.drop_drop, List.drop_left]
      rfl
    have := cuts1_stop (X := a ++ wd ++ R ++ Z) (st := 0 + a.length + 6 + (R ++ [10]).length + 6) (must := false) (by rw [hd3]; decide)
    rw [hd3] at this
    exact this
  · rw [hU, mkS_append, mkS_append, eT, two_word_C, mkS_append, len_mkS, List.length_append, hTl]
    have := oka.2
    simp
    omega
  · refine ⟨mkS (a ++ [110, 111, 32, 119, 111, 114, 100] ++ bh), ?_⟩
    rw [no_C, mkS_append, mkS_append]
    have := cuts1_stop (X := a ++ [110, 111, 32, 119, 111, 114, 100] ++ bh) (st := 0) (must := false) (by rw [List.drop_zero]; exact okn.1)
    rw [List.drop_zero] at this
    exact this
  · rw [no_C, mkS_append, mkS_append, len_mkS]
    have := okn.2
    omega
  · rw [hU, words_list]
    show ∃ w0 p ws, (wgo [] (usageL wd g rs)).map mkS = w0 :: p :: ws ∧ _
    unfold okF at okf
    revert okf
    cases hq : wgo [] (usageL wd g rs) with
    | nil => intro okf; cases okf
    | cons w0 r =>
      cases r with
      | nil => intro okf; cases okf
      | cons p ws =>
        intro okf
        have okf' := eq_of_beq okf
        refine ⟨mkS w0, mkS p, ws.map mkS, rfl, ?_⟩
        have e1 : (ws.map mkS).map (fun s => if (s == mkS p) = true then Str.ofString ") | (" else s) = (ws.map (swapP p)).map mkS := by
          rw [List.map_map, List.map_map]
          refine List.map_congr_left fun s _ => ?_
          show (if (mkS s == mkS p) = true then Str.ofString ") | (" else mkS s) = mkS (swapP p s)
          unfold swapP
          rw [bar_C]
          by_cases h : s = p
          · rw [if_pos (beq_iff_eq.mpr (congrArg mkS h)), if_pos (beq_iff_eq.mpr h)]
          · rw [if_neg (fun q => h (mkS_inj (eq_of_beq q))), if_neg (fun q => h (eq_of_beq q))]
        have e2 : (rs.map mkS).map (fun r => Txt.join (Str.ofString " ") ((Txt.words r).drop 1)) = (rs.map fun r => joinL [32] ((wgo [] r).drop 1)).map mkS := by
          rw [List.map_map, List.map_map]
          refine List.map_congr_left fun r _ => ?_
          show Txt.join (Str.ofString " ") ((Txt.words (mkS r)).drop 1) = mkS (joinL [32] ((wgo [] r).drop 1))
          rw [words_list, blank_C]
          show Txt.join (mkS [32]) (((wgo [] r).map mkS).drop 1) = _
          rw [← List.map_drop, join_list]
        rw [e1, e2, blank_C, bars_C, join_list, join_list, okf']
  · rw [hU, len_mkS]
    rw [List.length_append] at ok2
    omega
end Mine
end PS9
section PPats
namespace Mine
theorem rst_Pats : (1 : Nat) = 1 := by
  w_top off
  first | walk1 | rfl
end Mine
open PySem PySem.W PyProof.Rows
set_option maxRecDepth 100000
set_option maxHeartbeats 0
namespace Mine
theorem RePat.of {h : Heap} {P : Addr} {code : Array Nat} {groups : Nat} {o oc : Obj} {C : Addr} {fs items : Array Value} {n : Nat} (h1 : h.get? P = some o) (h8 : h.get? C = some oc) (h2 : o.cls = .type "re.Pattern") (h3 : o.dict = none) (h4 : o.data = .fields fs) (h5 : Builtin.Re.reRawNat (fs.getD 2 .none) = groups) (h6 : Builtin.Re.reRawNat (fs.getD 6 .none) = 0)
    (h7 : fs.getD 5 .none = .ref C) (h9 : oc.data = .seq items n) (h10 : (items.map Builtin.Re.reRawOf).map (·.toNat) = code) : RePat h P code groups := ⟨⟨o, oc, C, fs, items, n, h1, h2, h3, h4, h5, h6, h7, h8, h9, h10⟩⟩


theorem pat1_in {w : World} {h : Heap} (X : (hd.heap_39 w.params).In h) : RePat h 43 code1 1 := RePat.of (X 43 _ (by k_is)) (X 42 _ (by k_is)) rfl rfl rfl rfl rfl rfl rfl (by decide +kernel)
theorem pat2_in {w : World} {h : Heap} (X : (hd.heap_39 w.params).In h) : RePat h 48 code2 1 := RePat.of (X 48 _ (by k_is)) (X 47 _ (by k_is)) rfl rfl rfl rfl rfl rfl rfl (by decide +kernel)
theorem pat3_in {w : World} {h : Heap} (X : (hd.heap_39 w.params).In h) : RePat h 53 code3 1 := RePat.of (X 53 _ (by k_is)) (X 52 _ (by k_is)) rfl rfl rfl rfl rfl rfl rfl (by decide +kernel)
theorem pat4_in {w : World} {h : Heap} (X : (hd.heap_39 w.params).In h) : RePat h 58 code4 0 := RePat.of (X 58 _ (by k_is)) (X 57 _ (by k_is)) rfl rfl rfl rfl rfl rfl rfl (by decide +kernel)
end Mine
end PPats
section PC2
namespace Mine
theorem rst_C2 : (1 : Nat) = 1 := by
  w_top off
  first | walk1 | rfl
end Mine
open PySem PySem.W PyProof.Rows
set_option maxRecDepth 100000
set_option maxHeartbeats 0
namespace Mine
local macro_rules | `(tactic| k_all) => `(tactic| first | with_reducible assumption | exact bnd_ne (by omega))
local macro_rules | `(tactic| k_lt $h:ident) => `(tactic| (replace $h := allLt_of $h; simp only [AllLt, and_true] at $h:ident; (try simp only [allLt_bnd] at $h:ident)))
local macro_rules | `(tactic| walk_at "execs cons") => `(tactic| (k_here; refine execs_pos (by first | assumption | exact Nat.succ_pos _) ?_))
local macro_rules | `(tactic| walk_at "forall") => `(tactic| intro hp9)
local macro_rules | `(tactic| walk_at "call builtin:str.replace") => `(tactic| (k_here; (with_reducible show wpAny _ _ (call (Value.builtin "str.replace") [Value.str _ _, Value.str _ _, Value.str _ _]) _ _ _); (refine replace_pos (by omega) (by omega) (by omega) (by decide +kernel) (by first | assumption | omega) (by decide +kernel) (by dsimp only; omega) ?_); intro _ _ _))
local macro_rules | `(tactic| walk_at "call builtin:str.split") => `(tactic| ((with_reducible show wpAny _ _ (call (Value.builtin "str.split") [Value.str _ _]) _ _ _); refine Hold.mk ?_))
local macro_rules | `(tactic| k_room) => `(tactic| ktr_room)
theorem pat2_at {w : World} {h₀ h : Heap} {L : Addr} {m : Str → Option Value} (X : (hd.heap_39 w.params).In h₀) (F : Fr h₀ L h m) : RePat h 48 code2 1 := pat2_in (X.keeps F.keep)
local macro_rules | `(tactic| walk_at "getMethod ref") => `(tactic| (k_here; (with_reducible show wpAny _ _ (getMethod (Value.ref 48) _ _) _ _ _); k_dflt (refine' RePat.method (pat2_at ?X ?F) slot_findall type_findall ?_; (case X => k_asm); (case F => k_asm))))
local macro_rules | `(tactic| walk_at "call builtin:re.Pattern.findall") => `(tactic| ((with_reducible show wpAny _ _ (call (Value.builtin "re.Pattern.findall") [Value.ref _, Value.str _ _]) _ _ _); refine Hold.mk ?_))
abbrev optEnts (w : World) (t1 t2 t3 t4 : Tok) (a l c v : Value) : List DictEntry :=
  [{ hash := PyData.keyHash w.params (Str.ofString "short"), key := .str (Str.ofString "short") t1, val := a }, { hash := PyData.keyHash w.params (Str.ofString "long"), key := .str (Str.ofString "long") t2, val := l },
   { hash := PyData.keyHash w.params (Str.ofString "argcount"), key := .str (Str.ofString "argcount") t3, val := c }, { hash := PyData.keyHash w.params (Str.ofString "value"), key := .str (Str.ofString "value") t4, val := v }]
/-- an Option's object at the ledger's head -/
def OptObj (w : World) (rest : List (Addr × Obj)) (due : List Dat) (v : Value) (news' : List (Addr × Obj)) : Prop :=
  ∃ (o dx : Addr) (n : Nat) (t1 t2 t3 t4 : Tok) (a l c vv : Value), v = .ref o ∧ DatAll [] [a, l, c, vv] due ∧ (bnd rest ≤ dx ∧ @LT.lt Nat _ dx o) ∧ news' = (o, instObj 250 dx) :: (dx, dictOf (optEnts w t1 t2 t3 t4 a l c vv) n) :: rest
theorem news_pick {h₀ h : Heap} {L : Addr} {p q : Addr × Obj} {xs rest : List (Addr × Obj)} (N : News h₀ L h xs) (hp : p ∈ xs) (hq : q ∈ xs) (hr : ∀ z ∈ rest, z ∈ xs) : News h₀ L h (p :: q :: rest) := by
  intro z hz
  rcases List.mem_cons.mp hz with e | hz
  · exact e ▸ N p hp
  · rcases List.mem_cons.mp hz with e | hz
    · exact e ▸ N q hq
    · exact N z (hr z hz)
theorem ov_dat {o : Option Str} {v : Value} {P : Prop} [Decidable P] {x : Str} (h : OV (if P then some x else none) v) : DatIn [] v (if P then .str x else .none) := by
  by_cases q : P
  · rw [if_pos q] at h ⊢
    obtain ⟨t, rfl⟩ := h
    exact DatIn.str _ _
  · rw [if_neg q] at h ⊢
    rw [show v = .none from h]
    exact DatIn.none
theorem oparse_spec (w : World) (mean : ExcName → Option Value) (mg mb : Str → Option Value) (rest : List (Addr × Obj)) (x : Str) (tx : Tok) (P B V W G : Str) (nms : List Str) (ev : Int)
    (hP : P ∈ prM) (hB : B ∈ beM) (hV : V ∈ vM) (hW : W ∈ wM) (hG : G ∈ gM) (hn : nms ∈ nmM) (h0 : 0 ≤ ev) (h2 : ev < 2) (hxe : x = optText P B V W G nms ev) :
    SpecC 40 w mean mg mb 222 [.ref 250, .str x tx] rest (OptObj w rest (optDue nms V W)) := by
  have law := parse_law hP hB hV hW hG hn h0 h2
  rw [← hxe] at law
  dsimp only at law
  obtain ⟨hx, hx2', hx3', hst, hD⟩ := law
  obtain ⟨r, hits, hlen, hdf⟩ := found2 hW hD
  clear hxe hD hP hB hV hW hG hn h0 h2
  have hx2 : (Txt.replace (opt1 x) (Str.ofString ",") (Str.ofString " ")).length ≤ 1048576 := Nat.le_trans hx2' (by decide)
  have hx3 : (opt2 x).length ≤ 1048576 := Nat.le_trans hx3' (by decide)
  clear hx2' hx3'
  have hx1 : (opt1 x).length ≤ 1048576 := by
    exact Nat.le_trans (fact_partition (Txt.strip x) (Str.ofString "  ")).1 (Nat.le_trans (fact_strip x) (Nat.le_trans hx (by decide)))
  have hx0 : (optDesc x).length ≤ 1000000 := by
    exact Nat.le_trans (fact_partition (Txt.strip x) (Str.ofString "  ")).2.2 (Nat.le_trans (fact_strip x) (Nat.le_trans hx (by decide)))
  unfold SpecC
  intro dp un gd cn cs a ccd cl outer A₀ base h₀ L m s Q E B F X N T hk hd hu hret
  obtain ⟨pT, lT, T⟩ := T
  k_dflt cell_enter
  k_steps
  apply Hold.out
  rename Fr _ _ _ _ => lF
  rename News _ _ _ _ => lN
  refine KSpl.split0 lF lN ?_ (Nat.le_trans (Nat.add_le_add_right hx3 2) (by rw [sizeLine_eq]; decide))
  intro D l h1 k1 eW aW F1 N1 l1
  k_lt l1
  clear lF lN
  refine parse_loop rfl (by k_mem) F1 N1 (by rfl) (by rfl) (by rfl) ?_ ?_
  · intro y t a l c tc sv st h tk own ha hb hc F2 N2
    clear F1 N1
    k_steps
    all_goals (
      rename Fr _ _ _ _ => kF9
      rename News _ _ _ _ => kN9
      refine ⟨rfl, _, _, _, rfl, kF9, kN9, ?_⟩
      unfold pstep
      first
        | (rw [if_pos (by assumption)]; exact ⟨_, _, _, _, _, mkM_long, ha, ⟨_, rfl⟩, hc⟩)
        | (rw [if_neg (ne_true_of_eq_false (by assumption)), if_pos (by assumption)]; exact ⟨_, _, _, _, _, mkM_short, ⟨_, rfl⟩, hb, hc⟩)
        | (rw [if_neg (ne_true_of_eq_false (by assumption)), if_neg (ne_true_of_eq_false (by assumption))]; exact ⟨_, _, _, _, _, mkM_argc, ha, hb, rfl⟩))
  · intro a9 l9 c9 tc sv h tk ha hb hc F2 N2
    clear F1 N1
    intro hp8
    clear hp8
    have eS : ((l.map (·.1)).foldl pstep (none, none, 0)) = stDue nms V := by rw [eW]; exact hst
    rw [eS] at ha hb hc
    have ha' := ov_dat (o := none) ha
    have hb' := ov_dat (o := none) hb
    clear ha hb eS eW hst
    by_cases e9 : (V == Str.ofString "") = true
    · have hc' : c9 = .int 0 tc := by rw [hc]; unfold stDue; rw [if_pos e9]
      subst hc'
      have hall : DatAll [] [a9, l9, .int 0 tc, .bool false] (optDue nms V W) := by
        unfold optDue
        rw [if_pos e9, if_pos e9]
        exact .cons ha' (.cons hb' (.cons (DatIn.int _ _) (.cons (DatIn.bool _) .nil)))
      k_steps
      rename Fr _ _ _ _ => kF9
      rename News _ _ _ _ => kN9
      refine hret _ _ _ _ ⟨_, _, _, _, _, _, _, _, _, _, _, rfl, hall, ?_, rfl⟩ kF9 (news_pick kN9 (by k_mem) (by k_mem) (by intro p9 hp9; repeat (first | exact hp9 | apply List.mem_cons_of_mem)))
      exact ⟨by omega, by omega⟩
    · have hc' : c9 = .int 1 tc := by rw [hc]; unfold stDue; rw [if_neg e9]
      subst hc'
      k_steps
      apply Hold.out
      rename Fr _ _ _ _ => lF
      rename News _ _ _ _ => lN
      refine findall_call lF lN (pat2_at (by k_asm) lF) hx0 hits hlen ?_
      intro D2 l2 h2 k2 e2 a2 F3 N3 l3
      k_lt l3
      clear lF lN
      cases r with
      | none =>
        have e3 := KSpl.nil_of e2
        subst e3
        simp only [strValues, List.map_nil] at N3 a2
        have hall : DatAll [] [a9, l9, .int 1 tc, .none] (optDue nms V W) := by
          unfold optDue
          rw [if_neg e9, if_neg e9, hdf]
          exact .cons ha' (.cons hb' (.cons (DatIn.int _ _) (.cons DatIn.none .nil)))
        k_steps
        rename Fr _ _ _ _ => kF9
        rename News _ _ _ _ => kN9
        refine hret _ _ _ _ ⟨_, _, _, _, _, _, _, _, _, _, _, rfl, hall, ?_, rfl⟩ kF9 (news_pick kN9 (by k_mem) (by k_mem) (by intro p9 hp9; repeat (first | exact hp9 | apply List.mem_cons_of_mem)))
        exact ⟨by omega, by omega⟩
      | some q =>
        obtain ⟨t9, l9', e3, e4⟩ := KSpl.cons_of e2
        have e5 := KSpl.nil_of e4
        subst e5 e3
        simp only [strValues, List.map_cons, List.map_nil] at N3 a2
        have hall : ∀ t, DatAll [] [a9, l9, .int 1 tc, .str (mkS q) t] (optDue nms V W) := by
          intro t
          unfold optDue
          rw [if_neg e9, if_neg e9, hdf]
          exact .cons ha' (.cons hb' (.cons (DatIn.int _ _) (.cons (DatIn.str _ _) .nil)))
        k_steps
        rename Fr _ _ _ _ => kF9
        rename News _ _ _ _ => kN9
        refine hret _ _ _ _ ⟨_, _, _, _, _, _, _, _, _, _, _, rfl, hall _, ?_, rfl⟩ kF9 (news_pick kN9 (by k_mem) (by k_mem) (by intro p9 hp9; repeat (first | exact hp9 | apply List.mem_cons_of_mem)))
        exact ⟨by omega, by omega⟩
end Mine
end PC2
section PC3
namespace Mine
theorem rst_C3 : (1 : Nat) = 1 := by
  w_top off
  first | walk1 | rfl
end Mine
open PySem PySem.W PyProof.Rows
set_option maxRecDepth 100000
set_option maxHeartbeats 0
namespace Mine
local macro_rules | `(tactic| k_all) => `(tactic| first | with_reducible assumption | exact bnd_ne (by omega))
local macro_rules | `(tactic| k_lt $h:ident) => `(tactic| (replace $h := allLt_of $h; (try simp only [AllLt, and_true] at $h:ident); (try simp only [allLt_bnd] at $h:ident)))
local macro_rules | `(tactic| walk_at "call builtin:str.replace") => `(tactic| (k_here; (with_reducible show wpAny _ _ (call (Value.builtin "str.replace") [Value.str _ _, Value.str _ _, Value.str _ _]) _ _ _); (refine replace_pos (by omega) (by omega) (by omega) (by decide +kernel) (by first | assumption | omega) (by decide +kernel) (by dsimp only; omega) ?_); intro _ _ _))
local macro_rules | `(tactic| walk_at "call builtin:str.split") => `(tactic| ((with_reducible show wpAny _ _ (call (Value.builtin "str.split") [Value.str _ _]) _ _ _); refine Hold.mk ?_))
local macro_rules | `(tactic| k_room) => `(tactic| ktr_room)
local macro_rules | `(tactic| walk_at "getMethod ref") => `(tactic| (k_here; (with_reducible show wpAny _ _ (getMethod (Value.ref 48) _ _) _ _ _); k_dflt (refine' RePat.method (pat2_at ?X ?F) slot_findall type_findall ?_; (case X => k_asm); (case F => k_asm))))
local macro_rules | `(tactic| walk_at "call builtin:re.Pattern.findall") => `(tactic| ((with_reducible show wpAny _ _ (call (Value.builtin "re.Pattern.findall") [Value.ref _, Value.str _ _]) _ _ _); refine Hold.mk ?_))
theorem pat3_at {w : World} {h₀ h : Heap} {L : Addr} {m : Str → Option Value} (X : (hd.heap_39 w.params).In h₀) (F : Fr h₀ L h m) : RePat h 53 code3 1 := pat3_in (X.keeps F.keep)
local macro_rules | `(tactic| walk_at "getMethod ref") => `(tactic| (k_here; (with_reducible show wpAny _ _ (getMethod (Value.ref 53) _ _) _ _ _); k_dflt (refine' RePat.method (pat3_at ?X ?F) slot_findall type_findall ?_; (case X => k_asm); (case F => k_asm))))
abbrev argEnts (w : World) (t1 t2 : Tok) (a v : Value) : List DictEntry :=
  [{ hash := PyData.keyHash w.params (Str.ofString "name"), key := .str (Str.ofString "name") t1, val := a }, { hash := PyData.keyHash w.params (Str.ofString "value"), key := .str (Str.ofString "value") t2, val := v }]
/-- an Argument's object at the ledger's head -/
def ArgObj (w : World) (rest : List (Addr × Obj)) (due : List Dat) (v : Value) (news' : List (Addr × Obj)) : Prop :=
  ∃ (o dx : Addr) (n : Nat) (t1 t2 : Tok) (a vv : Value), v = .ref o ∧ DatAll [] [a, vv] due ∧ (bnd rest ≤ dx ∧ @LT.lt Nat _ dx o) ∧ news' = (o, instObj 198 dx) :: (dx, dictOf (argEnts w t1 t2 a vv) n) :: rest
theorem aparse_spec (w : World) (mean : ExcName → Option Value) (mg mb : Str → Option Value) (rest : List (Addr × Obj)) (x : Str) (tx : Tok) (nm : List Nat) (r : Option (List Nat))
    (hx : x.length ≤ 1000000) (hits3 : Hits code3 x.cps 0 false (oneOf (some nm))) (hits2 : Hits code2 x.cps 0 false (oneOf r)) (hl3 : (oneOf (some nm)).length ≤ 2 * x.length) (hl2 : (oneOf r).length ≤ 2 * x.length) :
    SpecC 40 w mean mg mb 192 [.ref 198, .str x tx] rest (ArgObj w rest [.str (mkS nm), dOf r]) := by
  unfold SpecC
  intro dp un gd cn cs a ccd cl outer A₀ base h₀ L m s Q E B F X N T hk hd hu hret
  obtain ⟨pT, lT, T⟩ := T
  k_dflt cell_enter
  k_steps
  apply Hold.out
  rename Fr _ _ _ _ => lF
  rename News _ _ _ _ => lN
  refine findall_call lF lN (pat3_at (by k_asm) lF) hx hits3 hl3 ?_
  intro D1 l1 h1 k1 e1 a1 F1 N1 lt1
  k_lt lt1
  clear lF lN
  obtain ⟨t9, l9', e3, e4⟩ := KSpl.cons_of e1
  have e5 := KSpl.nil_of e4
  subst e5 e3
  simp only [strValues, List.map_cons, List.map_nil] at N1 a1
  k_steps
  apply Hold.out
  rename Fr _ _ _ _ => lF
  rename News _ _ _ _ => lN
  refine findall_call lF lN (pat2_at (by k_asm) lF) hx hits2 hl2 ?_
  intro D2 l2 h2 k2 e2 a2 F3 N3 lt3
  k_lt lt3
  clear lF lN
  cases r with
  | none =>
    have e3 := KSpl.nil_of e2
    subst e3
    simp only [strValues, List.map_nil] at N3 a2
    k_steps
    rename Fr _ _ _ _ => kF9
    rename News _ _ _ _ => kN9
    refine hret _ _ _ _ ⟨_, _, _, _, _, _, _, rfl, .cons (DatIn.str _ _) (.cons DatIn.none .nil), ?_, rfl⟩ kF9 (news_pick kN9 (by k_mem) (by k_mem) (by intro p9 hp9; repeat (first | exact hp9 | apply List.mem_cons_of_mem)))
    exact ⟨by omega, by omega⟩
  | some q =>
    obtain ⟨t9, l9', e3, e4⟩ := KSpl.cons_of e2
    have e5 := KSpl.nil_of e4
    subst e5 e3
    simp only [strValues, List.map_cons, List.map_nil] at N3 a2
    k_steps
    rename Fr _ _ _ _ => kF9
    rename News _ _ _ _ => kN9
    refine hret _ _ _ _ ⟨_, _, _, _, _, _, _, rfl, .cons (DatIn.str _ _) (.cons (DatIn.str _ _) .nil), ?_, rfl⟩ kF9 (news_pick kN9 (by k_mem) (by k_mem) (by intro p9 hp9; repeat (first | exact hp9 | apply List.mem_cons_of_mem)))
    exact ⟨by omega, by omega⟩
end Mine
end PC3
section PCp
namespace Mine
theorem rst_Cp : (1 : Nat) = 1 := by
  w_top off
  first | walk1 | rfl
end Mine
open PySem PySem.W PyProof.Rows PySem.Calls PyProof.Rows.LCg
set_option maxRecDepth 100000
set_option maxHeartbeats 4000000
namespace Mine
section
variable {prog : Program} {w : World} {A : Around} {h₀ : Heap} {L : Addr} {m : Str → Option Value} {env : Env}
/-- one element of a comprehension that leaves the heap as it is -/
def PureAt (prog : Program) (w : World) (A : Around) (h₀ : Heap) (L : Addr) (m : Str → Option Value) (env : Env) (elt : PySem.Expr) (x : Str) (scope : Scope) (cl : List (Str × Addr)) (news : List (Addr × Obj)) (s : Shared) (v : Value) (G : Value → Prop) : Prop :=
  ∀ (I C D : Addr) (oI oC : Obj) (ys : List Value) (m₂ : Str → Option Value) (h : Heap) (tk : Nat) (Q' E' : Value → Shared → Prop), NsObj oC m₂ → m₂ x = some v → Fr h₀ L h m → News h₀ L h ((I, oI) :: (C, oC) :: (D, lst ys) :: news) → Off3 I C D news → ((@Ne Nat I C) ∧ (@Ne Nat I D) ∧ (@Ne Nat C D)) →
    (∀ y tk', G y → Q' y { s with heap := h, toks := tk' }) → wpAny (model prog w) A (eval elt (compEnvC scope cl C env)) Q' E' { s with heap := h, toks := tk }
theorem rest_pure {elt : PySem.Expr} {x : Str} {scope : Scope} {cl : List (Str × Addr)} {s : Shared} {S : List (Addr × Obj) → Prop} {P : Nat → Value → Prop} {Fin : List Value → List (Addr × Obj) → Prop} {news : List (Addr × Obj)} (G : Nat → Value → Prop) (n : Nat) (hS : S news)
    (hR : ∀ i v, P i v → i < n → PureAt prog w A h₀ L m env elt x scope cl news s v (G i))
    (hF : ∀ ys, ys.length = n → (∀ i y, ys[i]? = some y → G i y) → Fin ys news) : CompRest prog w A h₀ L m env elt x scope cl s S P Fin n 0 [] news := by
  suffices H : ∀ k i ys, i + k = n → ys.length = i → (∀ i y, ys[i]? = some y → G i y) → CompRest prog w A h₀ L m env elt x scope cl s S P Fin k i ys news from H n 0 [] (Nat.zero_add n) rfl (fun i y h => by simp at h)
  intro k
  induction k with
  | zero =>
    intro i ys hi hl hG
    exact hF ys (by omega) hG
  | succ k ih =>
    intro i ys hi hl hG
    intro v I oI C oC D m₂ h tk E' hv hC hx F N off hne
    refine hR i v hv (by omega) I C D oI oC ys m₂ h tk _ E' hC hx F N off hne fun y tk' hy => ?_
    refine ⟨h, tk', news, rfl, F, N, off, hS, ih (i + 1) (ys ++ [y]) (by omega) (by rw [List.length_append, hl]; rfl) fun j z hz => ?_⟩
    rw [List.getElem?_append] at hz
    split at hz
    · exact hG j z hz
    · rename_i hj
      have hjl : j = ys.length := by
        by_cases q : j - ys.length = 0
        · omega
        · rw [List.getElem?_eq_none (by simp; omega)] at hz; cases hz
      subst hjl
      simp at hz
      subst hz
      rw [hl]; exact hy
/-- a comprehension whose elements carry a ledger on -/
theorem rest_inv {elt : PySem.Expr} {x : Str} {scope : Scope} {cl : List (Str × Addr)} {s : Shared} {S : List (Addr × Obj) → Prop} {P : Nat → Value → Prop} {Fin : List Value → List (Addr × Obj) → Prop} {news : List (Addr × Obj)} (J : List Value → List (Addr × Obj) → Prop) (n : Nat) (hJ : J [] news)
    (hR : ∀ i v ys news, P i v → i < n → ys.length = i → J ys news → ∀ I oI C oC D m₂ h tk (E' : Value → Shared → Prop), NsObj oC m₂ → m₂ x = some v → Fr h₀ L h m → News h₀ L h ((I, oI) :: (C, oC) :: (D, lst ys) :: news) → Off3 I C D news → ((@Ne Nat I C) ∧ (@Ne Nat I D) ∧ (@Ne Nat C D)) →
      wpAny (model prog w) A (eval elt (compEnvC scope cl C env)) (CompEnd h₀ L m { s with heap := h, toks := tk } I oI C oC D (lst ys) S (fun y news' => J (ys ++ [y]) news')) E' { s with heap := h, toks := tk })
    (hF : ∀ ys news, ys.length = n → J ys news → Fin ys news) : CompRest prog w A h₀ L m env elt x scope cl s S P Fin n 0 [] news := by
  suffices H : ∀ k i ys news, i + k = n → ys.length = i → J ys news → CompRest prog w A h₀ L m env elt x scope cl s S P Fin k i ys news from H n 0 [] news (Nat.zero_add n) rfl hJ
  intro k
  induction k with
  | zero =>
    intro i ys news hi hl hJ
    exact hF ys news (by omega) hJ
  | succ k ih =>
    intro i ys news hi hl hJ
    intro v I oI C oC D m₂ h tk E' hv hC hx F N off hne
    refine wpAny_mono (hR i v ys news hv (by omega) hl hJ I oI C oC D m₂ h tk E' hC hx F N off hne) (fun y s₂ hy => ?_) fun _ _ e => e
    obtain ⟨h', tk', news', e1, F', N', off', hS', hJ'⟩ := hy
    exact ⟨h', tk', news', e1, F', N', off', hS', ih (i + 1) (ys ++ [y]) news' (by omega) (by rw [List.length_append, hl]; rfl) hJ'⟩
theorem ne_cons {q : Addr × Obj} {l : List (Addr × Obj)} {b : Addr} (h : @Ne Nat q.1 b) (hl : ∀ p ∈ l, p.1 ≠ b) : ∀ p ∈ q :: l, p.1 ≠ b := by
  intro p hp
  rcases List.mem_cons.mp hp with e | hp
  · exact e ▸ h
  · exact hl p hp
theorem ne_nil {b : Addr} : ∀ p ∈ ([] : List (Addr × Obj)), p.1 ≠ b := fun p hp => nomatch hp
end
end Mine
end PCp
section PC4
namespace Mine
theorem rst_C4 : (1 : Nat) = 1 := by
  w_top off
  first | walk1 | rfl
end Mine
open PySem PySem.W PyProof.Rows
set_option maxRecDepth 100000
set_option maxHeartbeats 0
namespace Mine
local macro_rules | `(tactic| k_all) => `(tactic| first | with_reducible assumption | exact bnd_ne (by omega))
local macro_rules | `(tactic| k_lt $h:ident) => `(tactic| (replace $h := allLt_of $h; (try simp only [AllLt, and_true] at $h:ident); (try simp only [allLt_bnd] at $h:ident)))
local macro_rules | `(tactic| k_room) => `(tactic| ktr_room)
local macro_rules | `(tactic| walk_at "eval Name") => `(tactic| ((with_reducible show wpAny _ _ (eval (Expr.Name (Str.ofString "abs") _) (envOf _ _ _ _ _)) _ _ _); (with_reducible rename Fr _ _ _ _ => kF); (refine guard_global (by rfl) ?_); k_dflt (refine' name_B kF ?k1 ?k2 ?k3 ?k4 ?k5 ?_; (case k1 => k_asm); (case k2 => k_asm); (case k3 => k_is); (case k4 => boot_by_name); (case k5 => decide))))
local macro_rules | `(tactic| walk_at "eval ListComp") => `(tactic| ((with_reducible show wpAny _ _ (eval (Expr.ListComp _ _ _ _) _) _ _ _); refine Hold.mk ?_))
theorem ints_get {vs : List Value} {ns : List Int} (h : IntsAre vs ns) : ∀ {i : Nat} {v : Value}, vs.toArray[i]? = some v → ∃ n t, v = .int n t := by
  intro i v hv
  rw [List.getElem?_toArray] at hv
  induction h generalizing i with
  | nil => simp at hv
  | cons n t _ ih =>
    cases i with
    | zero =>
      simp at hv
      exact ⟨n, t, hv.symm⟩
    | succ i => exact ih (by simpa using hv)
theorem ints_of : ∀ (ys : List Value), (∀ (i : Nat) y, ys[i]? = some y → ∃ n t, y = .int n t) → ∃ ns, IntsAre ys ns ∧ ns.length = ys.length
  | [], _ => ⟨[], .nil, rfl⟩
  | y :: r, h => by
    obtain ⟨n, t, rfl⟩ := h 0 y rfl
    obtain ⟨ns, h1, h2⟩ := ints_of r fun i z hz => h (i + 1) z (by simpa using hz)
    exact ⟨n :: ns, .cons n t h1, by simp [h2]⟩
theorem seed_ok : ∀ (ns : List Int) (σ : Int × Unit), (0 ≤ σ.1 ∧ σ.1 < 2147483647) → 0 ≤ (List.foldl (fun σ n => (((σ.fst * 48271 + (if n < 0 then -n else n).fmod 65521 + 1).fmod 2147483647, ()) : Int × Unit)) σ ns).1 ∧ (List.foldl (fun σ n => (((σ.fst * 48271 + (if n < 0 then -n else n).fmod 65521 + 1).fmod 2147483647, ()) : Int × Unit)) σ ns).1 < 2147483647
  | [], σ, h => h
  | n :: r, σ, h => seed_ok r _ ⟨fmod_lo _ (by omega), fmod_hi _ (by omega)⟩
theorem draw_spec (w : World) (mean : ExcName → Option Value) (mg mb : Str → Option Value) (dp un : Nat) (gd : Option (List Code)) (cn : Str) (cs : Scope) (a : Addr) (ccd : Value) (cl : List (Str × Addr)) (outer : List Env) (A₀ : Around) (base h₀ : Heap) (L : Addr) (m : Str → Option Value) (s : Shared)
    (Q E : Value → Shared → Prop) (la : Addr) (items : List Value) (ns : List Int)
    (B : Below A₀ base outer h₀) (F : Fr h₀ L s.heap m) (X : (hd.heap_39 w.params).In h₀) (N : News h₀ L s.heap []) (T : TopA mean mg mb h₀) (hk : cs.kind = .function) (hd : dp + 20 < recursionLimit) (hu : un + 8 * 20 < cLine)
    (hL : base.IsList la items.toArray) (hI : IntsAre items ns) (hn : ns.length ≤ 63)
    (hret : ∀ b d vs nb nd sd ts h' tk', DrawOk vs sd → @LT.lt Nat _ b d → Fr h₀ L h' m → News h₀ L h' (drawL b d vs nb nd sd ts []) → Q (.ref d) { s with heap := h', toks := tk' }) :
    wpAny (model PySem.Challenge.rw_aw6008_01.row.prog w) (ktrTop dp un gd cn cs L a ccd cl outer) (call (.ref 291) [.ref la]) Q E s := by
  have hL0 := stays_list B.stays hL
  obtain ⟨pT, lT, T⟩ := T
  refine wpAny_call ?_
  k_dflt cell_enter
  k_steps
  apply Hold.out
  rename Fr _ _ _ _ => lF
  rename News _ _ _ _ => lN
  k_dflt (refine LCg.ListComp_U lF (by rfl) (by decide) (by rfl) (by decide) (by rfl) ?_)
  k_steps
  rename Fr _ _ _ _ => lF
  rename News _ _ _ _ => lN
  rename IntsAre _ _ => hI
  have hsz : items.toArray.size ≤ sizeLine := by rw [List.size_toArray, hI.length, sizeLine_eq]; omega
  refine LCg.CompSrc.base (by rfl) lF lN (by assumption) hsz ?_
  intro g
  refine rest_pure (fun i y => ∃ n t, y = .int n t) _ (.inl (by assumption)) ?_ ?_
  · intro i v hv hi I C D oI oC ys m₂ h tk Q' E' hC hx F9 N9 off9 ne9 hQ
    obtain ⟨n9, t9, rfl⟩ := ints_get hI hv
    k_steps
    all_goals exact hQ _ _ ⟨_, _, rfl⟩
  · intro ys hy1 hy2
    obtain ⟨ms, hms, hlm⟩ := ints_of ys hy2
    rw [hy1, List.size_toArray, hI.length] at hlm
    intro D h tk F9 N9 off9
    clear lF lN
    k_steps
    rename Fr _ _ _ _ => kF9
    rename News _ _ _ _ => kN9
    have hs9 := seed_ok ns (7, ()) ⟨by decide, by decide⟩
    refine hret _ _ _ 0 0 _ _ _ _ ⟨⟨_, by assumption, ?_⟩, hs9.1, hs9.2⟩ ?_ kF9 (news_pick kN9 (by k_mem) (by k_mem) (by intro p9 hp9; cases hp9))
    · omega
    · omega
end Mine
end PC4
section PC5
namespace Mine
theorem rst_C5 : (1 : Nat) = 1 := by
  w_top off
  first | walk1 | rfl
end Mine
open PySem PySem.W PyProof.Rows
set_option maxRecDepth 100000
set_option maxHeartbeats 0
namespace Mine
local macro_rules | `(tactic| k_all) => `(tactic| first | with_reducible assumption | exact bnd_ne (by omega))
local macro_rules | `(tactic| k_lt $h:ident) => `(tactic| (replace $h := allLt_of $h; simp only [AllLt, and_true] at $h:ident; (try simp only [allLt_bnd] at $h:ident)))
local macro_rules | `(tactic| cell_enter) => `(tactic| (refine' code_defC ?k1 ?k2 ?k3 ?k4 ?k5 ?kA ?kF ?kK ?k6 ?k7 ?k8 ?k9 ?kB ?kD ?_ ?c2 ?c3 ?c4; (case kA => exact rfl); (case kF => exact rfl); (case kK => assumption); (case k1 => k_asm); (case k2 => k_asm); (case k3 => k_asm); (case k4 => k_asm); (case k5 => k_asm); (case k6 => k_is); (case k7 => k_is); (case k8 => ktr_room); (case k9 => first | exact BindsTo.of_eq rfl | exact binds_K (by k_in) rfl (by k_is) rfl rfl rfl); (case kB => exact rfl); (case kD => decide +kernel); (case c2 => exact rfl); (case c3 => exact rfl); (case c4 => exact rfl); k_whole; intro g' L' h' tk' cells' FG' F' N' Y' B' X' T' l1; (try k_lt l1); k_cells Y'; (try simp only [List.cons_append, List.nil_append] at N'); (try dsimp only); (try k_lift B'); (try k_fold)))
local macro_rules | `(tactic| walk_at "call ref") => `(tactic| (k_here; (with_reducible show wpAny _ _ (call (Value.ref 298) _) _ _ _); (rename News _ _ _ _ => kN9); k_dflt ( refine' take_spec _ _ _ _ _ _ _ _ _ _ _ _ _ _ ?bd ?rb ?rd ?ok ?m1 ?m2 _ _ _ _ _ _ _ _ _ _ _ _ _ _ _ _ _ ?kB ?kF ?kX ?kN ?kT ?kk ?khd ?khu ?_; (case kN => (refine' Pull.news ?pu kN9; (case pu => (repeat (first | exact Pull.here | apply Pull.there))))); (case kB => k_asm); (case kF => k_asm); (case kX => k_asm); (case kT => exact ⟨_, _, by k_asm⟩); (case kk => first | rfl | assumption); (case bd => assumption); (case rb => k_all); (case rd => k_all); (case ok => assumption); (case m1 => decide); (case m2 => decide); (case khd => ktr_room); (case khu => ktr_units)); (rintro v9 news9 h9 tk9 ⟨r9, t9, vs9, nb9, nd9, sd9, ts9, e9, hr9, hs9, hok9, e8⟩ F9 N9); subst e9; subst e8; clear kN9; (try dsimp only [drawL] at N9); (try dsimp only); (try k_fold)))
local macro_rules | `(tactic| walk_at "subscriptTail") => `(tactic| (k_here; (with_reducible show wpAny _ _ (subscriptTail _ _ (Value.ref _) (Value.int _ _)) _ _ _); ktb_letter; k_dflt (refine' item4 ?ktbl ?ktb0 ?ktb1 ?_ ?_ ?_ ?_; (case ktbl => exact News.isList (by k_asm) (by k_mem)); (case ktb0 => assumption); (case ktb1 => assumption)); all_goals intro hk9))
local macro_rules | `(tactic| walk_at "subscriptTail") => `(tactic| (k_here; (with_reducible show wpAny _ _ (subscriptTail _ _ (Value.ref _) (Value.int _ _)) _ _ _); ktb_letter; k_dflt (refine' item_letter ?ktbl ?ktbw ?ktb0 ?ktb1 ?ktbf ?ktbz ?_; (case ktbl => exact News.isList (by k_asm) (by k_mem)); (case ktbw => repeat constructor); (case ktb0 => assumption); (case ktb1 => (simp only [List.length_cons, List.length_nil]; omega)); (case ktbf => omega); (case ktbz => decide +kernel)); intro x9 t9 hx9 hz9))
local macro_rules | `(tactic| walk_at "binaryOp Add str str") => `(tactic| (k_here; (with_reducible show wpAny _ _ (binaryOp Operator.Add (Value.str _ _) (Value.str _ _)) _ _ _); (refine KOpn.add (by kopn_len) ?_); intro _ _ _))
local macro_rules | `(tactic| walk_at "call builtin:str.join") => `(tactic| (k_here; (with_reducible show wpAny _ _ (call (Value.builtin "str.join") [Value.str _ _, Value.ref _]) _ _ _); first | (refine join1 (News.isList (by k_asm) (by k_mem)) (by kopn_len) ?_; intro _ _ _) | (refine join2 (News.isList (by k_asm) (by k_mem)) (by kopn_len) ?_; intro _ _ _)))
local macro_rules | `(tactic| k_all) => `(tactic| first | with_reducible assumption | exact bnd_ne (by omega) | ((repeat (refine ne_cons (by dsimp only; omega) ?_)); first | with_reducible assumption | exact bnd_ne (by omega) | exact ne_nil))
local macro_rules | `(tactic| k_lt $h:ident) => `(tactic| (replace $h := allLt_of $h; (try simp only [AllLt, and_true] at $h:ident); (try simp only [allLt_bnd] at $h:ident)))
local macro_rules | `(tactic| walk_at "exec Assign cons ListComp") => `(tactic| ((with_reducible show wpAny _ _ (exec (Stmt.Assign [Expr.Name (Str.ofString "rows") _] _ _) _) _ _ _); refine Hold.mk ?_))
local macro_rules | `(tactic| walk_at "CompSrc") => `(tactic| ((with_reducible show LCg.CompSrc _ _ _ _ _ _ _ _ _ _ _ _ _ _); refine Hold.mk ?_))
abbrev itM : List Str := [Str.ofString "<x>", Str.ofString "go [--now]", Str.ofString "(a | b)..."]
abbrev rowM : List Str := itM.map (Str.ofString "prog " ++ ·)
/-- what the comprehension of the rows carries on -/
def UJ (b d : Addr) (rest : List (Addr × Obj)) (ys : List Value) (news : List (Addr × Obj)) : Prop :=
  ∃ (vs : List Value) (nb nd : Nat) (sd : Int) (ts : Tok) (lr : List (Str × Tok)), DrawOk vs sd ∧ news = drawL b d vs nb nd sd ts rest ∧ ys = strValues lr ∧ ∀ p ∈ lr, p.1 ∈ rowM
theorem range_ok {r : Int} {h : Heap} {a : Addr} {t u v : Tok} (_ : IsRange h a 0 (1 + r) 1 t u v) (h0 : 0 ≤ r) (h1 : r < 3) : ∃ n : Nat, Builtin.Range.small 0 (1 + r) 1 = true ∧ Builtin.Range.rangeSize 0 (1 + r) 1 = ((n : Nat) : Int) ∧ 1 ≤ n ∧ n ≤ 3 := by
  have h : r = 0 ∨ r = 1 ∨ r = 2 := by omega
  rcases h with rfl | rfl | rfl
  · exact ⟨1, by decide, by decide, by decide, by decide⟩
  · exact ⟨2, by decide, by decide, by decide, by decide⟩
  · exact ⟨3, by decide, by decide, by decide, by decide⟩
theorem rowM_len {x : Str} (h : x ∈ rowM) : x.length ≤ 20 := by
  have h1 : rowM.all (fun x => decide (x.length ≤ 20)) = true := by decide +kernel
  exact of_decide_eq_true (List.all_eq_true.mp h1 x h)
theorem rows_sum : ∀ (lr : List (Str × Tok)), (∀ p ∈ lr, p.1 ∈ rowM) → (((lr.map (·.1)).map (·.length)).sum ≤ 20 * lr.length)
  | [], _ => by simp
  | p :: r, h => by
    have h1 := rows_sum r fun q hq => h q (List.mem_cons_of_mem _ hq)
    have h2 := rowM_len (h p List.mem_cons_self)
    simp only [List.map_cons, List.sum_cons, List.length_cons]
    omega
theorem uj_snoc {b d : Addr} {rest : List (Addr × Obj)} {lr : List (Str × Tok)} {vs : List Value} {nb nd : Nat} {sd : Int} {ts t : Tok} {X : Str} (h : ∀ p ∈ lr, p.1 ∈ rowM) (hok : DrawOk vs sd) (hX : X ∈ itM) : UJ b d rest (strValues lr ++ [.str (Str.ofString "prog " ++ X) t]) (drawL b d vs nb nd sd ts rest) := by
  refine ⟨vs, nb, nd, sd, ts, lr ++ [(Str.ofString "prog " ++ X, t)], hok, rfl, ?_, ?_⟩
  · simp only [strValues, List.map_append, List.map_cons, List.map_nil]
  · intro p hp
    rcases List.mem_append.mp hp with hp | hp
    · exact h p hp
    · rw [List.mem_singleton.mp hp]
      exact List.mem_map.mpr ⟨X, hX, rfl⟩
theorem off_draw {I C D b d : Addr} {o1 o2 o3 o4 : Obj} {r : List (Addr × Obj)} (h : LCg.Off3 I C D ((b, o1) :: (d, o2) :: r)) : LCg.Off3 I C D ((b, o3) :: (d, o4) :: r) := h
theorem comp_uj {h₀ h' : Heap} {L I C D b d : Addr} {m : Str → Option Value} {s₁ : Shared} {oI oC : Obj} {rest rest' xs : List (Addr × Obj)} {lr : List (Str × Tok)} {vs vs0 : List Value} {nb nd nb0 nd0 : Nat} {sd sd0 : Int} {ts ts0 t : Tok} {tk : Nat} {X : Str}
    (hok : DrawOk vs sd) (F : Fr h₀ L h' m) (N : News h₀ L h' xs) (hp : Pull (b, W.listOf vs.toArray nb) (d, W.listOf [.ref b, .int sd ts].toArray nd) xs rest') (hsub : ∀ p ∈ (I, oI) :: (C, oC) :: (D, LCg.lst (strValues lr)) :: rest, p ∈ rest')
    (off : LCg.Off3 I C D (drawL b d vs0 nb0 nd0 sd0 ts0 rest)) (h : ∀ p ∈ lr, p.1 ∈ rowM) (hX : X ∈ itM) :
    LCg.CompEnd h₀ L m s₁ I oI C oC D (LCg.lst (strValues lr)) (fun _ => True) (fun y news' => UJ b d rest (strValues lr ++ [y]) news') (.str (Str.ofString "prog " ++ X) t) { s₁ with heap := h', toks := tk } := by
  have N2 := hp.news N
  refine ⟨h', tk, drawL b d vs nb nd sd ts rest, rfl, F, fun p hp => ?_, off, trivial, uj_snoc h hok hX⟩
  simp only [drawL, List.mem_cons] at hp
  rcases hp with e | e | e | e | e | e
  · exact N2 p (.tail _ (.tail _ (hsub p (e ▸ .head _))))
  · exact N2 p (.tail _ (.tail _ (hsub p (e ▸ .tail _ (.head _)))))
  · exact N2 p (.tail _ (.tail _ (hsub p (e ▸ .tail _ (.tail _ (.head _))))))
  · exact N2 p (e ▸ .head _)
  · exact N2 p (e ▸ .tail _ (.head _))
  · exact N2 p (.tail _ (.tail _ (hsub p (.tail _ (.tail _ (.tail _ e))))))
/-- what _law_usage hands back -/
def UseOut (b d : Addr) (rest : List (Addr × Obj)) (v : Value) (news' : List (Addr × Obj)) : Prop :=
  ∃ (wd g a bh text : Str) (lr : List (Str × Tok)) (T D : Addr) (n : Nat) (tt : Tok) (uv : Value) (vs' : List Value) (nb' nd' : Nat) (sd' : Int) (ts' : Tok),
    (wd ∈ [Str.ofString "usage:", Str.ofString "Usage:", Str.ofString "USAGE:"] ∧ g ∈ [Str.ofString " ", Str.ofString "\n  "] ∧ a ∈ [Str.ofString "", Str.ofString "My program.\n\n", Str.ofString "  "] ∧ bh ∈ [Str.ofString "", Str.ofString "\n", Str.ofString "\n\nOptions:\n  -a  it", Str.ofString "\n   \nmore"] ∧
      (∀ p ∈ lr, p.1 ∈ rowM) ∧ 1 ≤ lr.length ∧ lr.length ≤ 3) ∧
    (let usage := wd ++ g ++ Txt.join (Str.ofString "\n  ") (lr.map (·.1))
     (uv = .none ∧ text = a ++ Str.ofString "no word" ++ bh) ∨ (uv = .none ∧ text = a ++ usage ++ bh ++ Str.ofString "\nuSaGe: prog") ∨ (∃ t, uv = .str usage t ∧ text = a ++ usage ++ bh)) ∧
    v = .ref T ∧ DrawOk vs' sd' ∧ ((@LT.lt Nat _ b T ∧ @LT.lt Nat _ d T ∧ @LT.lt Nat _ D T ∧ bnd rest ≤ T) ∧ (@Ne Nat b D) ∧ (@Ne Nat d D)) ∧
    news' = (T, tupObj [.str text tt, uv, .ref D]) :: (D, W.listOf (strValues lr).toArray n) :: drawL b d vs' nb' nd' sd' ts' rest
theorem use_end {h₀ h' : Heap} {L T D b d : Addr} {rest rest' xs : List (Addr × Obj)} {lr : List (Str × Tok)} {vs : List Value} {nb nd : Nat} {sd : Int} {ts tt : Tok} {uv : Value} {text wd g a bh : Str}
    (hok : DrawOk vs sd) (N : News h₀ L h' xs) (hp : Pull (b, W.listOf vs.toArray nb) (d, W.listOf [.ref b, .int sd ts].toArray nd) xs rest')
    (hT : (T, tupObj [.str text tt, uv, .ref D]) ∈ rest') (hD : (D, LCg.lst (strValues lr)) ∈ rest') (hsub : ∀ p ∈ rest, p ∈ rest') (hr : ∀ p ∈ lr, p.1 ∈ rowM) {n : Nat} (hn : (strValues lr).length = n) (hn1 : 1 ≤ n) (hn3 : n ≤ 3)
    (h1 : wd ∈ [Str.ofString "usage:", Str.ofString "Usage:", Str.ofString "USAGE:"]) (h2 : g ∈ [Str.ofString " ", Str.ofString "\n  "]) (h3 : a ∈ [Str.ofString "", Str.ofString "My program.\n\n", Str.ofString "  "]) (h4 : bh ∈ [Str.ofString "", Str.ofString "\n", Str.ofString "\n\nOptions:\n  -a  it", Str.ofString "\n   \nmore"])
    (hway : (let usage := wd ++ g ++ Txt.join (Str.ofString "\n  ") (lr.map (·.1))
     (uv = .none ∧ text = a ++ Str.ofString "no word" ++ bh) ∨ (uv = .none ∧ text = a ++ usage ++ bh ++ Str.ofString "\nuSaGe: prog") ∨ (∃ t, uv = .str usage t ∧ text = a ++ usage ++ bh)))
    (lt : (@LT.lt Nat _ b T ∧ @LT.lt Nat _ d T ∧ @LT.lt Nat _ D T ∧ bnd rest ≤ T) ∧ (@Ne Nat b D) ∧ (@Ne Nat d D)) :
    ∃ news', UseOut b d rest (.ref T) news' ∧ News h₀ L h' news' := by
  have N2 := hp.news N
  have hl : lr.length = n := by simpa [strValues] using hn
  refine ⟨_, ⟨wd, g, a, bh, text, lr, T, D, (strValues lr).length, tt, uv, vs, nb, nd, sd, ts, ⟨h1, h2, h3, h4, hr, by omega, by omega⟩, hway, rfl, hok, lt, rfl⟩, fun p hp => ?_⟩
  simp only [drawL, List.mem_cons] at hp
  rcases hp with e | e | e | e | e
  · exact N2 p (.tail _ (.tail _ (e ▸ hT)))
  · exact N2 p (.tail _ (.tail _ (e ▸ hD)))
  · exact N2 p (e ▸ .head _)
  · exact N2 p (e ▸ .tail _ (.head _))
  · exact N2 p (.tail _ (.tail _ (hsub p e)))
theorem joinRows {prog : Program} {w : World} {A : Around} {E : Value → Shared → Prop} {s : Shared} {x : Str} {t : Tok} {D : Addr} {lr : List (Str × Tok)} {Q : Value → Shared → Prop} (hl : s.heap.IsList D (strValues lr).toArray) (hr : ∀ p ∈ lr, p.1 ∈ rowM) {n : Nat} (hn : (strValues lr).length = n) (hn3 : n ≤ 3) (hz : x.length ≤ 14)
    (hq : ∀ t' k, (Txt.join x (lr.map (·.1))).length ≤ 200 → Q (.str (Txt.join x (lr.map (·.1))) t') { s with toks := k }) : wpAny (model prog w) A (call (.builtin "str.join") [.str x t, .ref D]) Q E s := by
  have hs := rows_sum lr hr
  have hll : lr.length ≤ 3 := by rw [← hn] at hn3; simpa [strValues] using hn3
  have h2 : (lr.map (·.1)).length * x.length ≤ 3 * 14 := Nat.mul_le_mul (by rw [List.length_map]; exact hll) hz
  have hb : (Txt.join x (lr.map (·.1))).length ≤ 200 := by
    have h1 := StrLaws.join_length_le x (lr.map (·.1))
    have e : Txt.join x (lr.map (·.1)) = Str.join x (lr.map (·.1)) := StrLaws.glued_eq_join _ _
    rw [e]
    omega
  have hok : JoinOk x (lr.map (·.1)) = true := by
    have h3 : (lr.map (·.1)).length * 20 ≤ 3 * 20 := Nat.mul_le_mul (by rw [List.length_map]; exact hll) (Nat.le_refl _)
    unfold JoinOk
    rw [StrLaws.joinFits (B := 20) (fun y hy => by obtain ⟨p, hp, rfl⟩ := List.mem_map.mp hy; exact rowM_len (hr p hp)) (by omega)]
    rfl
  exact SC.join (l := lr) hl rfl hok fun t' k => hq t' k hb
local macro_rules | `(tactic| walk_at "call builtin:str.join") => `(tactic| (k_here; (with_reducible show wpAny _ _ (call (Value.builtin "str.join") [Value.str _ _, Value.ref _]) _ _ _); (refine joinRows (News.isList (by k_asm) (by k_mem)) (by assumption) (by assumption) (by assumption) (by decide) ?_; intro _ _ _)))
theorem news_sub {h₀ h : Heap} {L : Addr} {xs ys : List (Addr × Obj)} (N : News h₀ L h xs) (hs : ∀ p ∈ ys, p ∈ xs) : News h₀ L h ys := fun p hp => N p (hs p hp)
theorem usage_spec (w : World) (mean : ExcName → Option Value) (mg mb : Str → Option Value) (b d : Addr) (vs : List Value) (nb nd : Nat) (sd : Int) (ts : Tok) (rest : List (Addr × Obj))
    (hbd : @LT.lt Nat _ b d) (hrb : ∀ p ∈ rest, p.1 ≠ b) (hrd : ∀ p ∈ rest, p.1 ≠ d) (hok : DrawOk vs sd) :
    Spec 40 w mean mg mb 308 [.ref d] (drawL b d vs nb nd sd ts rest) (UseOut b d rest) := by
  unfold Spec
  intro dp un gd cn cs a ccd cl outer A₀ base h₀ L m s Q E B F X N T hk hd hu hret
  obtain ⟨pT, lT, T⟩ := T
  dsimp only [drawL] at N
  refine wpAny_call ?_
  k_dflt cell_enter
  k_steps
  apply Hold.out
  rename Fr _ _ _ _ => lF
  k_dflt (refine LCg.Assign_ListComp_U lF (by rfl) (by with_unfolding_all rfl) (by rfl) (by decide) (by rfl) (by decide) (by rfl) (by rfl) (by rfl) ?_)
  k_steps
  apply Hold.out
  rename Fr _ _ _ _ => lF
  rename News _ _ _ _ => lN
  rename IsRange _ _ _ _ _ _ _ _ => lR
  rename DrawOk _ _ => lok
  obtain ⟨n, hsm, hrs, hn1, hn3⟩ := range_ok lR (by assumption) (by assumption)
  refine LCg.CompSrc.range (by rfl) lF lN lR hsm hrs (by rw [sizeLine_eq]; omega) ?_
  intro g
  refine rest_inv (UJ b d _) n ⟨_, _, _, _, _, [], lok, rfl, rfl, fun p hp => nomatch hp⟩ ?_ ?_
  · clear lF lN lR lok hsm hrs
    rintro i v ys news hv hi hl ⟨vs, nb, nd, sd, ts, lr, lok, rfl, rfl, hlr⟩ I oI C oC D m₂ h tk E' hC hx F9 N9 off9 ne9
    dsimp only [drawL] at N9 off9 ⊢
    have off8 := off9
    simp only [LCg.Off3] at off8
    k_steps
    rename Fr _ _ _ _ => kF9
    rename News _ _ _ _ => kN9
    rename DrawOk _ _ => hok9
    exact comp_uj hok9 kF9 kN9 (by repeat (first | exact Pull.here | apply Pull.there)) (by intro p9 hp9; repeat (first | exact hp9 | apply List.mem_cons_of_mem)) off9 hlr (by with_reducible assumption)
  · intro ys news hy ⟨vs, nb, nd, sd, ts, lr, lok, e1, e2, hlr⟩
    subst e1 e2
    intro D h tk F9 N9 off9
    dsimp only [drawL] at N9 off9
    simp only [LCg.Off1] at off9
    clear lF lN
    k_steps
    all_goals (
      rename Fr _ _ _ _ => kF9
      rename News _ _ _ _ => kN9
      rename DrawOk _ _ => hok9
      obtain ⟨_, hu9, hN9⟩ := use_end (rest := rest) (lr := lr) (D := D) hok9 kN9 (by repeat (first | exact Pull.here | apply Pull.there)) (List.Mem.head _) (by k_mem) (by intro p9 hp9; repeat (first | exact hp9 | apply List.mem_cons_of_mem)) hlr hy hn1 hn3 (by with_reducible assumption) (by with_reducible assumption) (by with_reducible assumption) (by with_reducible assumption)
        (by first | exact .inl ⟨rfl, rfl⟩ | exact .inr (.inl ⟨rfl, rfl⟩) | exact .inr (.inr ⟨_, rfl, rfl⟩)) ⟨⟨by omega, by omega, by omega, by omega⟩, by omega, by omega⟩
      exact hret _ _ _ _ hu9 kF9 hN9)
end Mine
end PC5
section PC6
namespace Mine
theorem rst_C6 : (1 : Nat) = 1 := by
  w_top off
  first | walk1 | rfl
end Mine
open PySem PySem.W PyProof.Rows
set_option maxRecDepth 100000
set_option maxHeartbeats 0
namespace Mine
local macro_rules | `(tactic| k_all) => `(tactic| first | with_reducible assumption | exact bnd_ne (by omega))
local macro_rules | `(tactic| k_room) => `(tactic| ktr_room)
local macro_rules | `(tactic| k_lt $h:ident) => `(tactic| (replace $h := allLt_of $h; (try simp only [AllLt, and_true] at $h:ident); (try simp only [allLt_bnd] at $h:ident)))
theorem pat1_at {w : World} {h₀ h : Heap} {L : Addr} {m : Str → Option Value} (X : (hd.heap_39 w.params).In h₀) (F : Fr h₀ L h m) : RePat h 43 code1 1 := pat1_in (X.keeps F.keep)
theorem pat4_at {w : World} {h₀ h : Heap} {L : Addr} {m : Str → Option Value} (X : (hd.heap_39 w.params).In h₀) (F : Fr h₀ L h m) : RePat h 58 code4 0 := pat4_in (X.keeps F.keep)
local macro_rules | `(tactic| walk_at "getMethod ref") => `(tactic| (k_here; (with_reducible show wpAny _ _ (getMethod (Value.ref 43) _ _) _ _ _); k_dflt (refine' RePat.method (pat1_at ?X ?F) slot_resplit type_resplit ?_; (case X => k_asm); (case F => k_asm))))
local macro_rules | `(tactic| walk_at "getMethod ref") => `(tactic| (k_here; (with_reducible show wpAny _ _ (getMethod (Value.ref 58) _ _) _ _ _); k_dflt (refine' RePat.method (pat4_at ?X ?F) slot_resplit type_resplit ?_; (case X => k_asm); (case F => k_asm))))
local macro_rules | `(tactic| walk_at "call builtin:re.Pattern.split") => `(tactic| ((with_reducible show wpAny _ _ (call (Value.builtin "re.Pattern.split") [Value.ref _, Value.str _ _]) _ _ _); refine Hold.mk ?_))
theorem join_le2 (p1 p2 : Str) (h1 : p1.length ≤ 1000) (h2 : p2.length ≤ 1000) : (Txt.join (Str.ofString "") [p1, p2]).length ≤ 1000000 := by
  have e0 : Str.ofString "" = Str.empty := by decide +kernel
  have e : Txt.join (Str.ofString "") [p1, p2] = Str.join (Str.ofString "") [p1, p2] := StrLaws.glued_eq_join _ _
  have := StrLaws.join_length_le (Str.ofString "") [p1, p2]
  rw [e]
  have h0 : (Str.ofString "").length = 0 := by decide +kernel
  simp [h0] at this
  omega
theorem printed_ok (w : World) (mean : ExcName → Option Value) (mg mb : Str → Option Value) (rest : List (Addr × Obj)) (x : Str) (tx : Tok) (p0 p1 p2 hh : Str) (more : List Str)
    (hx : x.length ≤ 1000) (hx6 : 6 ≤ x.length) (c1 : Cuts code1 x.cps 1 0 false [p0, p1, p2]) (hp1 : p1.length ≤ 1000) (hp2 : p2.length ≤ 1000) (c4 : Cuts code4 (Txt.join (Str.ofString "") [p1, p2]).cps 0 0 false (hh :: more)) (hmore : more.length ≤ 1) (hhl : hh.length ≤ 1000) :
    Spec 60 w mean mg mb 315 [.str x tx] rest (fun v news' => news' = rest ∧ ∃ t, v = .str (Txt.strip hh) t) := by
  unfold Spec
  intro dp un gd cn cs a ccd cl outer A₀ base h₀ L m s Q E B F X N T hk hd hu hret
  obtain ⟨pT, lT, T⟩ := T
  refine wpAny_call ?_
  k_dflt cell_enter
  k_steps
  apply Hold.out
  rename Fr _ _ _ _ => lF
  rename News _ _ _ _ => lN
  refine split_call lF lN (pat1_at (by k_asm) lF) (by omega) c1 (by simp; omega) ?_
  intro D l h1 k1 e1 a1 F1 N1 lt1
  k_lt lt1
  clear lF lN
  obtain ⟨t0, l0, e2, e3⟩ := KSpl.cons_of e1
  obtain ⟨t1, l1, e4, e5⟩ := KSpl.cons_of e3
  obtain ⟨t2, l2, e6, e7⟩ := KSpl.cons_of e5
  have e8 := KSpl.nil_of e7
  subst e8 e6 e4 e2
  simp only [strValues, List.map_cons, List.map_nil] at N1 a1
  k_steps
  apply Hold.out
  rename Fr _ _ _ _ => lF
  rename News _ _ _ _ => lN
  refine split_call lF lN (pat4_at (by k_asm) lF) (join_le2 p1 p2 hp1 hp2) c4 (by simp; omega) ?_
  intro D2 l2 h2 k2 e2 a2 F3 N3 lt3
  k_lt lt3
  clear lF lN
  obtain ⟨t4, l4, e3, e4⟩ := KSpl.cons_of e2
  subst e3
  match more, hmore, e4 with
  | [], _, e4 =>
    have e5 := KSpl.nil_of e4
    subst e5
    simp only [strValues, List.map_cons, List.map_nil] at N3 a2
    k_steps
    rename Fr _ _ _ _ => kF9
    rename News _ _ _ _ => kN9
    exact hret _ _ _ _ ⟨rfl, _, rfl⟩ kF9 (news_sub kN9 (by intro p9 hp9; repeat (first | exact hp9 | apply List.mem_cons_of_mem)))
  | [q], _, e4 =>
    obtain ⟨t5, l5, e5, e6⟩ := KSpl.cons_of e4
    have e7 := KSpl.nil_of e6
    subst e7 e5
    simp only [strValues, List.map_cons, List.map_nil] at N3 a2
    k_steps
    rename Fr _ _ _ _ => kF9
    rename News _ _ _ _ => kN9
    exact hret _ _ _ _ ⟨rfl, _, rfl⟩ kF9 (news_sub kN9 (by intro p9 hp9; repeat (first | exact hp9 | apply List.mem_cons_of_mem)))
end Mine
end PC6
section PC6b
namespace Mine
theorem rst_C6b : (1 : Nat) = 1 := by
  w_top off
  first | walk1 | rfl
end Mine
open PySem PySem.W PyProof.Rows
set_option maxRecDepth 100000
set_option maxHeartbeats 0
namespace Mine
local macro_rules | `(tactic| k_all) => `(tactic| first | with_reducible assumption | exact bnd_ne (by omega))
local macro_rules | `(tactic| k_room) => `(tactic| ktr_room)
local macro_rules | `(tactic| k_lt $h:ident) => `(tactic| (replace $h := allLt_of $h; (try simp only [AllLt, and_true] at $h:ident); (try simp only [allLt_bnd] at $h:ident)))
local macro_rules | `(tactic| walk_at "getMethod ref") => `(tactic| (k_here; (with_reducible show wpAny _ _ (getMethod (Value.ref 43) _ _) _ _ _); k_dflt (refine' RePat.method (pat1_at ?X ?F) slot_resplit type_resplit ?_; (case X => k_asm); (case F => k_asm))))
local macro_rules | `(tactic| walk_at "getMethod ref") => `(tactic| (k_here; (with_reducible show wpAny _ _ (getMethod (Value.ref 58) _ _) _ _ _); k_dflt (refine' RePat.method (pat4_at ?X ?F) slot_resplit type_resplit ?_; (case X => k_asm); (case F => k_asm))))
local macro_rules | `(tactic| walk_at "call builtin:re.Pattern.split") => `(tactic| ((with_reducible show wpAny _ _ (call (Value.builtin "re.Pattern.split") [Value.ref _, Value.str _ _]) _ _ _); refine Hold.mk ?_))
/-- the contract of a call out of the law's own frame -/
def Spec0 (w : World) (mean : ExcName → Option Value) (mg mb : Str → Option Value) (f : Addr) (vs : List Value) (news : List (Addr × Obj)) (R : Value → List (Addr × Obj) → Prop) : Prop :=
  ∀ (cn : Str) (cs : Scope) (a : Addr) (ccd : Value) (h₀ : Heap) (L : Addr) (m : Str → Option Value) (s : Shared) (Q E : Value → Shared → Prop),
    Below callerA h₀ [] h₀ → Fr h₀ L s.heap m → (hd.heap_39 w.params).In h₀ → News h₀ L s.heap news → TopA mean mg mb h₀ → cs.kind = .function →
    (∀ v news' h' tk', R v news' → Fr h₀ L h' m → News h₀ L h' news' → Q v { s with heap := h', toks := tk' }) →
    wpAny (model PySem.Challenge.rw_aw6008_01.row.prog w) (callerA.deeper (envOf cn cs L a ccd)) (call (.ref f) vs) Q E s
local macro_rules | `(tactic| kts_go) => `(tactic| (refine' code_defS0 ?k1 ?k2 ?k3 ?k4 ?k5 ?kA ?k6 ?k7 ?k8 ?k9 ?kB ?_ ?cK ?c2 ?c3 ?c4 ?c5; (case kA => exact rfl); (case k2 => k_asm); (case k1 => k_asm); (case k3 => k_asm); (case k4 => k_asm); (case k5 => k_asm); (case k6 => k_is); (case k7 => k_is); (case k8 => ((try simp only [depth_deeper, depth_caller]); decide)); (case k9 => first | exact binds_K (by k_in) rfl (by k_is) rfl rfl rfl | exact BindsTo.of_eq rfl | fail "kts_go: no rule for these arguments"); (case kB => exact locs rfl); (case cK => assumption); (case c2 => exact rfl); (case c3 => exact rfl); (case c4 => exact rfl); (case c5 => decide); k_whole; intro g' L' h' FG' F' N' B' X' T' D'; (try dsimp only); (try k_lift B'); (try k_fold)))
theorem printed_none (w : World) (mean : ExcName → Option Value) (mg mb : Str → Option Value) (rest : List (Addr × Obj)) (x : Str) (tx : Tok) (p0 : Str)
    (hx : x.length ≤ 1000) (c1 : Cuts code1 x.cps 1 0 false [p0]) :
    Spec0 w mean mg mb 315 [.str x tx] rest (fun v news' => news' = rest ∧ v = .none) := by
  unfold Spec0
  intro cn cs a ccd h₀ L m s Q E B F X N T hk hret
  obtain ⟨pT, lT, T⟩ := T
  refine wpAny_call ?_
  k_dflt kts_go
  k_steps
  apply Hold.out
  rename Fr _ _ _ _ => lF
  rename News _ _ _ _ => lN
  refine split_call lF lN (pat1_at (by k_asm) lF) (by omega) c1 (by simp) ?_
  intro D l h1 k1 e1 a1 F1 N1 lt1
  k_lt lt1
  clear lF lN
  obtain ⟨t0, l0, e2, e3⟩ := KSpl.cons_of e1
  have e8 := KSpl.nil_of e3
  subst e8 e2
  simp only [strValues, List.map_cons, List.map_nil] at N1 a1
  k_steps
  rename Fr _ _ _ _ => kF9
  rename News _ _ _ _ => kN9
  exact hret _ _ _ _ ⟨rfl, rfl⟩ kF9 (news_sub kN9 (by intro p9 hp9; repeat (first | exact hp9 | apply List.mem_cons_of_mem)))
theorem printed_two (w : World) (mean : ExcName → Option Value) (mg mb : Str → Option Value) (rest : List (Addr × Obj)) (x : Str) (tx : Tok) (p0 p1 p2 p3 p4 : Str)
    (hx : x.length ≤ 1000) (hx6 : 6 ≤ x.length) (c1 : Cuts code1 x.cps 1 0 false [p0, p1, p2, p3, p4]) :
    Spec0 w mean mg mb 315 [.str x tx] rest (fun v news' => news' = rest ∧ v = .none) := by
  unfold Spec0
  intro cn cs a ccd h₀ L m s Q E B F X N T hk hret
  obtain ⟨pT, lT, T⟩ := T
  refine wpAny_call ?_
  k_dflt kts_go
  k_steps
  apply Hold.out
  rename Fr _ _ _ _ => lF
  rename News _ _ _ _ => lN
  refine split_call lF lN (pat1_at (by k_asm) lF) (by omega) c1 (by simp; omega) ?_
  intro D l h1 k1 e1 a1 F1 N1 lt1
  k_lt lt1
  clear lF lN
  obtain ⟨t0, l0, e2, e3⟩ := KSpl.cons_of e1
  obtain ⟨t1, l1, e4, e5⟩ := KSpl.cons_of e3
  obtain ⟨t2, l2, e6, e7⟩ := KSpl.cons_of e5
  obtain ⟨t3, l3, e8, e9⟩ := KSpl.cons_of e7
  obtain ⟨t4, l4, e10, e11⟩ := KSpl.cons_of e9
  have e12 := KSpl.nil_of e11
  subst e12 e10 e8 e6 e4 e2
  simp only [strValues, List.map_cons, List.map_nil] at N1 a1
  k_steps
  rename Fr _ _ _ _ => kF9
  rename News _ _ _ _ => kN9
  exact hret _ _ _ _ ⟨rfl, rfl⟩ kF9 (news_sub kN9 (by intro p9 hp9; repeat (first | exact hp9 | apply List.mem_cons_of_mem)))
end Mine
end PC6b
section PGn
namespace Mine
theorem rst_Gn : (1 : Nat) = 1 := by
  w_top off
  first | walk1 | rfl
end Mine
open PySem PySem.W PyProof.Rows
set_option maxRecDepth 100000
set_option maxHeartbeats 4000000
namespace Mine
abbrev tabO (ps : Array Value) : Obj := { cls := .none, data := .fields ps }
theorem regrown_self {h : Heap} {P : Addr} (ps : Array Value) (hP : P < h.objs.size) : (regrown h P ps).get? P = some (tabO ps) := by
  obtain ⟨objs, l⟩ := h
  have hP' : P < objs.size := hP
  unfold regrown Heap.update Heap.get?
  dsimp only
  rw [Array.getElem?_modify, if_pos rfl, Array.getElem?_eq_getElem hP']
  rfl
theorem regrown_keep {h : Heap} {P : Addr} (ps : Array Value) (hn : h.get? P = none) {b : Addr} {o : Obj} (e : h.get? b = some o) : (regrown h P ps).get? b = some o := by
  have hb : b ≠ P := fun q => by rw [q, hn] at e; cases e
  exact (Heap.get?_update_other _ _ (Ne.symm hb)).trans e
theorem regrown_size (h : Heap) (P : Addr) (ps : Array Value) : (regrown h P ps).objs.size = h.objs.size := by
  obtain ⟨objs, l⟩ := h
  show (objs.modify P _).size = objs.size
  simp
/-- a code object of the base whose table stands in the ledger -/
structure CodeAt (h₀ : Heap) (c P : Addr) : Prop where
  ex : ∃ (o : Obj) (vs : Array Value) (file : Str) (tf : Tok) (flags : Int) (tg : Tok) (inF : Bool) (text : Int) (tt : Tok), h₀.get? c = some o ∧ o.cls = .type "code" ∧ o.data = .fields vs ∧ vs[11]? = some (.ref P) ∧ vs.getD 18 .none = .str file tf ∧ vs.getD 7 .none = .int flags tg ∧ vs.getD 9 .none = .bool inF ∧ vs.getD 10 .none = .int text tt
  ne : c ≠ P
  notStatics : P ≠ cStatics
theorem CodeAt.based {h₀ : Heap} {c P : Addr} (C : CodeAt h₀ c P) (hn : h₀.get? P = none) (hP : P < h₀.objs.size) {ps : Array Value} (ht : TriplesOk ps.toList) : Based (regrown h₀ P ps) (regrown h₀ P ps) c P ps := by
  obtain ⟨o, vs, file, tf, flags, tg, inF, text, tt, h1, h2, h3, h4, h5, h6, h7, h8⟩ := C.ex
  have hs := regrown_self (h := h₀) ps hP
  have hc := regrown_keep ps hn h1
  have h11 : vs.getD 11 .none = .ref P := by
    rw [Array.getD_eq_getD_getElem?, h4]
    rfl
  exact .start ⟨o, vs, file, tf, flags, tg, inF, text, tt, tabO ps, hc, h3, h11, h5, h6, h7, h8, hs, rfl, ht, C.ne⟩ ⟨⟨o, vs, hc, h2, h3, h4⟩, hs⟩ C.notStatics
section
variable {prog : Program} {w : World} {A : Around} {E : Value → Shared → Prop} {s : Shared} {h₀ : Heap} {c P L : Addr} {m mg : Str → Option Value} {bm : Addr} {ob : Obj}
/-- what a generator expression wants to know of its source, in a ledger -/
def GenSrcL (prog : Program) (w : World) (A : Around) (h₀ : Heap) (P L : Addr) (m : Str → Option Value) (env : Env) (elt : PySem.Expr) (x : Str) (scope : Scope) (cl : List (Str × Addr)) (pos : Pos) (ps : Array Value) (Q : Value → Shared → Prop) (xv : Value) (s₁ : Shared) : Prop :=
  ∃ (l : Addr) (items : Array Value) (news : List (Addr × Obj)) (F : Nat → Value → Prop), xv = .ref l ∧ s₁.heap.IsList l items ∧ Fr h₀ L s₁.heap m ∧ News h₀ L s₁.heap ((P, tabO ps) :: news) ∧ AllBare s₁.gens ∧ s₁.heap.NoLimit ∧ (∀ p ∈ news, p.1 ≠ P) ∧
    (∀ (c' C : Addr) (A' : Around) (E' : Value → Shared → Prop) (i : Nat) (v : Value) (t : Shared) (m₂ : Str → Option Value) (ps' : Array Value), A'.handled = none → A'.depth ≤ A.depth + 1 → A'.units ≤ A.units + 8 → items[i]? = some v → t.heap.Ns C m₂ → m₂ x = some v → L < C →
      Fr h₀ L t.heap m → News h₀ L t.heap ((P, tabO ps') :: news) → wpAny (model prog w) A' (eval elt (genEnv scope cl C (.ref c') builtinsNs env)) (fun y s₃ => F i y ∧ Keeps t s₃) E' t) ∧
    (∀ (s₅ : Shared) (a K : Addr) (ps' : Array Value), L ≤ K → (∀ p ∈ (P, tabO ps') :: news, p.1 ≤ K) → TriplesOk ps'.toList → (∃ c : Addr, ps' = ps ++ #[rawInt pos.line, rawInt pos.col, .ref c]) → Fr h₀ L s₅.heap m → News h₀ L s₅.heap ((P, tabO ps') :: news) → AllBare s₅.gens → s₅.os = s₁.os →
      Gen prog w A K a items.size (fun j y => ∃ i, (List.range items.size)[j]? = some i ∧ F i y) s₅ → Q (.ref a) s₅)
theorem passing_all (n : Nat) : passing (fun _ => true) n 0 = List.range n := by
  unfold passing
  rw [List.drop_zero]
  exact List.filter_eq_self.mpr fun _ _ => rfl
theorem gen_led {env : Env} {elt iter : PySem.Expr} {x : Str} {px : Pos} {scope : Scope} {cl : List (Str × Addr)} {pos : Pos} {ps : Array Value} {Q : Value → Shared → Prop}
    (_F₀ : Fr h₀ L s.heap m) (C : CodeAt h₀ c P) (hP0 : h₀.get? P = none) (hPl : P < h₀.objs.size) (M : BMod h₀ env.globals mg bm ob) (hcode : env.code = .ref c) (hnf : codeAmong pos ps.toList = none) (htr : TriplesOk ps.toList)
    (hh : A.handled = none) (hco : scope.isCoroutine = false) (hclos : closureFor scope env = pure cl) (hcell : ∀ y ∈ scope.names, y.2 ≠ .cell) (h0 : scope.names.lookup (".0" : Str) = some NameKind.local)
    (hx : scope.names.lookup x = some .local) (hkind : scope.kind = .function) (hroom : A.depth < recursionLimit)
    (h : wpAny (model prog w) A (eval iter env) (GenSrcL prog w A h₀ P L m env elt x scope cl pos ps Q) E s)
    (hs : ∀ x, genFold iter env x = pure x) :
    wpAny (model prog w) A (eval (.GeneratorExp elt [⟨.Name x px, iter, [], 0⟩] scope pos) env) Q E s := by
  have B := C.based hP0 hPl htr
  have M' : BMod (regrown h₀ P ps) env.globals mg bm ob := ⟨M.ns.keeps fun _ _ e => regrown_keep ps hP0 e, M.name, M.ne, regrown_keep ps hP0 M.obj, M.cls, M.dict, M.data⟩
  refine GeneratorExp_list_rowsF (L := L) (m := m) B M' hcode hnf hh hco hclos hcell h0 hx hkind hroom (wpAny_mono h (fun xv s₁ h₁ => ?_) fun _ _ e => e) hs
  obtain ⟨l, items, news, F, rfl, hl, F₁, N₁, G₁, hlim, hnP, hel, hQ⟩ := h₁
  have hPe : s₁.heap.get? P = some (tabO ps) := (N₁ _ (.head _)).1
  have hLP : P ≠ L := (N₁ _ (.head _)).2.1
  have FB : Fr (regrown h₀ P ps) L s₁.heap m := ⟨F₁.ns, fun b o e => by
    by_cases hb : b = P
    · subst hb
      rw [regrown_self ps hPl] at e
      cases e
      exact hPe
    · rw [show (regrown h₀ P ps).get? b = h₀.get? b from Heap.get?_update_other _ _ (Ne.symm hb)] at e
      exact F₁.keep b o e, by rw [regrown_size]; exact F₁.above⟩
  have hLlt : L < s₁.heap.objs.size := F₁.ns.lt
  -- what stands in a later heap
  have carry : ∀ (t : Heap) (ps' : Array Value), (∀ b o, b ≠ P → s₁.heap.get? b = some o → t.get? b = some o) → t.get? P = some (tabO ps') → Fr h₀ L t m ∧ News h₀ L t ((P, tabO ps') :: news) := fun t ps' hk hp =>
    ⟨⟨F₁.ns.at' fun o e => hk L o (Ne.symm hLP) e, fun b o e => hk b o (fun q => by rw [q, hP0] at e; cases e) (F₁.keep b o e), F₁.above⟩, fun p hm => by
      rcases List.mem_cons.mp hm with q | q
      · subst q
        exact ⟨hp, hLP, hP0⟩
      · have z := N₁ p (.tail _ q)
        exact ⟨hk _ _ (hnP p q) z.1, z.2⟩⟩
  refine ⟨l, items, rfl, hl, FB, G₁, hlim, s₁.heap.objs.size - 1, fun _ => true, F, Nat.le_sub_one_of_lt hLlt, Nat.sub_lt (Nat.lt_of_le_of_lt (Nat.zero_le _) hLlt) Nat.one_pos, ?_, ?_, ?_⟩
  · intro c' C A' E' i v t m₂ _ _ _ _ _ _ _ _
    rw [List.forIn_nil]
    exact wpAny_pure ⟨rfl, ⟨t.heap, t.toks, rfl, fun _ _ e => e⟩⟩
  · intro c' C A' E' i v t m₂ hh' hd hu hi _ hF hm hLC hk
    have hp : t.heap.get? P = some (tabO (ps ++ #[rawInt pos.line, rawInt pos.col, .ref c'])) := hF.keep P _ (regrown_self _ (by rw [regrown_size]; exact hPl))
    obtain ⟨Ft, Nt⟩ := carry t.heap _ hk hp
    exact hel c' C A' E' i v t m₂ _ hh' hd hu hi hF.ns hm hLC Ft Nt
  · intro c' a s₅ B' F' G' hos hk X
    have hp : s₅.heap.get? P = some (tabO (ps ++ #[rawInt pos.line, rawInt pos.col, .ref c'])) := F'.keep P _ (regrown_self _ (by rw [regrown_size]; exact hPl))
    obtain ⟨Ft, Nt⟩ := carry s₅.heap _ hk hp
    rw [passing_all, List.length_range] at X
    have low : ∀ p ∈ (P, tabO (ps ++ #[rawInt pos.line, rawInt pos.col, .ref c'])) :: news, p.1 ≤ s₁.heap.objs.size - 1 := fun p hp => by
      have : p.1 < s₁.heap.objs.size := by
        rcases List.mem_cons.mp hp with q | q
        · subst q; exact Heap.lt_size hPe
        · exact Heap.lt_size (N₁ p (.tail _ q)).1
      exact Nat.le_sub_one_of_lt this
    refine hQ s₅ a _ _ (Nat.le_sub_one_of_lt hLlt) low ?_ ⟨c', rfl⟩ Ft Nt G' hos X
    have : (ps ++ #[rawInt pos.line, rawInt pos.col, Value.ref c']).toList = ps.toList ++ [rawInt pos.line, rawInt pos.col, .ref c'] := by simp
    rw [this]
    exact TriplesOk_snoc _ _ _ _ htr
/-- str.join over such a generator -/
theorem join_led {sep : Str} {t : Tok} {a K : Addr} {n : Nat} {F : Nat → Value → Prop} {news : List (Addr × Obj)} {Q : Value → Shared → Prop} (Fh : Fr h₀ L s.heap m) (N : News h₀ L s.heap news) (G : AllBare s.gens) (X : Gen prog w A K a n F s) (hLK : L ≤ K) (hK : ∀ p ∈ news, p.1 ≤ K) (tx : Nat → Str) (htx : ∀ j v, F j v → ∃ u, v = .str (tx j) u)
    (hok : JoinOk sep ((List.range n).map tx) = true)
    (hQ : ∀ s' t', Fr h₀ L s'.heap m → News h₀ L s'.heap news → AllBare s'.gens → s'.os = s.os → Q (.str (Txt.join sep ((List.range n).map tx)) t') s')
    (hsz : n ≤ sizeLine) : wpAny (model prog w) A (call (.builtin "str.join") [.str sep t, .ref a]) Q E s :=
  join_rowsK Fh G X hLK tx htx hok (fun s' t' F' G' hos hk => hQ s' t' F' (fun p hp => ⟨hk _ _ (hK p hp) (N p hp).1, (N p hp).2⟩) G' hos) hsz
/-- any over such a generator -/
theorem any_led {a K : Addr} {n : Nat} {F : Nat → Value → Prop} {news : List (Addr × Obj)} {Q : Value → Shared → Prop} (Fh : Fr h₀ L s.heap m) (N : News h₀ L s.heap news) (G : AllBare s.gens) (X : Gen prog w A K a n F s) (hLK : L ≤ K) (hK : ∀ p ∈ news, p.1 ≤ K) (tr : Nat → Bool) (htr : TruthOf prog w A.in1 F tr)
    (hQ : ∀ s', Fr h₀ L s'.heap m → News h₀ L s'.heap news → AllBare s'.gens → s'.os = s.os → Q (.bool ((List.range n).any tr)) s') : wpAny (model prog w) A (call (.builtin "any") [.ref a]) Q E s :=
  any_rowsK Fh G X hLK tr htr fun s' F' G' hos hk => hQ s' F' (fun p hp => ⟨hk _ _ (hK p hp) (N p hp).1, (N p hp).2⟩) G' hos
end
end Mine
end PGn
section PC7
namespace Mine
theorem rst_C7 : (1 : Nat) = 1 := by
  w_top off
  first | walk1 | rfl
end Mine
open PySem PySem.W PyProof.Rows
set_option maxRecDepth 100000
set_option maxHeartbeats 0
namespace Mine
local macro_rules | `(tactic| k_all) => `(tactic| first | with_reducible assumption | exact bnd_ne (by omega))
local macro_rules | `(tactic| k_room) => `(tactic| ktr_room)
local macro_rules | `(tactic| k_lt $h:ident) => `(tactic| (replace $h := allLt_of $h; (try simp only [AllLt, and_true] at $h:ident); (try simp only [allLt_bnd] at $h:ident)))
local macro_rules | `(tactic| cell_enter) => `(tactic| (refine' code_defC ?k1 ?k2 ?k3 ?k4 ?k5 ?kA ?kF ?kK ?k6 ?k7 ?k8 ?k9 ?kB ?kD ?_ ?c2 ?c3 ?c4; (case kA => exact rfl); (case kF => exact rfl); (case kK => assumption); (case k1 => k_asm); (case k2 => k_asm); (case k3 => k_asm); (case k4 => k_asm); (case k5 => k_asm); (case k6 => k_is); (case k7 => k_is); (case k8 => ktr_room); (case k9 => first | exact BindsTo.of_eq rfl | exact binds_K (by k_in) rfl (by k_is) rfl rfl rfl); (case kB => exact rfl); (case kD => decide +kernel); (case c2 => exact rfl); (case c3 => exact rfl); (case c4 => exact rfl); k_whole; intro g' L' h' tk' cells' FG' F' N' Y' B' X' T' l1; (try k_lt l1); k_cells Y'; (try simp only [List.cons_append, List.nil_append] at N'); (try dsimp only); (try k_lift B'); (try k_fold)))
local macro_rules | `(tactic| walk_at "call builtin:str.split") => `(tactic| ((with_reducible show wpAny _ _ (call (Value.builtin "str.split") [Value.str _ _]) _ _ _); refine Hold.mk ?_))
theorem slice_tail (l : List (Str × Tok)) : (slicePick (strValues l).toArray (some 1) none none).toList = strValues (l.drop 1) := by
  have := slicePick_from' (strValues l).toArray 1
  rw [show (some (1 : Int)) = some ((1 : Nat) : Int) from rfl, this]
  simp [strValues]
local macro_rules | `(tactic| walk_at "subscriptTail Name Slice ref ref") => `(tactic| (k_here; (with_reducible show wpAny _ _ (subscriptTail _ (PySem.Expr.Slice _ none none _) (Value.ref _) (Value.ref _)) _ _ _); k_dflt (refine' kmk_slice_lit ?F ?N ?l ?p ?q (slice_tail _) ?_ ?s ?t ?z; (case F => k_asm); (case N => k_asm); (case l => exact News.isList (by k_asm) (by k_mem)); (case p => kmk_part); (case q => kmk_part); (case s => with_unfolding_all rfl); (case t => kmk_pure); (case z => (rw [List.size_toArray, sizeLine_eq]; simp only [strValues, List.length_map, List.length_drop]; omega))); intro D' h' F' N' l1; (try k_lt l1); (try k_sweep)))
/-- the contract of a call that makes generators: any state behind it -/
def SpecG (z : Nat) (w : World) (mean : ExcName → Option Value) (mg mb : Str → Option Value) (f : Addr) (vs : List Value) (news : List (Addr × Obj)) (R : Value → List (Addr × Obj) → Prop) : Prop :=
  ∀ (dp un : Nat) (gd : Option (List Code)) (cn : Str) (cs : Scope) (a : Addr) (ccd : Value) (cl : List (Str × Addr)) (outer : List Env) (A₀ : Around) (base h₀ : Heap) (L : Addr) (m : Str → Option Value) (s : Shared)
    (Q E : Value → Shared → Prop),
    Below A₀ base outer h₀ → Fr h₀ L s.heap m → (hd.heap_39 w.params).In h₀ → News h₀ L s.heap news → TopA mean mg mb h₀ → cs.kind = .function → dp + z < recursionLimit → un + 8 * z < cLine → AllBare s.gens →
    (∀ v news' s', R v news' → Fr h₀ L s'.heap m → News h₀ L s'.heap news' → AllBare s'.gens → s'.os = s.os → Q v s') →
    wpAny (model PySem.Challenge.rw_aw6008_01.row.prog w) (ktrTop dp un gd cn cs L a ccd cl outer) (call (.ref f) vs) Q E s
theorem code265 {w : World} {h : Heap} (X : (hd.heap_39 w.params).In h) : CodeAt h 265 261 := ⟨⟨_, _, _, _, _, _, _, _, _, X 265 _ (by k_is), rfl, rfl, rfl, rfl, rfl, rfl, rfl⟩, by decide, by decide⟩
local macro_rules | `(tactic| walk_at "eval GeneratorExp") => `(tactic| ((with_reducible show wpAny _ _ (eval (Expr.GeneratorExp _ _ _ _) _) _ _ _); refine Hold.mk ?_))
local macro_rules | `(tactic| walk_at "call builtin:str.join") => `(tactic| ((with_reducible show wpAny _ _ (call (Value.builtin "str.join") [Value.str _ _, Value.ref _]) _ _ _); refine Hold.mk ?_))
inductive Pull1 (B : Addr × Obj) : List (Addr × Obj) → List (Addr × Obj) → Prop where
  | here {rest} : Pull1 B (B :: rest) rest
  | there {x news rest} : Pull1 B news rest → Pull1 B (x :: news) (x :: rest)
theorem Pull1.sub {B : Addr × Obj} {news rest : List (Addr × Obj)} (h : Pull1 B news rest) : ∀ p ∈ B :: rest, p ∈ news := by
  induction h with
  | here => exact fun p hp => hp
  | there _ ih =>
    intro p hp
    rcases List.mem_cons.mp hp with e | hp
    · exact .tail _ (ih p (e ▸ .head _))
    · rcases List.mem_cons.mp hp with e | hp
      · exact e ▸ .head _
      · exact .tail _ (ih p (.tail _ hp))
theorem Pull1.news {B : Addr × Obj} {news rest : List (Addr × Obj)} (h : Pull1 B news rest) {h₀ hp : Heap} {L : Addr} (N : News h₀ L hp news) : News h₀ L hp (B :: rest) := fun p hp => N p (h.sub p hp)
section
variable {prog : Program} {w : World} {A : Around} {E : Value → Shared → Prop} {s : Shared}
theorem ld_gen {x : Str} {pos : Pos} {scope : Scope} {cl : List (Str × Addr)} {C bi : Addr} {code : Value} {env : Env} {m : Str → Option Value} {v : Value} {Q : Value → Shared → Prop} (hk : (genEnv scope cl C code bi env).scope.kind = .function) (hl : (genEnv scope cl C code bi env).kindOf x = some .local) (hn : s.heap.Ns C m) (hv : m x = some v) (h : Q v s)
    (hd : (x == ("__debug__" : Str)) = false := by decide) : wpAny (model prog w) A (eval (.Name x pos) (genEnv scope cl C code bi env)) Q E s := wpAny_Name (wpAny_loadName_local hk hl hn hv h) hd
theorem ld_genFree {x : Str} {pos : Pos} {scope : Scope} {cl : List (Str × Addr)} {C bi c : Addr} {code : Value} {env : Env} {v : Value} {Q : Value → Shared → Prop} (hk : (genEnv scope cl C code bi env).scope.kind = .function) (hl : (genEnv scope cl C code bi env).kindOf x = some .free) (hc : cl.lookup x = some c) (hv : s.heap.IsCell c (some v)) (h : Q v s)
    (hd : (x == ("__debug__" : Str)) = false := by decide) (hn : (x == ("__classdict__" : Str)) = false := by decide) : wpAny (model prog w) A (eval (.Name x pos) (genEnv scope cl C code bi env)) Q E s := wpAny_Name (wpAny_loadName_free hk hl hc hv h hn) hd
theorem item0 {value slice : PySem.Expr} {l : Addr} {v0 : Value} {vs : List Value} {u : Tok} {Q : Value → Shared → Prop} (hl : s.heap.IsList l (v0 :: vs).toArray) (h : Q v0 s)
    (hs : subscripted slice false (.ref l) (.int 0 u) = operate [.ref l, .int 0 u] (getItem (.ref l) (.int 0 u)) := by with_unfolding_all rfl) :
    wpAny (model prog w) A (subscriptTail value slice (.ref l) (.int 0 u)) Q E s :=
  tail_any hl.typeIs slot_list_getitem.lookup (wpAny_getItem_list hl (by decide) (by decide) (x := v0) (by simp) h) hs
end
local macro_rules | `(tactic| walk_at "eval Name") => `(tactic| ((with_reducible show wpAny _ _ (eval (Expr.Name (Str.ofString "s") _) (genEnv _ _ _ _ _ _)) _ _ _); refine ld_gen (by rfl) (by rfl) (by assumption) (by assumption) ?_))
local macro_rules | `(tactic| walk_at "eval Name") => `(tactic| ((with_reducible show wpAny _ _ (eval (Expr.Name (Str.ofString "pu") _) (genEnv _ _ _ _ _ _)) _ _ _); refine ld_genFree (by rfl) (by rfl) (by rfl) (by assumption) ?_))
local macro_rules | `(tactic| walk_at "subscriptTail") => `(tactic| ((with_reducible show wpAny _ _ (subscriptTail _ _ (Value.ref _) (Value.int 0 _)) _ _ _); refine item0 (by assumption) ?_))
theorem range_getD2 (l : List Str) : (List.range l.length).map (fun j => l.getD j Str.empty) = l := by
  apply List.ext_getElem?
  intro j
  rw [List.getElem?_map]
  by_cases h : j < l.length
  · rw [List.getElem?_range h, List.getElem?_eq_getElem h]
    simp [List.getD_eq_getElem?_getD, h]
  · rw [List.getElem?_eq_none (by simpa using h), List.getElem?_eq_none (by simpa using h)]
    rfl
abbrev barOf (p : Str) (s : Str) : Str := if (s == p) = true then Str.ofString ") | (" else s
theorem bar_sum (p : Str) : ∀ ws : List Str, ((ws.map (barOf p)).map (·.length)).sum ≤ (ws.map (·.length)).sum + 5 * ws.length
  | [] => Nat.le_refl _
  | w :: r => by
    have ih := bar_sum p r
    have h5 : (Str.ofString ") | (").length = 5 := by decide +kernel
    have hw : (barOf p w).length ≤ w.length + 5 := by
      unfold barOf
      split
      · rw [h5]; omega
      · omega
    simp only [List.map_cons, List.sum_cons, List.length_cons]
    omega
theorem bar_facts {x w0 p : Str} {ws : List Str} (hx : x.length ≤ 1000) (hw : Txt.words x = w0 :: p :: ws) : JoinOk (Str.ofString " ") (ws.map (barOf p)) = true ∧ (Txt.join (Str.ofString " ") (ws.map (barOf p))).length ≤ 10000 := by
  have h1 := StrLaws.words_weight x
  rw [hw] at h1
  simp only [List.map_cons, List.sum_cons, List.length_cons] at h1
  have h2 := bar_sum p ws
  have h3 : (Str.ofString " ").length = 1 := by decide +kernel
  have h4 : (ws.map (barOf p)).length = ws.length := List.length_map _
  constructor
  · unfold JoinOk
    rw [joinFits_of_weight (by omega) (by rw [h3]; decide)]
    rfl
  · have h5 := StrLaws.join_length_le (Str.ofString " ") (ws.map (barOf p))
    have e : Txt.join (Str.ofString " ") (ws.map (barOf p)) = Str.join (Str.ofString " ") (ws.map (barOf p)) := StrLaws.glued_eq_join _ _
    rw [h3, Nat.mul_one] at h5
    rw [e]
    omega
local macro_rules | `(tactic| walk_at "binaryOp Add str str") => `(tactic| (k_here; (with_reducible show wpAny _ _ (binaryOp Operator.Add (Value.str _ _) (Value.str _ _)) _ _ _); (refine KOpn.add (by kopn_len) ?_); intro _ _ _))
theorem formal_elt {prog : Program} {w : World} {A : Around} {E : Value → Shared → Prop} {t : Shared} {C cell D bi : Addr} {code : Value} {env : Env} {scope : Scope} {m : Str → Option Value} {y p : Str} {u t1 : Tok} {vs : List Value} {p1 p2 p3 p4 p5 p6 p7 p8 : Pos} {k1 k2 : Nat}
    (hk : (genEnv scope [(Str.ofString "pu", cell)] C code bi env).scope.kind = .function) (hl1 : (genEnv scope [(Str.ofString "pu", cell)] C code bi env).kindOf (Str.ofString "s") = some .local) (hl2 : (genEnv scope [(Str.ofString "pu", cell)] C code bi env).kindOf (Str.ofString "pu") = some .free)
    (hns : t.heap.Ns C m) (hm : m (Str.ofString "s") = some (.str y u)) (hc : t.heap.IsCell cell (some (.ref D))) (hpu : t.heap.IsList D (Value.str p t1 :: vs).toArray) :
    wpAny (model prog w) A (eval (.IfExp (.Compare (.Name (Str.ofString "s") p1) [.Eq] [.Subscript (.Name (Str.ofString "pu") p2) (.Constant (.int 0) k1 p3) p4] p5) (.Constant (.str (Str.ofString ") | (")) k2 p6) (.Name (Str.ofString "s") p7) p8) (genEnv scope [(Str.ofString "pu", cell)] C code bi env))
      (fun r s₃ => (∃ t, r = .str (if (y == p) = true then Str.ofString ") | (" else y) t) ∧ Keeps t s₃) E t := by
  have hl : ∀ {pos : Pos} {Q : Value → Shared → Prop} {s : Shared}, s.heap = t.heap → Q (.str y u) s → wpAny (model prog w) A (eval (.Name (Str.ofString "s") pos) (genEnv scope [(Str.ofString "pu", cell)] C code bi env)) Q E s := fun e h => ld_gen hk hl1 (e ▸ hns) hm h
  walk1
  walk1
  refine hl rfl ?_
  iterate 8 (try (first | (refine ld_genFree hk hl2 (by rfl) hc ?_) | (refine item0 hpu ?_) | walk1))
  · exact ⟨⟨_, by rw [if_pos (by assumption)]⟩, ⟨_, _, rfl, fun _ _ e => e⟩⟩
  · refine hl rfl ⟨⟨_, by first | rw [if_neg (ne_true_of_eq_false (by assumption))] | rw [if_neg (by assumption)]⟩, ⟨_, _, rfl, fun _ _ e => e⟩⟩
theorem formal_spec (w : World) (mean : ExcName → Option Value) (mg mb : Str → Option Value) (rest : List (Addr × Obj)) (x : Str) (tx : Tok) (w0 p : Str) (ws : List Str)
    (hx : x.length ≤ 1000) (hw : Txt.words x = w0 :: p :: ws) (hr261 : ∀ p ∈ rest, p.1 ≠ 261) :
    SpecG 60 w mean mg mb 266 [.str x tx] ((261, tabO #[]) :: rest) (fun v news' => ∃ ps t, TriplesOk ps.toList ∧ news' = (261, tabO ps) :: rest ∧ v = .str (Str.ofString "( " ++ Txt.join (Str.ofString " ") (ws.map fun s => if (s == p) = true then Str.ofString ") | (" else s) ++ Str.ofString " )") t) := by
  unfold SpecG
  intro dp un gd cn cs a ccd cl outer A₀ base h₀ L m s Q E B F X N T hk hd hu hG hret
  obtain ⟨pT, lT, T⟩ := T
  refine wpAny_call ?_
  k_dflt cell_enter
  k_steps
  apply Hold.out
  rename Fr _ _ _ _ => lF
  rename News _ _ _ _ => lN
  refine KSpl.split0 lF lN ?_ (by rw [sizeLine_eq]; omega)
  intro D l h1 k1 eW aW F1 N1 l1
  k_lt l1
  clear lF lN
  have hll : l.length ≤ 1001 := by
    have h8 := fact_words x
    have h9 : l.length = (Txt.words x).length := by rw [← eW, List.length_map]
    omega
  k_steps
  apply Hold.out
  rename Fr _ _ _ _ => lF
  rename News _ _ _ _ => lN
  rename Top _ _ _ _ _ _ => lT9
  rename Frag.In _ _ => lX
  obtain ⟨bm, ob, M⟩ := bmod_of_top lT9
  have hP0 := (lN (261, tabO #[]) (by k_mem)).2.2
  have hPl := Nat.lt_trans (show 261 < 265 by decide) (Heap.lt_size (lX 265 _ (by k_is)))
  k_dflt (refine gen_led (ps := #[]) lF (code265 lX) hP0 hPl M (by rfl) (by rfl) trivial (by rfl) (by rfl) (by rfl) (by decide) (by rfl) (by rfl) (by rfl) (by ktr_room) ?_ (by intro _; rfl))
  k_steps
  rename Obj.data _ = Data.cell (some (Value.ref _)) => cd9
  rename Fr _ _ _ _ => lF9
  rename News _ _ _ _ => lN9
  rw [hw] at eW
  obtain ⟨t0, l0, e2, e3⟩ := KSpl.cons_of eW
  obtain ⟨t1, l1', e4, e5⟩ := KSpl.cons_of e3
  subst e4 e2
  simp only [List.drop_succ_cons, List.drop_zero] at lN9 ⊢
  have lN8 := Pull1.news (B := (261, tabO #[])) (by repeat (first | exact Pull1.here | apply Pull1.there)) lN9
  refine ⟨_, (strValues l1').toArray, _, fun i y => ∃ t, y = .str (((ws.map fun s => if (s == p) = true then Str.ofString ") | (" else s)).getD i Str.empty) t, rfl, News.isList lN8 (by k_mem), lF9, lN8, hG, lT9.nolimit.keeps lF9.keep, ?_, ?_, ?_⟩
  · have hL9 : @LT.lt Nat _ 261 _ := Nat.lt_of_lt_of_le hPl lF9.above
    intro q hq
    simp only [List.mem_cons] at hq
    rcases hq with e | e | e | e | e
    · subst e; show @Ne Nat _ _; omega
    · subst e; show @Ne Nat _ _; omega
    · subst e; show @Ne Nat _ _; omega
    · subst e; show @Ne Nat _ _; omega
    · exact hr261 q e
  · intro c' C A' E' i v t m₂ ps' hh' hd' hu' hv hns hm hLC Ft Nt
    clear lF9 lN9 lN8
    have hcell : t.heap.IsCell _ (some _) := ⟨_, (Nt _ (.tail _ (.tail _ (.tail _ (.tail _ (.head _)))))).1, cd9⟩
    have hpu : t.heap.IsList _ (Value.str p t1 :: strValues l1').toArray := News.isList Nt (.tail _ (.tail _ (.head _)))
    have hlt : i < l1'.length := by
      have := (Array.getElem?_eq_some_iff.mp hv).1
      simpa [strValues] using this
    have hvx : v = .str l1'[i].1 l1'[i].2 := by
      have e : (strValues l1').toArray[i]? = some (.str l1'[i].1 l1'[i].2) := by simp [strValues, hlt]
      rw [e] at hv
      exact (Option.some.inj hv).symm
    subst hvx
    have hws : ws[i]? = some l1'[i].1 := by rw [← e5, List.getElem?_map, List.getElem?_eq_getElem hlt]; rfl
    have hel : ((ws.map fun s => if (s == p) = true then Str.ofString ") | (" else s).getD i Str.empty) = if (l1'[i].1 == p) = true then Str.ofString ") | (" else l1'[i].1 := by
      rw [List.getD_eq_getElem?_getD, List.getElem?_map, hws]
      rfl
    refine wpAny_mono (Q := fun y s₃ => (∃ t, y = Value.str (if (l1'[i].1 == p) = true then Str.ofString ") | (" else l1'[i].1) t) ∧ Keeps t s₃) ?_ (fun y s₃ q => ⟨by obtain ⟨⟨t, e⟩, _⟩ := q; exact ⟨t, by rw [e, hel]⟩, q.2⟩) (fun _ _ e => e)
    exact formal_elt (by rfl) (by rfl) (by rfl) hns hm hcell hpu
  · intro s₅ a K ps' hLK hK htr _ F5 N5 G5 hos X
    clear lF9 lN9 lN8
    k_steps
    apply Hold.out
    have hsz : (strValues l1').toArray.size = ws.length := by rw [List.size_toArray, ← e5]; simp [strValues]
    rw [hsz] at X
    have hwl : ws.length ≤ 1001 := by rw [← e5, List.length_map]; simp at hll; omega
    refine join_led F5 N5 G5 X hLK hK (fun j => (ws.map fun s => if (s == p) = true then Str.ofString ") | (" else s).getD j Str.empty) ?_ ?_ ?_ (by rw [sizeLine_eq]; omega)
    · rintro j v ⟨i, hi, t, rfl⟩
      have : i = j := by
        by_cases hj : j < ws.length
        · rw [List.getElem?_range hj] at hi; exact (Option.some.inj hi).symm
        · rw [List.getElem?_eq_none (by simpa using hj)] at hi; cases hi
      subst this
      exact ⟨t, rfl⟩
    · have e9 := range_getD2 (ws.map (barOf p))
      rw [List.length_map] at e9
      exact (congrArg (JoinOk (Str.ofString " ")) e9).trans (bar_facts hx hw).1
    · intro s' t' F6 N6 G6 hos6
      clear F5 N5
      have e9 := range_getD2 (ws.map (barOf p))
      rw [List.length_map] at e9
      have e8 : (List.range ws.length).map (fun j => (ws.map fun s => if (s == p) = true then Str.ofString ") | (" else s).getD j Str.empty) = ws.map (barOf p) := e9
      rw [e8]
      have hJ := (bar_facts hx hw).2
      generalize hJe : Txt.join (Str.ofString " ") (ws.map (barOf p)) = J at hJ ⊢
      k_steps
      subst hJe
      rename Fr _ _ _ _ => kF9
      rename News _ _ _ _ => kN9
      refine hret _ _ _ ⟨ps', _, htr, rfl, rfl⟩ kF9 (news_sub kN9 ?_) G6 (hos6.trans hos)
      intro p9 hp9
      rcases List.mem_cons.mp hp9 with e | hp9
      · exact e ▸ List.mem_cons_self
      · repeat (first | exact hp9 | apply List.mem_cons_of_mem)
end Mine
end PC7
section PC8
namespace Mine
theorem rst_C8 : (1 : Nat) = 1 := by
  w_top off
  first | walk1 | rfl
end Mine
open PySem PySem.W PyProof.Rows
set_option maxRecDepth 100000
set_option maxHeartbeats 0
namespace Mine
local macro_rules | `(tactic| k_all) => `(tactic| first | with_reducible assumption | exact bnd_ne (by omega))
local macro_rules | `(tactic| k_room) => `(tactic| ktr_room)
local macro_rules | `(tactic| k_lt $h:ident) => `(tactic| (replace $h := allLt_of $h; (try simp only [AllLt, and_true] at $h:ident); (try simp only [allLt_bnd] at $h:ident)))
/-- Option.name's getter, wherever it is called -/
theorem getter_spec {w : World} {A : Around} {mean : ExcName → Option Value} {mg mb : Str → Option Value} {h₀ : Heap} {L : Addr} {m : Str → Option Value} {s : Shared} {news : List (Addr × Obj)} {o dx : Addr} {n : Nat} {t1 t2 t3 t4 : Tok} {a l c v : Value} {Q E : Value → Shared → Prop}
    (hA : A.depth + 20 < recursionLimit) (F : Fr h₀ L s.heap m) (X : (hd.heap_39 w.params).In h₀) (T : TopA mean mg mb h₀) (N : News h₀ L s.heap news) (ho : (o, instObj 250 dx) ∈ news) (hdx : (dx, dictOf (optEnts w t1 t2 t3 t4 a l c v) n) ∈ news)
    (hl : (∃ x t, l = .str x t ∧ x.length ≠ 0 ∧ x.length ≤ 1000) ∨ l = .none) (ha : (∃ x t, a = .str x t) ∨ a = .none)
    (hret : ∀ h' tk, (∀ b o, s.heap.get? b = some o → h'.get? b = some o) → Q (if l = .none then a else l) { s with heap := h', toks := tk }) :
    codeAny (model PySem.Challenge.rw_aw6008_01.row.prog w) A (.call (.ref 239) ⟨[.ref o], []⟩) (fun r s' => match r with | .ok (.ret v) => Q v s' | .ok _ => False | .error e => E e s') s := by
  obtain ⟨pT, lT, T⟩ := T
  have X' := X.keeps F.keep
  refine codeAny_call_def (by omega) (X' 239 _ (by k_is)) rfl (T.nolimit.keeps F.keep) (codeRec_of X' (by k_is)) rfl (BindsTo.of_eq rfl) (by decide) (locs rfl) ?_
  intro g hns hk
  have zo := N _ ho
  have zd := N _ hdx
  have hoff : ∀ b q, h₀.get? b = some q → b ∉ [o, dx] := fun b q e hm => by
    rcases List.mem_cons.mp hm with h | hm
    · rw [h, zo.2.2] at e; cases e
    · rw [List.mem_singleton.mp hm, zd.2.2] at e; cases e
  have st : ∀ b q, h₀.get? b = some q → (hideAll s.heap [o, dx]).get? b = some q := fun b q e => hideAll_get _ (F.keep b q e) (hoff b q e)
  have XG := X.keeps st
  have TG := T.keeps st
  have FG : Fr (hideAll s.heap [o, dx]) s.heap.objs.size g _ := ⟨hns, fun b q e => hk b q (of_hideAll _ e), Nat.le_of_eq (hideAll_size _ _)⟩
  have NG : News (hideAll s.heap [o, dx]) s.heap.objs.size g [(o, instObj 250 dx), (dx, dictOf (optEnts w t1 t2 t3 t4 a l c v) n)] := fun p hp => by
    rcases List.mem_cons.mp hp with e | hp
    · subst e; exact ⟨hk _ _ zo.1, Nat.ne_of_lt (Heap.lt_size zo.1), hideAll_none _ (.head _)⟩
    · rw [List.mem_singleton.mp hp]; exact ⟨hk _ _ zd.1, Nat.ne_of_lt (Heap.lt_size zd.1), hideAll_none _ (.tail _ (.head _))⟩
  clear F X T N ho hdx X' st hoff zo zd
  show wpAny _ (A.deeper (envOf _ _ _ _ _)) (execs _ (envOf _ _ _ _ _)) _ _ _
  rcases hl with ⟨x, t, rfl, hx, hx2⟩ | rfl
  · rw [if_neg (by simp)] at hret
    iterate 7 (try walk1)
    refine P.truthy_str (by omega) ?_
    have hx' : ((x.length : Int) != 0) = true := by simpa using hx
    rw [hx']
    k_steps
    all_goals exact hret _ _ hk
  · rw [if_pos rfl] at hret
    rcases ha with ⟨y, ty, rfl⟩ | rfl
    all_goals k_steps
    all_goals exact hret _ _ hk
end Mine
end PC8
section PC9
namespace Mine
theorem rst_C9 : (1 : Nat) = 1 := by
  w_top off
  first | walk1 | rfl
end Mine
open PySem PySem.W PyProof.Rows
set_option maxRecDepth 100000
set_option maxHeartbeats 0
namespace Mine
local macro_rules | `(tactic| k_all) => `(tactic| first | with_reducible assumption | exact bnd_ne (by omega))
local macro_rules | `(tactic| k_room) => `(tactic| ktr_room)
local macro_rules | `(tactic| k_lt $h:ident) => `(tactic| (replace $h := allLt_of $h; (try simp only [AllLt, and_true] at $h:ident); (try simp only [allLt_bnd] at $h:ident)))
/-- the attribute `name` of an Option, wherever it is read -/
theorem name_attr {w : World} {A : Around} {mean : ExcName → Option Value} {mg mb : Str → Option Value} {h₀ : Heap} {L : Addr} {m : Str → Option Value} {s : Shared} {news : List (Addr × Obj)} {o dx : Addr} {n : Nat} {t1 t2 t3 t4 : Tok} {a l c v : Value} {Q E : Value → Shared → Prop}
    (hA : A.depth + 30 < recursionLimit) (F : Fr h₀ L s.heap m) (X : (hd.heap_39 w.params).In h₀) (T : TopA mean mg mb h₀) (N : News h₀ L s.heap news) (ho : (o, instObj 250 dx) ∈ news) (hdx : (dx, dictOf (optEnts w t1 t2 t3 t4 a l c v) n) ∈ news)
    (hl : (∃ x t, l = .str x t ∧ x.length ≠ 0 ∧ x.length ≤ 1000) ∨ l = .none) (ha : (∃ x t, a = .str x t) ∨ a = .none)
    (hret : ∀ h' tk, (∀ b o, s.heap.get? b = some o → h'.get? b = some o) → Q (if l = .none then a else l) { s with heap := h', toks := tk }) :
    wpAny (model PySem.Challenge.rw_aw6008_01.row.prog w) A (getAttr (.ref o) (Str.ofString "name") true) Q E s := by
  have N2 : News h₀ L s.heap [(o, instObj 250 dx), (dx, dictOf (optEnts w t1 t2 t3 t4 a l c v) n)] := fun p hp => by
    rcases List.mem_cons.mp hp with e | hp
    · exact e ▸ N _ ho
    · rw [List.mem_singleton.mp hp]; exact N _ hdx
  clear N ho hdx
  have T' := T
  obtain ⟨pT, lT, T⟩ := T
  k_dflt (refine' get_prop ?k1 ?k2 ?k3 ?k4 ?k5 ?k6 ?k7 ?k8 ?k9 ?_; (case k1 => k_asm); (case k2 => k_asm); (case k3 => k_inst); (case k4 => k_is); (case k5 => k_is); (case k6 => k_is); (case k7 => k_is); (case k8 => k_is); (case k9 => k_is))
  refine getter_spec (s := { s with toks := s.toks + 1 }) (by simp only [Around.in1]; omega) F X T' N2 (.head _) (.tail _ (.head _)) hl ha ?_
  intro h' tk hk
  refine handed_on ?_ (hret h' tk hk)
  rcases hl with ⟨x, t, rfl, _, _⟩ | rfl
  · rw [if_neg (by simp)]; rfl
  · rw [if_pos rfl]
    rcases ha with ⟨x, t, rfl⟩ | rfl
    · rfl
    · rfl
end Mine
end PC9
section PC10
namespace Mine
theorem rst_C10 : (1 : Nat) = 1 := by
  w_top off
  first | walk1 | rfl
end Mine
open PySem PySem.W PyProof.Rows
set_option maxRecDepth 100000
set_option maxHeartbeats 0
namespace Mine
local macro_rules | `(tactic| k_all) => `(tactic| first | with_reducible assumption | exact bnd_ne (by omega))
local macro_rules | `(tactic| k_room) => `(tactic| ktr_room)
local macro_rules | `(tactic| k_lt $h:ident) => `(tactic| (replace $h := allLt_of $h; (try simp only [AllLt, and_true] at $h:ident); (try simp only [allLt_bnd] at $h:ident)))
abbrev helpS : Str := Str.ofString "--help"
abbrev versS : Str := Str.ofString "--version"
theorem elt_help {w : World} {A : Around} {mean : ExcName → Option Value} {mg mb : Str → Option Value} {h₀ : Heap} {L : Addr} {m m₂ : Str → Option Value} {t : Shared} {news : List (Addr × Obj)} {o dx C bi : Addr} {n : Nat} {t1 t2 t3 t4 tx : Tok} {a c : Value} {x : Str} {vb : Bool} {E : Value → Shared → Prop}
    {code : Value} {env : Env} {scope : Scope} {p1 p2 p3 p4 p5 p6 p7 p8 p9 : Pos} {k1 k2 k3 : Nat}
    (hA : A.depth + 40 < recursionLimit) (F : Fr h₀ L t.heap m) (X : (hd.heap_39 w.params).In h₀) (T : TopA mean mg mb h₀) (N : News h₀ L t.heap news) (ho : (o, instObj 250 dx) ∈ news) (hdx : (dx, dictOf (optEnts w t1 t2 t3 t4 a (.str x tx) c (.bool vb)) n) ∈ news)
    (hx : x = helpS ∨ x = versS) (ha : (∃ x t, a = .str x t) ∨ a = .none)
    (hk : (genEnv scope [] C code bi env).scope.kind = .function) (hl1 : (genEnv scope [] C code bi env).kindOf (Str.ofString "o") = some .local)
    (hns : t.heap.Ns C m₂) (hm : m₂ (Str.ofString "o") = some (.ref o)) :
    wpAny (model PySem.Challenge.rw_aw6008_01.row.prog w) A (eval (.BoolOp .And [.Compare (.Attribute (.Name (Str.ofString "o") p1) (Str.ofString "name") p2) [.In] [.Tuple [.Constant (.str (Str.ofString "-h")) k1 p3, .Constant (.str (Str.ofString "--help")) k2 p4] k3 p5] p6, .Attribute (.Name (Str.ofString "o") p7) (Str.ofString "value") p8] p9) (genEnv scope [] C code bi env))
      (fun r s₃ => r = .bool ((x == helpS) && vb) ∧ Keeps t s₃) E t := by
  have hl : ∀ {pos : Pos} {Q : Value → Shared → Prop} {s : Shared}, (∀ b o, t.heap.get? b = some o → s.heap.get? b = some o) → Q (.ref o) s → wpAny (model PySem.Challenge.rw_aw6008_01.row.prog w) A (eval (.Name (Str.ofString "o") pos) (genEnv scope [] C code bi env)) Q E s := fun e h => ld_gen hk hl1 (hns.keeps e) hm h
  have N2 : News h₀ L t.heap [(o, instObj 250 dx), (dx, dictOf (optEnts w t1 t2 t3 t4 a (.str x tx) c (.bool vb)) n)] := fun p hp => by
    rcases List.mem_cons.mp hp with e | hp
    · exact e ▸ N _ ho
    · rw [List.mem_singleton.mp hp]; exact N _ hdx
  clear N ho hdx
  have hlx : (∃ y u, Value.str x tx = .str y u ∧ y.length ≠ 0 ∧ y.length ≤ 1000) ∨ Value.str x tx = .none := .inl ⟨x, tx, rfl, by rcases hx with rfl | rfl <;> decide +kernel, by rcases hx with rfl | rfl <;> decide +kernel⟩
  walk1
  walk1
  walk1
  refine hl (fun _ _ e => e) ?_
  refine name_attr (by omega) F X T N2 (.head _) (.tail _ (.head _)) hlx ha ?_
  intro h1 tk1 hk1
  rw [if_neg (by simp)]
  have F1 := F.grownK hk1
  have N1 := N2.grown hk1
  clear hlx
  iterate 6 walk1
  refine newTuple_NK F1 N1 ?_
  intro h2 F2 N3 hk2
  clear F1 N1
  rcases hx with rfl | rfl
  · iterate 5 walk1
    refine hl (fun b q e => hk2 b q (hk1 b q e)) ?_
    obtain ⟨pT, lT, T⟩ := T
    walk1
    exact ⟨by simp, ⟨_, _, rfl, fun b q e => hk2 b q (hk1 b q e)⟩⟩
  · iterate 3 walk1
    exact ⟨rfl, ⟨_, _, rfl, fun b q e => hk2 b q (hk1 b q e)⟩⟩
theorem elt_vers {w : World} {A : Around} {mean : ExcName → Option Value} {mg mb : Str → Option Value} {h₀ : Heap} {L : Addr} {m m₂ : Str → Option Value} {t : Shared} {news : List (Addr × Obj)} {o dx C bi : Addr} {n : Nat} {t1 t2 t3 t4 tx : Tok} {a c : Value} {x : Str} {vb : Bool} {E : Value → Shared → Prop}
    {code : Value} {env : Env} {scope : Scope} {p1 p2 p3 p6 p7 p8 p9 : Pos} {k1 : Nat}
    (hA : A.depth + 40 < recursionLimit) (F : Fr h₀ L t.heap m) (X : (hd.heap_39 w.params).In h₀) (T : TopA mean mg mb h₀) (N : News h₀ L t.heap news) (ho : (o, instObj 250 dx) ∈ news) (hdx : (dx, dictOf (optEnts w t1 t2 t3 t4 a (.str x tx) c (.bool vb)) n) ∈ news)
    (hx : x = helpS ∨ x = versS) (ha : (∃ x t, a = .str x t) ∨ a = .none)
    (hk : (genEnv scope [] C code bi env).scope.kind = .function) (hl1 : (genEnv scope [] C code bi env).kindOf (Str.ofString "o") = some .local)
    (hns : t.heap.Ns C m₂) (hm : m₂ (Str.ofString "o") = some (.ref o)) :
    wpAny (model PySem.Challenge.rw_aw6008_01.row.prog w) A (eval (.BoolOp .And [.Compare (.Attribute (.Name (Str.ofString "o") p1) (Str.ofString "name") p2) [.Eq] [.Constant (.str (Str.ofString "--version")) k1 p3] p6, .Attribute (.Name (Str.ofString "o") p7) (Str.ofString "value") p8] p9) (genEnv scope [] C code bi env))
      (fun r s₃ => r = .bool ((x == versS) && vb) ∧ Keeps t s₃) E t := by
  have hl : ∀ {pos : Pos} {Q : Value → Shared → Prop} {s : Shared}, (∀ b o, t.heap.get? b = some o → s.heap.get? b = some o) → Q (.ref o) s → wpAny (model PySem.Challenge.rw_aw6008_01.row.prog w) A (eval (.Name (Str.ofString "o") pos) (genEnv scope [] C code bi env)) Q E s := fun e h => ld_gen hk hl1 (hns.keeps e) hm h
  have N2 : News h₀ L t.heap [(o, instObj 250 dx), (dx, dictOf (optEnts w t1 t2 t3 t4 a (.str x tx) c (.bool vb)) n)] := fun p hp => by
    rcases List.mem_cons.mp hp with e | hp
    · exact e ▸ N _ ho
    · rw [List.mem_singleton.mp hp]; exact N _ hdx
  clear N ho hdx
  have hlx : (∃ y u, Value.str x tx = .str y u ∧ y.length ≠ 0 ∧ y.length ≤ 1000) ∨ Value.str x tx = .none := .inl ⟨x, tx, rfl, by rcases hx with rfl | rfl <;> decide +kernel, by rcases hx with rfl | rfl <;> decide +kernel⟩
  walk1
  walk1
  walk1
  refine hl (fun _ _ e => e) ?_
  refine name_attr (by omega) F X T N2 (.head _) (.tail _ (.head _)) hlx ha ?_
  intro h1 tk1 hk1
  rw [if_neg (by simp)]
  have F1 := F.grownK hk1
  have N1 := N2.grown hk1
  clear hlx
  rcases hx with rfl | rfl
  · iterate 4 walk1
    exact ⟨rfl, ⟨_, _, rfl, hk1⟩⟩
  · iterate 6 walk1
    refine hl hk1 ?_
    obtain ⟨pT, lT, T⟩ := T
    walk1
    exact ⟨by simp, ⟨_, _, rfl, hk1⟩⟩
theorem code285 {w : World} {h : Heap} (X : (hd.heap_39 w.params).In h) : CodeAt h 285 281 := ⟨⟨_, _, _, _, _, _, _, _, _, X 285 _ (by k_is), rfl, rfl, rfl, rfl, rfl, rfl, rfl⟩, by decide, by decide⟩
end Mine
end PC10
section PC11
namespace Mine
theorem rst_C11 : (1 : Nat) = 1 := by
  w_top off
  first | walk1 | rfl
end Mine
open PySem PySem.W PyProof.Rows
set_option maxRecDepth 100000
set_option maxHeartbeats 0
namespace Mine
local macro_rules | `(tactic| k_all) => `(tactic| first | with_reducible assumption | exact bnd_ne (by omega))
local macro_rules | `(tactic| k_room) => `(tactic| ktr_room)
local macro_rules | `(tactic| k_lt $h:ident) => `(tactic| (replace $h := allLt_of $h; (try simp only [AllLt, and_true] at $h:ident); (try simp only [allLt_bnd] at $h:ident)))
local macro_rules | `(tactic| kts_go) => `(tactic| (refine' code_defS0 ?k1 ?k2 ?k3 ?k4 ?k5 ?kA ?k6 ?k7 ?k8 ?k9 ?kB ?_ ?cK ?c2 ?c3 ?c4 ?c5; (case kA => exact rfl); (case k2 => k_asm); (case k1 => k_asm); (case k3 => k_asm); (case k4 => k_asm); (case k5 => k_asm); (case k6 => k_is); (case k7 => k_is); (case k8 => ((try simp only [depth_deeper, depth_caller]); decide)); (case k9 => first | exact binds_K (by k_in) rfl (by k_is) rfl rfl rfl | exact BindsTo.of_eq rfl | fail "kts_go: no rule for these arguments"); (case kB => exact locs rfl); (case cK => assumption); (case c2 => exact rfl); (case c3 => exact rfl); (case c4 => exact rfl); (case c5 => decide); k_whole; intro g' L' h' FG' F' N' B' X' T' D'; (try dsimp only); (try k_lift B'); (try k_fold)))
local macro_rules | `(tactic| walk_at "eval GeneratorExp") => `(tactic| ((with_reducible show wpAny _ _ (eval (Expr.GeneratorExp _ _ _ _) _) _ _ _); refine Hold.mk ?_))
local macro_rules | `(tactic| walk_at "call builtin:any") => `(tactic| ((with_reducible show wpAny _ _ (call (Value.builtin "any") [Value.ref _]) _ _ _); refine Hold.mk ?_))
/-- an Option of the given ones: its long name, its value -/
def OptAt (w : World) (news : List (Addr × Obj)) (v : Value) (sp : Str × Bool) : Prop :=
  ∃ (o dx : Addr) (n : Nat) (t1 t2 t3 t4 tx : Tok) (a c : Value), v = .ref o ∧ (o, instObj 250 dx) ∈ news ∧ (dx, dictOf (optEnts w t1 t2 t3 t4 a (.str sp.1 tx) c (.bool sp.2)) n) ∈ news ∧ (sp.1 = helpS ∨ sp.1 = versS) ∧ ((∃ x t, a = .str x t) ∨ a = .none)
def OptsAt (w : World) (news : List (Addr × Obj)) (vs : List Value) (sps : List (Str × Bool)) : Prop := vs.length = sps.length ∧ ∀ (i : Nat) (v : Value), vs[i]? = some v → ∃ sp, sps[i]? = some sp ∧ OptAt w news v sp
abbrev helps (sps : List (Str × Bool)) : Bool := sps.any fun sp => sp.1 == helpS && sp.2
abbrev verss (sps : List (Str × Bool)) : Bool := sps.any fun sp => sp.1 == versS && sp.2
theorem any_specs (sps : List (Str × Bool)) (f : Str × Bool → Bool) : (List.range sps.length).any (fun j => match sps[j]? with | some sp => f sp | none => false) = sps.any f := by
  rw [Bool.eq_iff_iff, List.any_eq_true, List.any_eq_true]
  constructor
  · rintro ⟨j, hj, h⟩
    rw [List.mem_range] at hj
    rw [List.getElem?_eq_getElem hj] at h
    exact ⟨_, List.getElem_mem hj, h⟩
  · rintro ⟨sp, hm, h⟩
    obtain ⟨j, hj, e⟩ := List.mem_iff_getElem.mp hm
    exact ⟨j, List.mem_range.mpr hj, by rw [List.getElem?_eq_getElem hj, e]; exact h⟩
/-- what such a generator yields -/
def Yields (sps : List (Str × Bool)) (f : Str × Bool → Bool) (i : Nat) (y : Value) : Prop := ∃ sp, sps[i]? = some sp ∧ y = .bool (f sp)
/-- one of extras' two generators -/
theorem gen_ext {w : World} {A : Around} {mean : ExcName → Option Value} {mg mb : Str → Option Value} {h₀ : Heap} {L : Addr} {m : Str → Option Value} {s : Shared} {rest : List (Addr × Obj)} {vs : List Value} {sps : List (Str × Bool)} {D : Addr} {nD : Nat} {ps : Array Value} {env : Env} {elt : PySem.Expr} {px pi pos : Pos} {scope : Scope} {Q E : Value → Shared → Prop} (f : Str × Bool → Bool)
    (F : Fr h₀ L s.heap m) (X : (hd.heap_39 w.params).In h₀) (N : News h₀ L s.heap ((281, tabO ps) :: (D, W.listOf vs.toArray nD) :: rest)) (T : TopA mean mg mb h₀) (hG : AllBare s.gens) (hO : OptsAt w rest vs sps) (hg : env.globals = mainGlobals)
    (hcode : env.code = .ref 285) (hnf : codeAmong pos ps.toList = none) (htr : TriplesOk ps.toList) (hr : ∀ p ∈ (D, W.listOf vs.toArray nD) :: rest, p.1 ≠ 281)
    (hh : A.handled = none) (hco : scope.isCoroutine = false) (hclos : closureFor scope env = pure []) (hcell : ∀ y ∈ scope.names, y.2 ≠ .cell) (h0 : scope.names.lookup (".0" : Str) = some NameKind.local)
    (hx : scope.names.lookup (Str.ofString "o") = some .local) (hkind : scope.kind = .function) (hroom : A.depth + 60 < recursionLimit)
    (hit : ∀ {Q' : Value → Shared → Prop}, Q' (.ref D) s → wpAny (model PySem.Challenge.rw_aw6008_01.row.prog w) A (eval (.Name (Str.ofString "options") pi) env) Q' E s)
    (hel : ∀ (A' : Around) (t : Shared) (o dx C : Addr) (n : Nat) (t1 t2 t3 t4 tx : Tok) (a c code : Value) (sp : Str × Bool) (m₂ : Str → Option Value) (ps' : Array Value) (E' : Value → Shared → Prop), A'.depth + 40 < recursionLimit → Fr h₀ L t.heap m → News h₀ L t.heap ((281, tabO ps') :: (D, W.listOf vs.toArray nD) :: rest) →
      (o, instObj 250 dx) ∈ rest → (dx, dictOf (optEnts w t1 t2 t3 t4 a (.str sp.1 tx) c (.bool sp.2)) n) ∈ rest → (sp.1 = helpS ∨ sp.1 = versS) → ((∃ x t, a = .str x t) ∨ a = .none) → t.heap.Ns C m₂ → m₂ (Str.ofString "o") = some (.ref o) →
      wpAny (model PySem.Challenge.rw_aw6008_01.row.prog w) A' (eval elt (genEnv scope [] C code builtinsNs env)) (fun r s₃ => r = .bool (f sp) ∧ Keeps t s₃) E' t)
    (hQ : ∀ (s₅ : Shared) (a K : Addr) (ps' : Array Value), L ≤ K → (∀ p ∈ (281, tabO ps') :: (D, W.listOf vs.toArray nD) :: rest, p.1 ≤ K) → TriplesOk ps'.toList → (∃ c : Addr, ps' = ps ++ #[rawInt pos.line, rawInt pos.col, .ref c]) → Fr h₀ L s₅.heap m → News h₀ L s₅.heap ((281, tabO ps') :: (D, W.listOf vs.toArray nD) :: rest) → AllBare s₅.gens → s₅.os = s.os →
      Gen PySem.Challenge.rw_aw6008_01.row.prog w A K a sps.length (fun j y => ∃ i, (List.range sps.length)[j]? = some i ∧ Yields sps f i y) s₅ → Q (.ref a) s₅) :
    wpAny (model PySem.Challenge.rw_aw6008_01.row.prog w) A (eval (.GeneratorExp elt [⟨.Name (Str.ofString "o") px, .Name (Str.ofString "options") pi, [], 0⟩] scope pos) env) Q E s := by
  obtain ⟨pT, lT, T⟩ := T
  obtain ⟨bm, ob, M⟩ := bmod_of_top T
  have hP0 := (N (281, tabO ps) (.head _)).2.2
  have hPl := Nat.lt_trans (show 281 < 285 by decide) (Heap.lt_size (X 285 _ (by k_is)))
  refine gen_led (ps := ps) F (code285 X) hP0 hPl (hg ▸ M) hcode hnf htr hh hco hclos hcell h0 hx hkind (by omega) (hit ?_) (by intro _; rfl)
  have hsz : vs.toArray.size = sps.length := by rw [List.size_toArray, hO.1]
  refine ⟨D, vs.toArray, _, Yields sps f, rfl, News.isList N (.tail _ (.head _)), F, N, hG, T.nolimit.keeps F.keep, hr, ?_, ?_⟩
  · intro c' C A' E' i v t m₂ ps' hh' hd' hu' hv hns hm hLC Ft Nt
    rw [List.getElem?_toArray] at hv
    obtain ⟨sp, hsp, o, dx, n, t1, t2, t3, t4, tx, a, c, rfl, ho, hdx, hsx, ha⟩ := hO.2 i v hv
    refine wpAny_mono (hel A' t o dx C n t1 t2 t3 t4 tx a c (.ref c') sp m₂ ps' E' (by omega) Ft Nt ho hdx hsx ha hns hm) (fun y s₃ q => ⟨⟨sp, hsp, q.1⟩, q.2⟩) (fun _ _ e => e)
  · intro s₅ a K ps' hLK hK htr' hc F5 N5 G5 hos X5
    rw [hsz] at X5
    exact hQ s₅ a K ps' hLK hK htr' hc F5 N5 G5 hos X5
theorem any_ext {w : World} {A : Around} {h₀ : Heap} {L a K : Addr} {m : Str → Option Value} {s : Shared} {news : List (Addr × Obj)} {sps : List (Str × Bool)} {f : Str × Bool → Bool} {Q E : Value → Shared → Prop}
    (F : Fr h₀ L s.heap m) (N : News h₀ L s.heap news) (G : AllBare s.gens) (X : Gen PySem.Challenge.rw_aw6008_01.row.prog w A K a sps.length (fun j y => ∃ i, (List.range sps.length)[j]? = some i ∧ Yields sps f i y) s) (hLK : L ≤ K) (hK : ∀ p ∈ news, p.1 ≤ K)
    (hQ : ∀ s', Fr h₀ L s'.heap m → News h₀ L s'.heap news → AllBare s'.gens → s'.os = s.os → Q (.bool (sps.any f)) s') : wpAny (model PySem.Challenge.rw_aw6008_01.row.prog w) A (call (.builtin "any") [.ref a]) Q E s := by
  refine any_led F N G X hLK hK (fun j => match sps[j]? with | some sp => f sp | none => false) ?_ ?_
  · rintro j v s Q E ⟨i, hi, sp, hsp, rfl⟩ hq
    have : i = j := by
      by_cases hj : j < sps.length
      · rw [List.getElem?_range hj] at hi; exact (Option.some.inj hi).symm
      · rw [List.getElem?_eq_none (by simpa using hj)] at hi; cases hi
    subst this
    simp only [hsp] at hq
    exact wpAny_truthy_bool hq
  · rw [any_specs]
    exact hQ
end Mine
end PC11
section PSt
namespace Mine
theorem rst_St : (1 : Nat) = 1 := by
  w_top off
  first | walk1 | rfl
end Mine
open PySem PySem.W PyProof.Rows PySem.Calls
open Builtin Builtin.Str Builtin.BaseException Builtin.Exceptions
set_option maxRecDepth 100000
set_option maxHeartbeats 100000
namespace Mine
section
variable {prog : Program} {w : World} {A : Around} {E : Value → Shared → Prop} {s : Shared} {e t0 C : Addr} {K : Frag}
theorem slot_excstr : Slot "BaseException" "__str__" "BaseException.__str__" :=
  Slot.of (T := "BaseException") (name := "__str__") (owner := "BaseException") (n := "__str__") (by rw [typeLookup_type, builtinLookup_eq_fast]; kernel_rfl) (by decide +kernel) (by decide +kernel) (by decide +kernel)
    (.inl (by decide +kernel)) (by rw [isSubtype_type]; kernel_rfl)
theorem kind_excstr : builtinKind "BaseException.__str__" = some .slot := by decide +kernel
theorem split_excstr : splitId "BaseException.__str__" = some ("BaseException", "__str__") := by decide +kernel
/-- an own exception with one argument, a text -/
structure OwnExc (K : Frag) (h : Heap) (e C : Addr) (m : Str) (tk : Tok) : Prop where
  ex : ∃ o ws t0 ot nt, h.get? e = some o ∧ o.cls = .ref C ∧ o.data = .fields ws ∧ ws[0]? = some (.ref t0) ∧ h.get? t0 = some ot ∧ ot.cls = .type "tuple" ∧ ot.data = .seq [Value.str m tk].toArray nt
  find : findIn K (.ref C) "__str__" = some (some (.builtin "BaseException.__str__"))
  sub : mroIn K C (.type "BaseException") = some true
theorem ownTypeIs {M : Model} {h : Heap} {o : Obj} {ws : Array Value} (ho : h.get? e = some o) (hc : o.cls = .ref C) (hd : o.data = .fields ws) : Looks M h (typeOf (.ref e)) (.ref C) := by
  obtain ⟨oc, odi, oda, osl⟩ := o
  cases hc
  cases hd
  exact (Looks.ld (part := none) ho).andThen .now
theorem bexcStr_own {m : Str} {tk : Tok} {Q : Fin → Shared → Prop} (x : OwnExc K s.heap e C m tk) (hq : Q (.done (.ret (.str m tk))) s) :
    wpAny (model prog w) A (Builtin.«BaseException.__str__» ⟨[.ref e], []⟩) Q E s := by
  obtain ⟨o, ws, t0, ot, nt, ho, hc, hd, h0, ht, htc, htd⟩ := x.ex
  have hb : ∀ {Q : Value × List Value → Shared → Prop}, Q (.ref t0, [.str m tk]) s → wpAny (model prog w) A (bexcArgs (.ref e)) Q E s := fun hq => by
    unfold bexcArgs
    exact wpAny_bind (wpAny_field ho hd h0 (wpAny_bind (wpAny_seqItems ht htd (wpAny_pure hq))))
  unfold Builtin.«BaseException.__str__»
  repeat (first | with_reducible refine hb ?_ | wp_step)
  exact hq
theorem call_ownStr {m : Str} {tk : Tok} {Q : Value → Shared → Prop} (X : K.In s.heap) (x : OwnExc K s.heap e C m tk) (hq : Q (.str m tk) s) :
    wpAny (model prog w) A (call (.builtin "BaseException.__str__") [.ref e]) Q E s := by
  obtain ⟨o, ws, t0, ot, nt, ho, hc, hd, h0, ht, htc, htd⟩ := x.ex
  have hi : Looks (model prog w) s.heap (isInstance (.ref e) (.type "BaseException")) true := (ownTypeIs ho hc hd).andThen (looks_mroIn X x.sub)
  refine wpAny_call (codeAny_call_builtin slot_excstr.plain PySem.F.entry_bexc_str (@check_slot (model prog w) _ _ s "BaseException.__str__" "BaseException" "__str__" (.ref e) [] [] _ kind_excstr split_excstr hi (PySem.F.args_bexc_str _) ?_))
  exact bexcStr_own x hq
theorem special_ownStr {m : Str} {tk : Tok} {Q : Option Value → Shared → Prop} (X : K.In s.heap) (x : OwnExc K s.heap e C m tk) (hq : Q (some (.str m tk)) s) :
    wpAny (model prog w) A (callSpecial? (.ref e) (PySem.Str.ofString "__str__")) Q E s := by
  obtain ⟨o, ws, t0, ot, nt, ho, hc, hd, h0, ht, htc, htd⟩ := x.ex
  refine wpAny_bind (wpAny_bind ((ownTypeIs ho hc hd).here ((looks_findIn X x.find).here ?_)))
  dsimp only
  refine wpAny_holding (wpAny_bind ?_)
  rw [slot_excstr.bind]
  exact wpAny_pure (wpAny_bind (wpAny_mono (call_ownStr X x hq) (fun _ _ z => wpAny_pure z) fun _ _ z => z))
theorem strOf_own {m : Str} {tk : Tok} {Q : Value → Shared → Prop} (hu : A.units < cLine) (X : K.In s.heap) (x : OwnExc K s.heap e C m tk) (hq : Q (.str m tk) s) :
    wpAny (model prog w) A (PySem.Builtin.Str.strOf (.ref e)) Q E s := by
  unfold PySem.Builtin.Str.strOf
  rw [show isExactStr (.ref e) = false from rfl]
  refine wpAny_bind (m := cRoomFor _ _) (wpAny_cRoomFor hu ?_)
  exact wpAny_bind (m := callSpecial? (.ref e) (PySem.Str.ofString "__str__")) (special_ownStr X x (wpAny_pure hq))
theorem str_own {m : Str} {tk : Tok} {Q : Value → Shared → Prop} (hu : A.in1.in1.units < cLine) (X : K.In s.heap) (x : OwnExc K s.heap e C m tk) (hq : Q (.str m tk) s) :
    wpAny (model prog w) A (call (.type "str") [.ref e]) Q E s := by
  refine callType_codes (T := "str") (Bi := Builtin.«object.__init__») (Q₁ := fun r s₁ => ∃ y u, r = .str y u ∧ Q r s₁) PySem.F.called_str (PySem.F.typeCall_str_1 _) PySem.F.entry_object_init ?_ ?_
  · refine codeAny_of_tree ?_
    show wpAny _ A.in1.in1 (do checkBuiltinCall "str.__new__" ⟨[.type "str", .ref e], []⟩; again (.builtin "str.__new__" ⟨[.type "str", .ref e], []⟩)) _ _ s
    refine wpAny_bind (wpAny_of_eq (PySem.F.newCall_str_1 _) (wpAny_pure ⟨plainId_quiet (by decide +kernel) _, codeAny_builtin PySem.F.entry_str_new ?_⟩))
    rw [Around.under_plainId (by decide +kernel) _]
    rw [str_new_tree]
    refine wpAny_bind (wpAny_pure ?_)
    refine wpAny_bind (wpAny_of_eq isSubtype_str_str ?_)
    refine wpAny_bind (strOf_own hu X x (wpAny_pure ⟨_, _, rfl, hq⟩))
  · rintro obj s₁ ⟨y, u, rfl, hq⟩
    exact ⟨typeIs_str _ _ _, PySem.F.args_object_init_2 _ _, object_init_meets PySem.F.called_str.init.lookup PySem.F.called_str.made (by decide) prog w A.in1 _ s₁ ⟨typeIs_str _ _ _, rfl, hq⟩⟩
end
end Mine
end PSt
section PC12
namespace Mine
theorem rst_C12 : (1 : Nat) = 1 := by
  w_top off
  first | walk1 | rfl
end Mine
open PySem PySem.W PyProof.Rows
set_option maxRecDepth 100000
set_option maxHeartbeats 0
namespace Mine
local macro_rules | `(tactic| k_all) => `(tactic| first | with_reducible assumption | exact bnd_ne (by omega))
local macro_rules | `(tactic| k_room) => `(tactic| ktr_room)
local macro_rules | `(tactic| k_lt $h:ident) => `(tactic| (replace $h := allLt_of $h; (try simp only [AllLt, and_true] at $h:ident); (try simp only [allLt_bnd] at $h:ident)))
local macro_rules | `(tactic| kts_go) => `(tactic| (refine' code_defS0 ?k1 ?k2 ?k3 ?k4 ?k5 ?kA ?k6 ?k7 ?k8 ?k9 ?kB ?_ ?cK ?c2 ?c3 ?c4 ?c5; (case kA => exact rfl); (case k2 => k_asm); (case k1 => k_asm); (case k3 => k_asm); (case k4 => k_asm); (case k5 => k_asm); (case k6 => k_is); (case k7 => k_is); (case k8 => ((try simp only [depth_deeper, depth_caller]); decide)); (case k9 => first | exact binds_K (by k_in) rfl (by k_is) rfl rfl rfl | exact BindsTo.of_eq rfl | fail "kts_go: no rule for these arguments"); (case kB => exact locs rfl); (case cK => assumption); (case c2 => exact rfl); (case c3 => exact rfl); (case c4 => exact rfl); (case c5 => decide); k_whole; intro g' L' h' FG' F' N' B' X' T' D'; (try dsimp only); (try k_lift B'); (try k_fold)))
local macro_rules | `(tactic| walk_at "eval GeneratorExp") => `(tactic| ((with_reducible show wpAny _ _ (eval (Expr.GeneratorExp _ _ _ _) _) _ _ _); refine Hold.mk ?_))
local macro_rules | `(tactic| walk_at "call builtin:any") => `(tactic| ((with_reducible show wpAny _ _ (call (Value.builtin "any") [Value.ref _]) _ _ _); refine Hold.mk ?_))
theorem own_of_got {K : Frag} {h₀ h : Heap} {L e t C : Addr} {news : List (Addr × Obj)} {x : Str} {tk : Tok} (N : News h₀ L h news) (G : PyProof.Rows.Got news e t (.ref C) [.str x tk]) (hf : findIn K (.ref C) "__str__" = some (some (.builtin "BaseException.__str__"))) (hs : mroIn K C (.type "BaseException") = some true) : OwnExc K h e C x tk := by
  obtain ⟨oe, ot, ws, nt, h1, h2, r1, r2, r3, r4, r5⟩ := G
  exact ⟨⟨oe, ws, t, ot, nt, (N _ h1).1, r1, r2, r3, (N _ h2).1, r4, r5⟩, hf, hs⟩
local macro_rules | `(tactic| walk_at "call type:str") => `(tactic| (k_here; (with_reducible show wpAny _ _ (call (Value.type "str") [Value.ref _]) _ _ _); (rename PyProof.Rows.Got _ _ _ _ _ => lG9); k_dflt (refine' str_own (K := hd.heap_39 _) ?u ?X ?x ?_; (case u => k_units); (case X => k_in); (case x => refine' own_of_got ?n lG9 ?f ?s; (case n => k_asm); (case f => k_is); (case s => k_is)))))
theorem shown_spec (w : World) (mean : ExcName → Option Value) (mg mb : Str → Option Value) (cn : Str) (cs : Scope) (a : Addr) (ccd : Value) (h₀ : Heap) (L : Addr) (m : Str → Option Value) (s : Shared) (Q E : Value → Shared → Prop)
    (rest : List (Addr × Obj)) (vs : List Value) (sps : List (Str × Bool)) (D : Addr) (nD : Nat) (x : Str) (tx : Tok) (b : Bool) (ver : Value)
    (B : Below callerA h₀ [] h₀) (F : Fr h₀ L s.heap m) (X : (hd.heap_39 w.params).In h₀) (N : News h₀ L s.heap ((281, tabO #[]) :: (D, W.listOf vs.toArray nD) :: rest)) (T : TopA mean mg mb h₀) (hk : cs.kind = .function)
    (hne : ∀ p ∈ (D, W.listOf vs.toArray nD) :: rest, p.1 ≠ 281) (hG : AllBare s.gens) (hO : OptsAt w rest vs sps) (hv8 : vs.length ≤ 8) (hx : x.length ≤ 1000) (hver : ver = .none ∨ ∃ y t, ver = .str y t ∧ y.length ≠ 0 ∧ y.length ≤ 1000)
    (hret : ∀ v ps s', (if b && helps sps then ∃ t, v = .str (Txt.stripChars x (Str.ofString "\n")) t else if verss sps && ver != .none then ∃ y t t', ver = .str y t ∧ v = .str y t' else v = .none) →
      Fr h₀ L s'.heap m → News h₀ L s'.heap ((281, tabO ps) :: (D, W.listOf vs.toArray nD) :: rest) → AllBare s'.gens → s'.os = s.os → Q v s') :
    wpAny (model PySem.Challenge.rw_aw6008_01.row.prog w) (callerA.deeper (envOf cn cs L a ccd)) (call (.ref 322) [.bool b, ver, .ref D, .str x tx]) Q E s := by
  obtain ⟨pT, lT, T⟩ := T
  refine wpAny_call ?_
  k_dflt kts_go
  rcases hver with rfl | ⟨y, ty, rfl, hy0, hy1⟩ <;> cases b
  · k_steps
    rename Fr _ _ _ _ => kF9
    rename News _ _ _ _ => kN9
    exact hret _ #[] _ (by simp) kF9 kN9 hG rfl
  · k_steps
    apply Hold.out
    rename Fr _ _ _ _ => lF
    rename News _ _ _ _ => lN
    rename Top _ _ _ _ _ _ => lT
    rename Frag.In _ _ => lX
    refine gen_ext (fun sp => sp.1 == helpS && sp.2) lF lX lN ⟨_, _, lT⟩ hG hO rfl rfl rfl trivial hne rfl rfl rfl (by decide) rfl rfl rfl (by ktr_room) ?_ ?_ ?_
    · intro Q' h
      walk1
      exact h
    · intro A' t o dx C n t1 t2 t3 t4 tx a c code sp m₂ ps' E' hA' Ft Nt ho hdx hsx ha hns hm
      exact elt_help hA' Ft lX ⟨_, _, lT⟩ Nt (.tail _ (.tail _ ho)) (.tail _ (.tail _ hdx)) hsx ha rfl rfl hns hm
    · intro s5a a K psa hLK hK htra hca F5 N5 G5 hos5a X5
      clear lF lN
      k_steps
      apply Hold.out
      refine any_ext F5 N5 G5 X5 hLK hK ?_
      intro s6a F6 N6 G6a hos6a
      clear F5 N5 X5
      cases hba : sps.any (fun sp => sp.1 == helpS && sp.2)
      · k_steps
        rename Fr _ _ _ _ => kF9
        rename News _ _ _ _ => kN9
        exact hret _ psa _ (by simp [helps, hba]) kF9 kN9 G6a (hos6a.trans hos5a)
      · k_steps
        rename Fr _ _ _ _ => kF9
        rename News _ _ _ _ => kN9
        exact hret _ psa _ (by simp [helps, hba]) kF9 kN9 G6a (hos6a.trans hos5a)
  · k_steps
    any_goals (exfalso; (rename ((y.length : Int) = 0) => hz9); exact hy0 (by omega))
    apply Hold.out
    rename Fr _ _ _ _ => lF
    rename News _ _ _ _ => lN
    rename Top _ _ _ _ _ _ => lT
    rename Frag.In _ _ => lX
    refine gen_ext (fun sp => sp.1 == versS && sp.2) lF lX lN ⟨_, _, lT⟩ hG hO rfl rfl rfl trivial hne rfl rfl rfl (by decide) rfl rfl rfl (by ktr_room) ?_ ?_ ?_
    · intro Q' h
      walk1
      exact h
    · intro A' t o dx C n t1 t2 t3 t4 tx a c code sp m₂ ps' E' hA' Ft Nt ho hdx hsx ha hns hm
      exact elt_vers hA' Ft lX ⟨_, _, lT⟩ Nt (.tail _ (.tail _ ho)) (.tail _ (.tail _ hdx)) hsx ha rfl rfl hns hm
    · intro s5a a K psa hLK hK htra hca F5 N5 G5 hos5a X5
      clear lF lN
      k_steps
      apply Hold.out
      refine any_ext F5 N5 G5 X5 hLK hK ?_
      intro s6a F6 N6 G6a hos6a
      clear F5 N5 X5
      cases hba : sps.any (fun sp => sp.1 == versS && sp.2)
      · k_steps
        rename Fr _ _ _ _ => kF9
        rename News _ _ _ _ => kN9
        exact hret _ psa _ (by simp [verss, hba]) kF9 kN9 G6a (hos6a.trans hos5a)
      · k_steps
        rename Fr _ _ _ _ => kF9
        rename News _ _ _ _ => kN9
        exact hret _ psa _ (by simp [verss, hba]) kF9 kN9 G6a (hos6a.trans hos5a)
  · k_steps
    apply Hold.out
    rename Fr _ _ _ _ => lF
    rename News _ _ _ _ => lN
    rename Top _ _ _ _ _ _ => lT
    rename Frag.In _ _ => lX
    refine gen_ext (fun sp => sp.1 == helpS && sp.2) lF lX lN ⟨_, _, lT⟩ hG hO rfl rfl rfl trivial hne rfl rfl rfl (by decide) rfl rfl rfl (by ktr_room) ?_ ?_ ?_
    · intro Q' h
      walk1
      exact h
    · intro A' t o dx C n t1 t2 t3 t4 tx a c code sp m₂ ps' E' hA' Ft Nt ho hdx hsx ha hns hm
      exact elt_help hA' Ft lX ⟨_, _, lT⟩ Nt (.tail _ (.tail _ ho)) (.tail _ (.tail _ hdx)) hsx ha rfl rfl hns hm
    · intro s5a a K psa hLK hK htra hca F5 N5 G5 hos5a X5
      clear lF lN
      k_steps
      apply Hold.out
      refine any_ext F5 N5 G5 X5 hLK hK ?_
      intro s6a F6 N6 G6a hos6a
      clear F5 N5 X5
      cases hba : sps.any (fun sp => sp.1 == helpS && sp.2)
      · obtain ⟨c, rfl⟩ := hca
        k_steps
        any_goals (exfalso; (rename ((y.length : Int) = 0) => hz9); exact hy0 (by omega))
        apply Hold.out
        rename Fr _ _ _ _ => lF
        rename News _ _ _ _ => lN
        rename Top _ _ _ _ _ _ => lT
        rename Frag.In _ _ => lX
        refine gen_ext (fun sp => sp.1 == versS && sp.2) lF lX lN ⟨_, _, lT⟩ G6a hO rfl rfl rfl htra hne rfl rfl rfl (by decide) rfl rfl rfl (by ktr_room) ?_ ?_ ?_
        · intro Q' h
          walk1
          exact h
        · intro A' t o dx C n t1 t2 t3 t4 tx a c code sp m₂ ps' E' hA' Ft Nt ho hdx hsx ha hns hm
          exact elt_vers hA' Ft lX ⟨_, _, lT⟩ Nt (.tail _ (.tail _ ho)) (.tail _ (.tail _ hdx)) hsx ha rfl rfl hns hm
        · intro s5b a K psb hLK hK htrb hcb F5 N5 G5 hos5b X5
          clear lF lN
          k_steps
          apply Hold.out
          refine any_ext F5 N5 G5 X5 hLK hK ?_
          intro s6b F6 N6 G6b hos6b
          clear F5 N5 X5
          cases hbb : sps.any (fun sp => sp.1 == versS && sp.2)
          · k_steps
            rename Fr _ _ _ _ => kF9
            rename News _ _ _ _ => kN9
            exact hret _ psb _ (by simp [helps, verss, hba, hbb]) kF9 kN9 G6b (hos6b.trans (hos5b.trans (hos6a.trans hos5a)))
          · k_steps
            rename Fr _ _ _ _ => kF9
            rename News _ _ _ _ => kN9
            exact hret _ psb _ (by simp [helps, verss, hba, hbb]) kF9 kN9 G6b (hos6b.trans (hos5b.trans (hos6a.trans hos5a)))
      · k_steps
        rename Fr _ _ _ _ => kF9
        rename News _ _ _ _ => kN9
        exact hret _ psa _ (by simp [helps, hba]) kF9 kN9 G6a (hos6a.trans hos5a)
end Mine
end PC12
section PLw0
namespace Mine
theorem rst_Lw0 : (1 : Nat) = 1 := by
  w_top off
  first | walk1 | rfl
end Mine
open PySem PySem.W PyProof.Rows
set_option maxRecDepth 100000
set_option maxHeartbeats 400000
namespace Mine
/-- the law's own body and scope, as the row holds them -/
def lawParts : List Stmt × Scope := match PySem.Challenge.pw_aw6008_01.main.body.getLast? with
  | some (.FunctionDef _ _ b _ _ _ sc _ _ _) => (b, sc)
  | _ => ([], default)
def lawBody : List Stmt := lawParts.1
def lawScope : Scope := lawParts.2
theorem wp_cut {M : Model} {Γ : Ctx} {env : Env} {Q : Flow → Pos → Shared → Prop} {E : Value → Pos → Shared → Prop} : ∀ (n : Nat) (l : List Stmt) (p : Pos) (s : Shared),
    Sem.wp M Γ (execs (l.take n) env) (fun f p' s' => match f with | .next => Sem.wp M Γ (execs (l.drop n) env) Q E p' s' | f => Q f p' s') E p s → Sem.wp M Γ (execs l env) Q E p s
  | 0, _, _, _, h => h
  | _ + 1, [], _, _, h => h
  | n + 1, x :: l, p, s, h => by
    have h' : Sem.wp M Γ (execs (x :: l.take n) env) (fun f p' s' => match f with | .next => Sem.wp M Γ (execs (l.drop n) env) Q E p' s' | f => Q f p' s') E p s := h
    rw [execs_cons, Sem.wp_bind'] at h'
    rw [execs_cons, Sem.wp_bind']
    refine Sem.wp_mono M Γ _ (fun f p' s' h3 => ?_) (fun _ _ _ h3 => h3) _ _ h'
    cases f with
    | next => exact wp_cut n l p' s' h3
    | _ => exact h3
/-- the first n statements, then the others -/
theorem execs_cut {M : Model} {A : Around} {E : Value → Shared → Prop} {env : Env} {Q : Flow → Shared → Prop} {s : Shared} (n : Nat) {l : List Stmt}
    (h : wpAny M A (execs (l.take n) env) (fun f s' => match f with | .next => wpAny M A (execs (l.drop n) env) Q E s' | f => Q f s') E s) : wpAny M A (execs l env) Q E s := fun Γ p hΓ => by
  refine wp_cut n l p s (Sem.wp_mono M Γ _ (fun f p' s' h3 => ?_) (fun _ _ _ h3 => h3) _ _ (h Γ p hΓ))
  cases f with
  | next => exact h3 Γ p' hΓ
  | _ => exact h3
end Mine
end PLw0
section PLwA
namespace Mine
theorem rst_LwA : (1 : Nat) = 1 := by
  w_top off
  first | walk1 | rfl
end Mine
open PySem PySem.W PyProof.Rows
set_option maxRecDepth 100000
set_option maxHeartbeats 0
namespace Mine
local macro_rules | `(tactic| k_all) => `(tactic| first | with_reducible assumption | exact bnd_ne (by omega))
local macro_rules | `(tactic| k_lt $h:ident) => `(tactic| (replace $h := allLt_of $h; (try simp only [AllLt, and_true] at $h:ident); (try simp only [allLt_bnd] at $h:ident)))
local macro_rules | `(tactic| walk_at "call ref") => `(tactic| (k_here; (with_reducible show wpAny _ _ (call (Value.ref 291) _) _ _ _); refine Hold.mk ?_))
local macro_rules | `(tactic| walk_at "call ref") => `(tactic| (k_here; (with_reducible show wpAny _ _ (call (Value.ref 303) _) _ _ _); refine Hold.mk ?_))
/-- where the first statement ends -/
def After0 (h₀ : Heap) (L : Addr) (s : Shared) (f : Flow) (s' : Shared) : Prop := f = .next ∧ ∃ b d vs nb nd sd ts m', DrawOk vs sd ∧ @LT.lt Nat _ b d ∧ Fr h₀ L s'.heap m' ∧ m' (Str.ofString "draw") = some (.ref d) ∧ News h₀ L s'.heap (drawL b d vs nb nd sd ts []) ∧ s'.gens = s.gens ∧ s'.os = s.os
/-- the first statement: the draw -/
theorem law_0 (w : World) (mean : ExcName → Option Value) (mg mb : Str → Option Value) (a : Addr) (ccd : Value) (h₀ : Heap) (L : Addr) (m : Str → Option Value) (s : Shared) (E : Value → Shared → Prop) (la : Addr) (items : List Value) (ns : List Int)
    (B : Below callerA h₀ [] h₀) (F : Fr h₀ L s.heap m) (X : (hd.heap_39 w.params).In h₀) (N : News h₀ L s.heap []) (T : TopA mean mg mb h₀) (hL : h₀.IsList la items.toArray) (hI : IntsAre items ns) (hn : ns.length ≤ 63) (hm : m (Str.ofString "script") = some (.ref la)) :
    wpAny (model PySem.Challenge.rw_aw6008_01.row.prog w) (callerA.deeper (envOf (Str.ofString "law") lawScope L a ccd)) (execs (lawBody.take 1) (envOf (Str.ofString "law") lawScope L a ccd))
      (After0 h₀ L s) E s := by
  obtain ⟨pT, lT, T⟩ := T
  have em : m = fun y => if y = Str.ofString "script" then some (.ref la) else m y := by
    funext y
    by_cases h : y = Str.ofString "script"
    · rw [if_pos h, h, hm]
    · rw [if_neg h]
  rw [em] at F
  clear em hm
  conv in (execs _ _) => arg 1; whnf
  conv in (occs := *) lawScope => all_goals whnf
  dsimp only [List.take]
  k_steps
  apply Hold.out
  rename Fr _ _ _ _ => lF
  rename News _ _ _ _ => lN
  refine draw_spec w mean mg mb _ _ _ _ _ _ _ _ [] callerA h₀ h₀ L _ _ _ _ la items ns B lF X lN ⟨_, _, T⟩ (by rfl) (by decide +kernel) (by decide +kernel) hL hI hn ?_
  intro b d vs nb nd sd ts h' tk' hok hbd F9 N9
  clear lF lN
  k_steps
  rename Fr _ _ _ _ => kF9
  rename News _ _ _ _ => kN9
  exact ⟨rfl, b, d, vs, nb, nd, sd, ts, _, hok, hbd, kF9, rfl, kN9, rfl, rfl⟩
end Mine
end PLwA
section PLwB
namespace Mine
theorem rst_LwB : (1 : Nat) = 1 := by
  w_top off
  first | walk1 | rfl
end Mine
open PySem PySem.W PyProof.Rows
set_option maxRecDepth 100000
set_option maxHeartbeats 400000
namespace Mine
theorem mg_of {K : Frag} {h : Heap} {ns : Addr} {mg : Str → Option Value} {name : Str} {v : Value} (X : K.In h) (N : h.Ns ns mg) (e : nsIn K ns name = some (some v)) : mg name = some v := by
  obtain ⟨o, es, ep, ho, hd, _, hf⟩ := N
  unfold nsIn at e
  split at e
  · rename_i c d es' n sl hk
    have := X _ _ hk
    rw [ho] at this
    cases this
    cases hd
    rw [← hf name]
    unfold nsFind findBy
    split at e
    · rename_i en he
      cases e
      rw [← Array.find?_toList, he]
      rfl
    · split at e <;> cases e
  · cases e
theorem tab_at {K : Frag} {p : Program} {loose : List Str} {mean : ExcName → Option Value} {mg mb : Str → Option Value} {h : Heap} {name : Str} {d : DefRec} {a c P : Addr} {o oc : Obj} {fd : FuncData} {vs : Array Value}
    (X : K.In h) (T : Top p loose mean mg mb h) (hf : (recsOf p).find? (fun e => e.name == name) = some d) (hn : nsIn K mainGlobals name = some (some (.ref a))) (ho : K.lookup a = some o) (hd : o.data = .func fd) (hc : fd.code = .ref c)
    (hoc : K.lookup c = some oc) (hdc : oc.data = .fields vs) (h11 : vs.getD 11 .none = .ref P) : h.get? P = some (tabO #[]) ∧ isCodeTable h P := by
  obtain ⟨c', P', e1, B⟩ := based_of_top T hf (mg_of X T.g hn) (X _ _ ho) hd
  rw [hc] at e1
  cases e1
  obtain ⟨oc', vs', file, tf, flags, tg, inF, text, tt, op, g1, g2, g3, _⟩ := B.code
  rw [X _ _ hoc] at g1
  cases g1
  rw [hdc] at g2
  cases g2
  rw [h11] at g3
  cases g3
  exact ⟨B.tab.2, B.tab.isCodeTable⟩
/-- a program whose view promises nothing -/
def bareProg : Program := { (default : Program) with main := { (default : Module) with body := [.Import [{ name := Str.ofString "sys", asname := none, pos := ⟨1, 1, 1, 1⟩ }] ⟨1, 1, 1, 1⟩] } }
theorem Ns_hide {h : Heap} {a : Addr} {m : Str → Option Value} {l : List Addr} (N : h.Ns a m) (hl : ∀ b ∈ l, h.get? b = some (tabO #[])) : (hideAll h l).Ns a m := by
  obtain ⟨o, es, ep, ho, hd, r⟩ := N
  refine ⟨o, es, ep, hideAll_get _ ho fun hm => ?_, hd, r⟩
  rw [hl a hm] at ho
  cases ho
  cases hd
theorem top_hide {p : Program} {loose : List Str} {mean : ExcName → Option Value} {mg mb : Str → Option Value} {h : Heap} {l : List Addr} (T : Top p loose mean mg mb h) (hl : ∀ b ∈ l, h.get? b = some (tabO #[])) : TopA mean mg mb (hideAll h l) := by
  refine ⟨bareProg, loose ++ (recsOf p).map (·.name) ++ (litsOf p).map (·.1) ++ (clssOf p loose).map (·.name), ?_⟩
  constructor
  · exact Ns_hide T.g hl
  · exact Ns_hide T.b hl
  · obtain ⟨mc, h1, h2⟩ := T.nolimit
    exact ⟨mc, Ns_hide h1 hl, h2⟩
  · obtain ⟨mc, h1, h2⟩ := T.nodigits
    exact ⟨mc, Ns_hide h1 hl, h2⟩
  · intro d hd
    cases hd
  · intro d hd
    cases hd
  · intro x d hd
    cases hd
  · intro x h1 h2 _ _ _
    simp only [List.mem_append, not_or] at h2
    exact T.free x h1 h2.1.1.1 h2.1.1.2 h2.1.2 h2.2
  · exact T.builtins
  · intro d hd
    cases hd
  · obtain ⟨bm, ob, h1, h2, h3, h4, h5, h6⟩ := T.bmain
    refine ⟨bm, ob, h1, h2, hideAll_get _ h3 fun hm => ?_, h4, h5, h6⟩
    rw [hl bm hm] at h3
    cases h3
    cases h4
  · intro hi
    exact absurd hi (by decide)
theorem in_hide {K : Frag} {h : Heap} {l : List Addr} (X : K.In h) (hl : ∀ b ∈ l, K.lookup b = none) : K.In (hideAll h l) := fun a o e => hideAll_get _ (X a o e) fun hm => by
  rw [hl a hm] at e
  cases e
abbrev tabs : List (Addr × Obj) := [(261, tabO #[]), (281, tabO #[])]
theorem tabs_at {w : World} {p : Program} {loose : List Str} {mean : ExcName → Option Value} {mg mb : Str → Option Value} {h : Heap} (X : (hd.heap_39 w.params).In h) (T : Top p loose mean mg mb h)
    (hf : ∃ d, (recsOf p).find? (fun e => e.name == Str.ofString "formal_usage") = some d) (he : ∃ d, (recsOf p).find? (fun e => e.name == Str.ofString "extras") = some d) :
    (h.get? 261 = some (tabO #[]) ∧ isCodeTable h 261) ∧ (h.get? 281 = some (tabO #[]) ∧ isCodeTable h 281) := by
  obtain ⟨d1, h1⟩ := hf
  obtain ⟨d2, h2⟩ := he
  exact ⟨tab_at (a := 266) (c := 265) X T h1 (by k_is) (by k_is) rfl rfl (by k_is) rfl rfl, tab_at (a := 286) (c := 285) X T h2 (by k_is) (by k_is) rfl rfl (by k_is) rfl rfl⟩
theorem not_in (w : World) : ∀ b ∈ [261, 281], (hd.heap_39 w.params).lookup b = none := by
  intro b hb
  rcases List.mem_cons.mp hb with rfl | hb
  · rfl
  · rw [List.mem_singleton.mp hb]; rfl
end Mine
end PLwB
section PLwP
namespace Mine
theorem rst_LwP : (1 : Nat) = 1 := by
  w_top off
  first | walk1 | rfl
end Mine
open PySem PySem.W PyProof.Rows PySem.Calls PyProof.V PySem.Spec PySem.SeqAt
set_option maxRecDepth 100000
set_option maxHeartbeats 400000
namespace Mine
/-- a datum without parts -/
def flatOk : Dat → Bool
  | .none => true
  | .bool _ => true
  | .int _ => true
  | .str x => PyData.strOk x
  | _ => false
theorem flat_reads {h : Heap} : ∀ {vs : List Value} {ds : List Dat}, DatAll [] vs ds → (∀ d ∈ ds, flatOk d = true) → ∃ as, ReadsAll h vs (kqdPs ds) as
  | _, _, .nil, _ => ⟨_, ReadsAll.nil⟩
  | _, _, @DatAll.cons _ v vs d ds hd r, hk => by
    obtain ⟨bs, p⟩ := flat_reads (h := h) r fun d hm => hk d (.tail _ hm)
    have q : ∃ as, Reads h v (kqdP d) as := by
      cases hd with
      | none => exact ⟨_, Reads.none⟩
      | bool b => exact ⟨_, Reads.bool b⟩
      | int i t => exact ⟨_, Reads.int i t⟩
      | str x t => exact ⟨_, Reads.str x t⟩
      | bytes b t => have := hk _ (.head _); simp [flatOk] at this
      | tuple h _ => cases h
      | list h _ => cases h
    obtain ⟨as, q⟩ := q
    rw [kqdPs]
    exact ⟨_, ReadsAll.cons q p⟩
theorem flat_lay : ∀ (ds : List Dat), (∀ d ∈ ds, flatOk d = true) → PyData.canLayAll0 (kqdPs ds) = true ∧ PyData.depthAll (kqdPs ds) ≤ 1 ∧ PyData.eqvAll (kqdPs ds) (kqdPs ds) = true
  | [], _ => by simp [kqdPs, PyData.canLayAll0, PyData.depthAll, PyData.eqvAll]
  | d :: ds, h => by
    obtain ⟨h1, h2, h3⟩ := flat_lay ds fun e he => h e (.tail _ he)
    have h0 := h d (.head _)
    have hd : (kqdP d).canLay0 = true ∧ (kqdP d).depth ≤ 1 ∧ PyData.eqv (kqdP d) (kqdP d) = true := by
      cases d <;> simp_all [flatOk, kqdP, PyData.canLay0, PyData.depth, PyData.eqv]
    simp only [kqdPs, PyData.canLayAll0, PyData.depthAll, PyData.eqvAll, h1, h3, hd.1, hd.2.2, Bool.and_self, true_and, and_true]
    have := hd.2.1
    omega
theorem tup_same_ne {prog : Program} {w : World} {A : Around} {E : Value → Shared → Prop} {s : Shared} {h₀ : Heap} {L a b : Addr} {news : List (Addr × Obj)} {xs ys : List Value} {ds : List Dat} {Q : Value → Shared → Prop}
    (N : News h₀ L s.heap news) (ma : (a, tupObj xs) ∈ news) (Da : DatAll [] xs ds) (mb : (b, tupObj ys) ∈ news) (Db : DatAll [] ys ds) (hk : ∀ d ∈ ds, flatOk d = true) (hu : A.units + 64 < cLine) (h : Q (.bool false) s) :
    wpAny (model prog w) A (compareOp .NotEq (.ref a) (.ref b)) Q E s := by
  obtain ⟨as, ra⟩ := flat_reads (h := s.heap) Da hk
  obtain ⟨bs, rb⟩ := flat_reads (h := s.heap) Db hk
  obtain ⟨l1, l2, l3⟩ := flat_lay ds hk
  have sh : shaped (.tuple (kqdPs ds)) = true := by
    unfold shaped
    simp only [PyData.canLay0, PyData.depth, l1, Bool.true_and]
    exact decide_eq_true (by omega)
  refine ne_dataH (reads_tuple_at (N.get ma) rfl rfl (by simpa using ra)) (reads_tuple_at (N.get mb) rfl rfl (by simpa using rb)) sh sh hu ?_
  rw [show PyData.eqv (.tuple (kqdPs ds)) (.tuple (kqdPs ds)) = true by simp only [PyData.eqv]; exact l3]
  exact h
theorem due_flat {nms : List Str} {V W : Str} (hn : nms ∈ nmM) (hV : V ∈ vM) (hW : W ∈ wM) : ∀ d ∈ optDue nms V W, flatOk d = true := by
  have h : nmM.all (fun nms => vM.all fun V => wM.all fun W => (optDue nms V W).all flatOk) = true := by decide +kernel
  exact List.all_eq_true.mp (List.all_eq_true.mp (List.all_eq_true.mp (List.all_eq_true.mp h nms hn) V hV) W hW)
theorem flat_handed {v : Value} {d : Dat} (h : DatIn [] v d) : handedIn v = true := by cases h <;> rfl
theorem opt_shape {a l c v : Value} {nms : List Str} {V W : Str} (hn : nms ∈ nmM) (h : DatAll [] [a, l, c, v] (optDue nms V W)) :
    handedIn a = true ∧ handedIn l = true ∧ handedIn c = true ∧ handedIn v = true ∧
    ((nL ∈ nms ∧ (∃ t, l = .str nL t) ∧ ((∃ t, a = .str nA t) ∨ a = .none)) ∨ (nL ∉ nms ∧ l = .none ∧ ∃ t, a = .str nA t)) := by
  unfold optDue at h
  cases h with | cons h1 h => cases h with | cons h2 h => cases h with | cons h3 h => cases h with | cons h4 h =>
  refine ⟨flat_handed h1, flat_handed h2, flat_handed h3, flat_handed h4, ?_⟩
  have e1 : nL ∈ nms ∨ (nL ∉ nms ∧ nA ∈ nms) := by
    have : nmM.all (fun nms => decide (nL ∈ nms ∨ (nL ∉ nms ∧ nA ∈ nms))) = true := by decide +kernel
    exact of_decide_eq_true (List.all_eq_true.mp this nms hn)
  rcases e1 with e1 | ⟨e1, e2⟩
  · refine .inl ⟨e1, ?_, ?_⟩
    · rw [if_pos e1] at h2
      cases h2
      exact ⟨_, rfl⟩
    · by_cases e2 : nA ∈ nms
      · rw [if_pos e2] at h1
        cases h1
        exact .inl ⟨_, rfl⟩
      · rw [if_neg e2] at h1
        cases h1
        exact .inr rfl
  · refine .inr ⟨e1, ?_, ?_⟩
    · rw [if_neg e1] at h2
      cases h2
      rfl
    · rw [if_pos e2] at h1
      cases h1
      exact ⟨_, rfl⟩
section
variable {prog : Program} {w : World} {A : Around} {E : Value → Shared → Prop} {s : Shared}
theorem item3 {value slice : PySem.Expr} {l : Addr} {v0 v1 v2 : Value} {k : Int} {u : Tok} {Q : Value → Shared → Prop}
    (hl : s.heap.IsList l [v0, v1, v2].toArray) (h0 : 0 ≤ k) (h1 : k < 3) (c0 : k = 0 → Q v0 s) (c1 : k = 1 → Q v1 s) (c2 : k = 2 → Q v2 s)
    (hs : subscripted slice false (.ref l) (.int k u) = operate [.ref l, .int k u] (getItem (.ref l) (.int k u)) := by with_unfolding_all rfl) :
    wpAny (model prog w) A (subscriptTail value slice (.ref l) (.int k u)) Q E s := by
  have hk : k = 0 ∨ k = 1 ∨ k = 2 := by omega
  rcases hk with hk | hk | hk <;> subst hk
  · exact tail_any hl.typeIs slot_list_getitem.lookup (wpAny_getItem_list hl (by decide) (by decide) (x := v0) (by simp) (c0 rfl)) hs
  · exact tail_any hl.typeIs slot_list_getitem.lookup (wpAny_getItem_list hl (by decide) (by decide) (x := v1) (by simp) (c1 rfl)) hs
  · exact tail_any hl.typeIs slot_list_getitem.lookup (wpAny_getItem_list hl (by decide) (by decide) (x := v2) (by simp) (c2 rfl)) hs
theorem item2 {value slice : PySem.Expr} {l : Addr} {v0 v1 : Value} {k : Int} {u : Tok} {Q : Value → Shared → Prop}
    (hl : s.heap.IsList l [v0, v1].toArray) (h0 : 0 ≤ k) (h1 : k < 2) (c0 : k = 0 → Q v0 s) (c1 : k = 1 → Q v1 s)
    (hs : subscripted slice false (.ref l) (.int k u) = operate [.ref l, .int k u] (getItem (.ref l) (.int k u)) := by with_unfolding_all rfl) :
    wpAny (model prog w) A (subscriptTail value slice (.ref l) (.int k u)) Q E s := by
  have hk : k = 0 ∨ k = 1 := by omega
  rcases hk with hk | hk <;> subst hk
  · exact tail_any hl.typeIs slot_list_getitem.lookup (wpAny_getItem_list hl (by decide) (by decide) (x := v0) (by simp) (c0 rfl)) hs
  · exact tail_any hl.typeIs slot_list_getitem.lookup (wpAny_getItem_list hl (by decide) (by decide) (x := v1) (by simp) (c1 rfl)) hs
end
theorem name_C : mkS [60, 110, 97, 109, 101, 62] = Str.ofString "<name>" := by decide +kernel
theorem five_C : mkS [53] = Str.ofString "5" := by decide +kernel
theorem xy_C : mkS [120, 32, 121] = Str.ofString "x y" := by decide +kernel
/-- what is so of an argument's text -/
structure ArgTxt (x : Str) (r : Option (List Nat)) : Prop where
  len : x.length ≤ 1000000
  h3 : Hits code3 x.cps 0 false (oneOf (some [60, 110, 97, 109, 101, 62]))
  h2 : Hits code2 x.cps 0 false (oneOf r)
  l3 : (oneOf (some [60, 110, 97, 109, 101, 62])).length ≤ 2 * x.length
  l2 : (oneOf r).length ≤ 2 * x.length
theorem arg_txt {x : Str} {l : List Nat} {r : Option (List Nat)} (e : x = mkS l) (h3 : hitIs code3 l (some [60, 110, 97, 109, 101, 62]) = true) (h2 : hitIs code2 l r = true) (hl : l.length ≤ 100) (h1 : 1 ≤ l.length) : ArgTxt x r := by
  subst e
  have hlen : (mkS l).length = l.length := by simp [mkS, Str.length]
  refine ⟨by rw [hlen]; omega, hitIs_is h3, hitIs_is h2, ?_, ?_⟩
  · rw [hlen]; show 1 ≤ _; omega
  · rw [hlen]
    have : (oneOf r).length ≤ 1 := by cases r <;> simp [oneOf]
    omega
theorem arg_0 : ArgTxt (Str.ofString "<name>  what" ++ Str.ofString "") none := arg_txt (by decide +kernel) a3_0 a2_0 (by decide) (by decide)
theorem arg_1 : ArgTxt (Str.ofString "<name>  what" ++ (Str.ofString " [default: " ++ Str.ofString "5" ++ Str.ofString "]")) (some [53]) := arg_txt (by decide +kernel) a3_1 a2_1 (by decide) (by decide)
theorem arg_2 : ArgTxt (Str.ofString "<name>  what" ++ (Str.ofString " [default: " ++ Str.ofString "x y" ++ Str.ofString "]")) (some [120, 32, 121]) := arg_txt (by decide +kernel) a3_2 a2_2 (by decide) (by decide)
theorem handed2 {a v : Value} {ds : List Dat} (h : DatAll [] [a, v] ds) : handedIn a = true ∧ handedIn v = true := by
  cases h with | cons h1 h => cases h with | cons h2 h =>
  exact ⟨flat_handed h1, flat_handed h2⟩
theorem pull_sub {B D : Addr × Obj} {news rest rest' : List (Addr × Obj)} {h₀ h : Heap} {L : Addr} (N : News h₀ L h news) (hp : Pull B D news rest') (hs : ∀ p ∈ rest, p ∈ rest') : News h₀ L h (B :: D :: rest) := fun p hm => by
  have N2 := hp.news N
  rcases List.mem_cons.mp hm with e | hm
  · exact N2 p (e ▸ .head _)
  · rcases List.mem_cons.mp hm with e | hm
    · exact N2 p (e ▸ .tail _ (.head _))
    · exact N2 p (.tail _ (.tail _ (hs p hm)))
theorem ne_of_obj {h₀ h : Heap} {L x y : Addr} {news : List (Addr × Obj)} {o1 o2 : Obj} (N : News h₀ L h news) (h1 : (x, o1) ∈ news) (h2 : (y, o2) ∈ news) (hne : o1.cls ≠ o2.cls) : @Ne Nat x y := fun e => by
  have e' : x = y := e
  subst e'
  have a := (N _ h1).1
  rw [(N _ h2).1] at a
  cases a
  exact hne rfl
/-- a row of usage without the program's name -/
abbrev rowTail (r : Str) : Str := Txt.join (Str.ofString " ") ((Txt.words r).drop 1)
abbrev rowMs : List Str := ([Str.ofString "<x>", Str.ofString "go [--now]", Str.ofString "(a | b)..."] : List Str).map (Str.ofString "prog " ++ ·)
theorem tail_facts {r : Str} (h : r ∈ rowMs) : JoinOk (Str.ofString " ") ((Txt.words r).drop 1) = true ∧ (rowTail r).length ≤ 30 := by
  have : rowMs.all (fun r => JoinOk (Str.ofString " ") ((Txt.words r).drop 1) && decide ((rowTail r).length ≤ 30)) = true := by decide +kernel
  have := List.all_eq_true.mp this r h
  simp only [Bool.and_eq_true, decide_eq_true_eq] at this
  exact this
theorem tails_sum : ∀ (rs : List Str), (∀ r ∈ rs, r ∈ rowMs) → (((rs.map rowTail).map (·.length)).sum ≤ 30 * rs.length)
  | [], _ => by simp
  | p :: r, h => by
    have h1 := tails_sum r fun q hq => h q (List.mem_cons_of_mem _ hq)
    have h2 := (tail_facts (h p List.mem_cons_self)).2
    simp only [List.map_cons, List.sum_cons, List.length_cons]
    omega
theorem tails_facts {rs : List Str} (h : ∀ r ∈ rs, r ∈ rowMs) (h3 : rs.length ≤ 3) : JoinOk (Str.ofString " ) | ( ") (rs.map rowTail) = true ∧ (Txt.join (Str.ofString " ) | ( ") (rs.map rowTail)).length ≤ 200 := by
  have hs := tails_sum rs h
  have hz : (Str.ofString " ) | ( ").length = 7 := by decide +kernel
  constructor
  · unfold JoinOk
    have h3' : (rs.map rowTail).length * 30 ≤ 3 * 30 := Nat.mul_le_mul (by rw [List.length_map]; exact h3) (Nat.le_refl _)
    rw [StrLaws.joinFits (B := 30) (fun y hy => by obtain ⟨p, hp, rfl⟩ := List.mem_map.mp hy; exact (tail_facts (h p hp)).2) (by rw [hz]; rw [List.length_map] at h3' ⊢; omega)]
    rfl
  · have h1 := StrLaws.join_length_le (Str.ofString " ) | ( ") (rs.map rowTail)
    have e : Txt.join (Str.ofString " ) | ( ") (rs.map rowTail) = Str.join (Str.ofString " ) | ( ") (rs.map rowTail) := StrLaws.glued_eq_join _ _
    rw [e]
    rw [hz, List.length_map] at h1
    omega
end Mine
end PLwP
section PLwC
namespace Mine
theorem rst_LwC : (1 : Nat) = 1 := by
  w_top off
  first | walk1 | rfl
end Mine
open PySem PySem.W PyProof.Rows
set_option maxRecDepth 100000
set_option maxHeartbeats 0
namespace Mine
local macro_rules | `(tactic| k_all) => `(tactic| first | with_reducible assumption | exact bnd_ne (by omega))
local macro_rules | `(tactic| k_lt $h:ident) => `(tactic| (replace $h := allLt_of $h; (try simp only [AllLt, and_true] at $h:ident); (try simp only [allLt_bnd] at $h:ident)))
local macro_rules | `(tactic| walk_at "call ref") => `(tactic| (k_here; (with_reducible show wpAny _ _ (call (Value.ref 303) _) _ _ _); refine Hold.mk ?_))
local macro_rules | `(tactic| k_enter) => `(tactic| ((with_reducible show codeAny _ _ (PySem.Code.call (Value.ref 222) _) _ _); refine Hold.mk ?_))
local macro_rules | `(tactic| walk_at "getAttr ref") => `(tactic| (k_here; (with_reducible show wpAny _ _ (getAttr (Value.ref _) _ _) _ _ _); k_dflt (refine' get_own ?k1 ?k2 ?k3 ?k4 ?k5 ?k6 ?k7 ?k8 ?k9 ?_; (case k1 => k_asm); (case k2 => k_asm); (case k3 => k_inst); (case k4 => k_is); (case k5 => k_is); (case k6 => k_is); (case k7 => k_is); (case k8 => k_get); (case k9 => with_reducible assumption); k_whole)))
local macro_rules | `(tactic| walk_at "getAttr ref") => `(tactic| ((with_reducible show wpAny _ _ (getAttr (Value.ref _) (Str.ofString "name") true) _ _ _); refine Hold.mk ?_))
local macro_rules | `(tactic| walk_at "compareOp NotEq ref ref") => `(tactic| (k_here; (with_reducible show wpAny _ _ (compareOp CmpOp.NotEq (Value.ref _) (Value.ref _)) _ _ _); k_dflt (refine' tup_same_ne ?N ?a ?Da ?b ?Db ?fl ?u ?_; (case N => k_asm); (case a => k_mem); (case b => k_mem); (case Da => with_reducible assumption); (case Db => with_reducible assumption); (case fl => with_reducible assumption); (case u => ke_room))))
local macro_rules | `(tactic| walk_at "newTuple") => `(tactic| (k_here; (with_reducible show wpAny _ _ (newTuple _) _ _ _); k_dflt (refine' kup_newTuple ?F ?N ?_ ?z; (case F => k_asm); (case N => k_asm); (case z => kmk_size)); intro D' h' F' N' l1; (try k_lt l1)))
/-- where a stage of the law ends -/
def After (h₀ : Heap) (L b d : Addr) (rest : List (Addr × Obj)) (s : Shared) (f : Flow) (s' : Shared) : Prop := f = .next ∧ ∃ vs nb nd sd ts m', DrawOk vs sd ∧ Fr h₀ L s'.heap m' ∧ m' (Str.ofString "draw") = some (.ref d) ∧ News h₀ L s'.heap (drawL b d vs nb nd sd ts rest) ∧ AllBare s'.gens ∧ s'.os = s.os
theorem draw_if {m : Str → Option Value} {n : Str} {v : Value} (h : m n = some v) : m = fun y => if y = n then some v else m y := by
  funext y
  by_cases e : y = n
  · rw [if_pos e, e, h]
  · rw [if_neg e]
theorem law_1 (w : World) (mean : ExcName → Option Value) (mg mb : Str → Option Value) (a : Addr) (ccd : Value) (h₀ : Heap) (L : Addr) (m : Str → Option Value) (s : Shared) (E : Value → Shared → Prop) (b d : Addr) (vs : List Value) (nb nd : Nat) (sd : Int) (ts : Tok) (rest : List (Addr × Obj))
    (B : Below callerA h₀ [] h₀) (F : Fr h₀ L s.heap m) (X : (hd.heap_39 w.params).In h₀) (N : News h₀ L s.heap (drawL b d vs nb nd sd ts rest)) (T : TopA mean mg mb h₀) (hm : m (Str.ofString "draw") = some (.ref d))
    (hbd : @LT.lt Nat _ b d) (hrb : ∀ p ∈ rest, p.1 ≠ b) (hrd : ∀ p ∈ rest, p.1 ≠ d) (hok : DrawOk vs sd) (hG : AllBare s.gens) :
    wpAny (model PySem.Challenge.rw_aw6008_01.row.prog w) (callerA.deeper (envOf (Str.ofString "law") lawScope L a ccd)) (execs ((lawBody.drop 1).take 3) (envOf (Str.ofString "law") lawScope L a ccd))
      (After h₀ L b d rest s) E s := by
  obtain ⟨pT, lT, T⟩ := T
  rw [draw_if hm] at F
  clear hm
  conv in (execs _ _) => arg 1; whnf
  conv in (occs := *) lawScope => all_goals whnf
  dsimp only [List.take]
  dsimp only [drawL] at N
  k_steps
  apply Hold.out
  rename Fr _ _ _ _ => lF
  rename News _ _ _ _ => lN
  refine option_spec w mean mg mb b d vs nb nd sd ts rest hbd hrb hrd hok _ _ _ _ _ _ _ _ [] callerA h₀ h₀ L _ _ _ _ B lF X lN ⟨_, _, T⟩ (by rfl) (by decide +kernel) (by decide +kernel) ?_
  rintro v news' h' tk' ⟨P, B9, V, W, G, nms, ev, x, T9, U, sV, lV, cV, dV, tt, vs', nb', nd', sd', ts', ⟨hP, hB, hV, hW, hG9, hn, h0, h2⟩, rfl, hx, hdue, hok', ⟨hbU, hdU, hUT, hrU⟩, rfl⟩ F9 N9
  clear lF lN
  dsimp only [drawL] at N9
  k_steps
  apply Hold.out
  rename Fr _ _ _ _ => lF
  rename News _ _ _ _ => lN
  k_dflt (refine oparse_spec w mean mg mb _ x tt P B9 V W G nms ev hP hB hV hW hG9 hn h0 h2 hx _ _ _ _ _ _ _ _ [] callerA h₀ h₀ L _ _ _ _ B lF X lN ⟨_, _, T⟩ (by rfl) (by decide +kernel) (by decide +kernel) ?_)
  rintro v news' h' tk' ⟨o, dx, no, t1, t2, t3, t4, oa, ol, oc, ov, rfl, hall, ⟨hbo, hdo⟩, rfl⟩ F9 N9
  clear lF lN
  obtain ⟨ha1, ha2, ha3, ha4, hsh⟩ := opt_shape hn hall
  obtain ⟨hd1, hd2, hd3, hd4, hsh2⟩ := opt_shape hn hdue
  have hfl := due_flat hn hV hW
  rcases hsh with ⟨hin, ⟨tl, rfl⟩, hoa⟩ | ⟨hin, rfl, ta, rfl⟩
  · obtain ⟨tl2, rfl, hoa2⟩ : ∃ tl2, lV = .str nL tl2 ∧ ((∃ t, sV = .str nA t) ∨ sV = .none) := by
      rcases hsh2 with ⟨_, ⟨t, e⟩, q⟩ | ⟨q, _⟩
      · exact ⟨t, e, q⟩
      · exact absurd hin q
    k_steps
    apply Hold.out
    rename Fr _ _ _ _ => lF
    rename News _ _ _ _ => lN
    refine name_attr (by simp only [depth_deeper, depth_caller]; decide +kernel) lF X ⟨_, _, T⟩ lN (by k_mem) (by k_mem) (.inl ⟨_, _, rfl, by decide +kernel, by decide +kernel⟩) (hoa.imp (fun ⟨t, e⟩ => ⟨_, t, e⟩) id) ?_
    intro h5 tk5 hk5
    rw [if_neg (by simp)]
    have F5 := lF.grownK hk5
    have N5 := lN.grown hk5
    clear lF lN
    k_steps
    rename Fr _ _ _ _ => kF9
    rename News _ _ _ _ => kN9
    exact ⟨rfl, vs', nb', nd', sd', ts', _, hok', kF9, rfl, news_sub kN9 (by intro p9 hp9; repeat (first | exact hp9 | apply List.mem_cons_of_mem)), hG, rfl⟩
  · obtain ⟨ta2, rfl, rfl⟩ : ∃ ta2, sV = .str nA ta2 ∧ lV = .none := by
      rcases hsh2 with ⟨q, _⟩ | ⟨_, e, t, e2⟩
      · exact absurd q hin
      · exact ⟨t, e2, e⟩
    k_steps
    apply Hold.out
    rename Fr _ _ _ _ => lF
    rename News _ _ _ _ => lN
    refine name_attr (by simp only [depth_deeper, depth_caller]; decide +kernel) lF X ⟨_, _, T⟩ lN (by k_mem) (by k_mem) (.inr rfl) (.inl ⟨_, _, rfl⟩) ?_
    intro h5 tk5 hk5
    rw [if_pos rfl]
    have F5 := lF.grownK hk5
    have N5 := lN.grown hk5
    clear lF lN
    k_steps
    rename Fr _ _ _ _ => kF9
    rename News _ _ _ _ => kN9
    exact ⟨rfl, vs', nb', nd', sd', ts', _, hok', kF9, rfl, news_sub kN9 (by intro p9 hp9; repeat (first | exact hp9 | apply List.mem_cons_of_mem)), hG, rfl⟩
end Mine
end PLwC
section PLwD
namespace Mine
theorem rst_LwD : (1 : Nat) = 1 := by
  w_top off
  first | walk1 | rfl
end Mine
open PySem PySem.W PyProof.Rows
set_option maxRecDepth 100000
set_option maxHeartbeats 0
namespace Mine
local macro_rules | `(tactic| k_all) => `(tactic| first | with_reducible assumption | exact bnd_ne (by omega))
local macro_rules | `(tactic| k_lt $h:ident) => `(tactic| (replace $h := allLt_of $h; (try simp only [AllLt, and_true] at $h:ident); (try simp only [allLt_bnd] at $h:ident)))
local macro_rules | `(tactic| walk_at "call ref") => `(tactic| (k_here; (with_reducible show wpAny _ _ (call (Value.ref 298) _) _ _ _); (rename News _ _ _ _ => kN9); k_dflt ( refine' take_spec _ _ _ _ _ _ _ _ _ _ _ _ _ _ ?bd ?rb ?rd ?ok ?m1 ?m2 _ _ _ _ _ _ _ _ _ _ _ _ _ _ _ _ _ ?kB ?kF ?kX ?kN ?kT ?kk ?khd ?khu ?_; (case kN => (refine' Pull.news ?pu kN9; (case pu => (repeat (first | exact Pull.here | apply Pull.there))))); (case kB => k_asm); (case kF => k_asm); (case kX => k_asm); (case kT => exact ⟨_, _, by k_asm⟩); (case kk => first | rfl | assumption); (case bd => assumption); (case rb => k_all); (case rd => k_all); (case ok => assumption); (case m1 => decide); (case m2 => decide); (case khd => decide +kernel); (case khu => decide +kernel)); (rintro v9 news9 h9 tk9 ⟨r9, t9, vs9, nb9, nd9, sd9, ts9, e9, hr9, hs9, hok9, e8⟩ F9 N9); subst e9; subst e8; clear kN9; (try dsimp only [drawL] at N9); (try dsimp only); (try k_fold)))
local macro_rules | `(tactic| k_all) => `(tactic| first | with_reducible assumption | exact bnd_ne (by omega) | ((repeat (refine ne_cons (by dsimp only; omega) ?_)); first | with_reducible assumption | exact bnd_ne (by omega) | exact ne_nil))
local macro_rules | `(tactic| walk_at "binaryOp Add str str") => `(tactic| (k_here; (with_reducible show wpAny _ _ (binaryOp Operator.Add (Value.str _ _) (Value.str _ _)) _ _ _); (refine KOpn.add (by kopn_len) ?_); intro _ _ _))
local macro_rules | `(tactic| k_enter) => `(tactic| ((with_reducible show codeAny _ _ (PySem.Code.call (Value.ref 192) _) _ _); refine Hold.mk ?_))
local macro_rules | `(tactic| walk_at "newTuple") => `(tactic| (k_here; (with_reducible show wpAny _ _ (newTuple _) _ _ _); k_dflt (refine' kup_newTuple ?F ?N ?_ ?z; (case F => k_asm); (case N => k_asm); (case z => kmk_size)); intro D' h' F' N' l1; (try k_lt l1)))
local macro_rules | `(tactic| walk_at "compareOp NotEq ref ref") => `(tactic| (k_here; (with_reducible show wpAny _ _ (compareOp CmpOp.NotEq (Value.ref _) (Value.ref _)) _ _ _); k_dflt (refine' tup_same_ne ?N ?a ?Da ?b ?Db ?fl ?u ?_; (case N => k_asm); (case a => k_mem); (case b => k_mem); (case Da => with_reducible assumption); (case Db => first | with_reducible assumption | exact .cons (DatIn.str _ _) (.cons DatIn.none .nil) | exact .cons (DatIn.str _ _) (.cons (DatIn.str _ _) .nil)); (case fl => with_reducible assumption); (case u => ke_room))))
local macro_rules | `(tactic| walk_at "subscriptTail") => `(tactic| (k_here; (with_reducible show wpAny _ _ (subscriptTail _ _ (Value.ref _) (Value.int _ _)) _ _ _); k_dflt (refine' item3 ?ktbl ?ktb0 ?ktb1 ?_ ?_ ?_; (case ktbl => exact News.isList (by k_asm) (by k_mem)); (case ktb0 => assumption); (case ktb1 => assumption)); all_goals intro hk9))
local macro_rules | `(tactic| walk_at "getAttr ref") => `(tactic| (k_here; (with_reducible show wpAny _ _ (getAttr (Value.ref _) _ _) _ _ _); k_dflt (refine' get_own ?k1 ?k2 ?k3 ?k4 ?k5 ?k6 ?k7 ?k8 ?k9 ?_; (case k1 => k_asm); (case k2 => k_asm); (case k3 => k_inst); (case k4 => k_is); (case k5 => k_is); (case k6 => k_is); (case k7 => k_is); (case k8 => k_get); (case k9 => with_reducible assumption); k_whole)))
theorem law_2 (w : World) (mean : ExcName → Option Value) (mg mb : Str → Option Value) (a : Addr) (ccd : Value) (h₀ : Heap) (L : Addr) (m : Str → Option Value) (s : Shared) (E : Value → Shared → Prop) (b d : Addr) (vs : List Value) (nb nd : Nat) (sd : Int) (ts : Tok) (rest : List (Addr × Obj))
    (B : Below callerA h₀ [] h₀) (F : Fr h₀ L s.heap m) (X : (hd.heap_39 w.params).In h₀) (N : News h₀ L s.heap (drawL b d vs nb nd sd ts rest)) (T : TopA mean mg mb h₀) (hm : m (Str.ofString "draw") = some (.ref d))
    (hbd : @LT.lt Nat _ b d) (hrb : ∀ p ∈ rest, p.1 ≠ b) (hrd : ∀ p ∈ rest, p.1 ≠ d) (hok : DrawOk vs sd) (hG : AllBare s.gens) :
    wpAny (model PySem.Challenge.rw_aw6008_01.row.prog w) (callerA.deeper (envOf (Str.ofString "law") lawScope L a ccd)) (execs ((lawBody.drop 4).take 3) (envOf (Str.ofString "law") lawScope L a ccd))
      (After h₀ L b d rest s) E s := by
  obtain ⟨pT, lT, T⟩ := T
  rw [draw_if hm] at F
  clear hm
  conv in (execs _ _) => arg 1; whnf
  conv in (occs := *) lawScope => all_goals whnf
  dsimp only [List.take]
  dsimp only [drawL] at N
  k_steps
  · apply Hold.out
    rename Fr _ _ _ _ => lF
    rename News _ _ _ _ => lN
    rename DrawOk _ _ => lok
    k_dflt (refine aparse_spec w mean mg mb _ _ _ [60, 110, 97, 109, 101, 62] none arg_0.len arg_0.h3 arg_0.h2 arg_0.l3 arg_0.l2 _ _ _ _ _ _ _ _ [] callerA h₀ h₀ L _ _ _ _ B lF X lN ⟨_, _, T⟩ (by rfl) (by decide +kernel) (by decide +kernel) ?_)
    rintro v news' h' tk' ⟨o, dx, no, t1, t2, oa, ov, rfl, hall, ⟨hbo, hdo⟩, rfl⟩ F9 N9
    clear lF lN
    have hbo' := allLt_bnd dx
    obtain ⟨ha1, ha2⟩ := handed2 hall
    replace hall : DatAll [] [oa, ov] [.str (Str.ofString "<name>"), .none] := by
      rw [name_C] at hall; exact hall
    have hfl : ∀ d ∈ ([.str (Str.ofString "<name>"), .none] : List Dat), flatOk d = true := fun d hd => List.all_eq_true.mp (by decide +kernel : ([.str (Str.ofString "<name>"), .none] : List Dat).all flatOk = true) d hd
    k_steps
    rename Fr _ _ _ _ => kF9
    rename News _ _ _ _ => kN9
    exact ⟨rfl, _, _, _, _, _, _, lok, kF9, rfl, pull_sub kN9 (by repeat (first | exact Pull.here | apply Pull.there)) (by intro p9 hp9; repeat (first | exact hp9 | apply List.mem_cons_of_mem)), hG, rfl⟩
  · apply Hold.out
    rename Fr _ _ _ _ => lF
    rename News _ _ _ _ => lN
    rename DrawOk _ _ => lok
    k_dflt (refine aparse_spec w mean mg mb _ _ _ [60, 110, 97, 109, 101, 62] (some [53]) arg_1.len arg_1.h3 arg_1.h2 arg_1.l3 arg_1.l2 _ _ _ _ _ _ _ _ [] callerA h₀ h₀ L _ _ _ _ B lF X lN ⟨_, _, T⟩ (by rfl) (by decide +kernel) (by decide +kernel) ?_)
    rintro v news' h' tk' ⟨o, dx, no, t1, t2, oa, ov, rfl, hall, ⟨hbo, hdo⟩, rfl⟩ F9 N9
    clear lF lN
    have hbo' := allLt_bnd dx
    obtain ⟨ha1, ha2⟩ := handed2 hall
    replace hall : DatAll [] [oa, ov] [.str (Str.ofString "<name>"), .str (Str.ofString "5")] := by
      rw [name_C, dOf, five_C] at hall; exact hall
    have hfl : ∀ d ∈ ([.str (Str.ofString "<name>"), .str (Str.ofString "5")] : List Dat), flatOk d = true := fun d hd => List.all_eq_true.mp (by decide +kernel : ([.str (Str.ofString "<name>"), .str (Str.ofString "5")] : List Dat).all flatOk = true) d hd
    k_steps
    rename Fr _ _ _ _ => kF9
    rename News _ _ _ _ => kN9
    exact ⟨rfl, _, _, _, _, _, _, lok, kF9, rfl, pull_sub kN9 (by repeat (first | exact Pull.here | apply Pull.there)) (by intro p9 hp9; repeat (first | exact hp9 | apply List.mem_cons_of_mem)), hG, rfl⟩
  · apply Hold.out
    rename Fr _ _ _ _ => lF
    rename News _ _ _ _ => lN
    rename DrawOk _ _ => lok
    k_dflt (refine aparse_spec w mean mg mb _ _ _ [60, 110, 97, 109, 101, 62] (some [120, 32, 121]) arg_2.len arg_2.h3 arg_2.h2 arg_2.l3 arg_2.l2 _ _ _ _ _ _ _ _ [] callerA h₀ h₀ L _ _ _ _ B lF X lN ⟨_, _, T⟩ (by rfl) (by decide +kernel) (by decide +kernel) ?_)
    rintro v news' h' tk' ⟨o, dx, no, t1, t2, oa, ov, rfl, hall, ⟨hbo, hdo⟩, rfl⟩ F9 N9
    clear lF lN
    have hbo' := allLt_bnd dx
    obtain ⟨ha1, ha2⟩ := handed2 hall
    replace hall : DatAll [] [oa, ov] [.str (Str.ofString "<name>"), .str (Str.ofString "x y")] := by
      rw [name_C, dOf, xy_C] at hall; exact hall
    have hfl : ∀ d ∈ ([.str (Str.ofString "<name>"), .str (Str.ofString "x y")] : List Dat), flatOk d = true := fun d hd => List.all_eq_true.mp (by decide +kernel : ([.str (Str.ofString "<name>"), .str (Str.ofString "x y")] : List Dat).all flatOk = true) d hd
    k_steps
    rename Fr _ _ _ _ => kF9
    rename News _ _ _ _ => kN9
    exact ⟨rfl, _, _, _, _, _, _, lok, kF9, rfl, pull_sub kN9 (by repeat (first | exact Pull.here | apply Pull.there)) (by intro p9 hp9; repeat (first | exact hp9 | apply List.mem_cons_of_mem)), hG, rfl⟩
end Mine
end PLwD
section PLwE
namespace Mine
theorem rst_LwE : (1 : Nat) = 1 := by
  w_top off
  first | walk1 | rfl
end Mine
open PySem PySem.W PyProof.Rows
set_option maxRecDepth 100000
set_option maxHeartbeats 0
namespace Mine
local macro_rules | `(tactic| k_all) => `(tactic| first | with_reducible assumption | exact bnd_ne (by omega))
local macro_rules | `(tactic| k_lt $h:ident) => `(tactic| (replace $h := allLt_of $h; (try simp only [AllLt, and_true] at $h:ident); (try simp only [allLt_bnd] at $h:ident)))
local macro_rules | `(tactic| walk_at "call ref") => `(tactic| (k_here; (with_reducible show wpAny _ _ (call (Value.ref 308) _) _ _ _); refine Hold.mk ?_))
local macro_rules | `(tactic| walk_at "call ref") => `(tactic| (k_here; (with_reducible show wpAny _ _ (call (Value.ref 315) _) _ _ _); refine Hold.mk ?_))
local macro_rules | `(tactic| walk_at "call ref") => `(tactic| (k_here; (with_reducible show wpAny _ _ (call (Value.ref 266) _) _ _ _); refine Hold.mk ?_))
local macro_rules | `(tactic| walk_at "eval ListComp") => `(tactic| ((with_reducible show wpAny _ _ (eval (Expr.ListComp _ _ _ _) _) _ _ _); refine Hold.mk ?_))
local macro_rules | `(tactic| walk_at "CompSrc") => `(tactic| ((with_reducible show LCg.CompSrc _ _ _ _ _ _ _ _ _ _ _ _ _ _); refine Hold.mk ?_))
theorem ne_self {prog : Program} {w : World} {A : Around} {E : Value → Shared → Prop} {s : Shared} {x : Str} {t u : Tok} {Q : Value → Shared → Prop} (h : Q (.bool false) s) : wpAny (model prog w) A (compareOp .NotEq (.str x t) (.str x u)) Q E s :=
  PyProof.Rows.ne_str (by rw [show (x != x) = false by simp]; exact h)
local macro_rules | `(tactic| walk_at "compareOp NotEq str str") => `(tactic| ((with_reducible show wpAny _ _ (compareOp CmpOp.NotEq (Value.str _ _) (Value.str _ _)) _ _ _); with_reducible refine ne_self ?_))
local macro_rules | `(tactic| walk_at "call builtin:str.split") => `(tactic| ((with_reducible show wpAny _ _ (call (Value.builtin "str.split") [Value.str _ _]) _ _ _); refine Hold.mk ?_))
local macro_rules | `(tactic| walk_at "call builtin:str.join") => `(tactic| ((with_reducible show wpAny _ _ (call (Value.builtin "str.join") [Value.str _ _, Value.ref _]) _ _ _); refine Hold.mk ?_))
local macro_rules | `(tactic| walk_at "subscriptTail Name Slice ref ref") => `(tactic| (k_here; (with_reducible show wpAny _ _ (subscriptTail _ (PySem.Expr.Slice _ none none _) (Value.ref _) (Value.ref _)) _ _ _); k_dflt (refine' kmk_slice_lit ?F ?N ?l ?p ?q (slice_tail _) ?_ ?s ?t ?z; (case F => k_asm); (case N => k_asm); (case l => exact News.isList (by k_asm) (by k_mem)); (case p => kmk_part); (case q => kmk_part); (case s => with_unfolding_all rfl); (case t => kmk_pure); (case z => (rw [List.size_toArray, sizeLine_eq]; simp only [strValues, List.length_map, List.length_drop]; omega))); intro D' h' F' N' l1; (try k_lt l1); (try k_sweep)))
local macro_rules | `(tactic| walk_at "binaryOp Add str str") => `(tactic| (k_here; (with_reducible show wpAny _ _ (binaryOp Operator.Add (Value.str _ _) (Value.str _ _)) _ _ _); (refine KOpn.add (by kopn_len) ?_); intro _ _ _))
/-- what the rows' comprehension has made so far -/
def TailJ (lr : List (Str × Tok)) (news₀ : List (Addr × Obj)) (ys : List Value) (news : List (Addr × Obj)) : Prop := news = news₀ ∧ ∃ lt : List (Str × Tok), ys = strValues lt ∧ lt.map (·.1) = (lr.take ys.length).map (fun p => rowTail p.1)
theorem tailJ_snoc {lr : List (Str × Tok)} {news₀ news : List (Addr × Obj)} {ys : List Value} {i : Nat} {p : Str × Tok} {t : Tok} (hJ : TailJ lr news₀ ys news) (hl : ys.length = i) (hp : lr[i]? = some p) : TailJ lr news₀ (ys ++ [.str (rowTail p.1) t]) news := by
  obtain ⟨e, lt, e1, e2⟩ := hJ
  refine ⟨e, lt ++ [(rowTail p.1, t)], ?_, ?_⟩
  · rw [e1]; simp [strValues]
  · rw [List.map_append, e2, List.length_append, hl, List.length_singleton, List.take_add_one, hp]
    simp
/-- where the third stage ends -/
def After3 (h₀ : Heap) (L b d : Addr) (rest : List (Addr × Obj)) (s : Shared) (f : Flow) (s' : Shared) : Prop := f = .next ∧ ∃ vs nb nd sd ts m' ps x t, DrawOk vs sd ∧ Fr h₀ L s'.heap m' ∧ m' (Str.ofString "draw") = some (.ref d) ∧ m' (Str.ofString "text") = some (.str x t) ∧ x.length ≤ 1000 ∧ TriplesOk ps.toList ∧
  News h₀ L s'.heap (drawL b d vs nb nd sd ts ((261, tabO ps) :: rest)) ∧ AllBare s'.gens ∧ s'.os = s.os
theorem law_3 (w : World) (mean : ExcName → Option Value) (mg mb : Str → Option Value) (a : Addr) (ccd : Value) (h₀ : Heap) (L : Addr) (m : Str → Option Value) (s : Shared) (E : Value → Shared → Prop) (b d : Addr) (vs : List Value) (nb nd : Nat) (sd : Int) (ts : Tok) (rest : List (Addr × Obj))
    (B : Below callerA h₀ [] h₀) (F : Fr h₀ L s.heap m) (X : (hd.heap_39 w.params).In h₀) (N : News h₀ L s.heap (drawL b d vs nb nd sd ts ((261, tabO #[]) :: rest))) (T : TopA mean mg mb h₀) (hm : m (Str.ofString "draw") = some (.ref d))
    (hbd : @LT.lt Nat _ b d) (hrb : ∀ p ∈ (261, tabO #[]) :: rest, p.1 ≠ b) (hrd : ∀ p ∈ (261, tabO #[]) :: rest, p.1 ≠ d) (hr261 : ∀ p ∈ rest, p.1 ≠ 261) (hok : DrawOk vs sd) (hG : AllBare s.gens) :
    wpAny (model PySem.Challenge.rw_aw6008_01.row.prog w) (callerA.deeper (envOf (Str.ofString "law") lawScope L a ccd)) (execs ((lawBody.drop 7).take 3) (envOf (Str.ofString "law") lawScope L a ccd))
      (After3 h₀ L b d rest s) E s := by
  obtain ⟨pT, lT, T⟩ := T
  rw [draw_if hm] at F
  clear hm
  conv in (execs _ _) => arg 1; whnf
  conv in (occs := *) lawScope => all_goals whnf
  dsimp only [List.take]
  k_steps
  apply Hold.out
  rename Fr _ _ _ _ => lF
  rename News _ _ _ _ => lN
  refine usage_spec w mean mg mb b d vs nb nd sd ts _ hbd hrb hrd hok _ _ _ _ _ _ _ _ [] callerA h₀ h₀ L _ _ _ _ B lF X lN ⟨_, _, T⟩ (by rfl) (by decide +kernel) (by decide +kernel) ?_
  rintro v news' h' tk' ⟨wd, g, aa, bh, text, lr, T9, D, n, tt, uv, vs', nb', nd', sd', ts', ⟨hwd, hg, haa, hbh, hlr, hl1, hl3⟩, hway, rfl, hok', ⟨⟨hbT, hdT, hDT, hrT⟩, hbD, hdD⟩, rfl⟩ F9 N9
  have UL := usage_law hwd hg haa hbh (rows := lr.map (·.1)) (by
    intro r hr
    obtain ⟨p, hp, rfl⟩ := List.mem_map.mp hr
    exact hlr p hp) (by rw [List.length_map]; exact hl1) (by rw [List.length_map]; exact hl3)
  clear lF lN
  dsimp only [drawL] at N9
  rcases hway with ⟨rfl, hx⟩ | ⟨rfl, hx⟩ | ⟨tu, rfl, hx⟩
  · obtain ⟨p0, hc⟩ := UL.none
    have hxl := UL.olen
    rw [← hx] at hc hxl
    k_steps
    apply Hold.out
    rename Fr _ _ _ _ => lF
    rename News _ _ _ _ => lN
    refine printed_none w mean mg mb _ text tt p0 hxl hc _ _ _ _ h₀ L _ _ _ _ B lF X lN ⟨_, _, T⟩ (by rfl) ?_
    rintro v news' h2 tk2 ⟨rfl, rfl⟩ F8 N8
    clear lF lN
    k_steps
    rename Fr _ _ _ _ => kF9
    rename News _ _ _ _ => kN9
    exact ⟨rfl, vs', nb', nd', sd', ts', _, #[], text, tt, hok', kF9, rfl, rfl, hxl, trivial, pull_sub kN9 (by repeat (first | exact Pull.here | apply Pull.there)) (by intro p9 hp9; repeat (first | exact hp9 | apply List.mem_cons_of_mem)), hG, rfl⟩
  · obtain ⟨p0, p1, p2, p3, p4, hc⟩ := UL.twice
    have hxl := UL.tlen.1
    have hx6 := UL.tlen.2
    rw [← hx] at hc hxl hx6
    k_steps
    apply Hold.out
    rename Fr _ _ _ _ => lF
    rename News _ _ _ _ => lN
    refine printed_two w mean mg mb _ text tt p0 p1 p2 p3 p4 hxl hx6 hc _ _ _ _ h₀ L _ _ _ _ B lF X lN ⟨_, _, T⟩ (by rfl) ?_
    rintro v news' h2 tk2 ⟨rfl, rfl⟩ F8 N8
    clear lF lN
    k_steps
    rename Fr _ _ _ _ => kF9
    rename News _ _ _ _ => kN9
    exact ⟨rfl, vs', nb', nd', sd', ts', _, #[], text, tt, hok', kF9, rfl, rfl, hxl, trivial, pull_sub kN9 (by repeat (first | exact Pull.here | apply Pull.there)) (by intro p9 hp9; repeat (first | exact hp9 | apply List.mem_cons_of_mem)), hG, rfl⟩
  · obtain ⟨p0, p1, p2, hh, more, hc, hp1, hp2, hc4, hmore, hhl, hstrip⟩ := UL.normal
    have hxl := Nat.le_trans UL.nlen.1 (show 900 ≤ 1000 by decide)
    have hx6 := UL.nlen.2
    rw [← hx] at hc hxl hx6
    k_steps
    apply Hold.out
    rename Fr _ _ _ _ => lF
    rename News _ _ _ _ => lN
    refine printed_ok w mean mg mb _ text tt p0 p1 p2 hh more hxl hx6 hc hp1 hp2 hc4 hmore hhl _ _ _ _ _ _ _ _ [] callerA h₀ h₀ L _ _ _ _ B lF X lN ⟨_, _, T⟩ (by rfl) (by decide +kernel) (by decide +kernel) ?_
    rintro v news' h2 tk2 ⟨rfl, tv, rfl⟩ F8 N8
    clear lF lN
    rw [hstrip]
    obtain ⟨w0, p, ws, hwords, hform⟩ := UL.formal
    have hul := UL.ulen
    k_steps
    apply Hold.out
    rename Fr _ _ _ _ => lF
    rename News _ _ _ _ => lN
    have lN2 : News h₀ L _ ((261, tabO #[]) :: (T9, tupObj [Value.str text tt, Value.str (wd ++ g ++ Txt.join (Str.ofString "\n  ") (lr.map (·.1))) tu, Value.ref D]) :: (D, W.listOf (strValues lr).toArray n) :: (b, W.listOf vs'.toArray nb') :: (d, W.listOf [Value.ref b, Value.int sd' ts'].toArray nd') :: rest) := fun q hq => lN q (by
      simp only [List.mem_cons] at hq ⊢
      rcases hq with e | e | e | e | e | e
      · exact .inr (.inr (.inr (.inr (.inl e))))
      · exact .inl e
      · exact .inr (.inl e)
      · exact .inr (.inr (.inl e))
      · exact .inr (.inr (.inr (.inl e)))
      · exact .inr (.inr (.inr (.inr (.inr e)))))
    refine formal_spec w mean mg mb _ _ _ w0 p ws (Nat.le_trans hul (by decide)) hwords ?_ _ _ _ _ _ _ _ _ [] callerA h₀ h₀ L _ _ _ _ B lF X lN2 ⟨_, _, T⟩ (by rfl) (by decide +kernel) (by decide +kernel) hG ?_
    · intro q hq
      simp only [List.mem_cons] at hq
      rcases hq with e | e | e | e | e
      · subst e; exact ne_of_obj (o2 := tabO #[]) lN (.head _) (by k_mem) (by intro c; cases c)
      · subst e; exact ne_of_obj (o2 := tabO #[]) lN (.tail _ (.head _)) (by k_mem) (by intro c; cases c)
      · subst e; exact ne_of_obj (o2 := tabO #[]) lN (.tail _ (.tail _ (.head _))) (by k_mem) (by intro c; cases c)
      · subst e; exact ne_of_obj (o2 := tabO #[]) lN (.tail _ (.tail _ (.tail _ (.head _)))) (by k_mem) (by intro c; cases c)
      · exact hr261 q e
    rintro v news' s6 ⟨ps, t6, htr, rfl, rfl⟩ F7 N7 G7 hos7
    clear lF lN lN2
    rw [hform]
    k_steps
    apply Hold.out
    rename Fr _ _ _ _ => lF
    rename News _ _ _ _ => lN
    k_dflt (refine LCg.ListComp_U lF (by rfl) (by decide) (by rfl) (by decide) (by rfl) ?_)
    k_steps
    apply Hold.out
    rename Fr _ _ _ _ => lF
    rename News _ _ _ _ => lN
    refine LCg.CompSrc.ledger (by rfl) lF lN (by k_mem) (by rw [List.size_toArray, sizeLine_eq]; simp only [strValues, List.length_map]; omega) ?_
    intro gg
    refine rest_inv (TailJ lr _) _ ⟨rfl, [], rfl, rfl⟩ ?_ ?_
    · rintro i v ys news hv hi hl hJ I oI C oC D9 m₂ h tk E' hC hxm F9 N9 off9 ne9
      clear lF lN
      have hlt : i < lr.length := by simpa [strValues] using hi
      have hvx : v = .str lr[i].1 lr[i].2 := by
        have e : (strValues lr).toArray[i]? = some (.str lr[i].1 lr[i].2) := by simp [strValues, hlt]
        rw [e] at hv
        exact (Option.some.inj hv).symm
      subst hvx
      k_steps
      apply Hold.out
      rename Fr _ _ _ _ => lF
      rename News _ _ _ _ => lN
      have hrow : lr[i].1 ∈ rowMs := hlr _ (List.getElem_mem hlt)
      have hrl := rowM_len hrow
      obtain ⟨hjo, hjl⟩ := tail_facts hrow
      refine KSpl.split0 lF lN ?_ (by rw [sizeLine_eq]; omega)
      intro D5 l5 h5 k5 eW aW F5 N5 l1
      k_lt l1
      clear lF lN
      have hll : l5.length ≤ 30 := by
        have h8 := fact_words lr[i].1
        have h9 : l5.length = (Txt.words lr[i].1).length := by rw [← eW, List.length_map]
        omega
      k_steps
      apply Hold.out
      rename Fr _ _ _ _ => lF
      rename News _ _ _ _ => lN
      refine SC.join (l := l5.drop 1) (texts := (Txt.words lr[i].1).drop 1) (News.isList lN (by k_mem)) (by rw [List.map_drop, eW]) hjo ?_
      intro t' k'
      refine ⟨_, _, news, rfl, lF, ?_, off9, ?_, tailJ_snoc hJ hl (List.getElem?_eq_getElem hlt)⟩
      · intro q hq
        exact lN q (by repeat (first | exact hq | apply List.mem_cons_of_mem))
      · obtain ⟨e, _⟩ := hJ
        subst e
        exact .inr ⟨_, by k_mem, rfl, _, rfl⟩
    · intro ys news hy hJ
      obtain ⟨e1, lt, e2, e3⟩ := hJ
      subst e1 e2
      have hlen : (strValues lt).length = lr.length := by rw [hy, List.size_toArray]; simp [strValues]
      rw [hlen, List.take_length] at e3
      intro D5 h5 tk5 F5 N5 off5
      simp only [LCg.Off1] at off5
      clear lF lN
      k_steps
      apply Hold.out
      rename News _ _ _ _ => lN
      obtain ⟨hjo, hjl⟩ := tails_facts (rs := lr.map (·.1)) (by
        intro r hr
        obtain ⟨p, hp, rfl⟩ := List.mem_map.mp hr
        exact hlr p hp) (by rw [List.length_map]; exact hl3)
      refine SC.join (l := lt) (texts := (lr.map (·.1)).map rowTail) (News.isList lN (by k_mem)) (by rw [e3, List.map_map]; rfl) hjo ?_
      intro t7 k7
      clear hform
      generalize hJe : Txt.join (Str.ofString " ) | ( ") ((lr.map (·.1)).map rowTail) = J at hjl ⊢
      k_steps
      rename Fr _ _ _ _ => kF9
      rename News _ _ _ _ => kN9
      exact ⟨rfl, vs', nb', nd', sd', ts', _, ps, text, tt, hok', kF9, rfl, rfl, hxl, htr, fun q hq => kN9 q (by
        simp only [drawL, List.mem_cons] at hq ⊢
        rcases hq with e | e | e | e
        · subst e; simp
        · subst e; simp
        · subst e; simp
        · simp [e]), G7, hos7⟩
end Mine
end PLwE
section PLwF
namespace Mine
theorem rst_LwF : (1 : Nat) = 1 := by
  w_top off
  first | walk1 | rfl
end Mine
open PySem PySem.W PyProof.Rows
set_option maxRecDepth 100000
set_option maxHeartbeats 0
namespace Mine
local macro_rules | `(tactic| k_all) => `(tactic| first | with_reducible assumption | exact bnd_ne (by omega))
local macro_rules | `(tactic| k_lt $h:ident) => `(tactic| (replace $h := allLt_of $h; (try simp only [AllLt, and_true] at $h:ident); (try simp only [allLt_bnd] at $h:ident)))
local macro_rules | `(tactic| walk_at "call ref") => `(tactic| (k_here; (with_reducible show wpAny _ _ (call (Value.ref 298) _) _ _ _); (rename News _ _ _ _ => kN9); k_dflt ( refine' take_spec _ _ _ _ _ _ _ _ _ _ _ _ _ _ ?bd ?rb ?rd ?ok ?m1 ?m2 _ _ _ _ _ _ _ _ _ _ _ _ _ _ _ _ _ ?kB ?kF ?kX ?kN ?kT ?kk ?khd ?khu ?_; (case kN => (refine' Pull.news ?pu kN9; (case pu => (repeat (first | exact Pull.here | apply Pull.there))))); (case kB => k_asm); (case kF => k_asm); (case kX => k_asm); (case kT => exact ⟨_, _, by k_asm⟩); (case kk => first | rfl | assumption); (case bd => assumption); (case rb => k_all); (case rd => k_all); (case ok => assumption); (case m1 => decide); (case m2 => decide); (case khd => decide +kernel); (case khu => decide +kernel)); (rintro v9 news9 h9 tk9 ⟨r9, t9, vs9, nb9, nd9, sd9, ts9, e9, hr9, hs9, hok9, e8⟩ F9 N9); subst e9; subst e8; clear kN9; (try dsimp only [drawL] at N9); (try dsimp only); (try k_fold)))
local macro_rules | `(tactic| k_all) => `(tactic| first | with_reducible assumption | exact bnd_ne (by omega) | ((repeat (refine ne_cons (by dsimp only; omega) ?_)); first | with_reducible assumption | exact bnd_ne (by omega) | exact ne_nil))
/-- where the fourth stage ends -/
def After4 (w : World) (h₀ : Heap) (L b d : Addr) (x : Str) (s : Shared) (f : Flow) (s' : Shared) : Prop := f = .next ∧ ∃ vs nb nd sd ts m' D gv nD sps opts t, DrawOk vs sd ∧ Fr h₀ L s'.heap m' ∧ m' (Str.ofString "draw") = some (.ref d) ∧ m' (Str.ofString "text") = some (.str x t) ∧ m' (Str.ofString "given") = some (.ref D) ∧
  OptsAt w opts gv sps ∧ (∀ sp ∈ sps, sp.1 = versS → sp.2 = true) ∧ gv.length ≤ 2 ∧ News h₀ L s'.heap (drawL b d vs nb nd sd ts ((281, tabO #[]) :: (D, W.listOf gv.toArray nD) :: opts)) ∧ (∀ p ∈ (281, tabO #[]) :: (D, W.listOf gv.toArray nD) :: opts, p.1 ≠ b) ∧ (∀ p ∈ (281, tabO #[]) :: (D, W.listOf gv.toArray nD) :: opts, p.1 ≠ d) ∧ (∀ p ∈ (D, W.listOf gv.toArray nD) :: opts, p.1 ≠ 281) ∧ (∃ ps, (261, tabO ps) ∈ opts) ∧ AllBare s'.gens ∧ s'.os = s.os
theorem OptsAt.mono {w : World} {news news' : List (Addr × Obj)} {vs : List Value} {sps : List (Str × Bool)} (h : OptsAt w news vs sps) (hs : ∀ p ∈ news, p ∈ news') : OptsAt w news' vs sps := ⟨h.1, fun i v hv => by
  obtain ⟨sp, h1, o, dx, n, t1, t2, t3, t4, tx, a, c, h2, h3, h4, h5⟩ := h.2 i v hv
  exact ⟨sp, h1, o, dx, n, t1, t2, t3, t4, tx, a, c, h2, hs _ h3, hs _ h4, h5⟩⟩
theorem after4 {w : World} {h₀ : Heap} {L b d D : Addr} {x : Str} {s s' : Shared} {news opts : List (Addr × Obj)} {m' : Str → Option Value} {vs gv : List Value} {nb nd nD : Nat} {sd : Int} {ts t : Tok} {sps : List (Str × Bool)} {ps : Array Value}
    (kF : Fr h₀ L s'.heap m') (kN : News h₀ L s'.heap news) (hok : DrawOk vs sd) (h1 : m' (Str.ofString "draw") = some (.ref d)) (h2 : m' (Str.ofString "text") = some (.str x t)) (h3 : m' (Str.ofString "given") = some (.ref D))
    (hb : (b, W.listOf vs.toArray nb) ∈ news) (hd : (d, W.listOf [.ref b, .int sd ts].toArray nd) ∈ news) (hD : (D, W.listOf gv.toArray nD) ∈ news) (h281 : (281, tabO #[]) ∈ news) (h261 : (261, tabO ps) ∈ news) (hs : ∀ p ∈ opts, p ∈ news ∧ p.2.cls ≠ .type "list" ∧ p.2.cls ≠ .none) (hO : OptsAt w opts gv sps) (hv : ∀ sp ∈ sps, sp.1 = versS → sp.2 = true) (hl : gv.length ≤ 2)
    (hDb : @Ne Nat D b) (hDd : @Ne Nat D d) (hG : AllBare s'.gens) (hos : s'.os = s.os) : After4 w h₀ L b d x s .next s' := by
  have hs2 : ∀ p ∈ (261, tabO ps) :: opts, p ∈ news ∧ p.2.cls ≠ .type "list" ∧ p.1 ≠ 281 := fun p hp => by
    rcases List.mem_cons.mp hp with e | hp
    · subst e; exact ⟨h261, (fun c => by cases c), (by show @Ne Nat 261 281; decide)⟩
    · obtain ⟨a1, a2, a3⟩ := hs p hp
      exact ⟨a1, a2, ne_of_obj kN a1 h281 a3⟩
  have q : ∀ {y : Addr} {o : Obj}, (y, o) ∈ news → o.cls = .type "list" → ∀ p ∈ (261, tabO ps) :: opts, p.1 ≠ y := fun hy hc p hp => ne_of_obj kN (hs2 p hp).1 hy (by rw [hc]; exact (hs2 p hp).2.1)
  have q0 : ∀ {y : Addr} {o : Obj}, (y, o) ∈ news → o.cls = .type "list" → @Ne Nat 281 y := fun hy hc => ne_of_obj kN h281 hy (by rw [hc]; intro c; cases c)
  refine ⟨rfl, vs, nb, nd, sd, ts, m', D, gv, nD, sps, (261, tabO ps) :: opts, t, hok, kF, h1, h2, h3, hO.mono (fun p hp => .tail _ hp), hv, hl, ?_, ?_, ?_, ?_, ⟨ps, .head _⟩, hG, hos⟩
  · intro p hp
    rcases List.mem_cons.mp hp with e | hp
    · exact kN p (e ▸ hb)
    rcases List.mem_cons.mp hp with e | hp
    · exact kN p (e ▸ hd)
    rcases List.mem_cons.mp hp with e | hp
    · exact kN p (e ▸ h281)
    rcases List.mem_cons.mp hp with e | hp
    · exact kN p (e ▸ hD)
    · exact kN p (hs2 p hp).1
  · intro p hp
    rcases List.mem_cons.mp hp with e | hp
    · subst e; exact q0 hb rfl
    · rcases List.mem_cons.mp hp with e | hp
      · subst e; exact hDb
      · exact q hb rfl p hp
  · intro p hp
    rcases List.mem_cons.mp hp with e | hp
    · subst e; exact q0 hd rfl
    · rcases List.mem_cons.mp hp with e | hp
      · subst e; exact hDd
      · exact q hd rfl p hp
  · intro p hp
    rcases List.mem_cons.mp hp with e | hp
    · subst e; exact Ne.symm (q0 hD rfl)
    · exact (hs2 p hp).2.2
theorem opts_0 {w : World} : OptsAt w [] [] [] := ⟨rfl, fun i v h => by simp at h⟩
theorem opts_1 {w : World} {o dx : Addr} {n : Nat} {t1 t2 t3 t4 tx : Tok} {a c : Value} {x : Str} {vb : Bool} (hx : x = helpS ∨ x = versS) (ha : (∃ x t, a = .str x t) ∨ a = .none) :
    OptsAt w [(o, instObj 250 dx), (dx, dictOf (optEnts w t1 t2 t3 t4 a (.str x tx) c (.bool vb)) n)] [.ref o] [(x, vb)] := ⟨rfl, fun i v h => by
  cases i with
  | zero => simp at h; subst h; exact ⟨(x, vb), rfl, o, dx, n, t1, t2, t3, t4, tx, a, c, rfl, .head _, .tail _ (.head _), hx, ha⟩
  | succ i => simp at h⟩
theorem opts_2 {w : World} {o dx o2 dx2 : Addr} {n n2 : Nat} {t1 t2 t3 t4 tx u1 u2 u3 u4 ux : Tok} {a c a2 c2 : Value} {x x2 : Str} {vb vb2 : Bool} (hx : x = helpS ∨ x = versS) (ha : (∃ x t, a = .str x t) ∨ a = .none) (hx2 : x2 = helpS ∨ x2 = versS) (ha2 : (∃ x t, a2 = .str x t) ∨ a2 = .none) :
    OptsAt w [(o, instObj 250 dx), (dx, dictOf (optEnts w t1 t2 t3 t4 a (.str x tx) c (.bool vb)) n), (o2, instObj 250 dx2), (dx2, dictOf (optEnts w u1 u2 u3 u4 a2 (.str x2 ux) c2 (.bool vb2)) n2)] [.ref o, .ref o2] [(x, vb), (x2, vb2)] := ⟨rfl, fun i v h => by
  match i with
  | 0 => simp at h; subst h; exact ⟨(x, vb), rfl, o, dx, n, t1, t2, t3, t4, tx, a, c, rfl, .head _, .tail _ (.head _), hx, ha⟩
  | 1 => simp at h; subst h; exact ⟨(x2, vb2), rfl, o2, dx2, n2, u1, u2, u3, u4, ux, a2, c2, rfl, .tail _ (.tail _ (.head _)), .tail _ (.tail _ (.tail _ (.head _))), hx2, ha2⟩
  | i + 2 => simp at h⟩
theorem hs_1 {w : World} {o dx : Addr} {n : Nat} {t1 t2 t3 t4 : Tok} {a l c v : Value} {news : List (Addr × Obj)} (ho : (o, instObj 250 dx) ∈ news) (hdx : (dx, dictOf (optEnts w t1 t2 t3 t4 a l c v) n) ∈ news) :
    ∀ p ∈ [(o, instObj 250 dx), (dx, dictOf (optEnts w t1 t2 t3 t4 a l c v) n)], p ∈ news ∧ p.2.cls ≠ .type "list" ∧ p.2.cls ≠ .none := fun p hp => by
  rcases List.mem_cons.mp hp with e | hp
  · subst e; exact ⟨ho, (fun c => by cases c), (fun c => by cases c)⟩
  · rw [List.mem_singleton.mp hp]; exact ⟨hdx, (fun c => by injection c with c; exact absurd c (by decide)), (fun c => by cases c)⟩
theorem hs_2 {A B C D : Addr × Obj} {P : Addr × Obj → Prop} (h1 : ∀ p ∈ [A, B], P p) (h2 : ∀ p ∈ [C, D], P p) : ∀ p ∈ [A, B, C, D], P p := fun p hp => by
  rcases List.mem_cons.mp hp with e | hp
  · subst e; exact h1 _ (.head _)
  · rcases List.mem_cons.mp hp with e | hp
    · subst e; exact h1 _ (.tail _ (.head _))
    · exact h2 p hp
theorem hv_help {vb : Bool} : ∀ sp ∈ [(helpS, vb)], sp.1 = versS → sp.2 = true := fun sp hp e => by
  rw [List.mem_singleton.mp hp] at e
  exact absurd (show helpS = versS from e) (by decide +kernel)
theorem hv_vers : ∀ sp ∈ [(versS, true)], sp.1 = versS → sp.2 = true := fun sp hp e => by
  rw [List.mem_singleton.mp hp]
theorem hv_both {vb : Bool} : ∀ sp ∈ [(helpS, vb), (versS, true)], sp.1 = versS → sp.2 = true := fun sp hp e => by
  rcases List.mem_cons.mp hp with q | hp
  · exact hv_help sp (by rw [q]; exact .head _) e
  · exact hv_vers sp hp e
theorem law_4 (w : World) (mean : ExcName → Option Value) (mg mb : Str → Option Value) (a : Addr) (ccd : Value) (h₀ : Heap) (L : Addr) (m : Str → Option Value) (s : Shared) (E : Value → Shared → Prop) (b d : Addr) (vs : List Value) (nb nd : Nat) (sd : Int) (ts : Tok) (x : Str) (tx : Tok) (ps : Array Value)
    (B : Below callerA h₀ [] h₀) (F : Fr h₀ L s.heap m) (X : (hd.heap_39 w.params).In h₀) (N : News h₀ L s.heap (drawL b d vs nb nd sd ts [(281, tabO #[]), (261, tabO ps)])) (T : TopA mean mg mb h₀) (hm : m (Str.ofString "draw") = some (.ref d)) (hm2 : m (Str.ofString "text") = some (.str x tx))
    (hbd : @LT.lt Nat _ b d) (hb1 : @Ne Nat 281 b) (hd1 : @Ne Nat 281 d) (hb2 : @Ne Nat 261 b) (hd2 : @Ne Nat 261 d) (hok : DrawOk vs sd) (hG : AllBare s.gens) :
    wpAny (model PySem.Challenge.rw_aw6008_01.row.prog w) (callerA.deeper (envOf (Str.ofString "law") lawScope L a ccd)) (execs ((lawBody.drop 10).take 3) (envOf (Str.ofString "law") lawScope L a ccd))
      (After4 w h₀ L b d x s) E s := by
  obtain ⟨pT, lT, T⟩ := T
  rw [draw_if hm2] at F
  rw [draw_if (m := fun y => if y = Str.ofString "text" then some (.str x tx) else m y) (n := Str.ofString "draw") (v := .ref d) (by rw [if_neg (by decide +kernel)]; exact hm)] at F
  clear hm hm2
  conv in (execs _ _) => arg 1; whnf
  conv in (occs := *) lawScope => all_goals whnf
  dsimp only [List.take]
  dsimp only [drawL] at N
  k_steps
  all_goals (
    rename Fr _ _ _ _ => kF9
    rename News _ _ _ _ => kN9
    first
      | exact after4 kF9 kN9 (by assumption) rfl rfl rfl (by k_mem) (by k_mem) (by k_mem) (by k_mem) (by k_mem) (List.forall_mem_nil _) opts_0 (List.forall_mem_nil _) (by simp) (by omega) (by omega) hG rfl
      | exact after4 kF9 kN9 (by assumption) rfl rfl rfl (by k_mem) (by k_mem) (gv := [.ref _]) (by k_mem) (by k_mem) (by k_mem) (hs_1 (by k_mem) (by k_mem)) (opts_1 (by first | exact .inl rfl | exact .inr rfl) (by first | exact .inl ⟨_, _, rfl⟩ | exact .inr rfl)) (by first | exact hv_help | exact hv_vers) (by simp) (by omega) (by omega) hG rfl
      | exact after4 kF9 kN9 (by assumption) rfl rfl rfl (by k_mem) (by k_mem) (gv := [.ref _, .ref _]) (by k_mem) (by k_mem) (by k_mem) (hs_2 (hs_1 (by k_mem) (by k_mem)) (hs_1 (by k_mem) (by k_mem))) (opts_2 (by first | exact .inl rfl | exact .inr rfl) (by first | exact .inl ⟨_, _, rfl⟩ | exact .inr rfl) (by first | exact .inl rfl | exact .inr rfl) (by first | exact .inl ⟨_, _, rfl⟩ | exact .inr rfl)) hv_both (by simp) (by omega) (by omega) hG rfl)
end Mine
end PLwF
section PLwQ
namespace Mine
theorem rst_LwQ : (1 : Nat) = 1 := by
  w_top off
  first | walk1 | rfl
end Mine
open PySem PySem.W PyProof.Rows PySem.Calls PyProof.Rows.LCg PyProof.Rows.LCt
set_option maxRecDepth 100000
set_option maxHeartbeats 200000
namespace Mine
section
variable {prog : Program} {w : World} {A : Around} {h₀ : Heap} {L : Addr} {m : Str → Option Value} {env : Env} {E : Value → Shared → Prop}
/-- a list against the empty one -/
theorem list_ne_nil {s : Shared} {a b : Addr} {ys : List Value} {Q : Value → Shared → Prop} (ha : s.heap.IsList a ys.toArray) (hb : s.heap.IsList b ([] : List Value).toArray) (hu : A.units < cLine) (h : Q (.bool (!ys.isEmpty)) s) :
    wpAny (model prog w) A (compareOp .NotEq (.ref a) (.ref b)) Q E s := by
  cases ys with
  | nil => exact PySem.SeqAt.RcNeAt.lists (e := fun _ => true) ha hb rfl hu (fun j h1 _ => by simp at h1) prog w E Q h
  | cons y r => exact PySem.SeqAt.RcNeAt.lists_lengths ha hb (by simp) hu prog w E Q h
/-- a comprehension that picks items by a test -/
theorem rest_sel {ct elt : PySem.Expr} {x : Str} {scope : Scope} {cl : List (Str × Addr)} {s : Shared} {S : List (Addr × Obj) → Prop} {P : Nat → Value → Prop} {Fin : List Value → List (Addr × Obj) → Prop} {news : List (Addr × Obj)} (g : Nat → Bool) (its : Nat → Value) (n : Nat) (hS : S news)
    (hP : ∀ i v, P i v → i < n → v = its i)
    (hR : ∀ i v, P i v → i < n → ∀ I oI C oC D ys m₂ h tk (Q' : Bool → Shared → Prop) (E' : Value → Shared → Prop), NsObj oC m₂ → m₂ x = some v → Fr h₀ L h m → News h₀ L h ((I, oI) :: (C, oC) :: (D, lst ys) :: news) → (∀ h' tk', (∀ b o, h.get? b = some o → h'.get? b = some o) → Q' (g i) { s with heap := h', toks := tk' }) →
      wpAny (model prog w) A (isTrue ct (compEnvC scope cl C env) (eval ct (compEnvC scope cl C env))) Q' E' { s with heap := h, toks := tk })
    (hE : ∀ v C m₂ h tk (Q' E' : Value → Shared → Prop), h.Ns C m₂ → m₂ x = some v → Q' v { s with heap := h, toks := tk } → wpAny (model prog w) A (eval elt (compEnvC scope cl C env)) Q' E' { s with heap := h, toks := tk })
    (hF : Fin (((List.range n).filter g).map its) news) : CompRestT prog w A h₀ L m env ct elt x scope cl s S P Fin n 0 [] news := by
  suffices H : ∀ k i ys, i + k = n → ys = ((List.range i).filter g).map its → CompRestT prog w A h₀ L m env ct elt x scope cl s S P Fin k i ys news from H n 0 [] (Nat.zero_add n) rfl
  intro k
  induction k with
  | zero =>
    intro i ys hi hy
    rw [Nat.add_zero] at hi
    subst hi hy
    exact hF
  | succ k ih =>
    intro i ys hi hy
    intro v I oI C oC D m₂ h tk E' hv hC hx F N off hne
    have hlt : i < n := by omega
    refine hR i v hv hlt I oI C oC D ys m₂ h tk _ E' hC hx F N fun h' tk' hk => ?_
    have hstep : ((List.range (i + 1)).filter g).map its = ((List.range i).filter g).map its ++ (if g i = true then [its i] else []) := by
      rw [List.range_succ, List.filter_append, List.map_append]
      by_cases hg : g i = true
      · simp [hg]
      · simp [hg]
    have F' := F.grownK hk
    have N' := N.grown hk
    cases hg : g i with
    | true =>
      rw [if_pos rfl]
      refine hE v C m₂ h' tk' _ E' (hC.ns (N' (C, oC) (.tail _ (.head _))).1) hx ?_
      refine ⟨h', tk', news, rfl, F', N', off, hS, ih (i + 1) _ (by omega) ?_⟩
      rw [hstep, hg, if_pos rfl, ← hy, hP i v hv hlt]
    | false =>
      rw [if_neg (by decide)]
      refine ⟨h', tk', news, rfl, F', N', off, hS, ih (i + 1) _ (by omega) ?_⟩
      rw [hstep, hg, if_neg (by decide), ← hy, List.append_nil]
end
theorem ld_comp {prog : Program} {w : World} {A : Around} {E : Value → Shared → Prop} {s : Shared} {x : Str} {pos : Pos} {scope : Scope} {cl : List (Str × Addr)} {C : Addr} {env : Env} {m : Str → Option Value} {v : Value} {Q : Value → Shared → Prop} (hk : (compEnvC scope cl C env).scope.kind = .function) (hl : (compEnvC scope cl C env).kindOf x = some .local) (hn : s.heap.Ns C m) (hv : m x = some v) (h : Q v s)
    (hd : (x == ("__debug__" : Str)) = false := by decide) : wpAny (model prog w) A (eval (.Name x pos) (compEnvC scope cl C env)) Q E s := wpAny_Name (wpAny_loadName_local hk hl hn hv h) hd
theorem tst_help {w : World} {A : Around} {mean : ExcName → Option Value} {mg mb : Str → Option Value} {h₀ : Heap} {L : Addr} {m m₂ : Str → Option Value} {t : Shared} {news : List (Addr × Obj)} {o dx C : Addr} {n : Nat} {t1 t2 t3 t4 tx : Tok} {a c : Value} {x : Str} {vb : Bool} {E : Value → Shared → Prop} {Q : Bool → Shared → Prop}
    {env : Env} {scope : Scope} {p1 p2 p3 p6 p7 p8 p9 : Pos} {k1 : Nat}
    (hA : A.depth + 40 < recursionLimit) (F : Fr h₀ L t.heap m) (X : (hd.heap_39 w.params).In h₀) (T : TopA mean mg mb h₀) (N : News h₀ L t.heap news) (ho : (o, instObj 250 dx) ∈ news) (hdx : (dx, dictOf (optEnts w t1 t2 t3 t4 a (.str x tx) c (.bool vb)) n) ∈ news)
    (hx : x = helpS ∨ x = versS) (ha : (∃ x t, a = .str x t) ∨ a = .none)
    (hk : (compEnvC scope [] C env).scope.kind = .function) (hl1 : (compEnvC scope [] C env).kindOf (Str.ofString "one") = some .local)
    (hns : t.heap.Ns C m₂) (hm : m₂ (Str.ofString "one") = some (.ref o))
    (hret : ∀ h' tk', (∀ b o, t.heap.get? b = some o → h'.get? b = some o) → Q (x == helpS && vb) { t with heap := h', toks := tk' }) :
    wpAny (model PySem.Challenge.rw_aw6008_01.row.prog w) A (isTrue (.BoolOp .And [.Compare (.Attribute (.Name (Str.ofString "one") p1) (Str.ofString "name") p2) [.Eq] [.Constant (.str (Str.ofString "--help")) k1 p3] p6, .Attribute (.Name (Str.ofString "one") p7) (Str.ofString "value") p8] p9) (compEnvC scope [] C env)
      (eval (.BoolOp .And [.Compare (.Attribute (.Name (Str.ofString "one") p1) (Str.ofString "name") p2) [.Eq] [.Constant (.str (Str.ofString "--help")) k1 p3] p6, .Attribute (.Name (Str.ofString "one") p7) (Str.ofString "value") p8] p9) (compEnvC scope [] C env))) Q E t := by
  have hl : ∀ {pos : Pos} {Q : Value → Shared → Prop} {s : Shared}, (∀ b o, t.heap.get? b = some o → s.heap.get? b = some o) → Q (.ref o) s → wpAny (model PySem.Challenge.rw_aw6008_01.row.prog w) A (eval (.Name (Str.ofString "one") pos) (compEnvC scope [] C env)) Q E s := fun e h => ld_comp hk hl1 (hns.keeps e) hm h
  have N2 : News h₀ L t.heap [(o, instObj 250 dx), (dx, dictOf (optEnts w t1 t2 t3 t4 a (.str x tx) c (.bool vb)) n)] := fun p hp => by
    rcases List.mem_cons.mp hp with e | hp
    · exact e ▸ N _ ho
    · rw [List.mem_singleton.mp hp]; exact N _ hdx
  clear N ho hdx
  have hlx : (∃ y u, Value.str x tx = .str y u ∧ y.length ≠ 0 ∧ y.length ≤ 1000) ∨ Value.str x tx = .none := .inl ⟨x, tx, rfl, by rcases hx with rfl | rfl <;> decide +kernel, by rcases hx with rfl | rfl <;> decide +kernel⟩
  iterate 3 walk1
  refine hl (fun _ _ e => e) ?_
  refine name_attr (by omega) F X T N2 (.head _) (.tail _ (.head _)) hlx ha ?_
  intro h1 tk1 hk1
  rw [if_neg (by simp)]
  have F1 := F.grownK hk1
  have N1 := N2.grown hk1
  clear hlx
  rcases hx with rfl | rfl
  · iterate 7 walk1
    refine hl hk1 ?_
    obtain ⟨pT, lT, T⟩ := T
    walk1
    have hr := fun tk => hret h1 tk hk1
    rw [show (helpS == helpS && vb) = vb by simp] at hr
    clear hret hl
    cases vb
    · iterate 3 (try walk1)
      exact hr _
    · iterate 3 (try walk1)
      exact hr _
  · iterate 4 walk1
    have hr := fun tk => hret h1 tk hk1
    rw [show (versS == helpS && vb) = false by rw [show (versS == helpS) = false by decide +kernel]; rfl] at hr
    exact hr _
theorem tst_vers {w : World} {A : Around} {mean : ExcName → Option Value} {mg mb : Str → Option Value} {h₀ : Heap} {L : Addr} {m m₂ : Str → Option Value} {t : Shared} {news : List (Addr × Obj)} {o dx C : Addr} {n : Nat} {t1 t2 t3 t4 tx : Tok} {a c : Value} {x : Str} {vb : Bool} {E : Value → Shared → Prop} {Q : Bool → Shared → Prop}
    {env : Env} {scope : Scope} {p1 p2 p3 p6 : Pos} {k1 : Nat}
    (hA : A.depth + 40 < recursionLimit) (F : Fr h₀ L t.heap m) (X : (hd.heap_39 w.params).In h₀) (T : TopA mean mg mb h₀) (N : News h₀ L t.heap news) (ho : (o, instObj 250 dx) ∈ news) (hdx : (dx, dictOf (optEnts w t1 t2 t3 t4 a (.str x tx) c (.bool vb)) n) ∈ news)
    (hx : x = helpS ∨ x = versS) (ha : (∃ x t, a = .str x t) ∨ a = .none)
    (hk : (compEnvC scope [] C env).scope.kind = .function) (hl1 : (compEnvC scope [] C env).kindOf (Str.ofString "one") = some .local)
    (hns : t.heap.Ns C m₂) (hm : m₂ (Str.ofString "one") = some (.ref o))
    (hret : ∀ h' tk', (∀ b o, t.heap.get? b = some o → h'.get? b = some o) → Q (x == versS) { t with heap := h', toks := tk' }) :
    wpAny (model PySem.Challenge.rw_aw6008_01.row.prog w) A (isTrue (.Compare (.Attribute (.Name (Str.ofString "one") p1) (Str.ofString "name") p2) [.Eq] [.Constant (.str (Str.ofString "--version")) k1 p3] p6) (compEnvC scope [] C env)
      (eval (.Compare (.Attribute (.Name (Str.ofString "one") p1) (Str.ofString "name") p2) [.Eq] [.Constant (.str (Str.ofString "--version")) k1 p3] p6) (compEnvC scope [] C env))) Q E t := by
  have hl : ∀ {pos : Pos} {Q : Value → Shared → Prop} {s : Shared}, (∀ b o, t.heap.get? b = some o → s.heap.get? b = some o) → Q (.ref o) s → wpAny (model PySem.Challenge.rw_aw6008_01.row.prog w) A (eval (.Name (Str.ofString "one") pos) (compEnvC scope [] C env)) Q E s := fun e h => ld_comp hk hl1 (hns.keeps e) hm h
  have N2 : News h₀ L t.heap [(o, instObj 250 dx), (dx, dictOf (optEnts w t1 t2 t3 t4 a (.str x tx) c (.bool vb)) n)] := fun p hp => by
    rcases List.mem_cons.mp hp with e | hp
    · exact e ▸ N _ ho
    · rw [List.mem_singleton.mp hp]; exact N _ hdx
  clear N ho hdx
  have hlx : (∃ y u, Value.str x tx = .str y u ∧ y.length ≠ 0 ∧ y.length ≤ 1000) ∨ Value.str x tx = .none := .inl ⟨x, tx, rfl, by rcases hx with rfl | rfl <;> decide +kernel, by rcases hx with rfl | rfl <;> decide +kernel⟩
  iterate 2 walk1
  refine hl (fun _ _ e => e) ?_
  refine name_attr (by omega) F X T N2 (.head _) (.tail _ (.head _)) hlx ha ?_
  intro h1 tk1 hk1
  rw [if_neg (by simp)]
  have F1 := F.grownK hk1
  have N1 := N2.grown hk1
  clear hlx
  rcases hx with rfl | rfl
  · iterate 3 walk1
    exact hret _ _ hk1
  · iterate 3 walk1
    exact hret _ _ hk1
theorem sel_any (p : Nat → Bool) (f : Nat → Value) : ∀ l : List Nat, (!((l.filter p).map f).isEmpty) = l.any p
  | [] => rfl
  | a :: l => by
    have ih := sel_any p f l
    rw [List.filter_cons, List.any_cons]
    cases h : p a with
    | true => simp
    | false => simpa using ih
/-- the law's comprehension over the given options -/
theorem comp_law {w : World} {A : Around} {h₀ : Heap} {L : Addr} {m : Str → Option Value} {s : Shared} {news opts : List (Addr × Obj)} {gv : List Value} {sps : List (Str × Bool)} {D : Addr} {nD : Nat} {env : Env} {px pi pe pos : Pos} {ct : PySem.Expr} {scope : Scope} {Q E : Value → Shared → Prop} (g : Str × Bool → Bool)
    (hh : A.handled = none) (F : Fr h₀ L s.heap m) (N : News h₀ L s.heap news) (hO : OptsAt w opts gv sps) (hsub : ∀ p ∈ opts, p ∈ news) (hD : (D, W.listOf gv.toArray nD) ∈ news) (hl2 : gv.length ≤ 8)
    (hclos : closureFor scope env = pure []) (hcell : ∀ y ∈ scope.names, y.2 ≠ .cell) (hkind : scope.kind = .function) (hnames : ∀ y ∈ scope.names, y.2 = .local → scope.names.lookup y.1 = some .local) (hx : scope.names.lookup (Str.ofString "one") = some .local)
    (hk : ∀ C, (compEnvC scope [] C env).scope.kind = .function) (hl1 : ∀ C, (compEnvC scope [] C env).kindOf (Str.ofString "one") = some .local)
    (hit : ∀ {Q' : Value → Shared → Prop}, Q' (.ref D) s → wpAny (model PySem.Challenge.rw_aw6008_01.row.prog w) A (eval (.Name (Str.ofString "given") pi) env) Q' E s)
    (ht : ∀ (t : Shared) (o dx C : Addr) (n : Nat) (t1 t2 t3 t4 tx : Tok) (a c : Value) (sp : Str × Bool) (m₂ : Str → Option Value) (Q' : Bool → Shared → Prop) (E' : Value → Shared → Prop), Fr h₀ L t.heap m → News h₀ L t.heap opts →
      (o, instObj 250 dx) ∈ opts → (dx, dictOf (optEnts w t1 t2 t3 t4 a (.str sp.1 tx) c (.bool sp.2)) n) ∈ opts → (sp.1 = helpS ∨ sp.1 = versS) → ((∃ x t, a = .str x t) ∨ a = .none) → t.heap.Ns C m₂ → m₂ (Str.ofString "one") = some (.ref o) →
      (∀ h' tk', (∀ b o, t.heap.get? b = some o → h'.get? b = some o) → Q' (g sp) { t with heap := h', toks := tk' }) →
      wpAny (model PySem.Challenge.rw_aw6008_01.row.prog w) A (isTrue ct (compEnvC scope [] C env) (eval ct (compEnvC scope [] C env))) Q' E' t)
    (hQ : ∀ D5 h' tk' ys, (!ys.isEmpty) = sps.any g → Fr h₀ L h' m → News h₀ L h' ((D5, lst ys) :: news) → Off1 D5 news → Q (.ref D5) { s with heap := h', toks := tk' }) :
    wpAny (model PySem.Challenge.rw_aw6008_01.row.prog w) A (eval (.ListComp (.Name (Str.ofString "one") pe) [⟨.Name (Str.ofString "one") px, .Name (Str.ofString "given") pi, [ct], 0⟩] scope pos) env) Q E s := by
  refine LCt.ListComp_T F hclos hcell hkind hnames hx (hit ?_) (by intro _; rfl)
  refine LCt.CompSrcT.ledger hh F N hD (by rw [List.size_toArray, sizeLine_eq]; omega) ?_
  intro gg
  have hsz : gv.toArray.size = sps.length := by rw [List.size_toArray, hO.1]
  refine rest_sel (fun i => match sps[i]? with | some sp => g sp | none => false) (fun i => gv.getD i .none) _ (.inr ⟨_, hD, rfl, _, rfl⟩) ?_ ?_ ?_ ?_
  · intro i v hv hi
    rw [List.getElem?_toArray] at hv
    rw [List.getD_eq_getElem?_getD, hv]
    rfl
  · intro i v hv hi I oI C oC D9 ys m₂ h tk Q' E' hC hxm F9 N9 hk9
    rw [List.getElem?_toArray] at hv
    obtain ⟨sp, hsp, o, dx, n, t1, t2, t3, t4, tx, a, c, rfl, ho, hdx, hsx, ha⟩ := hO.2 i v hv
    simp only [hsp] at hk9
    exact ht { s with heap := h, toks := tk } o dx C n t1 t2 t3 t4 tx a c sp m₂ Q' E' F9 (fun p hp => N9 p (.tail _ (.tail _ (.tail _ (hsub p hp))))) ho hdx hsx ha (hC.ns (N9 (C, oC) (.tail _ (.head _))).1) hxm hk9
  · intro v C m₂ h tk Q' E' hns hxm hq
    exact ld_comp (hk C) (hl1 C) hns hxm hq
  · intro D5 h5 tk5 F5 N5 off5
    exact hQ D5 h5 tk5 _ (by rw [sel_any, hsz]; exact any_specs sps g) F5 N5 off5
end Mine
end PLwQ
section PLwG
namespace Mine
theorem rst_LwG : (1 : Nat) = 1 := by
  w_top off
  first | walk1 | rfl
end Mine
open PySem PySem.W PyProof.Rows
set_option maxRecDepth 100000
set_option maxHeartbeats 0
namespace Mine
local macro_rules | `(tactic| k_all) => `(tactic| first | with_reducible assumption | exact bnd_ne (by omega))
local macro_rules | `(tactic| k_lt $h:ident) => `(tactic| (replace $h := allLt_of $h; (try simp only [AllLt, and_true] at $h:ident); (try simp only [allLt_bnd] at $h:ident)))
local macro_rules | `(tactic| walk_at "call ref") => `(tactic| (k_here; (with_reducible show wpAny _ _ (call (Value.ref 298) _) _ _ _); (rename News _ _ _ _ => kN9); k_dflt ( refine' take_spec _ _ _ _ _ _ _ _ _ _ _ _ _ _ ?bd ?rb ?rd ?ok ?m1 ?m2 _ _ _ _ _ _ _ _ _ _ _ _ _ _ _ _ _ ?kB ?kF ?kX ?kN ?kT ?kk ?khd ?khu ?_; (case kN => (refine' Pull.news ?pu kN9; (case pu => (repeat (first | exact Pull.here | apply Pull.there))))); (case kB => k_asm); (case kF => k_asm); (case kX => k_asm); (case kT => exact ⟨_, _, by k_asm⟩); (case kk => first | rfl | assumption); (case bd => assumption); (case rb => k_all); (case rd => k_all); (case ok => assumption); (case m1 => decide); (case m2 => decide); (case khd => decide +kernel); (case khu => decide +kernel)); (rintro v9 news9 h9 tk9 ⟨r9, t9, vs9, nb9, nd9, sd9, ts9, e9, hr9, hs9, hok9, e8⟩ F9 N9); subst e9; subst e8; clear kN9; (try dsimp only [drawL] at N9); (try dsimp only); (try k_fold)))
local macro_rules | `(tactic| k_all) => `(tactic| first | with_reducible assumption | exact bnd_ne (by omega) | ((repeat (refine ne_cons (by dsimp only; omega) ?_)); first | with_reducible assumption | exact bnd_ne (by omega) | exact ne_nil))
local macro_rules | `(tactic| walk_at "call ref") => `(tactic| (k_here; (with_reducible show wpAny _ _ (call (Value.ref 322) _) _ _ _); refine Hold.mk ?_))
local macro_rules | `(tactic| walk_at "eval ListComp") => `(tactic| ((with_reducible show wpAny _ _ (eval (Expr.ListComp _ _ _ _) _) _ _ _); refine Hold.mk ?_))
local macro_rules | `(tactic| walk_at "compareOp NotEq ref ref") => `(tactic| ((with_reducible show wpAny _ _ (compareOp CmpOp.NotEq (Value.ref _) (Value.ref _)) _ _ _); refine Hold.mk ?_))
theorem gt_split {prog : Program} {w : World} {A : Around} {E : Value → Shared → Prop} {s : Shared} {a b : Int} {t u : Tok} {Q : Value → Shared → Prop} (h1 : Q (.bool true) s) (h2 : Q (.bool false) s) : wpAny (model prog w) A (compareOp .Gt (.int a t) (.int b u)) Q E s :=
  PyProof.Rows.gt_int (by cases decide (b < a) <;> assumption)
local macro_rules | `(tactic| walk_at "compareOp Gt int int") => `(tactic| ((with_reducible show wpAny _ _ (compareOp CmpOp.Gt (Value.int _ _) (Value.int _ _)) _ _ _); refine gt_split ?_ ?_))
local macro_rules | `(tactic| walk_at "subscriptTail") => `(tactic| (k_here; (with_reducible show wpAny _ _ (subscriptTail _ _ (Value.ref _) (Value.int _ _)) _ _ _); k_dflt (refine' item2 ?ktbl ?ktb0 ?ktb1 ?_ ?_; (case ktbl => exact News.isList (by k_asm) (by k_mem)); (case ktb0 => assumption); (case ktb1 => assumption)); all_goals intro hk9))
theorem eq_self9 {prog : Program} {w : World} {A : Around} {E : Value → Shared → Prop} {s : Shared} {x : Str} {t u : Tok} {Q : Value → Shared → Prop} (h : Q (.bool true) s) : wpAny (model prog w) A (compareOp .Eq (.str x t) (.str x u)) Q E s :=
  PyProof.Rows.eq_str (by rw [show (x == x) = true by simp]; exact h)
local macro_rules | `(tactic| walk_at "compareOp Eq str str") => `(tactic| ((with_reducible show wpAny _ _ (compareOp CmpOp.Eq (Value.str _ _) (Value.str _ _)) _ _ _); with_reducible refine eq_self9 ?_))
theorem verss_eq {sps : List (Str × Bool)} (h : ∀ sp ∈ sps, sp.1 = versS → sp.2 = true) : verss sps = sps.any fun sp => sp.1 == versS := by
  induction sps with
  | nil => rfl
  | cons a l ih =>
    have h1 := h a (.head _)
    simp only [verss, List.any_cons] at ih ⊢
    rw [ih fun sp hp => h sp (.tail _ hp)]
    by_cases e : a.1 = versS
    · rw [h1 e, Bool.and_true]
    · rw [show (a.1 == versS) = false by simpa using e, Bool.false_and]
/-- where the law ends -/
def After5 (h₀ : Heap) (L : Addr) (s : Shared) (f : Flow) (s' : Shared) : Prop := f = .ret (.bool true) ∧ ∃ m' ps qs, Fr h₀ L s'.heap m' ∧ News h₀ L s'.heap [(281, tabO qs), (261, tabO ps)] ∧ AllBare s'.gens ∧ s'.os = s.os
theorem law_tabs {h₀ h : Heap} {L : Addr} {q : Addr × Obj} {opts : List (Addr × Obj)} {ps qs : Array Value} (N : News h₀ L h ((281, tabO qs) :: q :: opts)) (hp : (261, tabO ps) ∈ opts) : News h₀ L h [(281, tabO qs), (261, tabO ps)] := fun p hm => by
  rcases List.mem_cons.mp hm with e | hm
  · exact N p (e ▸ .head _)
  · rw [List.mem_singleton.mp hm]; exact N _ (.tail _ (.tail _ hp))
theorem law_5 (w : World) (mean : ExcName → Option Value) (mg mb : Str → Option Value) (a : Addr) (ccd : Value) (h₀ : Heap) (L : Addr) (m : Str → Option Value) (s : Shared) (E : Value → Shared → Prop) (b d : Addr) (vs : List Value) (nb nd : Nat) (sd : Int) (ts : Tok) (x : Str) (tx : Tok) (ps : Array Value) (D : Addr) (gv : List Value) (nD : Nat) (sps : List (Str × Bool)) (opts : List (Addr × Obj))
    (B : Below callerA h₀ [] h₀) (F : Fr h₀ L s.heap m) (X : (hd.heap_39 w.params).In h₀) (N : News h₀ L s.heap (drawL b d vs nb nd sd ts ((281, tabO #[]) :: (D, W.listOf gv.toArray nD) :: opts))) (T : TopA mean mg mb h₀)
    (hm : m (Str.ofString "draw") = some (.ref d)) (hm2 : m (Str.ofString "text") = some (.str x tx)) (hm3 : m (Str.ofString "given") = some (.ref D)) (hO : OptsAt w opts gv sps) (hver : ∀ sp ∈ sps, sp.1 = versS → sp.2 = true) (hl2 : gv.length ≤ 2) (hx : x.length ≤ 1000)
    (hbd : @LT.lt Nat _ b d) (hrb : ∀ p ∈ (281, tabO #[]) :: (D, W.listOf gv.toArray nD) :: opts, p.1 ≠ b) (hrd : ∀ p ∈ (281, tabO #[]) :: (D, W.listOf gv.toArray nD) :: opts, p.1 ≠ d) (h281 : ∀ p ∈ (D, W.listOf gv.toArray nD) :: opts, p.1 ≠ 281) (h261 : (261, tabO ps) ∈ opts) (hok : DrawOk vs sd) (hG : AllBare s.gens) :
    wpAny (model PySem.Challenge.rw_aw6008_01.row.prog w) (callerA.deeper (envOf (Str.ofString "law") lawScope L a ccd)) (execs (lawBody.drop 13) (envOf (Str.ofString "law") lawScope L a ccd))
      (After5 h₀ L s) E s := by
  obtain ⟨pT, lT, T⟩ := T
  rw [draw_if hm3] at F
  rw [draw_if (m := fun y => if y = Str.ofString "given" then some (.ref D) else m y) (n := Str.ofString "text") (v := .str x tx) (by rw [if_neg (by decide +kernel)]; exact hm2)] at F
  rw [draw_if (m := fun y => if y = Str.ofString "text" then some (.str x tx) else if y = Str.ofString "given" then some (.ref D) else m y) (n := Str.ofString "draw") (v := .ref d) (by rw [if_neg (by decide +kernel), if_neg (by decide +kernel)]; exact hm)] at F
  clear hm hm2 hm3
  conv in (execs _ _) => arg 1; whnf
  conv in (occs := *) lawScope => all_goals whnf
  dsimp only [drawL] at N
  have hve := verss_eq hver
  k_steps
  · apply Hold.out
    rename Fr _ _ _ _ => lF
    rename News _ _ _ _ => lN
    refine comp_law (fun sp => sp.1 == helpS && sp.2) (by rfl) lF lN hO (by intro p hp; repeat (first | exact hp | apply List.mem_cons_of_mem)) (by k_mem) (by omega) (by rfl) (by decide) (by rfl) (by decide) (by rfl) (fun _ => rfl) (fun _ => rfl) ?_ ?_ ?_
    · intro Q' h
      walk1
      exact h
    · intro t o dx C n t1 t2 t3 t4 tx a c sp m₂ Q' E' Ft Nt ho hdx hsx ha hns hm hret
      exact tst_help (by simp only [depth_deeper, depth_caller]; decide +kernel) Ft X ⟨_, _, T⟩ Nt ho hdx hsx ha rfl rfl hns hm hret
    · intro D5 h5 tk5 ys hys F5 N5 off5
      simp only [LCg.Off1] at off5
      clear lF lN
      k_steps
      apply Hold.out
      rename News _ _ _ _ => lN
      refine list_ne_nil (News.isList (items := ys.toArray) lN (by k_mem)) (News.isList (items := ([] : List Value).toArray) lN (by k_mem)) (by simp only [units_deeper, units_caller]; decide +kernel) ?_
      rw [hys]
      cases hba : sps.any (fun sp => sp.1 == helpS && sp.2)
      · k_steps
        apply Hold.out
        rename Fr _ _ _ _ => lF
        rename News _ _ _ _ => lN
        have lN2 : News h₀ L _ ((281, tabO #[]) :: (D, W.listOf gv.toArray nD) :: opts) := news_sub lN (by intro p hp; repeat (first | exact hp | apply List.mem_cons_of_mem))
        refine shown_spec w mean mg mb _ _ _ _ h₀ L _ _ _ _ opts gv sps D nD x tx true _ B lF X lN2 ⟨_, _, T⟩ (by rfl) h281 hG hO (by omega) hx (.inl rfl) ?_
        intro v qs s6 hvv F6 N6 G6 hos6
        clear lF lN lN2
        obtain rfl : v = .none := by simpa [helps, hba] using hvv
        k_steps
        rename Fr _ _ _ _ => kF9
        rename News _ _ _ _ => kN9
        exact ⟨rfl, _, ps, qs, kF9, law_tabs kN9 h261, G6, hos6⟩
      · k_steps
        apply Hold.out
        rename Fr _ _ _ _ => lF
        rename News _ _ _ _ => lN
        have lN2 : News h₀ L _ ((281, tabO #[]) :: (D, W.listOf gv.toArray nD) :: opts) := news_sub lN (by intro p hp; repeat (first | exact hp | apply List.mem_cons_of_mem))
        refine shown_spec w mean mg mb _ _ _ _ h₀ L _ _ _ _ opts gv sps D nD x tx true _ B lF X lN2 ⟨_, _, T⟩ (by rfl) h281 hG hO (by omega) hx (.inl rfl) ?_
        intro v qs s6 hvv F6 N6 G6 hos6
        clear lF lN lN2
        rw [show helps sps = true from hba] at hvv
        obtain ⟨t, rfl⟩ : ∃ t, v = .str (Txt.stripChars x (Str.ofString "\n")) t := by simpa using hvv
        k_steps
        rename Fr _ _ _ _ => kF9
        rename News _ _ _ _ => kN9
        exact ⟨rfl, _, ps, qs, kF9, law_tabs kN9 h261, G6, hos6⟩
  · apply Hold.out
    rename Fr _ _ _ _ => lF
    rename News _ _ _ _ => lN
    refine comp_law (fun sp => sp.1 == helpS && sp.2) (by rfl) lF lN hO (by intro p hp; repeat (first | exact hp | apply List.mem_cons_of_mem)) (by k_mem) (by omega) (by rfl) (by decide) (by rfl) (by decide) (by rfl) (fun _ => rfl) (fun _ => rfl) ?_ ?_ ?_
    · intro Q' h
      walk1
      exact h
    · intro t o dx C n t1 t2 t3 t4 tx a c sp m₂ Q' E' Ft Nt ho hdx hsx ha hns hm hret
      exact tst_help (by simp only [depth_deeper, depth_caller]; decide +kernel) Ft X ⟨_, _, T⟩ Nt ho hdx hsx ha rfl rfl hns hm hret
    · intro D5 h5 tk5 ys hys F5 N5 off5
      simp only [LCg.Off1] at off5
      clear lF lN
      k_steps
      apply Hold.out
      rename News _ _ _ _ => lN
      refine list_ne_nil (News.isList (items := ys.toArray) lN (by k_mem)) (News.isList (items := ([] : List Value).toArray) lN (by k_mem)) (by simp only [units_deeper, units_caller]; decide +kernel) ?_
      rw [hys]
      cases hba : sps.any (fun sp => sp.1 == helpS && sp.2)
      · k_steps
        apply Hold.out
        rename Fr _ _ _ _ => lF
        rename News _ _ _ _ => lN
        refine comp_law (fun sp => sp.1 == versS) (by rfl) lF lN hO (by intro p hp; repeat (first | exact hp | apply List.mem_cons_of_mem)) (by k_mem) (by omega) (by rfl) (by decide) (by rfl) (by decide) (by rfl) (fun _ => rfl) (fun _ => rfl) ?_ ?_ ?_
        · intro Q' h
          walk1
          exact h
        · intro t o dx C n t1 t2 t3 t4 tx a c sp m₂ Q' E' Ft Nt ho hdx hsx ha hns hm hret
          exact tst_vers (by simp only [depth_deeper, depth_caller]; decide +kernel) Ft X ⟨_, _, T⟩ Nt ho hdx hsx ha rfl rfl hns hm hret
        · intro D5 h5 tk5 ys hys F5 N5 off5
          simp only [LCg.Off1] at off5
          clear lF lN
          k_steps
          apply Hold.out
          rename News _ _ _ _ => lN
          refine list_ne_nil (News.isList (items := ys.toArray) lN (by k_mem)) (News.isList (items := ([] : List Value).toArray) lN (by k_mem)) (by simp only [units_deeper, units_caller]; decide +kernel) ?_
          rw [hys]
          cases hbb : sps.any (fun sp => sp.1 == versS)
          · k_steps
            apply Hold.out
            rename Fr _ _ _ _ => lF
            rename News _ _ _ _ => lN
            have lN2 : News h₀ L _ ((281, tabO #[]) :: (D, W.listOf gv.toArray nD) :: opts) := news_sub lN (by intro p hp; repeat (first | exact hp | apply List.mem_cons_of_mem))
            refine shown_spec w mean mg mb _ _ _ _ h₀ L _ _ _ _ opts gv sps D nD x tx true _ B lF X lN2 ⟨_, _, T⟩ (by rfl) h281 hG hO (by omega) hx (.inr ⟨_, _, rfl, by decide +kernel, by decide +kernel⟩) ?_
            intro v qs s6 hvv F6 N6 G6 hos6
            clear lF lN lN2
            obtain rfl : v = .none := by simpa [helps, hba, hve, hbb] using hvv
            k_steps
            rename Fr _ _ _ _ => kF9
            rename News _ _ _ _ => kN9
            exact ⟨rfl, _, ps, qs, kF9, law_tabs kN9 h261, G6, hos6⟩
          · k_steps
            apply Hold.out
            rename Fr _ _ _ _ => lF
            rename News _ _ _ _ => lN
            have lN2 : News h₀ L _ ((281, tabO #[]) :: (D, W.listOf gv.toArray nD) :: opts) := news_sub lN (by intro p hp; repeat (first | exact hp | apply List.mem_cons_of_mem))
            refine shown_spec w mean mg mb _ _ _ _ h₀ L _ _ _ _ opts gv sps D nD x tx true _ B lF X lN2 ⟨_, _, T⟩ (by rfl) h281 hG hO (by omega) hx (.inr ⟨_, _, rfl, by decide +kernel, by decide +kernel⟩) ?_
            intro v qs s6 hvv F6 N6 G6 hos6
            clear lF lN lN2
            obtain ⟨t, rfl⟩ : ∃ t, v = .str (Str.ofString "1.0") t := by simpa [helps, hba, hve, hbb] using hvv
            k_steps
            rename Fr _ _ _ _ => kF9
            rename News _ _ _ _ => kN9
            exact ⟨rfl, _, ps, qs, kF9, law_tabs kN9 h261, G6, hos6⟩
      · k_steps
        apply Hold.out
        rename Fr _ _ _ _ => lF
        rename News _ _ _ _ => lN
        have lN2 : News h₀ L _ ((281, tabO #[]) :: (D, W.listOf gv.toArray nD) :: opts) := news_sub lN (by intro p hp; repeat (first | exact hp | apply List.mem_cons_of_mem))
        refine shown_spec w mean mg mb _ _ _ _ h₀ L _ _ _ _ opts gv sps D nD x tx true _ B lF X lN2 ⟨_, _, T⟩ (by rfl) h281 hG hO (by omega) hx (.inr ⟨_, _, rfl, by decide +kernel, by decide +kernel⟩) ?_
        intro v qs s6 hvv F6 N6 G6 hos6
        clear lF lN lN2
        rw [show helps sps = true from hba] at hvv
        obtain ⟨t, rfl⟩ : ∃ t, v = .str (Txt.stripChars x (Str.ofString "\n")) t := by simpa using hvv
        k_steps
        rename Fr _ _ _ _ => kF9
        rename News _ _ _ _ => kN9
        exact ⟨rfl, _, ps, qs, kF9, law_tabs kN9 h261, G6, hos6⟩
  · apply Hold.out
    rename Fr _ _ _ _ => lF
    rename News _ _ _ _ => lN
    have lN2 : News h₀ L _ ((281, tabO #[]) :: (D, W.listOf gv.toArray nD) :: opts) := news_sub lN (by intro p hp; repeat (first | exact hp | apply List.mem_cons_of_mem))
    refine shown_spec w mean mg mb _ _ _ _ h₀ L _ _ _ _ opts gv sps D nD x tx false _ B lF X lN2 ⟨_, _, T⟩ (by rfl) h281 hG hO (by omega) hx (.inl rfl) ?_
    intro v qs s6 hvv F6 N6 G6 hos6
    clear lF lN lN2
    obtain rfl : v = .none := by simpa using hvv
    k_steps
    rename Fr _ _ _ _ => kF9
    rename News _ _ _ _ => kN9
    exact ⟨rfl, _, ps, qs, kF9, law_tabs kN9 h261, G6, hos6⟩
  · apply Hold.out
    rename Fr _ _ _ _ => lF
    rename News _ _ _ _ => lN
    refine comp_law (fun sp => sp.1 == versS) (by rfl) lF lN hO (by intro p hp; repeat (first | exact hp | apply List.mem_cons_of_mem)) (by k_mem) (by omega) (by rfl) (by decide) (by rfl) (by decide) (by rfl) (fun _ => rfl) (fun _ => rfl) ?_ ?_ ?_
    · intro Q' h
      walk1
      exact h
    · intro t o dx C n t1 t2 t3 t4 tx a c sp m₂ Q' E' Ft Nt ho hdx hsx ha hns hm hret
      exact tst_vers (by simp only [depth_deeper, depth_caller]; decide +kernel) Ft X ⟨_, _, T⟩ Nt ho hdx hsx ha rfl rfl hns hm hret
    · intro D5 h5 tk5 ys hys F5 N5 off5
      simp only [LCg.Off1] at off5
      clear lF lN
      k_steps
      apply Hold.out
      rename News _ _ _ _ => lN
      refine list_ne_nil (News.isList (items := ys.toArray) lN (by k_mem)) (News.isList (items := ([] : List Value).toArray) lN (by k_mem)) (by simp only [units_deeper, units_caller]; decide +kernel) ?_
      rw [hys]
      cases hbb : sps.any (fun sp => sp.1 == versS)
      · k_steps
        apply Hold.out
        rename Fr _ _ _ _ => lF
        rename News _ _ _ _ => lN
        have lN2 : News h₀ L _ ((281, tabO #[]) :: (D, W.listOf gv.toArray nD) :: opts) := news_sub lN (by intro p hp; repeat (first | exact hp | apply List.mem_cons_of_mem))
        refine shown_spec w mean mg mb _ _ _ _ h₀ L _ _ _ _ opts gv sps D nD x tx false _ B lF X lN2 ⟨_, _, T⟩ (by rfl) h281 hG hO (by omega) hx (.inr ⟨_, _, rfl, by decide +kernel, by decide +kernel⟩) ?_
        intro v qs s6 hvv F6 N6 G6 hos6
        clear lF lN lN2
        obtain rfl : v = .none := by simpa [hve, hbb] using hvv
        k_steps
        rename Fr _ _ _ _ => kF9
        rename News _ _ _ _ => kN9
        exact ⟨rfl, _, ps, qs, kF9, law_tabs kN9 h261, G6, hos6⟩
      · k_steps
        apply Hold.out
        rename Fr _ _ _ _ => lF
        rename News _ _ _ _ => lN
        have lN2 : News h₀ L _ ((281, tabO #[]) :: (D, W.listOf gv.toArray nD) :: opts) := news_sub lN (by intro p hp; repeat (first | exact hp | apply List.mem_cons_of_mem))
        refine shown_spec w mean mg mb _ _ _ _ h₀ L _ _ _ _ opts gv sps D nD x tx false _ B lF X lN2 ⟨_, _, T⟩ (by rfl) h281 hG hO (by omega) hx (.inr ⟨_, _, rfl, by decide +kernel, by decide +kernel⟩) ?_
        intro v qs s6 hvv F6 N6 G6 hos6
        clear lF lN lN2
        obtain ⟨t, rfl⟩ : ∃ t, v = .str (Str.ofString "1.0") t := by simpa [hve, hbb] using hvv
        k_steps
        rename Fr _ _ _ _ => kF9
        rename News _ _ _ _ => kN9
        exact ⟨rfl, _, ps, qs, kF9, law_tabs kN9 h261, G6, hos6⟩
end Mine
end PLwG
section PLwH
namespace Mine
theorem rst_LwH : (1 : Nat) = 1 := by
  w_top off
  first | walk1 | rfl
end Mine
open PySem PySem.W PyProof.Rows
set_option maxRecDepth 100000
set_option maxHeartbeats 0
namespace Mine
theorem old_tabs {h₀ h : Heap} {L : Addr} {m : Str → Option Value} {ps qs : Array Value} (F : Fr (hideAll h₀ [261, 281]) L h m) (N : News (hideAll h₀ [261, 281]) L h [(281, tabO qs), (261, tabO ps)]) (t1 : h₀.get? 261 = some (tabO #[])) (c1 : isCodeTable h₀ 261) (t2 : h₀.get? 281 = some (tabO #[])) (c2 : isCodeTable h₀ 281) : OldK h₀ h := by
  have g1 : h.get? 261 = some (tabO ps) := (N (261, tabO ps) (.tail _ (.head _))).1
  have g2 : h.get? 281 = some (tabO qs) := (N (281, tabO qs) (.head _)).1
  constructor
  · intro b o e
    by_cases h1 : b = 261
    · subst h1
      rw [t1] at e
      cases e
      exact .inr (.inl ⟨c1, rfl, #[], ps, rfl, by rw [g1]; simp⟩)
    · by_cases h2 : b = 281
      · subst h2
        rw [t2] at e
        cases e
        exact .inr (.inl ⟨c2, rfl, #[], qs, rfl, by rw [g2]; simp⟩)
      · exact .inl (F.keep b o (hideAll_get _ e (by simp [h1, h2])))
  · intro b o e
    by_cases h1 : b = 261
    · exact ⟨_, h1 ▸ g1⟩
    · by_cases h2 : b = 281
      · exact ⟨_, h2 ▸ g2⟩
      · exact ⟨o, F.keep b o (hideAll_get _ e (by simp [h1, h2]))⟩
/-- where the whole law ends -/
def Ends (h₀ : Heap) (s : Shared) (f : Flow) (s' : Shared) : Prop := f = .ret (.bool true) ∧ OldK h₀ s'.heap ∧ s'.os = s.os ∧ AllBare s'.gens
theorem law_all (w : World) (p : Program) (loose : List Str) (mean : ExcName → Option Value) (mg mb : Str → Option Value) (a : Addr) (ccd : Value) (h₀ : Heap) (L : Addr) (m : Str → Option Value) (s : Shared) (E : Value → Shared → Prop) (la : Addr) (items : List Value) (ns : List Int)
    (F : Fr h₀ L s.heap m) (X : (hd.heap_39 w.params).In h₀) (T : Top p loose mean mg mb h₀) (hf : ∃ d, (recsOf p).find? (fun e => e.name == Str.ofString "formal_usage") = some d) (he : ∃ d, (recsOf p).find? (fun e => e.name == Str.ofString "extras") = some d)
    (hL : h₀.IsList la items.toArray) (hI : IntsAre items ns) (hn : ns.length ≤ 63) (hm : m (Str.ofString "script") = some (.ref la)) (hg : s.gens = #[]) :
    wpAny (model PySem.Challenge.rw_aw6008_01.row.prog w) (callerA.deeper (envOf (Str.ofString "law") lawScope L a ccd)) (execs lawBody (envOf (Str.ofString "law") lawScope L a ccd)) (Ends h₀ s) E s := by
  obtain ⟨⟨t1, c1⟩, t2, c2⟩ := tabs_at X T hf he
  have hl : ∀ b ∈ [261, 281], h₀.get? b = some (tabO #[]) := fun b hb => by
    rcases List.mem_cons.mp hb with e | hb
    · rw [e]; exact t1
    · rw [List.mem_singleton.mp hb]; exact t2
  have X2 := in_hide X (not_in w)
  have T2 := top_hide T hl
  have B2 := below_caller (hideAll h₀ [261, 281])
  refine execs_cut 1 (wpAny_mono (law_0 w mean mg mb a ccd h₀ L m s E la items ns (below_caller h₀) F X (fun _ h => nomatch h) ⟨_, _, T⟩ hL hI hn hm) (fun f s1 h1 => ?_) fun _ _ h => h)
  obtain ⟨rfl, b, d, vs1, nb1, nd1, sd1, ts1, m1, hok1, hbd, F1, hm1, N1, hg1, hos1⟩ := h1
  show wpAny _ _ (execs (lawBody.drop 1) _) _ E s1
  have G1 : AllBare s1.gens := .of_eq (hg1.trans hg)
  have F1' : Fr (hideAll h₀ [261, 281]) L s1.heap m1 := ⟨F1.ns, fun b o e => F1.keep b o (of_hideAll _ e), by rw [hideAll_size]; exact F1.above⟩
  have nh : ∀ {y : Addr}, h₀.get? y = none → (hideAll h₀ [261, 281]).get? y = none := fun {y} e => by
    cases q : (hideAll h₀ [261, 281]).get? y with
    | none => rfl
    | some o => have := of_hideAll _ q; rw [e] at this; cases this
  have nL : ∀ {y : Addr} {o : Obj}, h₀.get? y = some o → y ≠ L := fun {y o} e q => by
    have := Heap.lt_size e
    rw [q] at this
    exact absurd (Nat.lt_of_lt_of_le this F1.above) (Nat.lt_irrefl _)
  have N1' : News (hideAll h₀ [261, 281]) L s1.heap (drawL b d vs1 nb1 nd1 sd1 ts1 tabs) := fun q hq => by
    rcases List.mem_cons.mp hq with e | hq
    · subst e; have z := N1 _ (.head _); exact ⟨z.1, z.2.1, nh z.2.2⟩
    rcases List.mem_cons.mp hq with e | hq
    · subst e; have z := N1 _ (.tail _ (.head _)); exact ⟨z.1, z.2.1, nh z.2.2⟩
    rcases List.mem_cons.mp hq with e | hq
    · subst e; exact ⟨F1.keep _ _ t1, nL t1, hideAll_none _ (.head _)⟩
    · rw [List.mem_singleton.mp hq]; exact ⟨F1.keep _ _ t2, nL t2, hideAll_none _ (.tail _ (.head _))⟩
  have nb : ∀ {q : Addr} {o : Obj}, h₀.get? q = some o → @Ne Nat q b ∧ @Ne Nat q d := fun {q o} e => by
    refine ⟨fun z => ?_, fun z => ?_⟩
    · have e0 : h₀.get? b = none := (N1 _ (.head _)).2.2
      have z' : q = b := z
      rw [z', e0] at e
      cases e
    · have e0 : h₀.get? d = none := (N1 _ (.tail _ (.head _))).2.2
      have z' : q = d := z
      rw [z', e0] at e
      cases e
  have hrb : ∀ (x y : Array Value), ∀ p ∈ [(261, tabO x), (281, tabO y)], p.1 ≠ b := fun x y p hp => by
    rcases List.mem_cons.mp hp with e | hp
    · subst e; exact (nb t1).1
    · rw [List.mem_singleton.mp hp]; exact (nb t2).1
  have hrd : ∀ (x y : Array Value), ∀ p ∈ [(261, tabO x), (281, tabO y)], p.1 ≠ d := fun x y p hp => by
    rcases List.mem_cons.mp hp with e | hp
    · subst e; exact (nb t1).2
    · rw [List.mem_singleton.mp hp]; exact (nb t2).2
  refine execs_cut 3 (wpAny_mono (law_1 w mean mg mb a ccd _ L m1 s1 E b d vs1 nb1 nd1 sd1 ts1 _ B2 F1' X2 N1' T2 hm1 hbd (hrb _ _) (hrd _ _) hok1 G1) (fun f s2 h2 => ?_) fun _ _ h => h)
  obtain ⟨rfl, vs2, nb2, nd2, sd2, ts2, m2, hok2, F2, hm2, N2, G2, hos2⟩ := h2
  show wpAny _ _ (execs ((lawBody.drop 1).drop 3) _) _ E s2
  rw [List.drop_drop]
  refine execs_cut 3 (wpAny_mono (law_2 w mean mg mb a ccd _ L m2 s2 E b d vs2 nb2 nd2 sd2 ts2 _ B2 F2 X2 N2 T2 hm2 hbd (hrb _ _) (hrd _ _) hok2 G2) (fun f s3 h3 => ?_) fun _ _ h => h)
  obtain ⟨rfl, vs3, nb3, nd3, sd3, ts3, m3, hok3, F3, hm3, N3, G3, hos3⟩ := h3
  show wpAny _ _ (execs ((lawBody.drop (1 + 3)).drop 3) _) _ E s3
  rw [List.drop_drop]
  refine execs_cut 3 (wpAny_mono (law_3 w mean mg mb a ccd _ L m3 s3 E b d vs3 nb3 nd3 sd3 ts3 [(281, tabO #[])] B2 F3 X2 N3 T2 hm3 hbd (hrb _ _) (hrd _ _) (by intro p hp; rw [List.mem_singleton.mp hp]; show @Ne Nat 281 261; decide) hok3 G3) (fun f s4 h4 => ?_) fun _ _ h => h)
  obtain ⟨rfl, vs4, nb4, nd4, sd4, ts4, m4, ps4, x4, tx4, hok4, F4, hm4, hm4x, hx4, htr4, N4, G4, hos4⟩ := h4
  show wpAny _ _ (execs ((lawBody.drop (1 + 3 + 3)).drop 3) _) _ E s4
  rw [List.drop_drop]
  have N4' : News (hideAll h₀ [261, 281]) L s4.heap (drawL b d vs4 nb4 nd4 sd4 ts4 [(281, tabO #[]), (261, tabO ps4)]) := fun q hq => by
    rcases List.mem_cons.mp hq with e | hq
    · exact N4 q (e ▸ .head _)
    rcases List.mem_cons.mp hq with e | hq
    · exact N4 q (e ▸ .tail _ (.head _))
    rcases List.mem_cons.mp hq with e | hq
    · exact N4 q (e ▸ .tail _ (.tail _ (.tail _ (.head _))))
    · rw [List.mem_singleton.mp hq]; exact N4 _ (.tail _ (.tail _ (.head _)))
  refine execs_cut 3 (wpAny_mono (law_4 w mean mg mb a ccd _ L m4 s4 E b d vs4 nb4 nd4 sd4 ts4 x4 tx4 ps4 B2 F4 X2 N4' T2 hm4 hm4x hbd (nb t2).1 (nb t2).2 (nb t1).1 (nb t1).2 hok4 G4) (fun f s5 h5 => ?_) fun _ _ h => h)
  obtain ⟨rfl, vs5, nb5, nd5, sd5, ts5, m5, D5, gv5, nD5, sps5, opts5, tx5, hok5, F5, hm5, hm5x, hm5g, hO5, hver5, hl5, N5, hrb5, hrd5, h2815, ⟨ps5, h2615⟩, G5, hos5⟩ := h5
  show wpAny _ _ (execs ((lawBody.drop (1 + 3 + 3 + 3)).drop 3) _) _ E s5
  rw [List.drop_drop]
  refine wpAny_mono (law_5 w mean mg mb a ccd _ L m5 s5 E b d vs5 nb5 nd5 sd5 ts5 x4 tx5 ps5 D5 gv5 nD5 sps5 opts5 B2 F5 X2 N5 T2 hm5 hm5x hm5g hO5 hver5 hl5 hx4 hbd hrb5 hrd5 h2815 h2615 hok5 G5) (fun f s6 h6 => ?_) fun _ _ h => h
  obtain ⟨rfl, m6, ps6, qs6, F6, N6, G6, hos6⟩ := h6
  exact ⟨rfl, old_tabs F6 N6 t1 c1 t2 c2, hos6.trans (hos5.trans (hos4.trans (hos3.trans (hos2.trans hos1)))), G6⟩
end Mine
end PLwH
section PLwI
namespace Mine
theorem rst_LwI : (1 : Nat) = 1 := by
  w_top off
  first | walk1 | rfl
end Mine
open PySem PySem.W PyProof.Rows
set_option maxRecDepth 100000
set_option maxHeartbeats 0
namespace Mine
theorem holds : PySem.Challenge.rw_aw6008_01.Holds := hd (by
  lgec_go0
  rename Fr _ _ _ _ => F9
  rename Top _ _ _ _ _ _ => T9
  rename Heap.IsList _ _ _ => hL9
  rename IntsAre _ _ => hI9
  rename Frag.In _ _ => X9
  rename _ = (#[] : Array GenState) => hg9
  rename ¬ ((63 : Nat) : Int) < _ => hn9
  k_dflt (refine wpAny_mono (law_all _ _ _ _ _ _ _ _ _ _ _ _ _ _ _ _ F9 X9 T9 ⟨_, rfl⟩ ⟨_, rfl⟩ hL9 hI9 (by omega) (by rfl) hg9) ?_ (fun _ _ h => h))
  rintro f s' ⟨rfl, hold, hos, hG⟩
  refine ⟨.inl ⟨.bool true, .bool true, [], rfl, ?_, ?_, ?_, ?_⟩, hold, hos, hG⟩
  · intro cls; rfl
  · exact .bool true
  · wrow_post
  · exact fun _ => ⟨.nil, fun _ h => nomatch h⟩)
end Mine
end PLwI
theorem PySem.Challenge.cw_aw6008_01_holds : PySem.Challenge.rw_aw6008_01.Holds := by
  exact Mine.holds
