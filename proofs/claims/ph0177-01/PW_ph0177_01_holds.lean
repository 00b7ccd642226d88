import PyProof.Rows.All
import Wide.All
import OpenK.AllK
import Wide.FinOn
import PySem.Challenge.RW_ph0177_01
open PySem PySem.W PyProof.Rows PySem.Calls PySem.Spec
set_option Elab.async false
set_option maxRecDepth 100000
set_option maxHeartbeats 8000000
namespace Mine
noncomputable abbrev vks : List Nat := [0, 1, 9, 10, 11, 12, 14, 15, 16, 18, 20, 21, 22, 23, 24, 25, 26]
noncomputable def vw : Program := view PySem.Challenge.pw_ph0177_01 vks
noncomputable abbrev lo : List Str := [Str.ofString "insort_right", Str.ofString "bisect_right", Str.ofString "insort_left", Str.ofString "bisect_left",
      Str.ofString "compute_powers", Str.ofString "tspecials", Str.ofString "_name_disallowed_re",
      Str.ofString "_value_disallowed_re", Str.ofString "_formatparam"]
noncomputable def endsT (p : Program) (w : World) (N : Nat) : Option Shared :=
  ((PySem.W.Fast.tw10274390034422433532 PySem.W.Fast.tw14364793385576792824 (opening p) w N (PySem.W.Fast.tw1435165496053646825 (opening p)).1 (PySem.W.Fast.tw1435165496053646825 (opening p)).2).bind (PySem.W.Fast.tw14289696077712309145 p)).bind fun s₀ =>
    match s₀.heap.isNs mainGlobals && s₀.gens.size == 0 with
    | true => (PySem.W.Fast.tw14082659384304107361 PySem.W.Fast.tw14364793385576792824 p w s₀.heap.objs.size (s₀.heap.nsMap mainGlobals "__annotations__") N s₀ (topStub p)).bind fun s₁ => match staticsOk (PySem.W.Fast.tw5923862056798008813 p.main.body) s₀.heap s₁.heap && namesBound p s₁.heap && gensDone s₁ && laidKept s₀.heap s₁.heap with
      | true => some s₁
      | false => none
    | false => none
theorem said_ok : PySem.Challenge.rw_ph0177_01.wellSaid = true := by
  rw [PySem.W.Fast.te9446332074065402090]
  kernel_rfl!
theorem ends_T (p : Program) (w : World) (N : Nat) : openEnds treeTable p w N = endsT p w N := by
  unfold openEnds fencedOpening endsT
  rw [PySem.W.Fast.te14364793385576792824, PySem.W.Fast.te10274390034422433532, PySem.W.Fast.te1435165496053646825, PySem.W.Fast.te14289696077712309145]
  unfold topFrom
  rw [PySem.W.Fast.te14082659384304107361, PySem.W.Fast.te5923862056798008813]
  rfl
noncomputable abbrev LT (p : Program) (R : WRecords) {α : Type} (Yf : Shared → α) (Ya : World → α) (w : World) : Prop :=
  ((endsT p w 3316).map fun s => (PySem.W.Fast.tw4187177175401517315 (view p vks) lo (PySem.W.Fast.tw5923862056798008813 p.main.body) (fun s => xlAt (view p vks) [] s && recOk R s) true s, Yf s)) = some (openGood (view p vks) lo, Ya w)
theorem hl_conv {R : WRecords} {α : Type} {Yf : Shared → α} {Ya : World → α} (w : World) (h : LT PySem.Challenge.pw_ph0177_01 R Yf Ya w) :
    (openEnds treeTable PySem.Challenge.pw_ph0177_01 w 3316).map (fun s => (openSeen vw lo (importedModules PySem.Challenge.pw_ph0177_01.main.body) (fun s => xlAt vw [] s && recOk R s) true s, Yf s)) = some (openGood vw lo, Ya w) := by
  unfold vw
  rw [ends_T]
  unfold LT at h
  rw [← PySem.W.Fast.te4187177175401517315, ← PySem.W.Fast.te5923862056798008813] at h
  exact h
local macro_rules | `(tactic| o_head $H) => `(tactic| (
  refine holds_open (q := vw) (loose := lo) (Xt := fun s => xlAt vw [] s && recOk (RowW.records (OpenRow.toRowW (PySem.W.OpenLaw.row PySem.Challenge.rw_ph0177_01))) s) (XP := XL vw []) (Yf := Hook.obs $H) (Ya := Hook.val $H) (YP := Hook.says $H) (N := 3316) ?hl (Hook.of $H) (Hook.keeps $H) (fun s e => xl_of s (Bool.and_eq_true_iff.mp e).1) XL.keeps (by rfl) (by rfl) (by rfl) (fun s e => recFacts_of (Bool.and_eq_true_iff.mp e).2) (by rfl) (by first | assumption | decide +kernel) (by decide +kernel) ⟨rfl, rfl, rfl, rfl, rfl, by decide +kernel⟩ ?hw ?hc;
  (case hl => intro w; refine hl_conv w ?_; unfold LT; kernel_rfl!)))
local macro_rules | `(tactic| o_law) => `(tactic| refine holds_law said_ok fun said => ?_)
open_top hd for PySem.Challenge.rw_ph0177_01
end Mine
set_option maxHeartbeats 2000000
set_option linter.unusedVariables false
set_option compiler.extract_closed false
namespace Mine
noncomputable abbrev tupOf (vs : List Value) (n : Nat) : Obj := { cls := .type "tuple", data := .seq vs.toArray n }
/-- a call's contract: at any caller, from the ledger `news`, the tree comes back with a value and a ledger as `Post` says -/
noncomputable def Con (w : World) (dd uu : Nat) (tree : Sem Value) (news : List (Addr × Obj)) (Post : Value → List (Addr × Obj) → Prop) : Prop :=
  ∀ (p : Program) (loose : List Str) (mean : ExcName → Option Value) (mg mb : Str → Option Value) (dp un : Nat) (gd : Option (List Code)) (cn : Str) (cs : Scope) (a : Addr) (ccd : Value) (cl : List (Str × Addr)) (outer : List Env) (A₀ : Around) (base h₀ : Heap) (L : Addr) (m : Str → Option Value) (s : Shared) (Q E : Value → Shared → Prop),
    Below A₀ base outer h₀ → Fr h₀ L s.heap m → (hd.heap_1 w.params).In h₀ → News h₀ L s.heap news → Top p loose mean mg mb h₀ → cs.kind = .function → dp + dd < recursionLimit → un + uu < cLine →
    (∀ r h' tk' news', Fr h₀ L h' m → News h₀ L h' news' → Post r news' → Q r { s with heap := h', toks := tk' }) →
    wpAny (model PySem.Challenge.rw_ph0177_01.row.prog w) (ktrTop dp un gd cn cs L a ccd cl outer) tree Q E s
noncomputable abbrev pdat (p : Int × Int) : Dat := .tuple [.int p.1, .int p.2]
theorem fill : (PySem.Challenge.rw_ph0177_01, @hd.heap_1) = (PySem.Challenge.rw_ph0177_01, @hd.heap_1) := by (w_top off); rfl

noncomputable def pltB (p q : Int × Int) : Bool := decide (p.1 < q.1) || (decide (p.1 = q.1) && decide (p.2 < q.2))

theorem rc_lt_int {prog : Program} {w : World} {A : Around} {E : Value → Shared → Prop} {s : Shared} {a b : Int} {t u : Tok} {Q : Value → Shared → Prop} (h : Q (.bool (decide (a < b))) s) : wpAny (model prog w) A (richCompare .Lt (.int a t) (.int b u)) Q E s := PyProof.Rows.lt_int h

theorem tup_lt_tree {prog : Program} {w : World} {A : Around} {E : Value → Shared → Prop} {s : Shared} {l b : Addr} {x y x' y' : Int} {t u t' u' : Tok} {n n' : Nat} {P : Fin → Shared → Prop}
   (hl : s.heap.get? l = some (tupOf [.int x t, .int y u] n)) (hb : s.heap.get? b = some (tupOf [.int x' t', .int y' u'] n')) (h : P (.done (.ret (.bool (pltB (x, y) (x', y'))))) s) :
    wpAny (model prog w) A (Builtin.«tuple.__lt__» ⟨[.ref l, .ref b], []⟩) P E s := by
  have hTb : s.TypeIs (.ref b) "tuple" := ⟨_, hb, rfl⟩
  show wpAny _ _ (isInstance (.ref b) (.type "tuple") >>= _) _ _ s
  refine wpAny_bind (wpAny_isInstance hTb isSubtype_tuple_tuple ?_)
  simp only [Bool.not_true, Bool.false_eq_true, if_false]
  refine wpAny_bind (wpAny_tupleItemsOf hl rfl ?_)
  refine wpAny_bind (wpAny_tupleItemsOf hb rfl ?_)
  refine wpAny_bind ?_
  show wpAny _ _ (forIn [(Value.int x t, Value.int x' t'), (Value.int y u, Value.int y' u')] _ _) _ _ s
  unfold pltB at h
  by_cases h1 : x = x'
  · subst h1
    rw [List.forIn_cons]
    refine wpAny_bind (wpAny_bind (wpAny_eqBool_int ?_))
    simp only [BEq.rfl, Bool.not_true, Bool.false_eq_true, if_false]
    refine wpAny_pure ?_
    dsimp only
    rw [List.forIn_cons]
    refine wpAny_bind (wpAny_bind (wpAny_eqBool_int ?_))
    by_cases h2 : y = y'
    · subst h2
      simp only [BEq.rfl, Bool.not_true, Bool.false_eq_true, if_false]
      refine wpAny_pure ?_
      dsimp only
      rw [List.forIn_nil]
      refine wpAny_pure ?_
      refine wpAny_pure ?_
      show P (.done (.ret (.bool false))) s
      simpa using h
    · have e2 : (y == y') = false := by simpa using h2
      simp only [e2, Bool.not_false, if_true]
      refine wpAny_bind (wpAny_rule ?_)
      refine wpAny_bind (rc_lt_int ?_)
      refine wpAny_bind (wpAny_pure ?_)
      refine wpAny_pure ?_
      refine wpAny_pure ?_
      refine wpAny_pure ?_
      simpa using h
  · have e1 : (x == x') = false := by simpa using h1
    rw [List.forIn_cons]
    refine wpAny_bind (wpAny_bind (wpAny_eqBool_int ?_))
    simp only [e1, Bool.not_false, if_true]
    refine wpAny_bind (wpAny_rule ?_)
    refine wpAny_bind (rc_lt_int ?_)
    refine wpAny_bind (wpAny_pure ?_)
    refine wpAny_pure ?_
    refine wpAny_pure ?_
    refine wpAny_pure ?_
    simpa [h1] using h

theorem tup_lt {prog : Program} {w : World} {A : Around} {E : Value → Shared → Prop} {s : Shared} {l b L : Addr} {h₀ : Heap} {news : List (Addr × Obj)} {x y x' y' : Int} {t u t' u' : Tok} {n n' : Nat} {Q : Value → Shared → Prop}
   (N : News h₀ L s.heap news) (hl : (l, tupOf [.int x t, .int y u] n) ∈ news) (hb : (b, tupOf [.int x' t', .int y' u'] n') ∈ news) (hu : A.units < cLine)
   (h : Q (.bool (pltB (x, y) (x', y'))) s) : wpAny (model prog w) A (compareOp .Lt (.ref l) (.ref b)) Q E s := by
  refine cmp_ofLt ?_
  have ha := N.get hl
  have hb' := N.get hb
  refine wpAny_richCompare_same_room (op := .Lt) (T := "tuple") ⟨_, ha, rfl⟩ ⟨_, hb', rfl⟩ F.slot_tuple_lt ?_ hu
  exact wpAny_call_entry F.slot_tuple_lt ⟨_, ha, rfl⟩ F.entry_tuple_lt (tup_lt_tree ha hb' ⟨_, rfl, (fun e => nomatch e), h⟩) (F.args_tuple_lt_2 _ _)

section
variable {prog : Program} {w : World} {A : Around} {E : Value → Shared → Prop} {s : Shared} {env : Env} {test : PySem.Expr} {body orelse : List Stmt} {Q : Flow → Shared → Prop} {h₀ : Heap} {L : Addr}
/-- the end of a turn of a loop by an invariant `I k` on locals and ledger, `k` falling -/
noncomputable def WEnd (h₀ : Heap) (L : Addr) (I : Nat → (Str → Option Value) → List (Addr × Obj) → Prop) (k : Nat) (s₀ s₃ : Shared) : Prop :=
  ∃ k' m' news' h' tk', k' < k ∧ s₃ = { s₀ with heap := h', toks := tk' } ∧ Fr h₀ L h' m' ∧ News h₀ L h' news' ∧ I k' m' news'
noncomputable def WPost (h₀ : Heap) (L : Addr) (I : Nat → (Str → Option Value) → List (Addr × Obj) → Prop) (k : Nat) (s₀ : Shared) (Q : Flow → Shared → Prop) (f : Flow) (s₃ : Shared) : Prop :=
  match f with
  | .ret v => Q (.ret v) s₃
  | .brk => Q .next s₃
  | _ => WEnd h₀ L I k s₀ s₃
theorem while_inv {pos : Pos} (I : Nat → (Str → Option Value) → List (Addr × Obj) → Prop) {k : Nat} {m : Str → Option Value} {news : List (Addr × Obj)}
    (hE : PassesOwn (model prog w) A env E) (F : Fr h₀ L s.heap m) (N : News h₀ L s.heap news) (hI : I k m news)
    (turn : ∀ k m news h tk, I k m news → Fr h₀ L h m → News h₀ L h news →
      wpAny (model prog w) A (isTrue test env (eval test env)) (fun b s₂ => WhlIf b (wpAny (model prog w) A (execs body env) (WPost h₀ L I k s Q) E s₂) (wpAny (model prog w) A (execs orelse env) Q E s₂)) E { s with heap := h, toks := tk }) :
    wpAny (model prog w) A (exec (.While test body orelse pos) env) Q E s := by
  have key : ∀ k, ∀ m news h tk, I k m news → Fr h₀ L h m → News h₀ L h news → WhlRest prog w A E env test body orelse Q 0 { s with heap := h, toks := tk } := by
    intro k
    induction k using Nat.strongRecOn with
    | ind k ih =>
      intro m news h tk hI F N
      refine whl_turn (k := 0) hE (wpAny_mono (turn k m news h tk hI F N) (fun b s₂ hb => ?_) fun _ _ e => e)
      cases b with
      | false => exact hb
      | true =>
        unfold WhlIf at hb ⊢
        rw [if_pos rfl] at hb ⊢
        refine wpAny_mono hb (fun f s₃ hf => ?_) fun _ _ e => e
        have fin : WEnd h₀ L I k s s₃ → WhlRest prog w A E env test body orelse Q 0 s₃ := by
          rintro ⟨k', m', news', h', tk', hk, rfl, F', N', hI'⟩
          exact ih k' hk m' news' h' tk' hI' F' N'
        cases f with
        | next => exact fin hf
        | cont => exact fin hf
        | brk => exact hf
        | ret v => exact hf
  exact whl_start 0 (key k m news s.heap s.toks hI F N)
end
section
variable {prog : Program} {w : World} {A : Around} {E : Value → Shared → Prop} {s : Shared} {env : Env} {test : PySem.Expr} {body orelse : List Stmt} {Q : Flow → Shared → Prop} {h₀ : Heap} {L : Addr}
theorem while_invM {pos : Pos} (I : (Str → Option Value) → Nat → (Str → Option Value) → List (Addr × Obj) → Prop) {k : Nat} {m : Str → Option Value} {news : List (Addr × Obj)}
    (hE : PassesOwn (model prog w) A env E) (F : Fr h₀ L s.heap m) (N : News h₀ L s.heap news) (hI : I m k m news)
    (turn : ∀ k m' news h tk, I m k m' news → Fr h₀ L h m' → News h₀ L h news →
      wpAny (model prog w) A (isTrue test env (eval test env)) (fun b s₂ => WhlIf b (wpAny (model prog w) A (execs body env) (WPost h₀ L (I m) k s Q) E s₂) (wpAny (model prog w) A (execs orelse env) Q E s₂)) E { s with heap := h, toks := tk }) :
    wpAny (model prog w) A (exec (.While test body orelse pos) env) Q E s := while_inv (I m) hE F N hI turn
theorem whlIf_dec {p : Prop} [Decidable p] {T F : Prop} (h1 : p → T) (h2 : ¬ p → F) : WhlIf (decide p) T F := by
  by_cases h : p
  · exact WhlIf.yes (decide_eq_true h) (h1 h)
  · exact WhlIf.no (decide_eq_false h) (h2 h)
theorem wEnd_intro {I : Nat → (Str → Option Value) → List (Addr × Obj) → Prop} {k k' : Nat} {m' : Str → Option Value} {news' : List (Addr × Obj)} {h' : Heap} {tk' : Nat}
    (F : Fr h₀ L h' m') (N : News h₀ L h' news') (hk : k' < k) (hI : I k' m' news') : WEnd h₀ L I k s { s with heap := h', toks := tk' } := ⟨k', m', news', h', tk', hk, rfl, F, N, hI⟩
end
/-- the locals with one name stored -/
noncomputable abbrev up (m : Str → Option Value) (x : Str) (v : Option Value) : Str → Option Value := fun y => if y = x then v else m y
noncomputable abbrev bm (m₀ : Str → Option Value) (mid : Option Value) (lo hi : Nat) (t t' : Tok) : Str → Option Value :=
  up (up (up m₀ "hi" (some (.int hi t'))) "lo" (some (.int lo t))) "mid" mid

/-- the state of a bisection: below lo the test is false, from hi on it is true -/
structure Bis {α : Type} (q : α → Bool) (l : List α) (lo hi : Nat) : Prop where
  le : lo ≤ hi
  len : hi ≤ l.length
  low : ∀ i (h : i < l.length), i < lo → q l[i] = false
  high : ∀ i (h : i < l.length), hi ≤ i → q l[i] = true
noncomputable def Mono {α : Type} (q : α → Bool) (l : List α) : Prop := ∀ i j (hi : i < l.length) (hj : j < l.length), i ≤ j → q l[i] = true → q l[j] = true
noncomputable def cnt {α : Type} (q : α → Bool) (l : List α) : Nat := (l.filter fun a => !q a).length
theorem cnt_of {α : Type} {q : α → Bool} : ∀ {l : List α} {r : Nat}, Bis q l r r → r = cnt q l := by
  intro l
  induction l with
  | nil => intro r h; have := h.len; simp [cnt] at *; omega
  | cons a l ih =>
    intro r h
    cases r with
    | zero =>
      have : (a :: l).filter (fun a => !q a) = [] := by
        rw [List.filter_eq_nil_iff]
        intro b hb
        obtain ⟨i, hi, rfl⟩ := List.getElem_of_mem hb
        simp [h.high i hi (Nat.zero_le _)]
      unfold cnt; rw [this]; rfl
    | succ r =>
      have h0 := h.low 0 (by simp) (Nat.succ_pos _)
      have e : cnt q (a :: l) = cnt q l + 1 := by
        unfold cnt
        simp only [List.getElem_cons_zero] at h0
        simp [h0]
      rw [e, ← ih ⟨Nat.le_refl _, by have := h.len; simpa using this, fun i hi hl => h.low (i + 1) (by simpa using hi) (by omega), fun i hi hl => h.high (i + 1) (by simpa using hi) (by omega)⟩]
theorem Bis.start {α : Type} (q : α → Bool) (l : List α) : Bis q l 0 l.length := ⟨Nat.zero_le _, Nat.le_refl _, fun i _ h => by omega, fun i h h' => by omega⟩
theorem Bis.down {α : Type} {q : α → Bool} {l : List α} {lo hi mid : Nat} (b : Bis q l lo hi) (hm : Mono q l) (h1 : lo ≤ mid) (h2 : mid < hi) (hq : ∀ h : mid < l.length, q l[mid] = true) : Bis q l lo mid :=
  have hl : mid < l.length := Nat.lt_of_lt_of_le h2 b.len
  ⟨h1, Nat.le_of_lt hl, b.low, fun i h h' => hm mid i hl h h' (hq hl)⟩
theorem Bis.up {α : Type} {q : α → Bool} {l : List α} {lo hi mid : Nat} (b : Bis q l lo hi) (hm : Mono q l) (h1 : lo ≤ mid) (h2 : mid < hi) (hq : ∀ h : mid < l.length, q l[mid] = false) : Bis q l (mid + 1) hi :=
  have hl : mid < l.length := Nat.lt_of_lt_of_le h2 b.len
  have low : ∀ i (h : i < l.length), i < mid + 1 → q l[i] = false := fun i h h' => by
    cases e : q l[i] with
    | false => rfl
    | true =>
      have := hm i mid h hl (by omega) e
      rw [hq hl] at this
      cases this
  ⟨h2, b.len, low, b.high⟩

theorem datIn_pair {news : List (Addr × Obj)} {v : Value} {p : Int × Int} (h : DatIn news v (pdat p)) : ∃ a t u n, v = .ref a ∧ (a, tupOf [.int p.1 t, .int p.2 u] n) ∈ news := by
  cases h with
  | tuple hm r =>
    cases r with
    | cons h1 r =>
      cases r with
      | cons h2 r =>
        cases r
        cases h1
        cases h2
        exact ⟨_, _, _, _, rfl, hm⟩
section
variable {prog : Program} {w : World} {A : Around} {E : Value → Shared → Prop} {s : Shared} {h₀ : Heap} {L l : Addr} {news : List (Addr × Obj)} {vs : List Value} {ps : List (Int × Int)} {n : Nat}
theorem pair_item {value slice : PySem.Expr} {i : Nat} {u : Tok} {Q : Value → Shared → Prop} (N : News h₀ L s.heap news) (hm : (l, listOf vs.toArray n) ∈ news) (hd : DatAll news vs (ps.map pdat))
    (h1 : i < ps.length) (hfit : ps.length < 2 ^ 62) (h : ∀ a t u n, (a, tupOf [.int ps[i].1 t, .int ps[i].2 u] n) ∈ news → Q (.ref a) s)
    (hs : subscripted slice false (.ref l) (.int (i : Int) u) = operate [.ref l, .int (i : Int) u] (getItem (.ref l) (.int (i : Int) u)) := by with_unfolding_all rfl) :
    wpAny (model prog w) A (subscriptTail value slice (.ref l) (.int (i : Int) u)) Q E s := by
  refine kd_item N hm hd (Int.natCast_nonneg i) (by simp; exact h1) (by omega) (fun v d hv _ hD => ?_) hs
  have e : d = pdat ps[i] := by
    simp [h1] at hv
    exact hv.symm
  subst e
  obtain ⟨a, t, u, n, rfl, hmem⟩ := datIn_pair hD
  exact h a t u n hmem
end
theorem fdiv2_nat {prog : Program} {w : World} {A : Around} {E : Value → Shared → Prop} {s : Shared} {a b : Nat} {t u : Tok} {Q : Value → Shared → Prop} (h : Q (.int (((a + b) / 2 : Nat) : Int) s.toks) { s with toks := s.toks + 1 }) :
    wpAny (model prog w) A (binaryOp .FloorDiv (.int ((a : Int) + (b : Int)) t) (.int 2 u)) Q E s := by
  refine floordiv_int (by decide) ?_ (Or.inl (PyProof.noPylong_of_log2 (by decide +kernel)))
  have e : ((a : Int) + (b : Int)).fdiv 2 = (((a + b) / 2 : Nat) : Int) := by
    rw [Int.fdiv_eq_ediv_of_nonneg _ (by decide)]
    omega
  rw [e]; exact h
theorem bm_self {m : Str → Option Value} {lo hi : Nat} {t t' : Tok} (h1 : m "hi" = some (.int hi t')) (h2 : m "lo" = some (.int lo t)) : bm m (m "mid") lo hi t t' = m := by
  funext y
  simp only [bm, up]
  by_cases e1 : y = "mid"
  · subst e1; simp
  · by_cases e2 : y = "lo"
    · subst e2; simp [e1, h2]
    · by_cases e3 : y = "hi"
      · subst e3; simp [e1, e2, h1]
      · simp [e1, e2, e3]
theorem bm_hi {m : Str → Option Value} {lo hi hi2 : Nat} {t t' t2 : Tok} {mid v : Option Value} : up (up (bm m mid lo hi t t') "mid" v) "hi" (some (.int hi2 t2)) = bm m v lo hi2 t t2 := by
  have a1 : (Str.ofString "hi" = Str.ofString "mid") = False := by simp; decide
  have a2 : (Str.ofString "hi" = Str.ofString "lo") = False := by simp; decide
  funext y
  simp only [bm, up]
  by_cases e1 : y = "mid"
  · subst e1
    have : (Str.ofString "mid" = Str.ofString "hi") = False := by simp; decide
    simp [this]
  · by_cases e3 : y = "hi"
    · subst e3; simp [a1, a2]
    · simp [e1, e3]
theorem bm_lo {m : Str → Option Value} {lo hi lo2 : Nat} {t t' t2 : Tok} {mid v : Option Value} : up (up (bm m mid lo hi t t') "mid" v) "lo" (some (.int lo2 t2)) = bm m v lo2 hi t2 t' := by
  have a1 : (Str.ofString "lo" = Str.ofString "mid") = False := by simp; decide
  funext y
  simp only [bm, up]
  by_cases e1 : y = "mid"
  · subst e1
    have : (Str.ofString "mid" = Str.ofString "lo") = False := by simp; decide
    simp [this]
  · by_cases e3 : y = "lo"
    · subst e3; simp [a1]
    · simp [e1, e3]
/-- a place where the walk is to stop -/
noncomputable def Stop (P : Prop) : Prop := P
theorem stop_ {P : Prop} (h : Stop P) : P := h
theorem Con.use {w : World} {dd uu : Nat} {tree : Sem Value} {news : List (Addr × Obj)} {Post : Value → List (Addr × Obj) → Prop} (C : Con w dd uu tree news Post)
   {p : Program} {loose : List Str} {mean : ExcName → Option Value} {mg mb : Str → Option Value} {dp un : Nat} {gd : Option (List Code)} {cn : Str} {cs : Scope} {a : Addr} {ccd : Value} {cl : List (Str × Addr)} {outer : List Env} {A₀ : Around} {base h₀ : Heap} {L : Addr} {m : Str → Option Value} {s : Shared} {Q E : Value → Shared → Prop}
    (B : Below A₀ base outer h₀) (F : Fr h₀ L s.heap m) (X : (hd.heap_1 w.params).In h₀) (N : News h₀ L s.heap news) (T : Top p loose mean mg mb h₀) (hk : cs.kind = .function) (hd : dp + dd < recursionLimit) (hu : un + uu < cLine)
    (ret : ∀ r h' tk' news', Fr h₀ L h' m → News h₀ L h' news' → Post r news' → Q r { s with heap := h', toks := tk' }) :
    wpAny (model PySem.Challenge.rw_ph0177_01.row.prog w) (ktrTop dp un gd cn cs L a ccd cl outer) tree Q E s := C _ _ _ _ _ _ _ _ _ _ _ _ _ _ _ _ _ _ _ _ _ _ B F X N T hk hd hu ret

noncomputable def insAt {α : Type} (c : Nat) (y : α) (l : List α) : List α := l.take c ++ y :: l.drop c
theorem insAt_length {α : Type} (c : Nat) (y : α) (l : List α) : (insAt c y l).length = l.length + 1 := by
  unfold insAt; rw [List.length_append, List.length_cons, List.length_take, List.length_drop]; omega
theorem insAt_map {α β : Type} (f : α → β) (c : Nat) (y : α) (l : List α) : (insAt c y l).map f = insAt c (f y) (l.map f) := by
  unfold insAt; simp [List.map_take, List.map_drop]
theorem DatAll.take {news : List (Addr × Obj)} : ∀ {vs : List Value} {ds : List Dat} (k : Nat), DatAll news vs ds → DatAll news (vs.take k) (ds.take k)
  | _, _, 0, _ => .nil
  | [], _, k + 1, h => by cases h; exact .nil
  | v :: vs, _, k + 1, h => by
    cases h with
    | cons h r => exact .cons h (DatAll.take k r)
theorem DatAll.drop {news : List (Addr × Obj)} : ∀ {vs : List Value} {ds : List Dat} (k : Nat), DatAll news vs ds → DatAll news (vs.drop k) (ds.drop k)
  | _, _, 0, h => h
  | [], _, k + 1, h => by cases h; exact .nil
  | v :: vs, _, k + 1, h => by
    cases h with
    | cons h r => exact DatAll.drop k r
theorem DatAll.insAt {news : List (Addr × Obj)} {vs : List Value} {ds : List Dat} {v : Value} {d : Dat} (k : Nat) (h : DatAll news vs ds) (hv : DatIn news v d) : DatAll news (insAt k v vs) (insAt k d ds) :=
  (DatAll.take k h).append (.cons hv (DatAll.drop k h))
theorem cnt_le {α : Type} (q : α → Bool) (l : List α) : cnt q l ≤ l.length := List.length_filter_le _ _
section
variable {prog : Program} {w : World} {A : Around} {E : Value → Shared → Prop} {s : Shared} {h₀ : Heap} {L D : Addr} {m : Str → Option Value} {rest : List (Addr × Obj)} {vs : List Value} {n : Nat}
theorem ins_rule {c : Nat} {u : Tok} {y : Value} {Q : Value → Shared → Prop} (F : Fr h₀ L s.heap m) (N : News h₀ L s.heap ((D, listOf vs.toArray n) :: rest)) (hr : ∀ p ∈ rest, p.1 ≠ D) (hc : c ≤ vs.length) (hz : vs.length ≤ 1000)
    (h : ∀ h', Fr h₀ L h' m → News h₀ L h' ((D, listOf (insAt c y vs).toArray (n + 1)) :: rest) → Q .none { s with heap := h' }) :
    wpAny (model prog w) A (call (.builtin "list.insert") [.ref D, .int (c : Int) u, y]) Q E s := by
  have e : kl_ins vs (c : Int) y = insAt c y vs := by
    unfold kl_ins insAt
    have h1 : ¬ ((c : Int) < 0) := by omega
    have h2 : min ((c : Int)).toNat vs.length = c := by omega
    rw [if_neg h1, h2]
  refine kl_insert F N ?_ (by simpa using e) (Upd.head hr) ?_ h
  · simp only [Builtin.List.listFitsIndex, Bool.and_eq_true, decide_eq_true_eq]
    constructor <;> omega
  · simp only [PySem.sizeLine_eq]
    have : vs.toArray.toList.length = vs.length := by simp
    omega
end

section
variable {prog : Program} {w : World} {A : Around} {E : Value → Shared → Prop} {s : Shared} {env : Env} {h₀ : Heap} {target : Expr} {body : List Stmt} {Q : Flow → Shared → Prop}
/-- the end of a for's turn: the iterator stands, the invariant holds for the next one -/
noncomputable def FEnd (h₀ : Heap) (L : Addr) (I : Addr) (it : Obj) (J : (Str → Option Value) → List (Addr × Obj) → Prop) (s₁ s₂ : Shared) : Prop :=
  ∃ h' tk m' news', s₂ = { s₁ with heap := h', toks := tk } ∧ Fr h₀ L h' m' ∧ News h₀ L h' ((I, it) :: news') ∧ (∀ p ∈ news', p.1 ≠ I) ∧ J m' news'
noncomputable def FPost (h₀ : Heap) (L : Addr) (I : Addr) (it : Obj) (J : (Str → Option Value) → List (Addr × Obj) → Prop) (s₁ : Shared) (Q : Flow → Shared → Prop) (f : Flow) (s₂ : Shared) : Prop :=
  match f with
  | .ret v => Q (.ret v) s₂
  | .brk => Q .next s₂
  | _ => FEnd h₀ L I it J s₁ s₂
theorem fEnd_intro {L I : Addr} {it : Obj} {J : (Str → Option Value) → List (Addr × Obj) → Prop} {h' : Heap} {tk : Nat} {m' : Str → Option Value} {news' : List (Addr × Obj)}
    (F : Fr h₀ L h' m') (N : News h₀ L h' ((I, it) :: news')) (off : ∀ p ∈ news', p.1 ≠ I) (hJ : J m' news') : FEnd h₀ L I it J s { s with heap := h', toks := tk } := ⟨h', tk, m', news', rfl, F, N, off, hJ⟩

theorem turns_inv {I : Addr} {fp : List Addr} {n : Nat} {P Md : Nat → Value → Heap → Prop} {St : Nat → Heap → Prop} {m : Str → Option Value} {news : List (Addr × Obj)} (J : Nat → (Str → Option Value) → List (Addr × Obj) → Prop)
    (W : KTurns prog w A target I fp [I] n P Md St) (hfp : ∀ i m news, J i m news → ∀ b ∈ fp, b = I ∨ ∃ o, (b, o) ∈ news) (hobj : ∀ i h, St i h → ∃ o, h.get? I = some o) (hI₀ : h₀.get? I = none) (hL : env.locals ∉ fp)
    (hkeep : ∀ i m news m' news' b o, b ∈ fp → b ≠ I → J i m news → (b, o) ∈ news → J (i + 1) m' news' → (b, o) ∈ news')
    (hst : St 0 s.heap) (F : Fr h₀ env.locals s.heap m) (N : News h₀ env.locals s.heap news) (off : ∀ p ∈ news, p.1 ≠ I) (h0 : J 0 m news)
    (turn : ∀ i v m₁ news₁ h tk it, i < n → P i v h → J i m₁ news₁ → (∀ p ∈ news₁, p.1 ≠ I) → Fr h₀ env.locals h m₁ → News h₀ env.locals h ((I, it) :: news₁) →
      wpAny (model prog w) A (assign target env v) (fun _ s₂ => wpAny (model prog w) A (execs body env) (FPost h₀ env.locals I it (J (i + 1)) s Q) E s₂) E { s with heap := h, toks := tk })
    (done : ∀ m₁ news₁ h tk, J n m₁ news₁ → Fr h₀ env.locals h m₁ → News h₀ env.locals h news₁ → Q .next { s with heap := h, toks := tk }) :
    TurnsAt prog w A h₀ env target body Q E (.ref I) s := by
  have hIf : I ∈ fp := W.sub I (List.mem_singleton.mpr rfl)
  refine ⟨I, fp, [I], n, P, Md, St, m, news, J, rfl, W, hL, fun b hb => (List.mem_singleton.mp hb) ▸ hI₀, fun p hp hI => off p hp (List.mem_singleton.mp hI), hst, F, N, h0, ?_, ?_⟩
  · intro i v m₁ news₁ h₁ tk₁ own hin hP hJ hoff hown hget hall hst₁ F₁ N₁
    obtain ⟨it, hit⟩ := hobj _ _ hst₁
    have hIo : (I, it) ∈ own := hall I hIf hI₀ it hit
    have N₂ : News h₀ env.locals h₁ ((I, it) :: news₁) := fun p hp => by
      rcases List.mem_cons.mp hp with rfl | hp
      · exact N₁ _ (List.mem_append_left _ hIo)
      · exact N₁ _ (List.mem_append_right _ hp)
    have off₁ : ∀ p ∈ news₁, p.1 ≠ I := fun p hp e => hoff p hp (List.mem_singleton.mpr e)
    refine wpAny_mono (turn i v m₁ news₁ h₁ tk₁ it hin hP hJ off₁ F₁ N₂) (fun _ s₂ h₂ => wpAny_mono h₂ (fun f s₃ p => ?_) fun _ _ e => e) fun _ _ e => e
    have fin : FEnd h₀ env.locals I it (J (i + 1)) s s₃ → LoopStepU h₀ env.locals [I] own (J (i + 1)) { s with heap := h₁, toks := tk₁ } .next s₃ := by
      rintro ⟨h', tk, m', news', e, F', N', off', hJ'⟩
      refine ⟨rfl, h', tk, m', news', e, F', fun p hp => ?_, fun p hp hI => off' p hp (List.mem_singleton.mp hI), hJ'⟩
      rcases List.mem_append.mp hp with hp | hp
      · have h2 : h₁.get? p.1 = some p.2 := hget p hp
        by_cases hI : p.1 = I
        · have h3 : p = (I, it) := by
            rw [hI, hit] at h2
            exact Prod.ext hI (Option.some.inj h2).symm
          rw [h3]; exact N' _ (List.mem_cons_self ..)
        · rcases hfp _ _ _ hJ p.1 (hown p hp) with h | ⟨o, ho⟩
          · exact absurd h hI
          · have h4 : h₁.get? p.1 = some o := (N₁ _ (List.mem_append_right _ ho)).1
            have h6 : o = p.2 := Option.some.inj (h4.symm.trans h2)
            have h7 := hkeep i m₁ news₁ m' news' p.1 o (hown p hp) hI hJ ho hJ'
            rw [h6] at h7
            exact N' _ (List.mem_cons_of_mem _ h7)
      · exact N' _ (List.mem_cons_of_mem _ hp)
    cases f with
    | ret v => exact p
    | brk => exact p
    | next => exact fin p
    | cont => exact fin p
  · intro h' tk m' news' F' N' _ hJ
    exact done m' news' h' tk hJ F' N'

/-- a for over a list of the ledger, by an invariant -/
theorem for_list {ax : Addr} {vs : List Value} {n : Nat} {m : Str → Option Value} {news : List (Addr × Obj)} (J : Nat → (Str → Option Value) → List (Addr × Obj) → Prop)
    (hh : A.handled = none) (F : Fr h₀ env.locals s.heap m) (N : News h₀ env.locals s.heap news) (h0 : J 0 m news) (hmem : ∀ i m news, J i m news → (ax, listOf vs.toArray n) ∈ news)
    (turn : ∀ I i v m₁ news₁ h tk it, vs[i]? = some v → J i m₁ news₁ → (∀ p ∈ news₁, p.1 ≠ I) → Fr h₀ env.locals h m₁ → News h₀ env.locals h ((I, it) :: news₁) →
      wpAny (model prog w) A (assign target env v) (fun _ s₂ => wpAny (model prog w) A (execs body env) (FPost h₀ env.locals I it (J (i + 1)) s Q) E s₂) E { s with heap := h, toks := tk })
    (done : ∀ m₁ news₁ h tk, J vs.length m₁ news₁ → Fr h₀ env.locals h m₁ → News h₀ env.locals h news₁ → Q .next { s with heap := h, toks := tk }) :
    wpAny (model prog w) A (pyIter (.ref ax)) (fun it s₂ => TurnsAt prog w A h₀ env target body Q E it s₂) E s := by
  have hm := hmem _ _ _ h0
  have hax := N _ hm
  have hl : s.heap.IsList ax vs.toArray := ⟨_, hax.1, rfl, n, rfl⟩
  have hlt : ax < s.heap.objs.size := Heap.lt_size hax.1
  have hne : ax ≠ s.heap.objs.size := Nat.ne_of_lt hlt
  refine wpAny_pyIter_list hl ?_
  have W := KTurns.ofWalks (target := target) (Walks.list (prog := prog) (w := w) hh s.heap.objs.size ax hne vs.toArray) fun i v s Q E st q => letGo_listiter st.1 q
  have hlen : vs.toArray.size = vs.length := by simp
  rw [hlen] at W
  -- the invariant with the one object under ax
  refine turns_inv (s := { s with heap := s.heap.push { cls := .type "list_iterator", data := .fields #[.ref ax, .int 0 0] } }) (fun i m news => J i m news ∧ ∀ o, (ax, o) ∈ news → o = listOf vs.toArray n) W ?_ ?_ (next_is_new F) ?_ ?_ ?_ (F.push _) (fun p hp => ⟨Heap.get?_push_of_some _ (N p hp).1, (N p hp).2⟩) (fun p hp => Nat.ne_of_lt (Heap.lt_size (N p hp).1)) ⟨h0, ?_⟩ ?_ ?_
  · intro i m news hJ b hb
    have hb' : b = s.heap.objs.size ∨ b = ax := by simpa using hb
    rcases hb' with e | e
    · exact .inl e
    · exact .inr ⟨_, e ▸ hmem _ _ _ hJ.1⟩
  · intro i h st
    obtain ⟨it, hit, _⟩ := st.1
    exact ⟨it, hit⟩
  · intro hI
    rcases List.mem_cons.mp hI with e | hI
    · exact absurd F.ns.lt (e ▸ Nat.lt_irrefl _)
    · exact hax.2.1 (List.mem_singleton.mp hI).symm
  · intro i m news m' news' b o hb hbI hJ ho hJ'
    have hb' : b = ax := by
      have : b = s.heap.objs.size ∨ b = ax := by simpa using hb
      exact this.resolve_left hbI
    subst hb'
    rw [hJ.2 o ho]; exact hmem _ _ _ hJ'.1
  · exact ⟨⟨_, Heap.get?_push_size _ rfl, rfl, rfl⟩, hl.at fun o e => Heap.get?_push_of_some _ e⟩
  · intro o ho
    have e1 := (N _ ho).1
    exact Option.some.inj (e1.symm.trans hax.1)
  · intro i v m₁ news₁ h tk it hi hP hJ off F₁ N₁
    have hv : vs[i]? = some v := by simpa using hP
    refine wpAny_mono (turn _ i v m₁ news₁ h tk it hv hJ.1 off F₁ N₁) (fun _ s₂ h₂ => wpAny_mono h₂ (fun f s₃ p => ?_) fun _ _ e => e) fun _ _ e => e
    have fin : FEnd h₀ env.locals s.heap.objs.size it (J (i + 1)) s s₃ → FEnd h₀ env.locals s.heap.objs.size it (fun m news => J (i + 1) m news ∧ ∀ o, (ax, o) ∈ news → o = listOf vs.toArray n) { s with heap := s.heap.push { cls := .type "list_iterator", data := .fields #[.ref ax, .int 0 0] } } s₃ := by
      rintro ⟨h', tk, m', news', e, F', N', off', hJ'⟩
      refine ⟨h', tk, m', news', e, F', N', off', hJ', fun o ho => ?_⟩
      have e1 := (N' _ (List.mem_cons_of_mem _ ho)).1
      have e2 := (N' _ (List.mem_cons_of_mem _ (hmem _ _ _ hJ'))).1
      exact Option.some.inj (e1.symm.trans e2)
    cases f with
    | ret v => exact p
    | brk => exact p
    | next => exact fin p
    | cont => exact fin p
  · intro m₁ news₁ h tk hJ F₁ N₁
    exact done m₁ news₁ h tk hJ.1 F₁ N₁

/-- a for over a range by ones, one name its target -/
theorem for_range {x : Str} {px : Pos} {r : Addr} {a₀ b₀ : Int} {t₀ u₀ v₀ : Tok} {n : Nat} {m : Str → Option Value} {news : List (Addr × Obj)} (J : Nat → (Str → Option Value) → List (Addr × Obj) → Prop)
    (hh : A.handled = none) (hr : IsRange s.heap r a₀ b₀ 1 t₀ u₀ v₀) (hsmall : Builtin.Range.small a₀ b₀ 1 = true) (hsz : Builtin.Range.rangeSize a₀ b₀ 1 = (n : Int)) (F : Fr h₀ env.locals s.heap m) (N : News h₀ env.locals s.heap news) (h0 : J 0 m news)
    (turn : ∀ I i t m₁ news₁ h tk it, i < n → J i m₁ news₁ → (∀ p ∈ news₁, p.1 ≠ I) → Fr h₀ env.locals h m₁ → News h₀ env.locals h ((I, it) :: news₁) →
      wpAny (model prog w) A (assign (.Name x px) env (.int (a₀ + (i : Int)) t)) (fun _ s₂ => wpAny (model prog w) A (execs body env) (FPost h₀ env.locals I it (J (i + 1)) s Q) E s₂) E { s with heap := h, toks := tk })
    (done : ∀ m₁ news₁ h tk, J n m₁ news₁ → Fr h₀ env.locals h m₁ → News h₀ env.locals h news₁ → Q .next { s with heap := h, toks := tk }) :
    wpAny (model prog w) A (pyIter (.ref r)) (fun it s₂ => TurnsAt prog w A h₀ env (.Name x px) body Q E it s₂) E s := by
  refine wpAny_pyIter_range hr hsmall ?_
  have W := KTurns.ofWalks (target := .Name x px) (Walks.range (prog := prog) (w := w) hh s.heap.objs.size a₀ 1 n) fun i v s Q E st q => (wpAny_pure q : wpAny (model prog w) A (letOwnedTupleGo (.Name x px) (.ref _) v) Q E s)
  refine turns_inv (s := { s with heap := s.heap.push _ }) J W ?_ ?_ (next_is_new F) ?_ ?_ ?_ (F.push _) (fun p hp => ⟨Heap.get?_push_of_some _ (N p hp).1, (N p hp).2⟩) (fun p hp => Nat.ne_of_lt (Heap.lt_size (N p hp).1)) h0 ?_ ?_
  · intro i m news hJ b hb
    exact .inl (List.mem_singleton.mp hb)
  · intro i h st
    exact ⟨_, st⟩
  · intro hI
    exact absurd F.ns.lt ((List.mem_singleton.mp hI) ▸ Nat.lt_irrefl _)
  · intro i m news m' news' b o hb hbI
    exact absurd (List.mem_singleton.mp hb) hbI
  · show IsRangeIter _ _ _ _ _
    rw [hsz]
    simpa using Heap.get?_push_size _ rfl
  · rintro i v m₁ news₁ h tk it hi ⟨t, rfl⟩ hJ off F₁ N₁
    have e1 : a₀ + (i : Int) * 1 = a₀ + (i : Int) := by omega
    rw [e1]
    exact turn _ i t m₁ news₁ h tk it hi hJ off F₁ N₁
  · intro m₁ news₁ h tk hJ F₁ N₁
    exact done m₁ news₁ h tk hJ F₁ N₁
end
theorem nsub {h₀ h : Heap} {L : Addr} {news news' : List (Addr × Obj)} (N : News h₀ L h news) (hs : ∀ p ∈ news', p ∈ news) : News h₀ L h news' := fun p hp => N p (hs p hp)
theorem DatAll.len2 {news : List (Addr × Obj)} {vs : List Value} {α : Type} {f : α → Dat} {l : List α} (h : DatAll news vs (l.map f)) : vs.length = l.length := by rw [h.length, List.length_map]
section
variable {prog : Program} {w : World} {A : Around} {E : Value → Shared → Prop} {s : Shared} {h₀ : Heap} {L D : Addr} {m : Str → Option Value} {news news' : List (Addr × Obj)} {vs : List Value} {n : Nat}
theorem app_rule {v : Value} {Q : Value → Shared → Prop} (F : Fr h₀ L s.heap m) (N : News h₀ L s.heap news) (U : Upd D (listOf vs.toArray n) (listOf (vs ++ [v]).toArray (n + 1)) news news') (hz : vs.length ≤ 10000)
    (h : ∀ h', Fr h₀ L h' m → News h₀ L h' news' → Q .none { s with heap := h' }) :
    wpAny (model prog w) A (call (.builtin "list.append") [.ref D, v]) Q E s := by
  have e : (listOf (vs ++ [v]).toArray (n + 1)) = listOf (vs.toArray.push v) (n + 1) := by rw [List.push_toArray]
  rw [e] at U
  exact append_K F N U h (by simp only [List.size_toArray, PySem.sizeLine_eq]; omega)
/-- append, the ledger re-arranged: what is to be kept is named -/
theorem app_to {v : Value} {rest : List (Addr × Obj)} {Q : Value → Shared → Prop} (F : Fr h₀ L s.heap m) (N : News h₀ L s.heap news) (hm : (D, listOf vs.toArray n) ∈ news) (hs : ∀ p ∈ rest, p ∈ news) (hne : ∀ p ∈ rest, p.1 ≠ D) (hz : vs.length ≤ 10000)
    (h : ∀ h', Fr h₀ L h' m → News h₀ L h' ((D, listOf (vs ++ [v]).toArray (n + 1)) :: rest) → Q .none { s with heap := h' }) :
    wpAny (model prog w) A (call (.builtin "list.append") [.ref D, v]) Q E s :=
  app_rule F (nsub N (fun p hp => by
    rcases List.mem_cons.mp hp with rfl | hp
    · exact hm
    · exact hs p hp)) (Upd.head hne) hz h
theorem app_ref {a : Addr} {o : Obj} {rest : List (Addr × Obj)} {Q : Value → Shared → Prop} (F : Fr h₀ L s.heap m) (N : News h₀ L s.heap news) (hm : (D, listOf vs.toArray n) ∈ news) (ho : (a, o) ∈ news) (ha : D < a) (hs : ∀ p ∈ rest, p ∈ news) (hne : ∀ p ∈ rest, p.1 ≠ D) (hz : vs.length ≤ 10000)
    (h : ∀ h', Fr h₀ L h' m → News h₀ L h' ((D, listOf (vs ++ [Value.ref a]).toArray (n + 1)) :: (a, o) :: rest) → Q .none { s with heap := h' }) :
    wpAny (model prog w) A (call (.builtin "list.append") [.ref D, .ref a]) Q E s :=
  app_to (rest := (a, o) :: rest) F N hm (fun p hp => by
    rcases List.mem_cons.mp hp with rfl | hp
    · exact ho
    · exact hs p hp) (fun p hp => by
    rcases List.mem_cons.mp hp with rfl | hp
    · exact Nat.ne_of_gt ha
    · exact hne p hp) hz h
end
/-- the locals but for some names that a loop stores -/
noncomputable abbrev ov (xs : List Str) (u m₀ : Str → Option Value) : Str → Option Value := fun y => if xs.contains y then u y else m₀ y
noncomputable def IsOv (xs : List Str) (m₀ m : Str → Option Value) : Prop := ∃ u, m = ov xs u m₀
theorem IsOv.refl (xs : List Str) (m₀ : Str → Option Value) : IsOv xs m₀ m₀ := ⟨m₀, by funext y; simp [ov]⟩
theorem IsOv.mk (xs : List Str) (u m₀ : Str → Option Value) : IsOv xs m₀ (ov xs u m₀) := ⟨u, rfl⟩
theorem IsOv.up {xs : List Str} {m₀ m : Str → Option Value} {x : Str} {v : Option Value} (h : IsOv xs m₀ m) (hx : xs.contains x = true) : IsOv xs m₀ (up m x v) := by
  obtain ⟨u, rfl⟩ := h
  refine ⟨fun y => if y = x then v else u y, ?_⟩
  funext y
  simp only [Mine.up, ov]
  by_cases e : y = x
  · rw [if_pos e, if_pos e, e, if_pos hx]
  · rw [if_neg e, if_neg e]
theorem IsOv.trans {xs : List Str} {m₀ m m' : Str → Option Value} (h : IsOv xs m₀ m) (h' : IsOv xs m m') : IsOv xs m₀ m' := by
  obtain ⟨u, rfl⟩ := h
  obtain ⟨u', rfl⟩ := h'
  refine ⟨u', ?_⟩
  funext y
  simp only [ov]
  split <;> rfl
section
variable {prog : Program} {w : World} {A : Around} {E : Value → Shared → Prop} {s : Shared} {h₀ : Heap} {L D : Addr} {m : Str → Option Value} {news news' : List (Addr × Obj)} {vs : List Value} {n : Nat}
theorem len_rule {k : Nat} {Q : Value → Shared → Prop} (N : News h₀ L s.heap news) (hm : (D, listOf vs.toArray n) ∈ news) (hk : vs.length = k) (hz : k ≤ 10000)
    (h : Q (.int (k : Int) (s.toks + 1)) { s with toks := s.toks + 1 + 1 }) : wpAny (model prog w) A (call (.builtin "len") [.ref D]) Q E s := by
  have hl : s.heap.IsList D vs.toArray := ⟨_, (N _ hm).1, rfl, n, rfl⟩
  have e : vs.toArray.size = k := by rw [List.size_toArray, hk]
  exact len_list hl (by rw [e]; omega) (by rw [e]; exact h)
end
/-- one entry taken out of a ledger -/
inductive Pick (D : Addr) (o : Obj) : List (Addr × Obj) → List (Addr × Obj) → Prop
  | head {r} : Pick D o ((D, o) :: r) r
  | tail {p r r'} : Pick D o r r' → Pick D o (p :: r) (p :: r')
theorem Pick.sub {D : Addr} {o : Obj} {l r : List (Addr × Obj)} (h : Pick D o l r) : ∀ p ∈ (D, o) :: r, p ∈ l := by
  induction h with
  | head => exact fun p hp => hp
  | tail h ih =>
    intro p hp
    rcases List.mem_cons.mp hp with rfl | hp
    · exact .tail _ (ih _ (.head _))
    · rcases List.mem_cons.mp hp with rfl | hp
      · exact .head _
      · exact .tail _ (ih _ (.tail _ hp))
section
variable {prog : Program} {w : World} {A : Around} {E : Value → Shared → Prop} {s : Shared} {env : Env} {h₀ : Heap} {target : Expr} {body : List Stmt} {Q : Flow → Shared → Prop}
theorem for_rangeM {x : Str} {px : Pos} {r : Addr} {t₀ u₀ v₀ : Tok} {n : Nat} {m : Str → Option Value} {news : List (Addr × Obj)} (J : (Str → Option Value) → Nat → (Str → Option Value) → List (Addr × Obj) → Prop)
    (hh : A.handled = none) (hr : IsRange s.heap r 0 (n : Int) 1 t₀ u₀ v₀) (hn : n ≤ 10000) (F : Fr h₀ env.locals s.heap m) (N : News h₀ env.locals s.heap news) (h0 : J m 0 m news)
    (turn : ∀ I i t m₁ news₁ h tk it, i < n → J m i m₁ news₁ → (∀ p ∈ news₁, p.1 ≠ I) → Fr h₀ env.locals h m₁ → News h₀ env.locals h ((I, it) :: news₁) →
      wpAny (model prog w) A (assign (.Name x px) env (.int (i : Int) t)) (fun _ s₂ => wpAny (model prog w) A (execs body env) (FPost h₀ env.locals I it (J m (i + 1)) s Q) E s₂) E { s with heap := h, toks := tk })
    (done : ∀ m₁ news₁ h tk, J m n m₁ news₁ → Fr h₀ env.locals h m₁ → News h₀ env.locals h news₁ → Q .next { s with heap := h, toks := tk }) :
    wpAny (model prog w) A (pyIter (.ref r)) (fun it s₂ => TurnsAt prog w A h₀ env (.Name x px) body Q E it s₂) E s :=
  for_range (J m) hh hr (small_one (by omega) (by omega) (by omega) (by omega)) (rangeSize_nat _ _) F N h0 (fun I i t m₁ news₁ h tk it hi hJ off F N => by
    have e : (0 : Int) + (i : Int) = (i : Int) := by omega
    rw [e]; exact turn I i t m₁ news₁ h tk it hi hJ off F N) done
theorem for_listM {ax : Addr} {vs : List Value} {n : Nat} {m : Str → Option Value} {news : List (Addr × Obj)} (J : (Str → Option Value) → Nat → (Str → Option Value) → List (Addr × Obj) → Prop)
    (hh : A.handled = none) (F : Fr h₀ env.locals s.heap m) (N : News h₀ env.locals s.heap news) (h0 : J m 0 m news) (hmem : ∀ i m' news, J m i m' news → (ax, listOf vs.toArray n) ∈ news)
    (turn : ∀ I i v m₁ news₁ h tk it, vs[i]? = some v → J m i m₁ news₁ → (∀ p ∈ news₁, p.1 ≠ I) → Fr h₀ env.locals h m₁ → News h₀ env.locals h ((I, it) :: news₁) →
      wpAny (model prog w) A (assign target env v) (fun _ s₂ => wpAny (model prog w) A (execs body env) (FPost h₀ env.locals I it (J m (i + 1)) s Q) E s₂) E { s with heap := h, toks := tk })
    (done : ∀ m₁ news₁ h tk, J m vs.length m₁ news₁ → Fr h₀ env.locals h m₁ → News h₀ env.locals h news₁ → Q .next { s with heap := h, toks := tk }) :
    wpAny (model prog w) A (pyIter (.ref ax)) (fun it s₂ => TurnsAt prog w A h₀ env target body Q E it s₂) E s :=
  for_list (J m) hh F N h0 hmem turn done
end
theorem npick {h₀ h : Heap} {L D : Addr} {o : Obj} {news rest : List (Addr × Obj)} (N : News h₀ L h news) (hp : Pick D o news rest) : News h₀ L h ((D, o) :: rest) := nsub N hp.sub
theorem IsOv.sub {xs ys : List Str} {m₀ m u : Str → Option Value} (h : IsOv xs m₀ m) (hs : ys.all (fun y => xs.contains y) = true) : IsOv xs m₀ (ov ys u m) := by
  obtain ⟨v, rfl⟩ := h
  refine ⟨fun y => if ys.contains y then u y else v y, ?_⟩
  funext y
  simp only [ov]
  by_cases e : ys.contains y = true
  · have hy : y ∈ ys := by simpa using e
    have := List.all_eq_true.mp hs y hy
    rw [if_pos e, if_pos this, if_pos e]
  · rw [if_neg e, if_neg e]

def tabl (ps : List (String × String)) (k : Lean.TSyntax `str) : Lean.MacroM (Lean.TSyntax `tactic) := match ps.lookup k.getString with
  | some x => `(tactic| walk_at $(Lean.Syntax.mkStrLit x):str)
  | none => Lean.Macro.throwUnsupported
local macro_rules | `(tactic| walk_at "ST") => `(tactic| refine stop_ ?_)
local macro_rules | `(tactic| walk_at "LN") => `(tactic| (k_here; (with_reducible show wpAny _ _ (call (Value.builtin "len") [Value.ref _]) _ _ _); (refine' len_rule ?k1 ?k2 ?k3 ?k4 ?_; (case k1 => k_asm); (case k2 => k_mem); (case k3 => assumption); (case k4 => omega); k_whole)))
local macro_rules | `(tactic| walk_at "SB") => `(tactic| ((with_reducible show wpAny _ _ (subscriptTail _ _ (Value.ref _) (Value.int _ _)) _ _ _); refine stop_ ?_))
local macro_rules | `(tactic| walk_at "CR") => `(tactic| ((case k1 => k_asm); (case k2 => k_asm); (case k3 => k_asm); (case k4 => k_asm); (case k5 => k_asm); (case kK => first | exact rfl | assumption); (case kd => ((try dsimp only [ktrTop]); omega)); (case ku => ((try simp only [units_in1, units_deeper, Around.mark_units, units_caller]); (try dsimp only [ktrTop]); omega))))
local macro_rules | `(tactic| k_enter) => `(tactic| (refine' code_def ?k1 ?k2 ?k3 ?k4 ?k5 ?kA ?kF ?kK ?k6 ?k7 ?k8 ?k9 ?kB ?_ ?c2 ?c3 ?c4 ?c5; (case kA => exact rfl); (case kF => exact rfl); (case kK => first | exact rfl | assumption); (case k1 => k_asm); (case k2 => k_asm); (case k3 => k_asm); (case k4 => k_asm); (case k5 => k_asm); (case k6 => k_is); (case k7 => k_is); (case k8 => first | k_room | ktr_room); (case k9 => first | exact BindsTo.of_eq rfl | (refine' kp_binds ?kx ?ke; (case kx => k_in); (case ke => exact fun _ => rfl)) | exact binds_K (by k_in) rfl (by k_is) rfl rfl rfl); (case c5 => decide); (case kB => exact locs rfl); (case c2 => exact rfl); (case c3 => exact rfl); (case c4 => exact rfl); k_whole; intro g' L' h' FG' F' N' B' X' T'; (try dsimp only); (try k_lift B'); (try k_fold)))
local macro_rules | `(tactic| k_mem) => `(tactic| assumption)
local macro_rules | `(tactic| walk_at "for_line") => `(tactic| (k_here; k_dflt (refine' For_turns ?F ?_ ?hs ?hE; (case F => k_asm); (case hs => (intro _; rfl)); (case hE => first | passes_own | with_unfolding_all passes_own))))
local macro_rules | `(tactic| walk_at "pyIter ref") => `(tactic| ((with_reducible show wpAny _ _ (pyIter (Value.ref _)) (fun it s₂ => TurnsAt _ _ _ _ _ _ _ _ _ it s₂) _ _); refine stop_ ?_))
local macro_rules | `(tactic| k_all) => `(tactic| assumption)
local macro_rules | `(tactic| walk_at "call builtin:list.append") => `(tactic| (k_here; (with_reducible show wpAny _ _ (call (Value.builtin _) [Value.ref _, _]) _ _ _); k_dflt (refine' app_rule ?F ?N ?U ?z ?_; (case F => k_asm); (case N => k_asm); (case U => k_upd); (case z => first | omega | (simp only [List.length_cons, List.length_nil]; omega)); k_whole); intro h' F' N'; (try simp only [List.nil_append, List.cons_append] at N'); (try k_sweep)))
local macro_rules | `(tactic| k_ne) => `(tactic| (refine neN ?_; (try dsimp only); first | assumption | exact Ne.symm (by assumption) | exact Nat.ne_of_lt (by assumption) | exact Nat.ne_of_gt (by assumption)))

local macro_rules | `(tactic| walk_at "execs cons") => `(tactic| ((try (k_here; k_gentoks)); k_here; (with_reducible refine wpAny_execs_cons ?_); (try dsimp only); k_fold))
local macro_rules | `(tactic| walk_at $k:str) => tabl [("exec For Name Call cons nil", "for_line"), ("exec For Tuple Name cons nil", "for_line"), ("exec For Name Name cons nil", "for_line")] k
section
local macro_rules | `(tactic| walk_at $k:str) => tabl [("call builtin:len", "ST"), ("binaryOp FloorDiv int int", "ST"), ("compareOp Lt ref ref", "ST"), ("exec While Compare cons nil", "ST")] k
local macro_rules | `(tactic| walk_at "subscriptTail") => `(tactic| (k_here; (with_reducible show wpAny _ _ (subscriptTail _ _ (Value.ref _) (Value.int _ _)) _ _ _); (with_unfolding_all refine' pair_item ?k1 ?k2 ?k3 ?k4 ?k5 ?_ ?k7; (case k1 => k_asm); (case k2 => k_mem); (case k3 => assumption); (case k4 => omega); (case k5 => omega); (case k7 => with_unfolding_all rfl); k_whole); intro a' t' u' n' hm'))
local macro_rules | `(tactic| walk_at "WhlIf") => `(tactic| (refine whlIf_dec (fun hc' => ?_) (fun hc' => ?_)))
noncomputable abbrev BisI (ps : List (Int × Int)) (q : Int × Int → Bool) (news : List (Addr × Obj)) (m₀ : Str → Option Value) (k : Nat) (m' : Str → Option Value) (news' : List (Addr × Obj)) : Prop :=
  news' = news ∧ ∃ lo hi t t' mid, m' = bm m₀ mid lo hi t t' ∧ Bis q ps lo hi ∧ k = hi - lo

theorem c_bisR (w : World) (news : List (Addr × Obj)) (l : Addr) (vs : List Value) (n : Nat) (ps : List (Int × Int)) (xa : Addr) (x y : Int) (t u t1 : Tok) (n1 : Nat) (hl : (l, listOf vs.toArray n) ∈ news) 
   (hx : (xa, tupOf [.int x t, .int y u] n1) ∈ news)
   (hD : DatAll news vs (ps.map pdat)) (hsz : ps.length ≤ 100) (hm : Mono (pltB (x, y)) ps) :
   Con w 2 16 (call (.ref 56) [.ref l, .ref xa, .int 0 t1, .none]) news (fun r news' => (∃ t', r = .int (cnt (pltB (x, y)) ps) t') ∧ news' = news) := by
  intro p loose mean mg mb dp un gd cn cs a ccd cl outer A₀ base h₀ L m s Q E B F X N T hk hd hu ret
  refine wpAny_call ?_
  k_dflt (first | (kp_kind "more"; (refine' kp_more ?k1 ?k2 ?k3 ?k4 ?k5 ?kA ?kF ?kK ?k6 ?k7 ?k8 ?kX ?kM ?kN ?kD ?kR ?kP ?kT ?kB ?_ ?c2 ?c3 ?c4 ?c5; (case kA => exact rfl); (case kF => exact rfl); (case kK => first | exact rfl | assumption); (case k1 => k_asm); (case k2 => k_asm); (case k3 => k_asm); (case k4 => k_asm); (case k5 => k_asm); (case k6 => k_is); (case k7 => k_is); (case k8 => first | k_room | ktr_room); (case kX => kp_lit); (case kM => exact rfl); (case kN => exact rfl); (case kD => kp_flats); (case kR => exact rfl); (case kP => exact rfl); (case kT => exact fun _ => rfl); (case kB => exact fun _ => locs rfl); (case c5 => decide); (case c2 => exact rfl); (case c3 => exact rfl); (case c4 => exact rfl); k_whole; intro D' o' g' L' h' tk' l1 lo' hs' fs' FG' F' N' B' X' T'; (try k_lt l1); (try dsimp only); (try k_lift B'); (try k_fold))) | (refine' code_def ?k1 ?k2 ?k3 ?k4 ?k5 ?kA ?kF ?kK ?k6 ?k7 ?k8 ?k9 ?kB ?_ ?c2 ?c3 ?c4 ?c5; (case kA => exact rfl); (case kF => exact rfl); (case kK => first | exact rfl | assumption); (case k1 => k_asm); (case k2 => k_asm); (case k3 => k_asm); (case k4 => k_asm); (case k5 => k_asm); (case k6 => k_is); (case k7 => k_is); (case k8 => first | k_room | ktr_room); (case k9 => first | exact BindsTo.of_eq rfl | (refine' kp_binds ?kx ?ke; (case kx => k_in); (case ke => exact fun _ => rfl)) | exact binds_K (by k_in) rfl (by k_is) rfl rfl rfl); (case c5 => decide); (case kB => exact locs rfl); (case c2 => exact rfl); (case c3 => exact rfl); (case c4 => exact rfl); k_whole; intro g' L' h' FG' F' N' B' X' T'; (try dsimp only); (try k_lift B'); (try k_fold)))
  (k_steps; repeat' ((unfold Stop; first | ((k_here; (with_reducible show wpAny _ _ (call (Value.builtin "len") [Value.ref _]) _ _ _); (refine' kd_len ?k1 ?k2 ?k3 ?k4 ?_; (case k1 => k_asm); (case k2 => k_mem); (case k3 => assumption); (case k4 => (simp only [List.length_map]; omega)); k_whole); (try simp only [List.length_map]))) | ((k_here; with_reducible refine fdiv2_nat ?_)) | ((k_here; (refine' tup_lt ?k1 ?k2 ?k3 ?k4 ?_; (case k1 => k_asm); (case k2 => k_mem); (case k3 => k_mem); (case k4 => ((try simp only [units_in1, units_deeper, Around.mark_units, units_caller]); (try dsimp only [ktrTop]); omega)); k_whole)))); k_steps))
  unfold Stop
  refine while_invM (BisI ps (pltB (x, y)) news) (k := ps.length) ?hE (by k_asm) (by k_asm) ?hI ?turn
  case hE => passes_own
  case hI => exact ⟨rfl, 0, ps.length, _, _, _, (bm_self rfl rfl).symm, Bis.start _ _, rfl⟩
  case turn =>
    rintro k m' news' h tk ⟨rfl, lo, hi, tl, th, mid, rfl, hB, rfl⟩ F' N'
    have hle := hB.le
    have hln := hB.len
    (k_steps; repeat' ((unfold Stop; first | ((k_here; (with_reducible show wpAny _ _ (call (Value.builtin "len") [Value.ref _]) _ _ _); (refine' kd_len ?k1 ?k2 ?k3 ?k4 ?_; (case k1 => k_asm); (case k2 => k_mem); (case k3 => assumption); (case k4 => (simp only [List.length_map]; omega)); k_whole); (try simp only [List.length_map]))) | ((k_here; with_reducible refine fdiv2_nat ?_)) | ((k_here; (refine' tup_lt ?k1 ?k2 ?k3 ?k4 ?_; (case k1 => k_asm); (case k2 => k_mem); (case k3 => k_mem); (case k4 => ((try simp only [units_in1, units_deeper, Around.mark_units, units_caller]); (try dsimp only [ktrTop]); omega)); k_whole)))); k_steps))
    · exact wEnd_intro (by k_asm) (by k_asm) (by omega) ⟨rfl, lo, (lo + hi) / 2, _, _, _, bm_hi, hB.down hm (by omega) (by omega) (fun _ => by assumption), rfl⟩
    · exact wEnd_intro (by k_asm) (by k_asm) (by omega) ⟨rfl, (lo + hi) / 2 + 1, hi, _, _, _, bm_lo, hB.up hm (by omega) (by omega) (fun _ => by assumption), rfl⟩
    · obtain rfl : lo = hi := by omega
      exact ret _ _ _ _ (by k_asm) (by k_asm) ⟨⟨_, by rw [cnt_of hB]⟩, rfl⟩

theorem c_bisRK (w : World) (news : List (Addr × Obj)) (l : Addr) (vs : List Value) (n : Nat) (ps : List (Int × Int)) (x : Int) (t t1 : Tok) (hl : (l, listOf vs.toArray n) ∈ news) 
   (hD : DatAll news vs (ps.map pdat)) (hsz : ps.length ≤ 100) (hm : Mono (fun p => decide (x < p.1)) ps) :
   Con w 3 16 (call (.ref 56) [.ref l, .int x t, .int 0 t1, .none] [(Str.ofString "key", .ref 265)]) news (fun r news' => (∃ t', r = .int (cnt (fun p => decide (x < p.1)) ps) t') ∧ news' = news) := by
  intro p loose mean mg mb dp un gd cn cs a ccd cl outer A₀ base h₀ L m s Q E B F X N T hk hd hu ret
  refine wpAny_call ?_
  k_dflt (first | (kp_kind "more"; (refine' kp_more ?k1 ?k2 ?k3 ?k4 ?k5 ?kA ?kF ?kK ?k6 ?k7 ?k8 ?kX ?kM ?kN ?kD ?kR ?kP ?kT ?kB ?_ ?c2 ?c3 ?c4 ?c5; (case kA => exact rfl); (case kF => exact rfl); (case kK => first | exact rfl | assumption); (case k1 => k_asm); (case k2 => k_asm); (case k3 => k_asm); (case k4 => k_asm); (case k5 => k_asm); (case k6 => k_is); (case k7 => k_is); (case k8 => first | k_room | ktr_room); (case kX => kp_lit); (case kM => exact rfl); (case kN => exact rfl); (case kD => kp_flats); (case kR => exact rfl); (case kP => exact rfl); (case kT => exact fun _ => rfl); (case kB => exact fun _ => locs rfl); (case c5 => decide); (case c2 => exact rfl); (case c3 => exact rfl); (case c4 => exact rfl); k_whole; intro D' o' g' L' h' tk' l1 lo' hs' fs' FG' F' N' B' X' T'; (try k_lt l1); (try dsimp only); (try k_lift B'); (try k_fold))) | (refine' code_def ?k1 ?k2 ?k3 ?k4 ?k5 ?kA ?kF ?kK ?k6 ?k7 ?k8 ?k9 ?kB ?_ ?c2 ?c3 ?c4 ?c5; (case kA => exact rfl); (case kF => exact rfl); (case kK => first | exact rfl | assumption); (case k1 => k_asm); (case k2 => k_asm); (case k3 => k_asm); (case k4 => k_asm); (case k5 => k_asm); (case k6 => k_is); (case k7 => k_is); (case k8 => first | k_room | ktr_room); (case k9 => first | exact BindsTo.of_eq rfl | (refine' kp_binds ?kx ?ke; (case kx => k_in); (case ke => exact fun _ => rfl)) | exact binds_K (by k_in) rfl (by k_is) rfl rfl rfl); (case c5 => decide); (case kB => exact locs rfl); (case c2 => exact rfl); (case c3 => exact rfl); (case c4 => exact rfl); k_whole; intro g' L' h' FG' F' N' B' X' T'; (try dsimp only); (try k_lift B'); (try k_fold)))
  (k_steps; repeat' ((unfold Stop; first | ((k_here; (with_reducible show wpAny _ _ (call (Value.builtin "len") [Value.ref _]) _ _ _); (refine' kd_len ?k1 ?k2 ?k3 ?k4 ?_; (case k1 => k_asm); (case k2 => k_mem); (case k3 => assumption); (case k4 => (simp only [List.length_map]; omega)); k_whole); (try simp only [List.length_map]))) | ((k_here; with_reducible refine fdiv2_nat ?_)) | ((k_here; (refine' tup_lt ?k1 ?k2 ?k3 ?k4 ?_; (case k1 => k_asm); (case k2 => k_mem); (case k3 => k_mem); (case k4 => ((try simp only [units_in1, units_deeper, Around.mark_units, units_caller]); (try dsimp only [ktrTop]); omega)); k_whole)))); k_steps))
  unfold Stop
  refine while_invM (BisI ps (fun p => decide (x < p.1)) news) (k := ps.length) ?hE (by k_asm) (by k_asm) ?hI ?turn
  case hE => passes_own
  case hI => exact ⟨rfl, 0, ps.length, _, _, _, (bm_self rfl rfl).symm, Bis.start _ _, rfl⟩
  case turn =>
    rintro k m' news' h tk ⟨rfl, lo, hi, tl, th, mid, rfl, hB, rfl⟩ F' N'
    have hle := hB.le
    have hln := hB.len
    (k_steps; repeat' ((unfold Stop; first | ((k_here; (with_reducible show wpAny _ _ (call (Value.builtin "len") [Value.ref _]) _ _ _); (refine' kd_len ?k1 ?k2 ?k3 ?k4 ?_; (case k1 => k_asm); (case k2 => k_mem); (case k3 => assumption); (case k4 => (simp only [List.length_map]; omega)); k_whole); (try simp only [List.length_map]))) | ((k_here; with_reducible refine fdiv2_nat ?_)) | ((k_here; (refine' tup_lt ?k1 ?k2 ?k3 ?k4 ?_; (case k1 => k_asm); (case k2 => k_mem); (case k3 => k_mem); (case k4 => ((try simp only [units_in1, units_deeper, Around.mark_units, units_caller]); (try dsimp only [ktrTop]); omega)); k_whole)))); k_steps))
    · exact wEnd_intro (by k_asm) (by k_asm) (by omega) ⟨rfl, lo, (lo + hi) / 2, _, _, _, bm_hi, hB.down hm (by omega) (by omega) (fun _ => by simp; assumption), rfl⟩
    · exact wEnd_intro (by k_asm) (by k_asm) (by omega) ⟨rfl, (lo + hi) / 2 + 1, hi, _, _, _, bm_lo, hB.up hm (by omega) (by omega) (fun _ => by simp; omega), rfl⟩
    · obtain rfl : lo = hi := by omega
      exact ret _ _ _ _ (by k_asm) (by k_asm) ⟨⟨_, by rw [cnt_of hB]⟩, rfl⟩

theorem c_bisRK0 (w : World) (news : List (Addr × Obj)) (l : Addr) (vs : List Value) (n : Nat) (ps : List (Int × Int)) (x : Int) (t : Tok) (hl : (l, listOf vs.toArray n) ∈ news) 
   (hD : DatAll news vs (ps.map pdat)) (hsz : ps.length ≤ 100) (hm : Mono (fun p => decide (x < p.1)) ps) :
   Con w 3 16 (call (.ref 56) [.ref l, .int x t] [(Str.ofString "key", .ref 265)]) news (fun r news' => (∃ t', r = .int (cnt (fun p => decide (x < p.1)) ps) t') ∧ news' = news) := by
  intro p loose mean mg mb dp un gd cn cs a ccd cl outer A₀ base h₀ L m s Q E B F X N T hk hd hu ret
  refine wpAny_call ?_
  k_dflt (first | (kp_kind "more"; (refine' kp_more ?k1 ?k2 ?k3 ?k4 ?k5 ?kA ?kF ?kK ?k6 ?k7 ?k8 ?kX ?kM ?kN ?kD ?kR ?kP ?kT ?kB ?_ ?c2 ?c3 ?c4 ?c5; (case kA => exact rfl); (case kF => exact rfl); (case kK => first | exact rfl | assumption); (case k1 => k_asm); (case k2 => k_asm); (case k3 => k_asm); (case k4 => k_asm); (case k5 => k_asm); (case k6 => k_is); (case k7 => k_is); (case k8 => first | k_room | ktr_room); (case kX => kp_lit); (case kM => exact rfl); (case kN => exact rfl); (case kD => kp_flats); (case kR => exact rfl); (case kP => exact rfl); (case kT => exact fun _ => rfl); (case kB => exact fun _ => locs rfl); (case c5 => decide); (case c2 => exact rfl); (case c3 => exact rfl); (case c4 => exact rfl); k_whole; intro D' o' g' L' h' tk' l1 lo' hs' fs' FG' F' N' B' X' T'; (try k_lt l1); (try dsimp only); (try k_lift B'); (try k_fold))) | (refine' code_def ?k1 ?k2 ?k3 ?k4 ?k5 ?kA ?kF ?kK ?k6 ?k7 ?k8 ?k9 ?kB ?_ ?c2 ?c3 ?c4 ?c5; (case kA => exact rfl); (case kF => exact rfl); (case kK => first | exact rfl | assumption); (case k1 => k_asm); (case k2 => k_asm); (case k3 => k_asm); (case k4 => k_asm); (case k5 => k_asm); (case k6 => k_is); (case k7 => k_is); (case k8 => first | k_room | ktr_room); (case k9 => first | exact BindsTo.of_eq rfl | (refine' kp_binds ?kx ?ke; (case kx => k_in); (case ke => exact fun _ => rfl)) | exact binds_K (by k_in) rfl (by k_is) rfl rfl rfl); (case c5 => decide); (case kB => exact locs rfl); (case c2 => exact rfl); (case c3 => exact rfl); (case c4 => exact rfl); k_whole; intro g' L' h' FG' F' N' B' X' T'; (try dsimp only); (try k_lift B'); (try k_fold)))
  (k_steps; repeat' ((unfold Stop; first | ((k_here; (with_reducible show wpAny _ _ (call (Value.builtin "len") [Value.ref _]) _ _ _); (refine' kd_len ?k1 ?k2 ?k3 ?k4 ?_; (case k1 => k_asm); (case k2 => k_mem); (case k3 => assumption); (case k4 => (simp only [List.length_map]; omega)); k_whole); (try simp only [List.length_map]))) | ((k_here; with_reducible refine fdiv2_nat ?_)) | ((k_here; (refine' tup_lt ?k1 ?k2 ?k3 ?k4 ?_; (case k1 => k_asm); (case k2 => k_mem); (case k3 => k_mem); (case k4 => ((try simp only [units_in1, units_deeper, Around.mark_units, units_caller]); (try dsimp only [ktrTop]); omega)); k_whole)))); k_steps))
  unfold Stop
  refine while_invM (BisI ps (fun p => decide (x < p.1)) news) (k := ps.length) ?hE (by k_asm) (by k_asm) ?hI ?turn
  case hE => passes_own
  case hI => exact ⟨rfl, 0, ps.length, _, _, _, (bm_self rfl rfl).symm, Bis.start _ _, rfl⟩
  case turn =>
    rintro k m' news' h tk ⟨rfl, lo, hi, tl, th, mid, rfl, hB, rfl⟩ F' N'
    have hle := hB.le
    have hln := hB.len
    (k_steps; repeat' ((unfold Stop; first | ((k_here; (with_reducible show wpAny _ _ (call (Value.builtin "len") [Value.ref _]) _ _ _); (refine' kd_len ?k1 ?k2 ?k3 ?k4 ?_; (case k1 => k_asm); (case k2 => k_mem); (case k3 => assumption); (case k4 => (simp only [List.length_map]; omega)); k_whole); (try simp only [List.length_map]))) | ((k_here; with_reducible refine fdiv2_nat ?_)) | ((k_here; (refine' tup_lt ?k1 ?k2 ?k3 ?k4 ?_; (case k1 => k_asm); (case k2 => k_mem); (case k3 => k_mem); (case k4 => ((try simp only [units_in1, units_deeper, Around.mark_units, units_caller]); (try dsimp only [ktrTop]); omega)); k_whole)))); k_steps))
    · exact wEnd_intro (by k_asm) (by k_asm) (by omega) ⟨rfl, lo, (lo + hi) / 2, _, _, _, bm_hi, hB.down hm (by omega) (by omega) (fun _ => by simp; assumption), rfl⟩
    · exact wEnd_intro (by k_asm) (by k_asm) (by omega) ⟨rfl, (lo + hi) / 2 + 1, hi, _, _, _, bm_lo, hB.up hm (by omega) (by omega) (fun _ => by simp; omega), rfl⟩
    · obtain rfl : lo = hi := by omega
      exact ret _ _ _ _ (by k_asm) (by k_asm) ⟨⟨_, by rw [cnt_of hB]⟩, rfl⟩

theorem c_bisLK (w : World) (news : List (Addr × Obj)) (l : Addr) (vs : List Value) (n : Nat) (ps : List (Int × Int)) (x : Int) (t t1 : Tok) (hl : (l, listOf vs.toArray n) ∈ news) 
   (hD : DatAll news vs (ps.map pdat)) (hsz : ps.length ≤ 100) (hm : Mono (fun p => decide (x ≤ p.1)) ps) :
   Con w 3 16 (call (.ref 74) [.ref l, .int x t, .int 0 t1, .none] [(Str.ofString "key", .ref 265)]) news (fun r news' => (∃ t', r = .int (cnt (fun p => decide (x ≤ p.1)) ps) t') ∧ news' = news) := by
  intro p loose mean mg mb dp un gd cn cs a ccd cl outer A₀ base h₀ L m s Q E B F X N T hk hd hu ret
  refine wpAny_call ?_
  k_dflt (first | (kp_kind "more"; (refine' kp_more ?k1 ?k2 ?k3 ?k4 ?k5 ?kA ?kF ?kK ?k6 ?k7 ?k8 ?kX ?kM ?kN ?kD ?kR ?kP ?kT ?kB ?_ ?c2 ?c3 ?c4 ?c5; (case kA => exact rfl); (case kF => exact rfl); (case kK => first | exact rfl | assumption); (case k1 => k_asm); (case k2 => k_asm); (case k3 => k_asm); (case k4 => k_asm); (case k5 => k_asm); (case k6 => k_is); (case k7 => k_is); (case k8 => first | k_room | ktr_room); (case kX => kp_lit); (case kM => exact rfl); (case kN => exact rfl); (case kD => kp_flats); (case kR => exact rfl); (case kP => exact rfl); (case kT => exact fun _ => rfl); (case kB => exact fun _ => locs rfl); (case c5 => decide); (case c2 => exact rfl); (case c3 => exact rfl); (case c4 => exact rfl); k_whole; intro D' o' g' L' h' tk' l1 lo' hs' fs' FG' F' N' B' X' T'; (try k_lt l1); (try dsimp only); (try k_lift B'); (try k_fold))) | (refine' code_def ?k1 ?k2 ?k3 ?k4 ?k5 ?kA ?kF ?kK ?k6 ?k7 ?k8 ?k9 ?kB ?_ ?c2 ?c3 ?c4 ?c5; (case kA => exact rfl); (case kF => exact rfl); (case kK => first | exact rfl | assumption); (case k1 => k_asm); (case k2 => k_asm); (case k3 => k_asm); (case k4 => k_asm); (case k5 => k_asm); (case k6 => k_is); (case k7 => k_is); (case k8 => first | k_room | ktr_room); (case k9 => first | exact BindsTo.of_eq rfl | (refine' kp_binds ?kx ?ke; (case kx => k_in); (case ke => exact fun _ => rfl)) | exact binds_K (by k_in) rfl (by k_is) rfl rfl rfl); (case c5 => decide); (case kB => exact locs rfl); (case c2 => exact rfl); (case c3 => exact rfl); (case c4 => exact rfl); k_whole; intro g' L' h' FG' F' N' B' X' T'; (try dsimp only); (try k_lift B'); (try k_fold)))
  (k_steps; repeat' ((unfold Stop; first | ((k_here; (with_reducible show wpAny _ _ (call (Value.builtin "len") [Value.ref _]) _ _ _); (refine' kd_len ?k1 ?k2 ?k3 ?k4 ?_; (case k1 => k_asm); (case k2 => k_mem); (case k3 => assumption); (case k4 => (simp only [List.length_map]; omega)); k_whole); (try simp only [List.length_map]))) | ((k_here; with_reducible refine fdiv2_nat ?_)) | ((k_here; (refine' tup_lt ?k1 ?k2 ?k3 ?k4 ?_; (case k1 => k_asm); (case k2 => k_mem); (case k3 => k_mem); (case k4 => ((try simp only [units_in1, units_deeper, Around.mark_units, units_caller]); (try dsimp only [ktrTop]); omega)); k_whole)))); k_steps))
  unfold Stop
  refine while_invM (BisI ps (fun p => decide (x ≤ p.1)) news) (k := ps.length) ?hE (by k_asm) (by k_asm) ?hI ?turn
  case hE => passes_own
  case hI => exact ⟨rfl, 0, ps.length, _, _, _, (bm_self rfl rfl).symm, Bis.start _ _, rfl⟩
  case turn =>
    rintro k m' news' h tk ⟨rfl, lo, hi, tl, th, mid, rfl, hB, rfl⟩ F' N'
    have hle := hB.le
    have hln := hB.len
    (k_steps; repeat' ((unfold Stop; first | ((k_here; (with_reducible show wpAny _ _ (call (Value.builtin "len") [Value.ref _]) _ _ _); (refine' kd_len ?k1 ?k2 ?k3 ?k4 ?_; (case k1 => k_asm); (case k2 => k_mem); (case k3 => assumption); (case k4 => (simp only [List.length_map]; omega)); k_whole); (try simp only [List.length_map]))) | ((k_here; with_reducible refine fdiv2_nat ?_)) | ((k_here; (refine' tup_lt ?k1 ?k2 ?k3 ?k4 ?_; (case k1 => k_asm); (case k2 => k_mem); (case k3 => k_mem); (case k4 => ((try simp only [units_in1, units_deeper, Around.mark_units, units_caller]); (try dsimp only [ktrTop]); omega)); k_whole)))); k_steps))
    · exact wEnd_intro (by k_asm) (by k_asm) (by omega) ⟨rfl, (lo + hi) / 2 + 1, hi, _, _, _, bm_lo, hB.up hm (by omega) (by omega) (fun _ => by simp; omega), rfl⟩
    · exact wEnd_intro (by k_asm) (by k_asm) (by omega) ⟨rfl, lo, (lo + hi) / 2, _, _, _, bm_hi, hB.down hm (by omega) (by omega) (fun _ => by simp; omega), rfl⟩
    · obtain rfl : lo = hi := by omega
      exact ret _ _ _ _ (by k_asm) (by k_asm) ⟨⟨_, by rw [cnt_of hB]⟩, rfl⟩

end
section
/-- ask a contract at a call -/
local macro_rules | `(tactic| walk_at "call ref") => `(tactic| (k_here; (with_reducible show wpAny _ _ (call (Value.ref 56) [_, Value.ref _, _, _]) _ _ _); k_dflt ((refine' Con.use (c_bisR _ _ _ _ _ _ _ _ _ _ _ _ _ ?hl ?hx ?hD ?hsz ?hm) ?k1 ?k2 ?k3 ?k4 ?k5 ?kK ?kd ?ku ?kR); (case hl => k_mem); (case hx => k_mem); (case hD => assumption); (case hsz => omega); (case hm => assumption); walk_at "CR"); intro r' h' tk' news' F' N' P'; (obtain ⟨⟨t', e1'⟩, e2'⟩ := P'); subst e1'; subst e2'; (try k_sweep)))
local macro_rules | `(tactic| walk_at "call ref") => `(tactic| (k_here; (with_reducible show wpAny _ _ (call (Value.ref 56) [_, Value.int _ _, _, _] _) _ _ _); k_dflt ((refine' Con.use (c_bisRK _ _ _ _ _ _ _ _ _ ?hl ?hD ?hsz ?hm) ?k1 ?k2 ?k3 ?k4 ?k5 ?kK ?kd ?ku ?kR); (case hl => k_mem); (case hD => assumption); (case hsz => omega); (case hm => assumption); walk_at "CR"); intro r' h' tk' news' F' N' P'; (obtain ⟨⟨t', e1'⟩, e2'⟩ := P'); subst e1'; subst e2'; (try k_sweep)))
local macro_rules | `(tactic| walk_at "call ref") => `(tactic| (k_here; (with_reducible show wpAny _ _ (call (Value.ref 74) [_, Value.int _ _, _, _] _) _ _ _); k_dflt ((refine' Con.use (c_bisLK _ _ _ _ _ _ _ _ _ ?hl ?hD ?hsz ?hm) ?k1 ?k2 ?k3 ?k4 ?k5 ?kK ?kd ?ku ?kR); (case hl => k_mem); (case hD => assumption); (case hsz => omega); (case hm => assumption); walk_at "CR"); intro r' h' tk' news' F' N' P'; (obtain ⟨⟨t', e1'⟩, e2'⟩ := P'); subst e1'; subst e2'; (try k_sweep)))
local macro_rules | `(tactic| walk_at "call builtin:list.insert") => `(tactic| (k_here; (with_reducible show wpAny _ _ (call (Value.builtin _) [Value.ref _, Value.int _ _, _]) _ _ _); k_dflt (refine' ins_rule ?F ?N ?r ?c ?z ?_; (case F => k_asm); (case N => k_asm); (case r => assumption); (case c => assumption); (case z => omega)); intro h' F' N'; (try k_sweep)))

theorem c_insR (w : World) (rest nd : List (Addr × Obj)) (l : Addr) (vs : List Value) (n : Nat) (ps : List (Int × Int)) (xa : Addr) (x y : Int) (t u : Tok) (n1 : Nat) (hx : (xa, tupOf [.int x t, .int y u] n1) ∈ nd) (hs : ∀ p ∈ nd, p ∈ rest)
   (hr : ∀ p ∈ rest, p.1 ≠ l) (hD : DatAll nd vs (ps.map pdat)) (hsz : ps.length ≤ 99) (hm : Mono (pltB (x, y)) ps) :
   Con w 4 32 (call (.ref 47) [.ref l, .ref xa]) ((l, listOf vs.toArray n) :: rest) (fun r news' => r = .none ∧ ∃ vs' n', news' = (l, listOf vs'.toArray n') :: rest ∧ DatAll nd vs' ((insAt (cnt (pltB (x, y)) ps) (x, y) ps).map pdat)) := by
  intro p loose mean mg mb dp un gd cn cs a ccd cl outer A₀ base h₀ L m s Q E B F X N T hk hd hu ret
  have hl' : (l, listOf vs.toArray n) ∈ (l, listOf vs.toArray n) :: rest := .head _
  have hx' : (xa, tupOf [.int x t, .int y u] n1) ∈ (l, listOf vs.toArray n) :: rest := .tail _ (hs _ hx)
  have hD' : DatAll ((l, listOf vs.toArray n) :: rest) vs (ps.map pdat) := hD.mono fun _ h => .tail _ (hs _ h)
  have hvl : vs.length = ps.length := by rw [hD.length, List.length_map]
  have hcl : cnt (pltB (x, y)) ps ≤ vs.length := hvl ▸ cnt_le _ _
  refine wpAny_call ?_
  k_dflt (first | (kp_kind "more"; (refine' kp_more ?k1 ?k2 ?k3 ?k4 ?k5 ?kA ?kF ?kK ?k6 ?k7 ?k8 ?kX ?kM ?kN ?kD ?kR ?kP ?kT ?kB ?_ ?c2 ?c3 ?c4 ?c5; (case kA => exact rfl); (case kF => exact rfl); (case kK => first | exact rfl | assumption); (case k1 => k_asm); (case k2 => k_asm); (case k3 => k_asm); (case k4 => k_asm); (case k5 => k_asm); (case k6 => k_is); (case k7 => k_is); (case k8 => first | k_room | ktr_room); (case kX => kp_lit); (case kM => exact rfl); (case kN => exact rfl); (case kD => kp_flats); (case kR => exact rfl); (case kP => exact rfl); (case kT => exact fun _ => rfl); (case kB => exact fun _ => locs rfl); (case c5 => decide); (case c2 => exact rfl); (case c3 => exact rfl); (case c4 => exact rfl); k_whole; intro D' o' g' L' h' tk' l1 lo' hs' fs' FG' F' N' B' X' T'; (try k_lt l1); (try dsimp only); (try k_lift B'); (try k_fold))) | (refine' code_def ?k1 ?k2 ?k3 ?k4 ?k5 ?kA ?kF ?kK ?k6 ?k7 ?k8 ?k9 ?kB ?_ ?c2 ?c3 ?c4 ?c5; (case kA => exact rfl); (case kF => exact rfl); (case kK => first | exact rfl | assumption); (case k1 => k_asm); (case k2 => k_asm); (case k3 => k_asm); (case k4 => k_asm); (case k5 => k_asm); (case k6 => k_is); (case k7 => k_is); (case k8 => first | k_room | ktr_room); (case k9 => first | exact BindsTo.of_eq rfl | (refine' kp_binds ?kx ?ke; (case kx => k_in); (case ke => exact fun _ => rfl)) | exact binds_K (by k_in) rfl (by k_is) rfl rfl rfl); (case c5 => decide); (case kB => exact locs rfl); (case c2 => exact rfl); (case c3 => exact rfl); (case c4 => exact rfl); k_whole; intro g' L' h' FG' F' N' B' X' T'; (try dsimp only); (try k_lift B'); (try k_fold)))
  k_steps
  refine ret _ _ _ _ (by k_asm) (by k_asm) ⟨rfl, _, _, rfl, ?_⟩
  rw [insAt_map]
  exact DatAll.insAt _ hD (.tuple hx (.cons (.int _ _) (.cons (.int _ _) .nil)))

theorem c_insRK (w : World) (rest nd : List (Addr × Obj)) (l : Addr) (vs : List Value) (n : Nat) (ps : List (Int × Int)) (xa : Addr) (x y : Int) (t u : Tok) (n1 : Nat) (hx : (xa, tupOf [.int x t, .int y u] n1) ∈ nd) (hs : ∀ p ∈ nd, p ∈ rest)
   (hr : ∀ p ∈ rest, p.1 ≠ l) (hD : DatAll nd vs (ps.map pdat)) (hsz : ps.length ≤ 99) (hm : Mono (fun p => decide (x < p.1)) ps) :
   Con w 4 32 (call (.ref 47) [.ref l, .ref xa] [(Str.ofString "key", .ref 265)]) ((l, listOf vs.toArray n) :: rest) (fun r news' => r = .none ∧ ∃ vs' n', news' = (l, listOf vs'.toArray n') :: rest ∧ DatAll nd vs' ((insAt (cnt (fun p => decide (x < p.1)) ps) (x, y) ps).map pdat)) := by
  intro p loose mean mg mb dp un gd cn cs a ccd cl outer A₀ base h₀ L m s Q E B F X N T hk hd hu ret
  have hl' : (l, listOf vs.toArray n) ∈ (l, listOf vs.toArray n) :: rest := .head _
  have hx' : (xa, tupOf [.int x t, .int y u] n1) ∈ (l, listOf vs.toArray n) :: rest := .tail _ (hs _ hx)
  have hD' : DatAll ((l, listOf vs.toArray n) :: rest) vs (ps.map pdat) := hD.mono fun _ h => .tail _ (hs _ h)
  have hvl : vs.length = ps.length := by rw [hD.length, List.length_map]
  have hcl : cnt (fun p => decide (x < p.1)) ps ≤ vs.length := hvl ▸ cnt_le _ _
  refine wpAny_call ?_
  k_dflt (first | (kp_kind "more"; (refine' kp_more ?k1 ?k2 ?k3 ?k4 ?k5 ?kA ?kF ?kK ?k6 ?k7 ?k8 ?kX ?kM ?kN ?kD ?kR ?kP ?kT ?kB ?_ ?c2 ?c3 ?c4 ?c5; (case kA => exact rfl); (case kF => exact rfl); (case kK => first | exact rfl | assumption); (case k1 => k_asm); (case k2 => k_asm); (case k3 => k_asm); (case k4 => k_asm); (case k5 => k_asm); (case k6 => k_is); (case k7 => k_is); (case k8 => first | k_room | ktr_room); (case kX => kp_lit); (case kM => exact rfl); (case kN => exact rfl); (case kD => kp_flats); (case kR => exact rfl); (case kP => exact rfl); (case kT => exact fun _ => rfl); (case kB => exact fun _ => locs rfl); (case c5 => decide); (case c2 => exact rfl); (case c3 => exact rfl); (case c4 => exact rfl); k_whole; intro D' o' g' L' h' tk' l1 lo' hs' fs' FG' F' N' B' X' T'; (try k_lt l1); (try dsimp only); (try k_lift B'); (try k_fold))) | (refine' code_def ?k1 ?k2 ?k3 ?k4 ?k5 ?kA ?kF ?kK ?k6 ?k7 ?k8 ?k9 ?kB ?_ ?c2 ?c3 ?c4 ?c5; (case kA => exact rfl); (case kF => exact rfl); (case kK => first | exact rfl | assumption); (case k1 => k_asm); (case k2 => k_asm); (case k3 => k_asm); (case k4 => k_asm); (case k5 => k_asm); (case k6 => k_is); (case k7 => k_is); (case k8 => first | k_room | ktr_room); (case k9 => first | exact BindsTo.of_eq rfl | (refine' kp_binds ?kx ?ke; (case kx => k_in); (case ke => exact fun _ => rfl)) | exact binds_K (by k_in) rfl (by k_is) rfl rfl rfl); (case c5 => decide); (case kB => exact locs rfl); (case c2 => exact rfl); (case c3 => exact rfl); (case c4 => exact rfl); k_whole; intro g' L' h' FG' F' N' B' X' T'; (try dsimp only); (try k_lift B'); (try k_fold)))
  k_steps
  refine ret _ _ _ _ (by k_asm) (by k_asm) ⟨rfl, _, _, rfl, ?_⟩
  rw [insAt_map]
  exact DatAll.insAt _ hD (.tuple hx (.cons (.int _ _) (.cons (.int _ _) .nil)))

theorem c_insLK (w : World) (rest nd : List (Addr × Obj)) (l : Addr) (vs : List Value) (n : Nat) (ps : List (Int × Int)) (xa : Addr) (x y : Int) (t u : Tok) (n1 : Nat) (hx : (xa, tupOf [.int x t, .int y u] n1) ∈ nd) (hs : ∀ p ∈ nd, p ∈ rest)
   (hr : ∀ p ∈ rest, p.1 ≠ l) (hD : DatAll nd vs (ps.map pdat)) (hsz : ps.length ≤ 99) (hm : Mono (fun p => decide (x ≤ p.1)) ps) :
   Con w 4 32 (call (.ref 65) [.ref l, .ref xa] [(Str.ofString "key", .ref 265)]) ((l, listOf vs.toArray n) :: rest) (fun r news' => r = .none ∧ ∃ vs' n', news' = (l, listOf vs'.toArray n') :: rest ∧ DatAll nd vs' ((insAt (cnt (fun p => decide (x ≤ p.1)) ps) (x, y) ps).map pdat)) := by
  intro p loose mean mg mb dp un gd cn cs a ccd cl outer A₀ base h₀ L m s Q E B F X N T hk hd hu ret
  have hl' : (l, listOf vs.toArray n) ∈ (l, listOf vs.toArray n) :: rest := .head _
  have hx' : (xa, tupOf [.int x t, .int y u] n1) ∈ (l, listOf vs.toArray n) :: rest := .tail _ (hs _ hx)
  have hD' : DatAll ((l, listOf vs.toArray n) :: rest) vs (ps.map pdat) := hD.mono fun _ h => .tail _ (hs _ h)
  have hvl : vs.length = ps.length := by rw [hD.length, List.length_map]
  have hcl : cnt (fun p => decide (x ≤ p.1)) ps ≤ vs.length := hvl ▸ cnt_le _ _
  refine wpAny_call ?_
  k_dflt (first | (kp_kind "more"; (refine' kp_more ?k1 ?k2 ?k3 ?k4 ?k5 ?kA ?kF ?kK ?k6 ?k7 ?k8 ?kX ?kM ?kN ?kD ?kR ?kP ?kT ?kB ?_ ?c2 ?c3 ?c4 ?c5; (case kA => exact rfl); (case kF => exact rfl); (case kK => first | exact rfl | assumption); (case k1 => k_asm); (case k2 => k_asm); (case k3 => k_asm); (case k4 => k_asm); (case k5 => k_asm); (case k6 => k_is); (case k7 => k_is); (case k8 => first | k_room | ktr_room); (case kX => kp_lit); (case kM => exact rfl); (case kN => exact rfl); (case kD => kp_flats); (case kR => exact rfl); (case kP => exact rfl); (case kT => exact fun _ => rfl); (case kB => exact fun _ => locs rfl); (case c5 => decide); (case c2 => exact rfl); (case c3 => exact rfl); (case c4 => exact rfl); k_whole; intro D' o' g' L' h' tk' l1 lo' hs' fs' FG' F' N' B' X' T'; (try k_lt l1); (try dsimp only); (try k_lift B'); (try k_fold))) | (refine' code_def ?k1 ?k2 ?k3 ?k4 ?k5 ?kA ?kF ?kK ?k6 ?k7 ?k8 ?k9 ?kB ?_ ?c2 ?c3 ?c4 ?c5; (case kA => exact rfl); (case kF => exact rfl); (case kK => first | exact rfl | assumption); (case k1 => k_asm); (case k2 => k_asm); (case k3 => k_asm); (case k4 => k_asm); (case k5 => k_asm); (case k6 => k_is); (case k7 => k_is); (case k8 => first | k_room | ktr_room); (case k9 => first | exact BindsTo.of_eq rfl | (refine' kp_binds ?kx ?ke; (case kx => k_in); (case ke => exact fun _ => rfl)) | exact binds_K (by k_in) rfl (by k_is) rfl rfl rfl); (case c5 => decide); (case kB => exact locs rfl); (case c2 => exact rfl); (case c3 => exact rfl); (case c4 => exact rfl); k_whole; intro g' L' h' FG' F' N' B' X' T'; (try dsimp only); (try k_lift B'); (try k_fold)))
  k_steps
  refine ret _ _ _ _ (by k_asm) (by k_asm) ⟨rfl, _, _, rfl, ?_⟩
  rw [insAt_map]
  exact DatAll.insAt _ hD (.tuple hx (.cons (.int _ _) (.cons (.int _ _) .nil)))

end
section
theorem plainAttrs_re : PlainAttrs "re.Pattern" :=
  ⟨⟨"object.__getattribute__", by rw [typeLookup_type, builtinLookup_eq_fast]; kernel_rfl, by decide +kernel⟩, by rw [typeLookup_type, builtinLookup_eq_fast]; kernel_rfl⟩
theorem slot_re_search : Slot "re.Pattern" "search" "re.Pattern.search" :=
  .of (owner := "re.Pattern") (n := "search") (by rw [typeLookup_type, builtinLookup_eq_fast]; kernel_rfl) (by decide +kernel) (by decide +kernel) (by decide +kernel)
    (by first | exact .inl (by decide +kernel) | exact .inr (by decide +kernel)) (by rw [isSubtype_type]; kernel_rfl)
theorem type_re_search : typeOf (.builtin "re.Pattern.search") = pure (.type "method_descriptor") := by show builtinType _ = _; rw [builtinType_eq_fast]; kernel_rfl
theorem entry_re_search : entryFor table "re.Pattern.search" = some Builtin.«re.Pattern.search» := entryFor_of_tree (by kernel_rfl)
theorem args_re_search_2 (a b : Value) : argsOk "re.Pattern.search" ⟨[a, b], []⟩ := by
  unfold argsOk; rw [signature?_of (id := "re.Pattern.search") (n := ['h', 'c', 'r', 'a', 'e', 's']) (o := ['n', 'r', 'e', 't', 't', 'a', 'P', '.', 'e', 'r']) (rows := Manifest.sig_re_Pattern) (by kernel_rfl) (by kernel_rfl)]; kernel_rfl
noncomputable def chS (c : Nat) : Str := ⟨#[c]⟩
theorem peek_name (P : Params) (S : Setting) (t : Tok) (c : Nat) (hc : c ∈ [65, 66, 67, 68, 97, 98, 99, 100]) : peek (hd.heap_1 P) S (Builtin.«re.Pattern.search» ⟨[.ref 120, .str (chS c) t], []⟩) = some (.done (.ret .none)) := by
  simp only [List.mem_cons, List.not_mem_nil, or_false] at hc
  rcases hc with rfl | rfl | rfl | rfl | rfl | rfl | rfl | rfl <;> kernel_rfl
theorem peek_val (P : Params) (S : Setting) (t : Tok) (c : Nat) (hc : c ∈ [48, 49, 50, 51]) : peek (hd.heap_1 P) S (Builtin.«re.Pattern.search» ⟨[.ref 125, .str (chS c) t], []⟩) = some (.done (.ret .none)) := by
  simp only [List.mem_cons, List.not_mem_nil, or_false] at hc
  rcases hc with rfl | rfl | rfl | rfl <;> kernel_rfl
section
variable {prog : Program} {w : World} {A : Around} {E : Value → Shared → Prop} {s : Shared} {h₀ : Heap} {L R : Addr} {m : Str → Option Value} {o : Obj}
theorem re_method {pl : Sem Bool} {Q : Value × List Value → Shared → Prop} (F : Fr h₀ L s.heap m) (X : (hd.heap_1 w.params).In h₀) (hR : (hd.heap_1 w.params).lookup R = some o) (hc : o.cls = .type "re.Pattern") (hdd : o.dict = none)
    (h : Q (.builtin "re.Pattern.search", [.ref R]) s) : wpAny (model prog w) A (getMethod (.ref R) (Str.ofString "search") pl) Q E s :=
  getMethod_builtin ⟨o, F.keep _ _ (X _ _ hR), hc⟩ plainAttrs_re slot_re_search type_re_search (fun a e => by cases e; exact ⟨o, F.keep _ _ (X _ _ hR), hdd⟩) h
theorem re_search {x : Str} {t : Tok} {Q : Value → Shared → Prop} (F : Fr h₀ L s.heap m) (X : (hd.heap_1 w.params).In h₀) (hR : (hd.heap_1 w.params).lookup R = some o) (hc : o.cls = .type "re.Pattern")
    (hp : ∀ S, peek (hd.heap_1 w.params) S (Builtin.«re.Pattern.search» ⟨[.ref R, .str x t], []⟩) = some (.done (.ret .none)))
    (h : Q .none s) : wpAny (model prog w) A (call (.builtin "re.Pattern.search") [.ref R, .str x t]) Q E s := by
  refine wpAny_call (codeAny_call_builtin slot_re_search.plain entry_re_search (slot_re_search.check _ _ _ _ _ _ _ _ ⟨o, F.keep _ _ (X _ _ hR), hc⟩ (args_re_search_2 _ _) ?_))
  exact fun Γ p hΓ => wp_of_peek (X.keeps F.keep) (p := p) (s := s) (show _ from h) _ (hp _)
end
theorem join_chS (k : Nat) (hk : k ∈ [48, 49, 50, 51]) : PySem.Txt.join (Str.ofString "; ") [chS k] = chS k := by
  simp only [List.mem_cons, List.not_mem_nil, or_false] at hk
  rcases hk with rfl | rfl | rfl | rfl <;> decide +kernel
section
variable {prog : Program} {w : World} {A : Around} {E : Value → Shared → Prop} {s : Shared} {h₀ : Heap} {L D : Addr} {news : List (Addr × Obj)} {n : Nat}
theorem join_one {k : Nat} {t t' : Tok} {Q : Value → Shared → Prop} (N : News h₀ L s.heap news) (hm : (D, listOf #[.str (chS k) t'] n) ∈ news) (hk : k ∈ [48, 49, 50, 51])
    (h : ∀ t'' j, Q (.str (chS k) t'') { s with toks := j }) : wpAny (model prog w) A (call (.builtin "str.join") [.str (Str.ofString "; ") t, .ref D]) Q E s := by
  refine join_listW (items := #[.str (chS k) t']) (ys := [chS k]) ⟨_, (N _ hm).1, rfl, n, rfl⟩ (.cons _ _ .nil) (by decide +kernel) ?_ fun t'' j => ?_
  · have : (chS k).length = 1 := rfl
    simp [this]
  · rw [join_chS k hk]
    exact h t'' j
end

end
section
local macro_rules | `(tactic| walk_at "getMethod ref") => `(tactic| (k_here; (with_reducible show wpAny _ _ (getMethod (Value.ref _) (PySem.Str.ofString "search") _) _ _ _); k_dflt (refine' re_method ?F ?X ?R ?c ?d ?_; (case F => k_asm); (case X => k_asm); (case R => k_is); (case c => rfl); (case d => rfl))))
local macro_rules | `(tactic| walk_at "call builtin:re.Pattern.search") => `(tactic| (k_here; k_dflt (refine' re_search ?F ?X ?R ?c ?p ?_; (case F => k_asm); (case X => k_asm); (case R => k_is); (case c => rfl); (case p => (intro S; first | with_reducible exact peek_name _ _ _ _ (by assumption) | with_reducible exact peek_val _ _ _ _ (by assumption))))))
theorem c_convN (w : World) (news : List (Addr × Obj)) (x : Addr) (c : Nat) (t : Tok) (hc : c ∈ [65, 66, 67, 68, 97, 98, 99, 100]) :
   Con w 2 16 (call (.ref 155) [.ref x, .str (chS c) t] [(Str.ofString "name", .bool true)]) news (fun r news' => (∃ t', r = .str (chS c) t') ∧ news' = news) := by
  intro p loose mean mg mb dp un gd cn cs a ccd cl outer A₀ base h₀ L m s Q E B F X N T hk hd hu ret
  refine wpAny_call ?_
  k_dflt (first | (kp_kind "more"; (refine' kp_more ?k1 ?k2 ?k3 ?k4 ?k5 ?kA ?kF ?kK ?k6 ?k7 ?k8 ?kX ?kM ?kN ?kD ?kR ?kP ?kT ?kB ?_ ?c2 ?c3 ?c4 ?c5; (case kA => exact rfl); (case kF => exact rfl); (case kK => first | exact rfl | assumption); (case k1 => k_asm); (case k2 => k_asm); (case k3 => k_asm); (case k4 => k_asm); (case k5 => k_asm); (case k6 => k_is); (case k7 => k_is); (case k8 => first | k_room | ktr_room); (case kX => kp_lit); (case kM => exact rfl); (case kN => exact rfl); (case kD => kp_flats); (case kR => exact rfl); (case kP => exact rfl); (case kT => exact fun _ => rfl); (case kB => exact fun _ => locs rfl); (case c5 => decide); (case c2 => exact rfl); (case c3 => exact rfl); (case c4 => exact rfl); k_whole; intro D' o' g' L' h' tk' l1 lo' hs' fs' FG' F' N' B' X' T'; (try k_lt l1); (try dsimp only); (try k_lift B'); (try k_fold))) | (refine' code_def ?k1 ?k2 ?k3 ?k4 ?k5 ?kA ?kF ?kK ?k6 ?k7 ?k8 ?k9 ?kB ?_ ?c2 ?c3 ?c4 ?c5; (case kA => exact rfl); (case kF => exact rfl); (case kK => first | exact rfl | assumption); (case k1 => k_asm); (case k2 => k_asm); (case k3 => k_asm); (case k4 => k_asm); (case k5 => k_asm); (case k6 => k_is); (case k7 => k_is); (case k8 => first | k_room | ktr_room); (case k9 => first | exact BindsTo.of_eq rfl | (refine' kp_binds ?kx ?ke; (case kx => k_in); (case ke => exact fun _ => rfl)) | exact binds_K (by k_in) rfl (by k_is) rfl rfl rfl); (case c5 => decide); (case kB => exact locs rfl); (case c2 => exact rfl); (case c3 => exact rfl); (case c4 => exact rfl); k_whole; intro g' L' h' FG' F' N' B' X' T'; (try dsimp only); (try k_lift B'); (try k_fold)))
  k_steps
  exact ret _ _ _ _ (by k_asm) (by k_asm) ⟨⟨_, rfl⟩, rfl⟩
theorem c_convV (w : World) (news : List (Addr × Obj)) (x : Addr) (c : Nat) (t : Tok) (hc : c ∈ [48, 49, 50, 51]) :
   Con w 2 16 (call (.ref 155) [.ref x, .str (chS c) t] [(Str.ofString "name", .bool false)]) news (fun r news' => (∃ t', r = .str (chS c) t') ∧ news' = news) := by
  intro p loose mean mg mb dp un gd cn cs a ccd cl outer A₀ base h₀ L m s Q E B F X N T hk hd hu ret
  refine wpAny_call ?_
  k_dflt (first | (kp_kind "more"; (refine' kp_more ?k1 ?k2 ?k3 ?k4 ?k5 ?kA ?kF ?kK ?k6 ?k7 ?k8 ?kX ?kM ?kN ?kD ?kR ?kP ?kT ?kB ?_ ?c2 ?c3 ?c4 ?c5; (case kA => exact rfl); (case kF => exact rfl); (case kK => first | exact rfl | assumption); (case k1 => k_asm); (case k2 => k_asm); (case k3 => k_asm); (case k4 => k_asm); (case k5 => k_asm); (case k6 => k_is); (case k7 => k_is); (case k8 => first | k_room | ktr_room); (case kX => kp_lit); (case kM => exact rfl); (case kN => exact rfl); (case kD => kp_flats); (case kR => exact rfl); (case kP => exact rfl); (case kT => exact fun _ => rfl); (case kB => exact fun _ => locs rfl); (case c5 => decide); (case c2 => exact rfl); (case c3 => exact rfl); (case c4 => exact rfl); k_whole; intro D' o' g' L' h' tk' l1 lo' hs' fs' FG' F' N' B' X' T'; (try k_lt l1); (try dsimp only); (try k_lift B'); (try k_fold))) | (refine' code_def ?k1 ?k2 ?k3 ?k4 ?k5 ?kA ?kF ?kK ?k6 ?k7 ?k8 ?k9 ?kB ?_ ?c2 ?c3 ?c4 ?c5; (case kA => exact rfl); (case kF => exact rfl); (case kK => first | exact rfl | assumption); (case k1 => k_asm); (case k2 => k_asm); (case k3 => k_asm); (case k4 => k_asm); (case k5 => k_asm); (case k6 => k_is); (case k7 => k_is); (case k8 => first | k_room | ktr_room); (case k9 => first | exact BindsTo.of_eq rfl | (refine' kp_binds ?kx ?ke; (case kx => k_in); (case ke => exact fun _ => rfl)) | exact binds_K (by k_in) rfl (by k_is) rfl rfl rfl); (case c5 => decide); (case kB => exact locs rfl); (case c2 => exact rfl); (case c3 => exact rfl); (case c4 => exact rfl); k_whole; intro g' L' h' FG' F' N' B' X' T'; (try dsimp only); (try k_lift B'); (try k_fold)))
  k_steps
  exact ret _ _ _ _ (by k_asm) (by k_asm) ⟨⟨_, rfl⟩, rfl⟩

local macro_rules | `(tactic| walk_at "call ref") => `(tactic| (k_here; (with_reducible show wpAny _ _ (call (Value.ref 155) [_, _] [(_, Value.bool true)]) _ _ _); k_dflt ((refine' Con.use (c_convN _ _ _ _ _ ?hc) ?k1 ?k2 ?k3 ?k4 ?k5 ?kK ?kd ?ku ?kR); (case hc => assumption); walk_at "CR"); intro r' h' tk' news' F' N' P'; (obtain ⟨⟨t', e1'⟩, e2'⟩ := P'); subst e1'; subst e2'; (try k_sweep)))
local macro_rules | `(tactic| walk_at "call ref") => `(tactic| (k_here; (with_reducible show wpAny _ _ (call (Value.ref 155) [_, _] [(_, Value.bool false)]) _ _ _); k_dflt ((refine' Con.use (c_convV _ _ _ _ _ ?hc) ?k1 ?k2 ?k3 ?k4 ?k5 ?kK ?kd ?ku ?kR); (case hc => assumption); walk_at "CR"); intro r' h' tk' news' F' N' P'; (obtain ⟨⟨t', e1'⟩, e2'⟩ := P'); subst e1'; subst e2'; (try k_sweep)))
noncomputable abbrev hdict (w : World) (l : Addr) (tk : Tok) : Obj := dictOf [{ hash := PyData.keyHash w.params (Str.ofString "_headers"), key := Value.str (Str.ofString "_headers") tk, val := Value.ref l }] 1

local macro_rules | `(tactic| walk_at "call builtin:str.join") => `(tactic| (k_here; k_dflt (refine' join_one ?N ?m ?k ?_; (case N => k_asm); (case m => k_mem); (case k => assumption)); intro t' j'))
theorem c_addH (w : World) (rest : List (Addr × Obj)) (x d l : Addr) (tk : Tok) (vs : List Value) (n : Nat) (c k : Nat) (t u : Tok) (hc : c ∈ [65, 66, 67, 68, 97, 98, 99, 100]) (hk : k ∈ [48, 49, 50, 51])
   (hx : (x, instObj 254 d) ∈ rest) (hd : (d, hdict w l tk) ∈ rest) (hr : ∀ p ∈ rest, p.1 ≠ l) (hsz : vs.length ≤ 1000) :
   Con w 4 32 (call (.ref 251) [.ref x, .str (chS c) t, .str (chS k) u]) ((l, listOf vs.toArray n) :: rest) (fun r news' => r = .none ∧ ∃ a t' u' n' m', news' = (l, listOf (vs ++ [Value.ref a]).toArray n') :: (a, tupOf [.str (chS c) t', .str (chS k) u'] m') :: rest ∧ AllLt a rest ∧ l < a) := by
  intro p loose mean mg mb dp un gd cn cs a ccd cl outer A₀ base h₀ L m s Q E B F X N T hkf hdd hu ret
  refine wpAny_call ?_
  k_dflt (first | (kp_kind "more"; (refine' kp_more ?k1 ?k2 ?k3 ?k4 ?k5 ?kA ?kF ?kK ?k6 ?k7 ?k8 ?kX ?kM ?kN ?kD ?kR ?kP ?kT ?kB ?_ ?c2 ?c3 ?c4 ?c5; (case kA => exact rfl); (case kF => exact rfl); (case kK => first | exact rfl | assumption); (case k1 => k_asm); (case k2 => k_asm); (case k3 => k_asm); (case k4 => k_asm); (case k5 => k_asm); (case k6 => k_is); (case k7 => k_is); (case k8 => first | k_room | ktr_room); (case kX => kp_lit); (case kM => exact rfl); (case kN => exact rfl); (case kD => kp_flats); (case kR => exact rfl); (case kP => exact rfl); (case kT => exact fun _ => rfl); (case kB => exact fun _ => locs rfl); (case c5 => decide); (case c2 => exact rfl); (case c3 => exact rfl); (case c4 => exact rfl); k_whole; intro D' o' g' L' h' tk' l1 lo' hs' fs' FG' F' N' B' X' T'; (try k_lt l1); (try dsimp only); (try k_lift B'); (try k_fold))) | (refine' code_def ?k1 ?k2 ?k3 ?k4 ?k5 ?kA ?kF ?kK ?k6 ?k7 ?k8 ?k9 ?kB ?_ ?c2 ?c3 ?c4 ?c5; (case kA => exact rfl); (case kF => exact rfl); (case kK => first | exact rfl | assumption); (case k1 => k_asm); (case k2 => k_asm); (case k3 => k_asm); (case k4 => k_asm); (case k5 => k_asm); (case k6 => k_is); (case k7 => k_is); (case k8 => first | k_room | ktr_room); (case k9 => first | exact BindsTo.of_eq rfl | (refine' kp_binds ?kx ?ke; (case kx => k_in); (case ke => exact fun _ => rfl)) | exact binds_K (by k_in) rfl (by k_is) rfl rfl rfl); (case c5 => decide); (case kB => exact locs rfl); (case c2 => exact rfl); (case c3 => exact rfl); (case c4 => exact rfl); k_whole; intro g' L' h' FG' F' N' B' X' T'; (try dsimp only); (try k_lift B'); (try k_fold)))
  k_steps
  have hlt := ‹_ < _ ∧ _ < _ ∧ _ < _ ∧ l < _ ∧ AllLt _ rest›
  refine app_ref (by k_asm) (by k_asm) (n := n) (vs := vs) (by k_mem) (o := tupOf [.str (chS c) _, .str (chS k) _] 0) (by k_mem) hlt.2.2.2.1 (rest := rest) ?_ hr (by omega) ?_
  · intro p hp
    repeat (first | exact hp | refine List.Mem.tail _ ?_)
  · intro h' F' N'
    k_steps
    exact ret _ _ _ _ (by k_asm) (by k_asm) ⟨rfl, _, _, _, _, _, rfl, hlt.2.2.2.2, hlt.2.2.2.1⟩

end
section
theorem c_hdr (w : World) (news : List (Addr × Obj)) :
   Con w 4 32 (call (.ref 254) []) news (fun r news' => ∃ x d l tk, r = .ref x ∧ news' = (l, listOf #[] 0) :: (x, instObj 254 d) :: (d, hdict w l tk) :: news ∧ AllLt d news ∧ d < x ∧ x < l ∧ d < l ∧ AllLt l news) := by
  intro p loose mean mg mb dp un gd cn cs a ccd cl outer A₀ base h₀ L m s Q E B F X N T hk hd hu ret
  k_steps
  unfold Stop
  refine for_list (vs := []) (n := 0) (fun i m' n' => m' = _ ∧ n' = _) rfl (by k_asm) (by k_asm) ⟨rfl, rfl⟩ ?_ ?_ ?_
  · rintro i m' n' ⟨_, rfl⟩
    k_mem
  · rintro I i v m₁ n₁ h tk it hv
    cases hv
  · rintro m₁ n₁ h tk ⟨rfl, rfl⟩ F' N'
    k_steps
    have hlt := ‹_ < _ ∧ _ < _ ∧ AllLt _ _›
    exact ret _ _ _ _ (by k_asm) (by k_asm) ⟨_, _, _, _, rfl, rfl, allLt_of (by assumption), by assumption, hlt.1, hlt.2.1, hlt.2.2⟩

end
section
theorem del_from_go (c n : Nat) : ∀ (l : List Value) (j : Nat), j + l.length ≤ n → ((l.zipIdx j).filterMap fun (x : Value × Nat) => if Builtin.Bytes.selects (c : Int) (n : Int) 1 x.2 = true then none else some x.1) = l.take (c - j) := by
  intro l
  induction l with
  | nil => intro j _; simp
  | cons v l ih =>
    intro j hj
    simp only [List.length_cons] at hj
    rw [List.zipIdx_cons, List.filterMap_cons]
    have e : Builtin.Bytes.selects (c : Int) (n : Int) 1 j = decide (c ≤ j) := by
      simp only [Builtin.Bytes.selects]
      have h1 : (1 : Int) > 0 := by decide
      have h2 : (j : Int) < (n : Int) := by omega
      rw [if_pos h1]
      have h3 : (((j : Int) - (c : Int)) % 1 == 0) = true := by simp [Int.emod_one]
      simp [h2, h3]
    dsimp only
    rw [e]
    by_cases h : c ≤ j
    · have e1 : c - j = 0 := by omega
      have e2 : c - (j + 1) = 0 := by omega
      simp only [h, decide_true, if_true]
      rw [ih (j + 1) (by omega), e1, e2]
      simp
    · obtain ⟨k, hk⟩ : ∃ k, c - j = k + 1 := ⟨c - j - 1, by omega⟩
      have e2 : c - (j + 1) = k := by omega
      simp only [h, decide_false, Bool.false_eq_true, if_false]
      rw [ih (j + 1) (by omega), hk, e2, List.take_succ_cons]
theorem del_from (c : Nat) (l : List Value) : (l.zipIdx.filterMap fun (x : Value × Nat) => if Builtin.Bytes.selects (c : Int) (l.length : Int) 1 x.2 = true then none else some x.1) = l.take c :=
  del_from_go c l.length l 0 (by omega)
section
variable {prog : Program} {w : World} {A : Around} {E : Value → Shared → Prop} {s : Shared}
theorem delItem_from {l sl : Addr} {vs : List Value} {n c : Nat} {u : Tok} {Q : Unit → Shared → Prop} (ho : s.heap.get? l = some (listOf vs.toArray n)) (hs : s.heap.IsSliceOf sl (.int (c : Int) u) .none .none) (hc : c ≤ vs.length)
    (h : ∀ f : Array Value → Array Value, f vs.toArray = (vs.take c).toArray → Q () { s with heap := s.heap.update l (Obj.mapSeq f) })
    (hsz : vs.length ≤ 10000) : wpAny (model prog w) A (delItem (.ref l) (.ref sl)) Q E s := by
  obtain ⟨os, hos, hcs, hds⟩ := id hs
  have hTs : s.TypeIs (.ref sl) "slice" := ⟨os, hos, hcs⟩
  have hT : s.TypeIs (.ref l) "list" := ⟨_, ho, rfl⟩
  refine wpAny_delItem_slot hT (by decide) F.slot_list_delitem ?_
  refine wpAny_call_entry F.slot_list_delitem hT F.entry_list_delitem ?_ (F.args_list_delitem_2 _ _)
  show wpAny _ _ (Builtin.List.listSubscript? (.ref sl) >>= _) _ _ s
  refine wpAny_bind ?_
  unfold Builtin.List.listSubscript?
  refine wpAny_bind (wpAny_specialOf hTs slice_no_index ?_)
  simp only [Option.isNone_none, if_true]
  refine wpAny_pure ?_
  show wpAny _ _ (typeOf (.ref sl) >>= _) _ _ s
  refine wpAny_bind (wpAny_typeOf hTs ?_)
  rw [if_neg (by decide)]
  rw [listSliceParts_eq]
  have hstep : ¬ ((rawPart none == rawInt 0) = true) := Bool.false_ne_true
  refine wpAny_bind (wpAny_bind (wpAny_field hos hds (x := .none) rfl (wpAny_bind (wpAny_listPart .none ?_))))
  rw [if_neg hstep]
  refine wpAny_bind (wpAny_field hos hds (x := .int (c : Int) u) rfl (wpAny_bind (wpAny_listPart (.int _ _) ?_)))
  refine wpAny_bind (wpAny_field hos hds (x := .none) rfl (wpAny_bind (wpAny_listPart .none (wpAny_pure ?_))))
  refine wpAny_bind (m := Builtin.List.listItems (.ref l)) ?_
  unfold Builtin.List.listItems
  refine wpAny_bind (wpAny_seqItems ho rfl (wpAny_pure ?_))
  refine wpAny_bind (wpAny_of_eq (sliceIndices_raw (some (c : Int)) none none vs.toArray.size (by simp)) ?_)
  refine wpAny_bind (wpAny_rule ?_)
  refine wpAny_bind (m := Builtin.List.listUpdate (.ref l) _) ?_
  have hb : sliceBounds (some (c : Int)) none none vs.toArray.size = ((c : Int), ((vs.length : Nat) : Int), 1) := by
    have h1 : ¬ ((c : Int) < 0) := by omega
    have e0 : vs.toArray.size = vs.length := by simp
    simp only [sliceBounds, Option.getD_none, e0, if_neg h1]
    have : max 0 (min (c : Int) (vs.length : Int)) = c := by omega
    simp [this]
  rw [hb]
  dsimp only
  refine wpAny_updateSeq ho rfl ?_ (by simp only [List.size_toArray, PySem.sizeLine_eq]; omega) ?_
  · refine wpAny_bind (wpAny_letGo ?_)
    refine wpAny_pure ⟨_, rfl, h _ ?_⟩
    show ((vs.toArray.toList.zipIdx.filterMap fun (x : Value × Nat) => if Builtin.Bytes.selects (c : Int) (vs.length : Int) 1 x.2 = true then none else some x.1)).toArray = _
    rw [show vs.toArray.toList = vs from by simp, del_from c vs]
  · show ((vs.toArray.toList.zipIdx.filterMap fun (x : Value × Nat) => if Builtin.Bytes.selects (c : Int) (vs.length : Int) 1 x.2 = true then none else some x.1)).toArray.size ≤ _
    rw [show vs.toArray.toList = vs from by simp, del_from c vs]
    simp only [List.size_toArray, List.length_take, PySem.sizeLine_eq]
    omega
theorem IsSliceOf_push {h : Heap} (l u st : Value) : (h.push { cls := .type "slice", data := .fields #[l, u, st] }).IsSliceOf h.objs.size l u st := Heap.IsSliceOf.new ..
/-- del row[c:], as the walk meets it -/
theorem del_rule {h₀ : Heap} {L D : Addr} {m : Str → Option Value} {rest : List (Addr × Obj)} {vs : List Value} {n c : Nat} {u : Tok} {Q : Unit → Shared → Prop} (F : Fr h₀ L s.heap m) (N : News h₀ L s.heap ((D, listOf vs.toArray n) :: rest)) (hr : ∀ p ∈ rest, p.1 ≠ D) (hc : c ≤ vs.length) (hz : vs.length ≤ 10000)
    (h : ∀ h' n', Fr h₀ L h' m → News h₀ L h' ((D, listOf (vs.take c).toArray n') :: rest) → Q () { s with heap := h' }) :
    wpAny (model prog w) A (delItem (.ref D) (.ref s.heap.objs.size)) Q E { s with heap := s.heap.push { cls := .type "slice", data := .fields #[.int (c : Int) u, .none, .none] } } := by
  have F1 := F.push { cls := .type "slice", data := .fields #[.int (c : Int) u, .none, .none] }
  have N1 : News h₀ L (s.heap.push { cls := .type "slice", data := .fields #[.int (c : Int) u, .none, .none] }) ((D, listOf vs.toArray n) :: rest) := fun p hp => ⟨Heap.get?_push_of_some _ (N p hp).1, (N p hp).2⟩
  have z := N1 (D, listOf vs.toArray n) (.head _)
  refine delItem_from z.1 (IsSliceOf_push _ _ _) hc (fun f hf => ?_) hz
  have q := PySem.IsL.update z.1 f
  rw [hf] at q
  refine h _ (if ((List.take c vs).toArray.size == vs.toArray.size) = true then n else n + 1) (F1.change (Heap.SameBut.update ..) z.2.1 z.2.2) ?_
  intro p hp
  rcases List.mem_cons.mp hp with rfl | hp
  · exact ⟨q, z.2⟩
  · have P := N1 p (.tail _ hp)
    exact ⟨(Heap.get?_update_ne _ _ _ _ (hr p hp)).trans P.1, P.2⟩
end

end
section
noncomputable abbrev nats (l : List Nat) : List Int := l.map fun (k : Nat) => (k : Int)
section
variable {prog : Program} {w : World} {A : Around} {E : Value → Shared → Prop} {s : Shared} {h₀ : Heap} {L l : Addr} {m : Str → Option Value} {news : List (Addr × Obj)} {vs : List Value} {n : Nat}
theorem int_item {value slice : PySem.Expr} {ns : List Nat} {i : Nat} {u : Tok} {Q : Value → Shared → Prop} (N : News h₀ L s.heap news) (hm : (l, listOf vs.toArray n) ∈ news) (hi : IntsAre vs (nats ns))
    (h1 : i < ns.length) (hfit : ns.length < 2 ^ 62) (h : ∀ t, Q (.int ((ns[i] : Nat) : Int) t) s)
    (hs : subscripted slice false (.ref l) (.int (i : Int) u) = operate [.ref l, .int (i : Int) u] (getItem (.ref l) (.int (i : Int) u)) := by with_unfolding_all rfl) :
    wpAny (model prog w) A (subscriptTail value slice (.ref l) (.int (i : Int) u)) Q E s := by
  have hl : s.heap.IsList l vs.toArray := ⟨_, (N _ hm).1, rfl, n, rfl⟩
  obtain ⟨t, hx⟩ := hi.get i ((ns[i] : Nat) : Int) (by simp [h1])
  exact tail_any hl.typeIs slot_list_getitem.lookup (wpAny_getItem_list hl (Int.natCast_nonneg i) (by omega) (by simpa using hx) (h t)) hs
theorem max_cut {z k t : Nat} {u v : Tok} {Q : Value → Shared → Prop} (hh : A.handled = none) (F : Fr h₀ L s.heap m) (N : News h₀ L s.heap news)
    (h : ∀ h' tk t', Fr h₀ L h' m → News h₀ L h' news → Q (.int ((max z (k - t) : Nat) : Int) t') { s with heap := h', toks := tk }) :
    wpAny (model prog w) A (call (.builtin "max") [.int (z : Int) u, .int ((k : Int) - (t : Int)) v]) Q E s := by
  refine max_two_N hh F N fun h' tk F' N' => ?_
  have e : (if ((k : Int) - (t : Int)) > (z : Int) then ((k : Int) - (t : Int)) else (z : Int)) = ((max z (k - t) : Nat) : Int) := by
    split <;> omega
  rw [e]
  exact h h' tk _ F' N'
theorem slice_from {value slice : PySem.Expr} {c : Nat} {u : Tok} {Q : Value → Shared → Prop} (F : Fr h₀ L s.heap m) (N : News h₀ L s.heap news) (hm : (l, listOf vs.toArray n) ∈ news) (hz : vs.length ≤ 10000)
    (h : ∀ D h', Fr h₀ L h' m → News h₀ L h' ((D, listOf (vs.drop c).toArray 0) :: news) → (∀ p ∈ news, p.1 < D) → Q (.ref D) { s with heap := h' })
    (hs : subscripted slice false (.ref l) (.ref s.heap.objs.size) = operate [.ref s.heap.objs.size, .ref l] (getItem (.ref l) (.ref s.heap.objs.size))) (ht : ∀ r, letTemporaryGo value (.ref l) r = pure ()) :
    wpAny (model prog w) A (subscriptTail value slice (.ref l) (.ref s.heap.objs.size)) Q E { s with heap := s.heap.push { cls := .type "slice", data := .fields #[.int (c : Int) u, .none, .none] } } := by
  refine kms_slice_lit F N ⟨_, (N _ hm).1, rfl, n, rfl⟩ (.int _ _) .none ?_ h hs ht (by simp only [List.size_toArray, PySem.sizeLine_eq]; omega)
  have h1 : ¬ ((c : Int) < 0) := by omega
  have e0 : vs.toArray.toList = vs := by simp
  rw [e0]
  simp only [kms_pick, kms_lo, kms_hi, if_neg h1]
  by_cases hc : c ≤ vs.length
  · have e : min ((c : Int)).toNat vs.length = c := by omega
    rw [e]
    exact List.take_of_length_le (by simp)
  · have e : min ((c : Int)).toNat vs.length = vs.length := by omega
    rw [e, List.drop_of_length_le (Nat.le_refl _), List.drop_of_length_le (by omega)]
    simp
theorem chr_nat {i : Int} {c : Nat} {t : Tok} {Q : Value → Shared → Prop} (e : i = (c : Int)) (hc : c < 1000) (h : Q (.str (chS c) s.toks) { s with toks := s.toks + 1 }) :
    wpAny (model prog w) A (call (.builtin "chr") [.int i t]) Q E s := by
  subst e
  exact chr_of_range (by omega) (by omega) h
theorem str_nat {k : Nat} {t : Tok} {Q : Value → Shared → Prop} (hk : k < 4) (h : ∀ t', Q (.str (chS (48 + k)) t') { s with toks := t' + 1 }) :
    wpAny (model prog w) A (call (.type "str") [.int (k : Int) t]) Q E s := by
  have e : Str.ofString (toString (k : Int)) = chS (48 + k) := by
    have : k = 0 ∨ k = 1 ∨ k = 2 ∨ k = 3 := by omega
    rcases this with rfl | rfl | rfl | rfl <;> decide +kernel
  refine PySem.P.str_of_int ?_ ?_
  · have : k = 0 ∨ k = 1 ∨ k = 2 ∨ k = 3 := by omega
    rcases this with rfl | rfl | rfl | rfl <;> decide +kernel
  · show Q (.str (Str.ofString (toString (k : Int))) _) _
    rw [e]
    exact h _
end

end
section
/-! the plain functions that the two readings compute -/
noncomputable abbrev PL := List (Int × Int)
noncomputable def insR (p : Int × Int) (row : PL) : PL := insAt (cnt (pltB p) row) p row
noncomputable def qK (odd : Bool) (k : Int) : Int × Int → Bool := fun q => if odd then decide (k ≤ q.1) else decide (k < q.1)
noncomputable def insK (odd : Bool) (p : Int × Int) (row : PL) : PL := insAt (cnt (qK odd p.1) row) p row
noncomputable def row0 (W : List Nat) : Nat → PL
  | 0 => []
  | i + 1 => insR (((W.getD i 0 : Nat) : Int), (i : Int)) (row0 W i)
noncomputable def takeCut (row : PL) (t : Nat) : Nat := max (cnt (fun p => decide (0 < p.1)) row) (row.length - t)
noncomputable def serveIn (odd : Bool) (taken row : PL) : PL := taken.foldl (fun row p => insK odd (p.1 - 1, p.2) row) row
noncomputable def serveTurn (odd : Bool) (row : PL) (t : Nat) : PL := serveIn odd (row.drop (takeCut row t)) (row.take (takeCut row t))
noncomputable def letters (odd : Bool) (k : Nat) (taken : PL) : List (Nat × Nat) := taken.map fun p => ((if odd then 65 else 97) + p.2.toNat, 48 + k)
noncomputable def oddB (i : Nat) : Bool := decide (i % 2 = 1)
noncomputable def serveRow (W T : List Nat) : Nat → PL
  | 0 => row0 W W.length
  | i + 1 => serveTurn (oddB i) (serveRow W T i) (T.getD i 0)
noncomputable def servePairs (W T : List Nat) : Nat → List (Nat × Nat)
  | 0 => []
  | i + 1 => servePairs W T i ++ letters (oddB i) i ((serveRow W T i).drop (takeCut (serveRow W T i) (T.getD i 0)))

noncomputable def SortedW (row : PL) : Prop := row.Pairwise fun p q => p.1 ≤ q.1
theorem pair_get {α : Type} {R : α → α → Prop} {l : List α} (h : l.Pairwise R) {i j : Nat} (hi : i < l.length) (hj : j < l.length) (hij : i < j) : R l[i] l[j] := List.pairwise_iff_getElem.mp h i j hi hj hij
theorem SortedW.mono_lt {row : PL} (h : SortedW row) (k : Int) : Mono (fun q => decide (k < q.1)) row := by
  intro i j hi hj hij hq
  rcases Nat.lt_or_ge i j with h1 | h1
  · have := pair_get h hi hj h1
    simp only [decide_eq_true_eq] at hq ⊢
    omega
  · obtain rfl : i = j := by omega
    exact hq
theorem SortedW.mono_le {row : PL} (h : SortedW row) (k : Int) : Mono (fun q => decide (k ≤ q.1)) row := by
  intro i j hi hj hij hq
  rcases Nat.lt_or_ge i j with h1 | h1
  · have := pair_get h hi hj h1
    simp only [decide_eq_true_eq] at hq ⊢
    omega
  · obtain rfl : i = j := by omega
    exact hq
/-- where a monotone test is cut -/
theorem mono_cut {α : Type} {q : α → Bool} : ∀ {l : List α}, Mono q l → (∀ a ∈ l.take (cnt q l), q a = false) ∧ (∀ a ∈ l.drop (cnt q l), q a = true) := by
  intro l
  induction l with
  | nil => intro _; simp
  | cons a l ih =>
    intro h
    have ht : Mono q l := fun i j hi hj hij e => h (i + 1) (j + 1) (by simpa using hi) (by simpa using hj) (by omega) e
    cases e : q a with
    | true =>
      have all : ∀ b ∈ a :: l, q b = true := by
        intro b hb
        obtain ⟨j, hj, rfl⟩ := List.getElem_of_mem hb
        exact h 0 j (by simp) hj (Nat.zero_le _) e
      have e0 : cnt q (a :: l) = 0 := by
        unfold cnt
        rw [List.length_eq_zero_iff, List.filter_eq_nil_iff]
        intro b hb
        simp [all b hb]
      rw [e0]
      exact ⟨by simp, fun b hb => all b (by simpa using hb)⟩
    | false =>
      have e1 : cnt q (a :: l) = cnt q l + 1 := by unfold cnt; simp [e]
      rw [e1, List.take_succ_cons, List.drop_succ_cons]
      refine ⟨fun b hb => ?_, (ih ht).2⟩
      rcases List.mem_cons.mp hb with rfl | hb
      · exact e
      · exact (ih ht).1 b hb
theorem insAt_mem {α : Type} {c : Nat} {y a : α} {l : List α} (h : a ∈ insAt c y l) : a = y ∨ a ∈ l := by
  unfold insAt at h
  rcases List.mem_append.mp h with h | h
  · exact .inr (List.mem_of_mem_take h)
  · rcases List.mem_cons.mp h with h | h
    · exact .inl h
    · exact .inr (List.mem_of_mem_drop h)
theorem insAt_perm {α : Type} (c : Nat) (y : α) (l : List α) : (insAt c y l).Perm (y :: l) := by
  unfold insAt
  refine List.perm_middle.trans ?_
  rw [List.take_append_drop]
theorem insAt_pairwise {α : Type} {R : α → α → Prop} {c : Nat} {y : α} {l : List α} (h : l.Pairwise R) (h1 : ∀ a ∈ l.take c, R a y) (h2 : ∀ a ∈ l.drop c, R y a) : (insAt c y l).Pairwise R := by
  unfold insAt
  have h3 := (List.take_append_drop c l) ▸ h
  rw [List.pairwise_append] at h3 ⊢
  refine ⟨h3.1, List.pairwise_cons.mpr ⟨h2, h3.2.1⟩, fun a ha b hb => ?_⟩
  rcases List.mem_cons.mp hb with rfl | hb
  · exact h1 a ha
  · exact h3.2.2 a ha b hb
theorem SortedW.insK {row : PL} (h : SortedW row) (odd : Bool) (p : Int × Int) : SortedW (insK odd p row) := by
  cases odd with
  | true =>
    have m := mono_cut (h.mono_le p.1)
    refine insAt_pairwise h (fun a ha => ?_) fun a ha => ?_
    · have := m.1 a ha; simp only [decide_eq_false_iff_not] at this; omega
    · have := m.2 a ha; simpa using this
  | false =>
    have m := mono_cut (h.mono_lt p.1)
    refine insAt_pairwise h (fun a ha => ?_) fun a ha => ?_
    · have := m.1 a ha; simp only [decide_eq_false_iff_not] at this; omega
    · have := m.2 a ha; simp only [decide_eq_true_eq] at this; omega
theorem plt_trans {p q r : Int × Int} (h1 : pltB p q = true) (h2 : pltB q r = true) : pltB p r = true := by
  simp only [pltB, Bool.or_eq_true, Bool.and_eq_true, decide_eq_true_eq] at *
  omega
noncomputable def SortedL (row : PL) : Prop := row.Pairwise fun p q => pltB p q = true
theorem SortedL.mono {row : PL} (h : SortedL row) (p : Int × Int) : Mono (pltB p) row := by
  intro i j hi hj hij hq
  rcases Nat.lt_or_ge i j with h1 | h1
  · exact plt_trans hq (pair_get h hi hj h1)
  · obtain rfl : i = j := by omega
    exact hq
theorem SortedL.toW {row : PL} (h : SortedL row) : SortedW row := by
  refine List.Pairwise.imp (fun {a b} hp => ?_) h
  simp only [pltB, Bool.or_eq_true, Bool.and_eq_true, decide_eq_true_eq] at hp
  omega
theorem SortedL.insR {row : PL} (h : SortedL row) {p : Int × Int} (hp : ∀ q ∈ row, q.2 ≠ p.2) : SortedL (insR p row) := by
  have m := mono_cut (h.mono p)
  refine insAt_pairwise h (fun a ha => ?_) fun a ha => m.2 a ha
  have h1 := m.1 a ha
  have h2 := hp a (List.mem_of_mem_take ha)
  simp only [pltB, Bool.or_eq_false_iff, Bool.and_eq_false_iff, decide_eq_false_iff_not, Bool.or_eq_true, Bool.and_eq_true, decide_eq_true_eq] at *
  omega
theorem row0_spec (W : List Nat) : ∀ i, SortedL (row0 W i) ∧ (row0 W i).length = i ∧ ∀ q ∈ row0 W i, 0 ≤ q.2 ∧ q.2 < (i : Int) := by
  intro i
  induction i with
  | zero => exact ⟨.nil, rfl, fun q hq => nomatch hq⟩
  | succ i ih =>
    obtain ⟨h1, h2, h3⟩ := ih
    refine ⟨h1.insR fun q hq => ?_, ?_, fun q hq => ?_⟩
    · have := h3 q hq
      show q.2 ≠ (i : Int)
      omega
    · show (insAt _ _ _).length = _
      rw [insAt_length, h2]
    · rcases insAt_mem hq with rfl | hq
      · exact ⟨Int.natCast_nonneg i, by show (i : Int) < _; omega⟩
      · have := h3 q hq
        omega
/-- what holds of a row: sorted by want, its length, its goods -/
structure RowOK (n : Nat) (row : PL) : Prop where
  sorted : SortedW row
  len : row.length = n
  goods : ∀ q ∈ row, 0 ≤ q.2 ∧ q.2 < (n : Int)
theorem insK_length (odd : Bool) (p : Int × Int) (row : PL) : (insK odd p row).length = row.length + 1 := insAt_length _ _ _
theorem serveIn_spec (odd : Bool) : ∀ (taken row : PL), SortedW row → SortedW (serveIn odd taken row) ∧ (serveIn odd taken row).length = row.length + taken.length ∧ ∀ q ∈ serveIn odd taken row, q ∈ row ∨ ∃ p ∈ taken, q = (p.1 - 1, p.2) := by
  intro taken
  induction taken with
  | nil => intro row h; exact ⟨h, by simp [serveIn], fun q hq => .inl hq⟩
  | cons p taken ih =>
    intro row h
    have := ih _ (h.insK odd (p.1 - 1, p.2))
    refine ⟨this.1, ?_, fun q hq => ?_⟩
    · have h2 := this.2.1
      rw [insK_length] at h2
      show (serveIn odd taken _).length = _
      simp only [List.length_cons]
      omega
    · rcases this.2.2 q hq with h3 | ⟨p', hp, e⟩
      · rcases insAt_mem h3 with rfl | h3
        · exact .inr ⟨p, .head _, rfl⟩
        · exact .inl h3
      · exact .inr ⟨p', .tail _ hp, e⟩
theorem takeCut_le (row : PL) (t : Nat) : takeCut row t ≤ row.length := by
  unfold takeCut
  have := cnt_le (fun p : Int × Int => decide (0 < p.1)) row
  omega
theorem RowOK.turn {n : Nat} {row : PL} (h : RowOK n row) (odd : Bool) (t : Nat) : RowOK n (serveTurn odd row t) := by
  have hs : SortedW (row.take (takeCut row t)) := h.sorted.sublist (List.take_sublist _ _)
  have := serveIn_spec odd (row.drop (takeCut row t)) _ hs
  refine ⟨this.1, ?_, fun q hq => ?_⟩
  · have h2 := this.2.1
    have h3 := takeCut_le row t
    rw [List.length_take, List.length_drop] at h2
    rw [← h.len]
    show (serveIn odd _ _).length = _
    omega
  · rcases this.2.2 q hq with h3 | ⟨p, hp, rfl⟩
    · exact h.goods q (List.mem_of_mem_take h3)
    · exact h.goods p (List.mem_of_mem_drop hp)
theorem serveRow_ok (W T : List Nat) : ∀ i, RowOK W.length (serveRow W T i) := by
  intro i
  induction i with
  | zero =>
    obtain ⟨h1, h2, h3⟩ := row0_spec W W.length
    exact ⟨h1.toW, h2, h3⟩
  | succ i ih => exact ih.turn _ _
theorem serveIn_take (odd : Bool) (l row : PL) {j : Nat} (hj : j < l.length) : serveIn odd (l.take (j + 1)) row = insK odd (l[j].1 - 1, l[j].2) (serveIn odd (l.take j) row) := by
  unfold serveIn
  rw [List.take_succ_eq_append_getElem hj, List.foldl_append]
  rfl
theorem letters_take (odd : Bool) (k : Nat) (l : PL) {j : Nat} (hj : j < l.length) : letters odd k (l.take (j + 1)) = letters odd k (l.take j) ++ [((if odd then 65 else 97) + l[j].2.toNat, 48 + k)] := by
  unfold letters
  rw [List.take_succ_eq_append_getElem hj, List.map_append]
  rfl
theorem DatAll.at {news : List (Addr × Obj)} {vs : List Value} {α : Type} {f : α → Dat} {l : List α} (h : DatAll news vs (l.map f)) {j : Nat} {v : Value} (hv : vs[j]? = some v) : ∃ hj : j < l.length, DatIn news v (f l[j]) := by
  have hl := h.length
  rw [List.length_map] at hl
  have hj : j < l.length := by rw [← hl]; exact (List.getElem?_eq_some_iff.mp hv).1
  refine ⟨hj, ?_⟩
  obtain ⟨v', e1, e2⟩ := h.get (k := j) (by rw [List.length_map]; exact hj)
  rw [hv] at e1
  cases e1
  simpa using e2
section
variable {prog : Program} {w : World} {A : Around} {E : Value → Shared → Prop} {s : Shared}
theorem mod2_even {i : Nat} {t u : Tok} {Q : Value → Shared → Prop} (hi : i % 2 = 0) (h : Q (.int 0 s.toks) { s with toks := s.toks + 1 }) : wpAny (model prog w) A (binaryOp .Mod (.int (i : Int) t) (.int 2 u)) Q E s := by
  refine mod_int (by decide) ?_
  have e : ((i : Int)).fmod 2 = 0 := by
    rw [Int.fmod_eq_emod_of_nonneg _ (by decide)]; omega
  rw [e]; exact h
theorem mod2_odd {i : Nat} {t u : Tok} {Q : Value → Shared → Prop} (hi : i % 2 = 1) (h : Q (.int 1 s.toks) { s with toks := s.toks + 1 }) : wpAny (model prog w) A (binaryOp .Mod (.int (i : Int) t) (.int 2 u)) Q E s := by
  refine mod_int (by decide) ?_
  have e : ((i : Int)).fmod 2 = 1 := by
    rw [Int.fmod_eq_emod_of_nonneg _ (by decide)]; omega
  rw [e]; exact h
end
theorem memU {g : Nat} (h : g < 4) : 65 + g ∈ [65, 66, 67, 68, 97, 98, 99, 100] := (by decide : ∀ n < 4, 65 + n ∈ [65, 66, 67, 68, 97, 98, 99, 100]) g h
theorem memL {g : Nat} (h : g < 4) : 97 + g ∈ [65, 66, 67, 68, 97, 98, 99, 100] := (by decide : ∀ n < 4, 97 + n ∈ [65, 66, 67, 68, 97, 98, 99, 100]) g h
theorem memD {g : Nat} (h : g < 4) : 48 + g ∈ [48, 49, 50, 51] := (by decide : ∀ n < 4, 48 + n ∈ [48, 49, 50, 51]) g h

end
section
noncomputable abbrev hdat (p : Nat × Nat) : Dat := .tuple [.str (chS p.1), .str (chS p.2)]
section
local macro_rules | `(tactic| walk_at $k:str) => tabl [("newList", "ST"), ("newTuple", "ST"), ("call ref", "ST"), ("call builtin:len", "LN"), ("subscriptTail", "SB"), ("call builtin:max", "ST"), ("subscriptTail Name Slice ref ref", "ST"), ("delItem ref ref", "ST"), ("call builtin:chr", "ST"), ("call type:str", "ST"), ("binaryOp Mod int int", "ST")] k
theorem c_serve (w : World) (news : List (Addr × Obj)) (wl tl : Addr) (wvs tvs : List Value) (wn tn : Nat) (W T : List Nat) (hw : (wl, listOf wvs.toArray wn) ∈ news) (ht : (tl, listOf tvs.toArray tn) ∈ news)
   (hW : IntsAre wvs (nats W)) (hT : IntsAre tvs (nats T)) (hWl : W.length ≤ 4) (hTl : T.length ≤ 4) :
   Con w 8 100 (call (.ref 279) [.ref wl, .ref tl]) news (fun r news' => ∃ r0 row x d hl tk vs n hvs hn, r = .ref r0 ∧ (∀ p ∈ news, p ∈ news') ∧ (r0, tupOf [.ref row, .ref x] 0) ∈ news' ∧ (row, listOf vs.toArray n) ∈ news' ∧ (x, instObj 254 d) ∈ news' ∧ (d, hdict w hl tk) ∈ news' ∧
     (hl, listOf hvs.toArray hn) ∈ news' ∧ DatAll news' vs ((serveRow W T T.length).map pdat) ∧ DatAll news' hvs ((servePairs W T T.length).map hdat)) := by
  intro p loose mean mg mb dp un gd cn cs a ccd cl outer A₀ base h₀ L m s Q E B F X N T' hkf hdd hu ret
  have hWv : wvs.length = W.length := by rw [hW.length]; simp
  have hTv : tvs.length = T.length := by rw [hT.length]; simp
  refine wpAny_call ?_
  k_dflt (first | (kp_kind "more"; (refine' kp_more ?k1 ?k2 ?k3 ?k4 ?k5 ?kA ?kF ?kK ?k6 ?k7 ?k8 ?kX ?kM ?kN ?kD ?kR ?kP ?kT ?kB ?_ ?c2 ?c3 ?c4 ?c5; (case kA => exact rfl); (case kF => exact rfl); (case kK => first | exact rfl | assumption); (case k1 => k_asm); (case k2 => k_asm); (case k3 => k_asm); (case k4 => k_asm); (case k5 => k_asm); (case k6 => k_is); (case k7 => k_is); (case k8 => first | k_room | ktr_room); (case kX => kp_lit); (case kM => exact rfl); (case kN => exact rfl); (case kD => kp_flats); (case kR => exact rfl); (case kP => exact rfl); (case kT => exact fun _ => rfl); (case kB => exact fun _ => locs rfl); (case c5 => decide); (case c2 => exact rfl); (case c3 => exact rfl); (case c4 => exact rfl); k_whole; intro D' o' g' L' h' tk' l1 lo' hs' fs' FG' F' N' B' X' T'; (try k_lt l1); (try dsimp only); (try k_lift B'); (try k_fold))) | (refine' code_def ?k1 ?k2 ?k3 ?k4 ?k5 ?kA ?kF ?kK ?k6 ?k7 ?k8 ?k9 ?kB ?_ ?c2 ?c3 ?c4 ?c5; (case kA => exact rfl); (case kF => exact rfl); (case kK => first | exact rfl | assumption); (case k1 => k_asm); (case k2 => k_asm); (case k3 => k_asm); (case k4 => k_asm); (case k5 => k_asm); (case k6 => k_is); (case k7 => k_is); (case k8 => first | k_room | ktr_room); (case k9 => first | exact BindsTo.of_eq rfl | (refine' kp_binds ?kx ?ke; (case kx => k_in); (case ke => exact fun _ => rfl)) | exact binds_K (by k_in) rfl (by k_is) rfl rfl rfl); (case c5 => decide); (case kB => exact locs rfl); (case c2 => exact rfl); (case c3 => exact rfl); (case c4 => exact rfl); k_whole; intro g' L' h' FG' F' N' B' X' T'; (try dsimp only); (try k_lift B'); (try k_fold)))
  (k_steps; repeat' ((unfold Stop; first | (first | (refine mod2_even (by assumption) ?_) | (refine mod2_odd (by assumption) ?_))); k_steps))
  unfold Stop
  refine newList_K (by k_asm) (by k_asm) ?_
  intro row h1 F1 N1 l1
  (k_steps; repeat' ((unfold Stop; first | (first | (refine mod2_even (by assumption) ?_) | (refine mod2_odd (by assumption) ?_))); k_steps))
  unfold Stop
  k_dflt (refine Con.use (c_hdr _ _) (by k_asm) (by k_asm) (by k_asm) (by k_asm) (by k_asm) (by (first | exact rfl | assumption)) (by ((try dsimp only [ktrTop]); omega)) (by ((try simp only [units_in1, units_deeper, Around.mark_units, units_caller]); (try dsimp only [ktrTop]); omega)) ?_)
  rintro _ h2 tk2 news2 F2 N2 ⟨x, d, hl, tkx, rfl, rfl, l2, hdx, hxl, hdl, l3⟩
  have hw2 : (wl, listOf wvs.toArray wn) ∈ (hl, listOf #[] 0) :: (x, instObj 254 d) :: (d, hdict w hl tkx) :: (row, listOf (List.toArray []) 0) :: news := .tail _ (.tail _ (.tail _ (.tail _ hw)))
  (k_steps; repeat' ((unfold Stop; first | (first | (refine mod2_even (by assumption) ?_) | (refine mod2_odd (by assumption) ?_))); k_steps))
  unfold Stop
  refine for_rangeM (fun m₀ i m' n' => ∃ vs n rest, IsOv ["good"] m₀ m' ∧ n' = (row, listOf vs.toArray n) :: (hl, listOf (List.toArray []) 0) :: rest ∧ (∀ p ∈ rest, p.1 ≠ row) ∧ (∀ p ∈ rest, p.1 ≠ hl) ∧ (∀ p ∈ (x, instObj 254 d) :: (d, hdict w hl tkx) :: news, p ∈ rest) ∧ DatAll rest vs ((row0 W i).map pdat))
    rfl ‹IsRange _ _ _ _ _ _ _ _› (by omega) (by k_asm) (npick (D := row) (by k_asm) (.tail (.tail (.tail .head)))) ?h0 ?turn ?done
  case h0 =>
    have hrd : row < d := l2.1
    refine ⟨[], 0, _, IsOv.refl _ _, rfl, ?_, ?_, fun p hp => hp, .nil⟩
    · exact List.forall_mem_cons.mpr ⟨Nat.ne_of_gt (Nat.lt_trans hrd hdx), List.forall_mem_cons.mpr ⟨Nat.ne_of_gt hrd, fun p hp => Nat.ne_of_lt (l1 p hp)⟩⟩
    · exact List.forall_mem_cons.mpr ⟨Nat.ne_of_lt hxl, List.forall_mem_cons.mpr ⟨Nat.ne_of_lt hdl, fun p hp => Nat.ne_of_lt (Nat.lt_trans (l1 p hp) (Nat.lt_trans hrd hdl))⟩⟩
  case turn =>
    rintro I i t m1 n1 h3 tk3 it hi ⟨vs, n, rest, ⟨u, rfl⟩, rfl, hr, hrh, hsub, hD⟩ off F3 N3
    have hw3 : (wl, listOf wvs.toArray wn) ∈ rest := hsub _ (.tail _ (.tail _ hw))
    have hrow := row0_spec W i
    have hvl : vs.length = i := by rw [DatAll.len2 hD, hrow.2.1]
    (k_steps; repeat' ((unfold Stop; first | (first | (refine mod2_even (by assumption) ?_) | (refine mod2_odd (by assumption) ?_))); k_steps))
    unfold Stop
    k_dflt (refine int_item (by k_asm) (by k_mem) hW (i := i) hi (by omega) ?_ (by with_unfolding_all rfl))
    intro tw
    (k_steps; repeat' ((unfold Stop; first | (first | (refine mod2_even (by assumption) ?_) | (refine mod2_odd (by assumption) ?_))); k_steps))
    unfold Stop
    refine kup_newTuple (by k_asm) (by k_asm) ?_ (by kmk_size)
    intro a1 h4 F4 N4 l4
    (k_steps; repeat' ((unfold Stop; first | (first | (refine mod2_even (by assumption) ?_) | (refine mod2_odd (by assumption) ?_))); k_steps))
    unfold Stop
    have hI : row ≠ I := off _ (.head _)
    have hIh : hl ≠ I := off _ (.tail _ (.head _))
    have ha1 : row < a1 := l4 (row, _) (.tail _ (.head _))
    have ha2 : hl < a1 := l4 (hl, _) (.tail _ (.tail _ (.head _)))
    have ha3 : I < a1 := l4 (I, _) (.head _)
    have hrowhl : row < hl := Nat.lt_trans l2.1 hdl
    have N5 := npick (D := row) N4 (.tail (.tail .head))
    k_dflt (refine Con.use (c_insR _ _ ((a1, tupOf [.int ((W[i] : Nat) : Int) tw, .int (i : Int) t] 0) :: rest) row vs n (row0 W i) a1 _ _ tw t 0 (.head _) ?_ ?_ ?_ (by omega) (hrow.1.mono _)) (by k_asm) (by k_asm) (by k_asm) N5 (by k_asm) (by (first | exact rfl | assumption)) (by ((try dsimp only [ktrTop]); omega)) (by ((try simp only [units_in1, units_deeper, Around.mark_units, units_caller]); (try dsimp only [ktrTop]); omega)) ?_)
    · exact List.forall_mem_cons.mpr ⟨.head _, fun p hp => .tail _ (.tail _ (.tail _ hp))⟩
    · exact List.forall_mem_cons.mpr ⟨Nat.ne_of_gt ha1, List.forall_mem_cons.mpr ⟨Ne.symm hI, List.forall_mem_cons.mpr ⟨Nat.ne_of_gt hrowhl, hr⟩⟩⟩
    · exact hD.mono fun p hp => .tail _ hp
    rintro _ h5 tk5 n5 F5 N5 ⟨rfl, vs', n', rfl, hD'⟩
    (k_steps; repeat' ((unfold Stop; first | (first | (refine mod2_even (by assumption) ?_) | (refine mod2_odd (by assumption) ?_))); k_steps))
    refine fEnd_intro (by k_asm) (npick (D := I) (npick (D := row) (npick (D := hl) N5 (.tail (.tail (.tail .head)))) (.tail .head)) (.tail (.tail (.tail .head)))) ?_ ⟨vs', n', _, IsOv.up (IsOv.mk _ _ _) rfl, rfl, ?_, ?_, fun p hp => .tail _ (hsub p hp), ?_⟩
    · exact List.forall_mem_cons.mpr ⟨hI, List.forall_mem_cons.mpr ⟨hIh, List.forall_mem_cons.mpr ⟨Nat.ne_of_gt ha3, fun p hp => off p (.tail _ (.tail _ hp))⟩⟩⟩
    · exact List.forall_mem_cons.mpr ⟨Nat.ne_of_gt ha1, hr⟩
    · exact List.forall_mem_cons.mpr ⟨Nat.ne_of_gt ha2, hrh⟩
    · have e : W.getD i 0 = W[i] := by simp [List.getD_eq_getElem?_getD, hi]
      show DatAll _ vs' (List.map pdat (insR (((W.getD i 0 : Nat) : Int), (i : Int)) (row0 W i)))
      rw [e]
      exact hD'
  case done =>
    rintro m1 n1 h3 tk3 ⟨vs, n, rest, ⟨u, rfl⟩, rfl, hr, hrh, hsub, hD⟩ F3 N3
    have ht3 : (tl, listOf tvs.toArray tn) ∈ rest := hsub _ (.tail _ (.tail _ ht))
    (k_steps; repeat' ((unfold Stop; first | (first | (refine mod2_even (by assumption) ?_) | (refine mod2_odd (by assumption) ?_))); k_steps))
    unfold Stop
    refine for_rangeM (fun m₀ i m' n' => ∃ vs n hvs hn rest2, IsOv ["turn", "cut", "taken", "want", "good"] m₀ m' ∧ n' = (row, listOf vs.toArray n) :: (hl, listOf hvs.toArray hn) :: rest2 ∧ (∀ p ∈ rest2, p.1 ≠ row) ∧ (∀ p ∈ rest2, p.1 ≠ hl) ∧ (∀ p ∈ rest, p ∈ rest2) ∧ DatAll rest2 vs ((serveRow W T i).map pdat) ∧ DatAll rest2 hvs ((servePairs W T i).map hdat) ∧ hvs.length ≤ 4 * i)
      rfl ‹IsRange _ _ _ _ _ _ _ _› (by omega) (by k_asm) (by k_asm) ?h1 ?turn1 ?done1
    case h1 => exact ⟨vs, n, [], 0, rest, IsOv.refl _ _, rfl, hr, hrh, fun p hp => hp, hD, .nil, Nat.zero_le _⟩
    case turn1 =>
      clear hD
      rintro I i t m1 n1 h3 tk3 it hi ⟨vs, n, hvs, hn, rest2, ⟨u1, rfl⟩, rfl, hr, hrh, hs2, hD, hH, hHl⟩ off F3 N3
      have ht4 : (tl, listOf tvs.toArray tn) ∈ rest2 := hs2 _ ht3
      have hok := serveRow_ok W T i
      have hvl : vs.length = W.length := by rw [DatAll.len2 hD, hok.len]
      (k_steps; repeat' ((unfold Stop; first | (first | (refine mod2_even (by assumption) ?_) | (refine mod2_odd (by assumption) ?_))); k_steps))
      unfold Stop
      k_dflt (refine Con.use (c_bisRK0 _ ((I, it) :: (row, listOf vs.toArray n) :: (hl, listOf hvs.toArray hn) :: rest2) row vs n (serveRow W T i) 0 _ (.tail _ (.head _)) (hD.mono fun p hp => .tail _ (.tail _ (.tail _ hp))) (by have := hok.len; omega) (hok.sorted.mono_lt 0)) (by k_asm) (by k_asm) (by k_asm) (by k_asm) (by k_asm) (by (first | exact rfl | assumption)) (by ((try dsimp only [ktrTop]); omega)) (by ((try simp only [units_in1, units_deeper, Around.mark_units, units_caller]); (try dsimp only [ktrTop]); omega)) ?_)
      rintro _ h4 tk4 n4 F4 N4 ⟨⟨tc, rfl⟩, rfl⟩
      (k_steps; repeat' ((unfold Stop; first | (first | (refine mod2_even (by assumption) ?_) | (refine mod2_odd (by assumption) ?_))); k_steps))
      unfold Stop
      k_dflt (refine int_item (by k_asm) (by k_mem) hT (i := i) hi (by omega) ?_ (by with_unfolding_all rfl))
      intro tt
      (k_steps; repeat' ((unfold Stop; first | (first | (refine mod2_even (by assumption) ?_) | (refine mod2_odd (by assumption) ?_))); k_steps))
      unfold Stop
      refine max_cut (by rfl) (by k_asm) (by k_asm) ?_
      intro h5 tk5 tm F5 N5
      have hcut : max (cnt (fun p => decide (0 < p.1)) (serveRow W T i)) (W.length - T[i]) = takeCut (serveRow W T i) T[i] := by unfold takeCut; rw [hok.len]
      rw [hcut]
      have hcl := takeCut_le (serveRow W T i) T[i]
      rw [hok.len] at hcl
      (k_steps; repeat' ((unfold Stop; first | (first | (refine mod2_even (by assumption) ?_) | (refine mod2_odd (by assumption) ?_))); k_steps))
      unfold Stop
      k_dflt (refine slice_from (vs := vs) (n := n) (by k_asm) (by k_asm) (by k_mem) (by omega) ?_ (by with_unfolding_all rfl) (by kmk_pure))
      intro tkl h6 F6 N6 l6
      have htr : row < tkl := l6 (row, _) (.tail _ (.head _))
      have hth : hl < tkl := l6 (hl, _) (.tail _ (.tail _ (.head _)))
      have htI : I < tkl := l6 (I, _) (.head _)
      have htR : ∀ p ∈ rest2, p.1 < tkl := fun p hp => l6 p (.tail _ (.tail _ (.tail _ hp)))
      have hI : row ≠ I := off _ (.head _)
      have hIh : hl ≠ I := off _ (.tail _ (.head _))
      have hrowhl : row < hl := Nat.lt_trans l2.1 hdl
      (k_steps; repeat' ((unfold Stop; first | (first | (refine mod2_even (by assumption) ?_) | (refine mod2_odd (by assumption) ?_))); k_steps))
      unfold Stop
      k_dflt (refine del_rule (D := row) (vs := vs) (n := n) (rest := (tkl, listOf (vs.drop (takeCut (serveRow W T i) T[i])).toArray 0) :: (I, it) :: (hl, listOf hvs.toArray hn) :: rest2) (by k_asm) (npick (D := row) (by k_asm) (.tail (.tail .head))) ?_ (by omega) (by omega) ?_)
      · exact List.forall_mem_cons.mpr ⟨Nat.ne_of_gt htr, List.forall_mem_cons.mpr ⟨Ne.symm hI, List.forall_mem_cons.mpr ⟨Nat.ne_of_gt hrowhl, hr⟩⟩⟩
      intro h7 n7 F7 N7
      have hD1 : DatAll rest2 (vs.take (takeCut (serveRow W T i) T[i])) (((serveRow W T i).take (takeCut (serveRow W T i) T[i])).map pdat) := by rw [List.map_take]; exact DatAll.take _ hD
      have hD2 : DatAll rest2 (vs.drop (takeCut (serveRow W T i) T[i])) (((serveRow W T i).drop (takeCut (serveRow W T i) T[i])).map pdat) := by rw [List.map_drop]; exact DatAll.drop _ hD
      (k_steps; repeat' ((unfold Stop; first | (first | (refine mod2_even (by assumption) ?_) | (refine mod2_odd (by assumption) ?_))); k_steps))
      unfold Stop
      refine for_listM (vs := vs.drop (takeCut (serveRow W T i) T[i])) (n := 0) (fun m₀ j m' n' => ∃ vs2 n2 hvs2 hn2 rest3, IsOv ["want", "good"] m₀ m' ∧ n' = (row, listOf vs2.toArray n2) :: (hl, listOf hvs2.toArray hn2) :: (I, it) :: (tkl, listOf (vs.drop (takeCut (serveRow W T i) T[i])).toArray 0) :: rest3 ∧ (∀ p ∈ rest3, p.1 ≠ row) ∧ (∀ p ∈ rest3, p.1 ≠ hl) ∧ (∀ p ∈ rest3, p.1 ≠ I) ∧ (∀ p ∈ rest2, p ∈ rest3) ∧
          DatAll rest3 vs2 ((serveIn (oddB i) (((serveRow W T i).drop (takeCut (serveRow W T i) T[i])).take j) ((serveRow W T i).take (takeCut (serveRow W T i) T[i]))).map pdat) ∧
          DatAll rest3 hvs2 ((servePairs W T i ++ letters (oddB i) i (((serveRow W T i).drop (takeCut (serveRow W T i) T[i])).take j)).map hdat) ∧ hvs2.length = hvs.length + j)
        rfl (by k_asm) (npick (D := row) (npick (D := hl) (npick (D := I) (by k_asm) (.tail (.tail .head))) (.tail (.tail (.tail .head)))) (.tail (.tail .head))) ?h2 ?hm2 ?turn2 ?done2
      case h2 =>
        exact ⟨_, _, hvs, hn, rest2, IsOv.refl _ _, rfl, hr, hrh, fun p hp => off p (.tail _ (.tail _ hp)), fun p hp => hp, by simpa [serveIn] using hD1, by simpa [letters] using hH, rfl⟩
      case hm2 =>
        rintro j m' n' ⟨vs2, n2, hvs2, hn2, rest3, -, rfl, -⟩
        exact .tail _ (.tail _ (.tail _ (.head _)))
      case turn2 =>
        rintro I2 j v m2 nn2 h8 tk8 it2 hv ⟨vs2, n2, hvs2, hn2, rest3, ⟨u2, rfl⟩, rfl, hr3, hrh3, hI3, hs3, hD3, hH3, hl3⟩ off2 F8 N8
        obtain ⟨hj, hdv⟩ := DatAll.at hD2 hv
        obtain ⟨av, t1, t2, na, rfl, hav⟩ := datIn_pair hdv
        have hav3 := hs3 _ hav
        have hgood := hok.goods _ (List.mem_of_mem_drop (List.getElem_mem hj))
        have hx3 : (x, instObj 254 d) ∈ rest3 := hs3 _ (hs2 _ (hsub _ (.head _)))
        have hd3 : (d, hdict w hl tkx) ∈ rest3 := hs3 _ (hs2 _ (hsub _ (.tail _ (.head _))))
        have hI2r : row ≠ I2 := off2 _ (.head _)
        have hI2h : hl ≠ I2 := off2 _ (.tail _ (.head _))
        have hI2I : I ≠ I2 := off2 _ (.tail _ (.tail _ (.head _)))
        have hI2t : tkl ≠ I2 := off2 _ (.tail _ (.tail _ (.tail _ (.head _))))
        have hI2R : ∀ p ∈ rest3, p.1 ≠ I2 := fun p hp => off2 _ (.tail _ (.tail _ (.tail _ (.tail _ hp))))
        have hsp := serveIn_spec (oddB i) (((serveRow W T i).drop (takeCut (serveRow W T i) T[i])).take j) ((serveRow W T i).take (takeCut (serveRow W T i) T[i])) (hok.sorted.sublist (List.take_sublist _ _))
        have hsl : (serveIn (oddB i) (((serveRow W T i).drop (takeCut (serveRow W T i) T[i])).take j) ((serveRow W T i).take (takeCut (serveRow W T i) T[i]))).length ≤ 99 := by
          have h1 := hsp.2.1
          have h2 := hok.len
          simp only [List.length_take, List.length_drop] at h1
          omega
        have hjl : j < 4 := by
          have h2 := hok.len
          simp only [List.length_drop] at hj
          omega
        rcases Nat.mod_two_eq_zero_or_one i with hpar | hpar
        · have hodd : oddB i = false := by simp [oddB, hpar]
          rw [hodd] at hD3 hH3 hsp hsl
          (k_steps; repeat' ((unfold Stop; first | (first | (refine mod2_even (by assumption) ?_) | (refine mod2_odd (by assumption) ?_))); k_steps))
          unfold Stop
          refine kup_newTuple (by k_asm) (by k_asm) ?_ (by kmk_size)
          intro a1 h9 F9 N9 l9
          have la1 : row < a1 := l9 (row, _) (.tail _ (.head _))
          have la2 : hl < a1 := l9 (hl, _) (.tail _ (.tail _ (.head _)))
          have la3 : I < a1 := l9 (I, _) (.tail _ (.tail _ (.tail _ (.head _))))
          have la4 : tkl < a1 := l9 (tkl, _) (.tail _ (.tail _ (.tail _ (.tail _ (.head _)))))
          have la5 : I2 < a1 := l9 (I2, _) (.head _)
          (k_steps; repeat' ((unfold Stop; first | (first | (refine mod2_even (by assumption) ?_) | (refine mod2_odd (by assumption) ?_))); k_steps))
          unfold Stop
          have N10 := npick (D := row) N9 (.tail (.tail .head))
          k_dflt (refine Con.use (c_insRK _ _ (_ :: rest3) row vs2 n2 _ a1 _ _ _ _ _ (by exact .head _) (by exact List.forall_mem_cons.mpr ⟨.head _, fun p hp => .tail _ (.tail _ (.tail _ (.tail _ (.tail _ hp))))⟩) ?_ (hD3.mono fun p hp => .tail _ hp) hsl (by exact hsp.1.mono_lt _)) (by k_asm) (by k_asm) (by k_asm) N10 (by k_asm) (by (first | exact rfl | assumption)) (by ((try dsimp only [ktrTop]); omega)) (by ((try simp only [units_in1, units_deeper, Around.mark_units, units_caller]); (try dsimp only [ktrTop]); omega)) ?_)
          · exact List.forall_mem_cons.mpr ⟨Nat.ne_of_gt la1, List.forall_mem_cons.mpr ⟨Ne.symm hI2r, List.forall_mem_cons.mpr ⟨Nat.ne_of_gt hrowhl, List.forall_mem_cons.mpr ⟨Ne.symm hI, List.forall_mem_cons.mpr ⟨Nat.ne_of_gt htr, hr3⟩⟩⟩⟩⟩
          rintro _ h10 tk10 n10 F10 N10 ⟨rfl, vs', n', rfl, hD'⟩
          (k_steps; repeat' ((unfold Stop; first | (first | (refine mod2_even (by assumption) ?_) | (refine mod2_odd (by assumption) ?_))); k_steps))
          unfold Stop
          refine chr_nat (c := 97 + ((List.drop (takeCut (serveRow W T i) T[i]) (serveRow W T i))[j]).2.toNat) (by omega) (by omega) ?_
          (k_steps; repeat' ((unfold Stop; first | (first | (refine mod2_even (by assumption) ?_) | (refine mod2_odd (by assumption) ?_))); k_steps))
          unfold Stop
          refine str_nat (k := i) (by omega) ?_
          intro t9
          (k_steps; repeat' ((unfold Stop; first | (first | (refine mod2_even (by assumption) ?_) | (refine mod2_odd (by assumption) ?_))); k_steps))
          unfold Stop
          k_dflt (refine Con.use (c_addH w _ x d hl tkx hvs2 hn2 _ _ _ _ (by first | exact memU (by omega) | exact memL (by omega) | exact memD (by omega)) (by first | exact memU (by omega) | exact memL (by omega) | exact memD (by omega)) ?_ ?_ ?_ (by omega)) (by k_asm) (by k_asm) (by k_asm) (npick (D := hl) (by k_asm) (.tail (.tail (.tail .head)))) (by k_asm) (by (first | exact rfl | assumption)) (by ((try dsimp only [ktrTop]); omega)) (by ((try simp only [units_in1, units_deeper, Around.mark_units, units_caller]); (try dsimp only [ktrTop]); omega)) ?_)
          · exact .tail _ (.tail _ (.tail _ (.tail _ (.tail _ hx3))))
          · exact .tail _ (.tail _ (.tail _ (.tail _ (.tail _ hd3))))
          · exact List.forall_mem_cons.mpr ⟨Nat.ne_of_lt hrowhl, List.forall_mem_cons.mpr ⟨Nat.ne_of_gt la2, List.forall_mem_cons.mpr ⟨Ne.symm hI2h, List.forall_mem_cons.mpr ⟨Ne.symm hIh, List.forall_mem_cons.mpr ⟨Nat.ne_of_gt hth, hrh3⟩⟩⟩⟩⟩
          rintro _ h11 tk11 n11 F11 N11 ⟨rfl, b, tb, ub, nb, mb', rfl, hlb, hlb2⟩
          (k_steps; repeat' ((unfold Stop; first | (first | (refine mod2_even (by assumption) ?_) | (refine mod2_odd (by assumption) ?_))); k_steps))
          obtain ⟨lb1, lb2, lb3, lb4, lb5, lb6⟩ := hlb
          have lb6' := ktn_ltOf lb6
          have NF := npick (D := I2) (npick (D := row) (npick (D := hl) (npick (D := I) (npick (D := tkl) (npick (D := b) (npick (D := a1) N11 (.tail (.tail (.tail .head)))) (.tail (.tail .head))) (.tail (.tail (.tail (.tail (.tail (.tail .head))))))) (.tail (.tail (.tail (.tail (.tail (.tail .head))))))) (.tail (.tail (.tail (.tail .head))))) (.tail (.tail (.tail (.tail (.tail .head)))))) (.tail (.tail (.tail (.tail (.tail (.tail .head))))))
          refine fEnd_intro (by k_asm) NF ?_ ⟨vs', n', _, _, _, IsOv.up (IsOv.up (IsOv.mk _ _ _) rfl) rfl, rfl, ?_, ?_, ?_, fun p hp => .tail _ (.tail _ (hs3 p hp)), ?_, ?_, ?_⟩
          · exact List.forall_mem_cons.mpr ⟨hI2r, List.forall_mem_cons.mpr ⟨hI2h, List.forall_mem_cons.mpr ⟨hI2I, List.forall_mem_cons.mpr ⟨hI2t, List.forall_mem_cons.mpr ⟨Nat.ne_of_gt lb3, List.forall_mem_cons.mpr ⟨Nat.ne_of_gt la5, hI2R⟩⟩⟩⟩⟩⟩
          · exact List.forall_mem_cons.mpr ⟨Nat.ne_of_gt lb1, List.forall_mem_cons.mpr ⟨Nat.ne_of_gt la1, hr3⟩⟩
          · exact List.forall_mem_cons.mpr ⟨Nat.ne_of_gt hlb2, List.forall_mem_cons.mpr ⟨Nat.ne_of_gt la2, hrh3⟩⟩
          · exact List.forall_mem_cons.mpr ⟨Nat.ne_of_gt lb4, List.forall_mem_cons.mpr ⟨Nat.ne_of_gt la3, hI3⟩⟩
          · rw [hodd, serveIn_take _ _ _ hj]
            exact hD'.mono fun p hp => .tail _ hp
          · rw [hodd, letters_take _ _ _ hj, ← List.append_assoc, List.map_append]
            exact (hH3.mono fun p hp => .tail _ (.tail _ hp)).append (.cons (.tuple (.head _) (.cons (.str _ _) (.cons (.str _ _) .nil))) .nil)
          · rw [List.length_append, hl3]; simp only [List.length_cons, List.length_nil]; omega
        · have hodd : oddB i = true := by simp [oddB, hpar]
          rw [hodd] at hD3 hH3 hsp hsl
          (k_steps; repeat' ((unfold Stop; first | (first | (refine mod2_even (by assumption) ?_) | (refine mod2_odd (by assumption) ?_))); k_steps))
          unfold Stop
          refine kup_newTuple (by k_asm) (by k_asm) ?_ (by kmk_size)
          intro a1 h9 F9 N9 l9
          have la1 : row < a1 := l9 (row, _) (.tail _ (.head _))
          have la2 : hl < a1 := l9 (hl, _) (.tail _ (.tail _ (.head _)))
          have la3 : I < a1 := l9 (I, _) (.tail _ (.tail _ (.tail _ (.head _))))
          have la4 : tkl < a1 := l9 (tkl, _) (.tail _ (.tail _ (.tail _ (.tail _ (.head _)))))
          have la5 : I2 < a1 := l9 (I2, _) (.head _)
          (k_steps; repeat' ((unfold Stop; first | (first | (refine mod2_even (by assumption) ?_) | (refine mod2_odd (by assumption) ?_))); k_steps))
          unfold Stop
          have N10 := npick (D := row) N9 (.tail (.tail .head))
          k_dflt (refine Con.use (c_insLK _ _ (_ :: rest3) row vs2 n2 _ a1 _ _ _ _ _ (by exact .head _) (by exact List.forall_mem_cons.mpr ⟨.head _, fun p hp => .tail _ (.tail _ (.tail _ (.tail _ (.tail _ hp))))⟩) ?_ (hD3.mono fun p hp => .tail _ hp) hsl (by exact hsp.1.mono_le _)) (by k_asm) (by k_asm) (by k_asm) N10 (by k_asm) (by (first | exact rfl | assumption)) (by ((try dsimp only [ktrTop]); omega)) (by ((try simp only [units_in1, units_deeper, Around.mark_units, units_caller]); (try dsimp only [ktrTop]); omega)) ?_)
          · exact List.forall_mem_cons.mpr ⟨Nat.ne_of_gt la1, List.forall_mem_cons.mpr ⟨Ne.symm hI2r, List.forall_mem_cons.mpr ⟨Nat.ne_of_gt hrowhl, List.forall_mem_cons.mpr ⟨Ne.symm hI, List.forall_mem_cons.mpr ⟨Nat.ne_of_gt htr, hr3⟩⟩⟩⟩⟩
          rintro _ h10 tk10 n10 F10 N10 ⟨rfl, vs', n', rfl, hD'⟩
          (k_steps; repeat' ((unfold Stop; first | (first | (refine mod2_even (by assumption) ?_) | (refine mod2_odd (by assumption) ?_))); k_steps))
          unfold Stop
          refine chr_nat (c := 65 + ((List.drop (takeCut (serveRow W T i) T[i]) (serveRow W T i))[j]).2.toNat) (by omega) (by omega) ?_
          (k_steps; repeat' ((unfold Stop; first | (first | (refine mod2_even (by assumption) ?_) | (refine mod2_odd (by assumption) ?_))); k_steps))
          unfold Stop
          refine str_nat (k := i) (by omega) ?_
          intro t9
          (k_steps; repeat' ((unfold Stop; first | (first | (refine mod2_even (by assumption) ?_) | (refine mod2_odd (by assumption) ?_))); k_steps))
          unfold Stop
          k_dflt (refine Con.use (c_addH w _ x d hl tkx hvs2 hn2 _ _ _ _ (by first | exact memU (by omega) | exact memL (by omega) | exact memD (by omega)) (by first | exact memU (by omega) | exact memL (by omega) | exact memD (by omega)) ?_ ?_ ?_ (by omega)) (by k_asm) (by k_asm) (by k_asm) (npick (D := hl) (by k_asm) (.tail (.tail (.tail .head)))) (by k_asm) (by (first | exact rfl | assumption)) (by ((try dsimp only [ktrTop]); omega)) (by ((try simp only [units_in1, units_deeper, Around.mark_units, units_caller]); (try dsimp only [ktrTop]); omega)) ?_)
          · exact .tail _ (.tail _ (.tail _ (.tail _ (.tail _ hx3))))
          · exact .tail _ (.tail _ (.tail _ (.tail _ (.tail _ hd3))))
          · exact List.forall_mem_cons.mpr ⟨Nat.ne_of_lt hrowhl, List.forall_mem_cons.mpr ⟨Nat.ne_of_gt la2, List.forall_mem_cons.mpr ⟨Ne.symm hI2h, List.forall_mem_cons.mpr ⟨Ne.symm hIh, List.forall_mem_cons.mpr ⟨Nat.ne_of_gt hth, hrh3⟩⟩⟩⟩⟩
          rintro _ h11 tk11 n11 F11 N11 ⟨rfl, b, tb, ub, nb, mb', rfl, hlb, hlb2⟩
          (k_steps; repeat' ((unfold Stop; first | (first | (refine mod2_even (by assumption) ?_) | (refine mod2_odd (by assumption) ?_))); k_steps))
          obtain ⟨lb1, lb2, lb3, lb4, lb5, lb6⟩ := hlb
          have lb6' := ktn_ltOf lb6
          have NF := npick (D := I2) (npick (D := row) (npick (D := hl) (npick (D := I) (npick (D := tkl) (npick (D := b) (npick (D := a1) N11 (.tail (.tail (.tail .head)))) (.tail (.tail .head))) (.tail (.tail (.tail (.tail (.tail (.tail .head))))))) (.tail (.tail (.tail (.tail (.tail (.tail .head))))))) (.tail (.tail (.tail (.tail .head))))) (.tail (.tail (.tail (.tail (.tail .head)))))) (.tail (.tail (.tail (.tail (.tail (.tail .head))))))
          refine fEnd_intro (by k_asm) NF ?_ ⟨vs', n', _, _, _, IsOv.up (IsOv.up (IsOv.mk _ _ _) rfl) rfl, rfl, ?_, ?_, ?_, fun p hp => .tail _ (.tail _ (hs3 p hp)), ?_, ?_, ?_⟩
          · exact List.forall_mem_cons.mpr ⟨hI2r, List.forall_mem_cons.mpr ⟨hI2h, List.forall_mem_cons.mpr ⟨hI2I, List.forall_mem_cons.mpr ⟨hI2t, List.forall_mem_cons.mpr ⟨Nat.ne_of_gt lb3, List.forall_mem_cons.mpr ⟨Nat.ne_of_gt la5, hI2R⟩⟩⟩⟩⟩⟩
          · exact List.forall_mem_cons.mpr ⟨Nat.ne_of_gt lb1, List.forall_mem_cons.mpr ⟨Nat.ne_of_gt la1, hr3⟩⟩
          · exact List.forall_mem_cons.mpr ⟨Nat.ne_of_gt hlb2, List.forall_mem_cons.mpr ⟨Nat.ne_of_gt la2, hrh3⟩⟩
          · exact List.forall_mem_cons.mpr ⟨Nat.ne_of_gt lb4, List.forall_mem_cons.mpr ⟨Nat.ne_of_gt la3, hI3⟩⟩
          · rw [hodd, serveIn_take _ _ _ hj]
            exact hD'.mono fun p hp => .tail _ hp
          · rw [hodd, letters_take _ _ _ hj, ← List.append_assoc, List.map_append]
            exact (hH3.mono fun p hp => .tail _ (.tail _ hp)).append (.cons (.tuple (.head _) (.cons (.str _ _) (.cons (.str _ _) .nil))) .nil)
          · rw [List.length_append, hl3]; simp only [List.length_cons, List.length_nil]; omega
      case done2 =>
        rintro m2 nn2 h8 tk8 ⟨vs2, n2, hvs2, hn2, rest3, ⟨u2, rfl⟩, rfl, hr3, hrh3, hI3, hs3, hD3, hH3, hl3⟩ F8 N8
        (k_steps; repeat' ((unfold Stop; first | (first | (refine mod2_even (by assumption) ?_) | (refine mod2_odd (by assumption) ?_))); k_steps))
        have hdl : (vs.drop (takeCut (serveRow W T i) T[i])).length = ((serveRow W T i).drop (takeCut (serveRow W T i) T[i])).length := by simp only [List.length_drop, hvl, hok.len]
        rw [hdl, List.take_length] at hD3 hH3
        have eT : T.getD i 0 = T[i] := by simp [List.getD_eq_getElem?_getD, hi]
        refine fEnd_intro (by k_asm) (nsub (npick (D := I) N8 (.tail (.tail .head))) ?_) ?_ ⟨vs2, n2, hvs2, hn2, rest3, IsOv.sub (IsOv.up (IsOv.up (IsOv.up (IsOv.mk _ _ _) rfl) rfl) rfl) rfl, rfl, hr3, hrh3, fun p hp => hs3 p (hs2 p hp), ?_, ?_, ?_⟩
        · exact List.forall_mem_cons.mpr ⟨.head _, List.forall_mem_cons.mpr ⟨.tail _ (.head _), List.forall_mem_cons.mpr ⟨.tail _ (.tail _ (.head _)), fun p hp => .tail _ (.tail _ (.tail _ (.tail _ hp)))⟩⟩⟩
        · exact List.forall_mem_cons.mpr ⟨hI, List.forall_mem_cons.mpr ⟨hIh, hI3⟩⟩
        · show DatAll rest3 vs2 (List.map pdat (serveTurn (oddB i) (serveRow W T i) (T.getD i 0)))
          rw [eT]; exact hD3
        · show DatAll rest3 hvs2 (List.map hdat (servePairs W T i ++ letters (oddB i) i ((serveRow W T i).drop (takeCut (serveRow W T i) (T.getD i 0)))))
          rw [eT]; exact hH3
        · rw [hl3]; simp only [List.length_drop]; omega
    case done1 =>
      rintro m1 n1 h3 tk3 ⟨vs, n, hvs, hn, rest2, ⟨u1, rfl⟩, rfl, hr, hrh, hs2, hD, hH, hHl⟩ F3 N3
      (k_steps; repeat' ((unfold Stop; first | (first | (refine mod2_even (by assumption) ?_) | (refine mod2_odd (by assumption) ?_))); k_steps))
      unfold Stop
      refine kup_newTuple (by k_asm) (by k_asm) ?_ (by kmk_size)
      intro r0 h4 F4 N4 l4
      (k_steps; repeat' ((unfold Stop; first | (first | (refine mod2_even (by assumption) ?_) | (refine mod2_odd (by assumption) ?_))); k_steps))
      refine ret _ _ _ _ (by k_asm) (by k_asm) ⟨r0, row, x, d, hl, tkx, vs, n, hvs, hn, rfl, fun p hp => .tail _ (.tail _ (.tail _ (hs2 _ (hsub _ (.tail _ (.tail _ hp)))))), .head _, .tail _ (.head _), .tail _ (.tail _ (.tail _ (hs2 _ (hsub _ (.head _))))), .tail _ (.tail _ (.tail _ (hs2 _ (hsub _ (.tail _ (.head _)))))), .tail _ (.tail _ (.head _)), hD.mono fun p hp => .tail _ (.tail _ (.tail _ hp)), hH.mono fun p hp => .tail _ (.tail _ (.tail _ hp))⟩
end

end
section
section
noncomputable def kRun {α : Type} (lt : Nat → Nat → Bool) : KasT α → α
  | .ret a => a
  | .ask i j k => kRun lt (k (lt i j))
noncomputable def kIn {α : Type} (lt : Nat → Nat → Bool) (n : Nat) : KasT α → Bool
  | .ret _ => true
  | .ask i j k => decide (i < n) && decide (j < n) && kIn lt n (k (lt i j))
theorem kas_pure {α : Type} {lt : Nat → Nat → Bool} {n : Nat} {cmp : Nat → Nat → (Bool → Shared → Prop) → Shared → Prop} {s : Shared} {Q : α → Shared → Prop} (ha : ∀ i j C, i < n → j < n → C (lt i j) s → cmp i j C s) :
    ∀ t : KasT α, kIn lt n t = true → Q (kRun lt t) s → t.kasWp cmp Q s := by
  intro t
  induction t with
  | ret a => exact fun _ h => h
  | ask i j k ih =>
    intro hi h
    simp only [kIn, Bool.and_eq_true, decide_eq_true_eq] at hi
    exact ha i j _ hi.1.1 hi.1.2 (ih _ hi.2 h)
noncomputable def lt4 (b01 b02 b03 b12 b13 b23 : Bool) (i j : Nat) : Bool :=
  if i = 0 then (if j = 1 then b01 else if j = 2 then b02 else if j = 3 then b03 else false)
  else if i = 1 then (if j = 0 then !b01 else if j = 2 then b12 else if j = 3 then b13 else false)
  else if i = 2 then (if j = 0 then !b02 else if j = 1 then !b12 else if j = 3 then b23 else false)
  else if i = 3 then (if j = 0 then !b03 else if j = 1 then !b13 else if j = 2 then !b23 else false)
  else false
noncomputable def tr4 (lt : Nat → Nat → Bool) (n : Nat) : Bool := (List.range n).all fun i => (List.range n).all fun j => (List.range n).all fun k => !(lt i j && lt j k) || lt i k
noncomputable def srt (lt : Nat → Nat → Bool) : List Nat → Bool
  | [] => true
  | a :: r => r.all (fun b => lt a b) && srt lt r
noncomputable def chk4 (n : Nat) (b01 b02 b03 b12 b13 b23 : Bool) : Bool :=
  !(tr4 (lt4 b01 b02 b03 b12 b13 b23) n) || (kIn (lt4 b01 b02 b03 b12 b13 b23) n (kas_sort n) && srt (lt4 b01 b02 b03 b12 b13 b23) (kRun (lt4 b01 b02 b03 b12 b13 b23) (kas_sort n)).toList && (kRun (lt4 b01 b02 b03 b12 b13 b23) (kas_sort n)).toList.isPerm (List.range n))
theorem chk_2 : ∀ b01 b02 b03 b12 b13 b23, chk4 2 b01 b02 b03 b12 b13 b23 = true := by decide +kernel
theorem chk_3 : ∀ b01 b02 b03 b12 b13 b23, chk4 3 b01 b02 b03 b12 b13 b23 = true := by decide +kernel
theorem chk_4 : ∀ b01 b02 b03 b12 b13 b23, chk4 4 b01 b02 b03 b12 b13 b23 = true := by decide +kernel
theorem srt_pw {lt : Nat → Nat → Bool} : ∀ {l : List Nat}, srt lt l = true → l.Pairwise fun i j => lt i j = true := by
  intro l
  induction l with
  | nil => exact fun _ => .nil
  | cons a l ih =>
    intro h
    simp only [srt, Bool.and_eq_true, List.all_eq_true] at h
    exact .cons h.1 (ih h.2)
theorem chk_n {n : Nat} (h2 : 2 ≤ n) (h4 : n ≤ 4) {lt : Nat → Nat → Bool} (b01 b02 b03 b12 b13 b23 : Bool) (e : lt = lt4 b01 b02 b03 b12 b13 b23) (ht : ∀ i j k, i < n → j < n → k < n → lt i j = true → lt j k = true → lt i k = true) :
    kIn lt n (kas_sort n) = true ∧ (kRun lt (kas_sort n)).toList.Pairwise (fun i j => lt i j = true) ∧ (kRun lt (kas_sort n)).toList.Perm (List.range n) := by
  subst e
  have h : chk4 n b01 b02 b03 b12 b13 b23 = true := by
    have : n = 2 ∨ n = 3 ∨ n = 4 := by omega
    rcases this with rfl | rfl | rfl
    · exact chk_2 _ _ _ _ _ _
    · exact chk_3 _ _ _ _ _ _
    · exact chk_4 _ _ _ _ _ _
  have htr : tr4 (lt4 b01 b02 b03 b12 b13 b23) n = true := by
    simp only [tr4, List.all_eq_true, List.mem_range]
    intro i hi j hj k hk
    have := ht i j k hi hj hk
    cases e1 : lt4 b01 b02 b03 b12 b13 b23 i j <;> cases e2 : lt4 b01 b02 b03 b12 b13 b23 j k <;> cases e3 : lt4 b01 b02 b03 b12 b13 b23 i k <;> simp_all
  rw [chk4, htr] at h
  simp only [Bool.not_true, Bool.false_or, Bool.and_eq_true] at h
  exact ⟨h.1.1, srt_pw h.1.2, List.isPerm_iff.mp h.2⟩
noncomputable abbrev gp (ps : PL) (i : Nat) : Int × Int := ps.getD i (0, 0)
noncomputable def ltP (ps : PL) : Nat → Nat → Bool := lt4 (pltB (gp ps 0) (gp ps 1)) (pltB (gp ps 0) (gp ps 2)) (pltB (gp ps 0) (gp ps 3)) (pltB (gp ps 1) (gp ps 2)) (pltB (gp ps 1) (gp ps 3)) (pltB (gp ps 2) (gp ps 3))
theorem pltB_flip {p q : Int × Int} (h : p ≠ q) : (!pltB p q) = pltB q p := by
  obtain ⟨a, b⟩ := p
  obtain ⟨c, d⟩ := q
  have h' : a ≠ c ∨ b ≠ d := by
    by_cases e : a = c
    · exact .inr fun e2 => h (by rw [e, e2])
    · exact .inl e
  simp only [pltB]
  rw [Bool.eq_iff_iff]
  simp only [Bool.not_eq_true', Bool.or_eq_false_iff, Bool.and_eq_false_iff, decide_eq_false_iff_not, Bool.or_eq_true, Bool.and_eq_true, decide_eq_true_eq]
  omega
theorem pltB_irr (p : Int × Int) : pltB p p = false := by simp [pltB]
theorem ltP_eq {ps : PL} (h4 : ps.length ≤ 4) (hd : ps.Pairwise fun p q => p ≠ q) {i j : Nat} (hi : i < ps.length) (hj : j < ps.length) : ltP ps i j = pltB (gp ps i) (gp ps j) := by
  have dd : ∀ i j, i < j → j < ps.length → gp ps i ≠ gp ps j := by
    intro i j hij hj
    have hi : i < ps.length := by omega
    have := pair_get hd hi hj hij
    simpa [gp, List.getD_eq_getElem?_getD, hi, hj] using this
  have fl : ∀ i j, i < j → j < ps.length → (!pltB (gp ps i) (gp ps j)) = pltB (gp ps j) (gp ps i) := fun i j h1 h2 => pltB_flip (dd i j h1 h2)
  have hi4 : i = 0 ∨ i = 1 ∨ i = 2 ∨ i = 3 := by omega
  have hj4 : j = 0 ∨ j = 1 ∨ j = 2 ∨ j = 3 := by omega
  unfold ltP
  rcases hi4 with rfl | rfl | rfl | rfl <;> rcases hj4 with rfl | rfl | rfl | rfl <;>
    first
    | exact (pltB_irr _).symm
    | rfl
    | exact fl _ _ (by omega) (by omega)
end

end
section
section
variable {prog : Program} {w : World} {A : Around} {E : Value → Shared → Prop} {s : Shared} {h₀ : Heap} {L l : Addr} {m : Str → Option Value} {news : List (Addr × Obj)} {vs : List Value} {n : Nat}
theorem key_lt_pair {a b : Addr} {p q : Int × Int} {t u t' u' : Tok} {n n' : Nat} {C : Bool → Shared → Prop} (ha : s.heap.get? a = some (tupOf [.int p.1 t, .int p.2 u] n)) (hb : s.heap.get? b = some (tupOf [.int q.1 t', .int q.2 u'] n')) (h : C (pltB p q) s) :
    wpAny (model prog w) A (keyLt' (tuples' true) (.ref a) (.ref b)) C E s := by
  refine kat_lt ha rfl hb rfl ?_
  show KatLex prog w A true false C [(Value.int p.1 t, Value.int q.1 t'), (Value.int p.2 u, Value.int q.2 u')] 0 s
  refine kat_cons (wpAny_eqBool_int ?_)
  by_cases h1 : p.1 = q.1
  · have e1 : (p.1 == q.1) = true := by simpa using h1
    rw [e1]
    refine kat_yes (kat_cons (wpAny_eqBool_int ?_))
    by_cases h2 : p.2 = q.2
    · have e2 : (p.2 == q.2) = true := by simpa using h2
      rw [e2]
      refine kat_yes (kat_nil ?_)
      have e3 : pltB p q = false := by simp [pltB, h1, h2]
      rw [e3] at h
      exact h
    · have e2 : (p.2 == q.2) = false := by simpa using h2
      rw [e2]
      refine kat_no ?_
      show wpAny _ _ (oneLt' false _ _) _ _ _
      refine kat_one _ _ (cmp_ofLt (rc_lt_int ?_))
      have e3 : decide (p.2 < q.2) = pltB p q := by simp [pltB, h1]
      rw [e3]
      exact h
  · have e1 : (p.1 == q.1) = false := by simpa using h1
    rw [e1]
    refine kat_no ?_
    show wpAny _ _ (oneLt' true _ _) _ _ _
    refine oneLt_int ?_
    have e3 : decide (p.1 < q.1) = pltB p q := by simp [pltB, h1]
    rw [e3]
    exact h
theorem tups_of {h : Heap} (N : News h₀ L h news) : ∀ {vs : List Value} {ps : PL}, DatAll news vs (ps.map pdat) → ∃ fs, KatTups h vs fs ∧ fs.length = ps.length ∧ ∀ v ∈ fs, ∃ i t, v = Value.int i t := by
  intro vs ps
  induction ps generalizing vs with
  | nil =>
    intro hD
    cases hD
    exact ⟨[], KatTups.nil, rfl, fun v hv => nomatch hv⟩
  | cons p ps ih =>
    intro hD
    rw [List.map_cons] at hD
    cases hD with
    | cons h1 hr =>
      obtain ⟨a, t, u, n, rfl, hm⟩ := datIn_pair h1
      obtain ⟨fs, k1, k2, k3⟩ := ih hr
      refine ⟨Value.int p.1 t :: fs, KatTups.cons (N _ hm).1 rfl rfl (by simp) k1, by simp [k2], fun v hv => ?_⟩
      rcases List.mem_cons.mp hv with rfl | hv
      · exact ⟨_, _, rfl⟩
      · exact k3 v hv
theorem datAll_pick {vs : List Value} {ps : PL} (hD : DatAll news vs (ps.map pdat)) : ∀ (l : List Nat), (∀ i ∈ l, i < ps.length) → DatAll news (l.map fun i => vs.getD i Value.none) ((l.map fun i => gp ps i).map pdat) := by
  intro l
  induction l with
  | nil => exact fun _ => .nil
  | cons i l ih =>
    intro h
    refine .cons ?_ (ih fun j hj => h j (.tail _ hj))
    have hi := h i (.head _)
    obtain ⟨v, e1, e2⟩ := hD.get (k := i) (by rw [List.length_map]; exact hi)
    have ev : vs.getD i Value.none = v := by rw [List.getD_eq_getElem?_getD, e1]; rfl
    have ep : gp ps i = ps[i] := by simp [gp, List.getD_eq_getElem?_getD, hi]
    show DatIn news (vs.getD i Value.none) (pdat (gp ps i))
    rw [ev, ep]
    simpa using e2
theorem sort_pairs2 {nd : List (Addr × Obj)} {ps : PL} {Q : Value → Shared → Prop} (F : Fr h₀ L s.heap m) (N : News h₀ L s.heap news) (hm : (l, listOf vs.toArray n) ∈ news) (hnd : ∀ p ∈ nd, p ∈ news) (hD : DatAll nd vs (ps.map pdat)) (hd : ps.Pairwise fun p q => p ≠ q) (h2 : 2 ≤ ps.length) (h4 : ps.length ≤ 4)
    (h : ∀ D vs' ps' c h', Fr h₀ L h' m → News h₀ L h' ((D, listOf vs'.toArray c) :: news) → (∀ q ∈ news, q.1 < D) → DatAll nd vs' (ps'.map pdat) → ps'.Perm ps → SortedL ps' → Q (.ref D) { s with heap := h' }) :
    wpAny (model prog w) A (call (.builtin "sorted") [.ref l]) Q E s := by
  have hvl : vs.length = ps.length := DatAll.len2 hD
  have hl : s.heap.IsList l vs.toArray := ⟨_, (N _ hm).1, rfl, n, rfl⟩
  refine kat_sorted F N hl (by omega) (by omega) fun D e1 h' F' N' l1 => ?_
  have N1 : News h₀ L h' nd := fun p hp => N' p (.tail _ (hnd p hp))
  obtain ⟨fs, k1, k2, k3⟩ := tups_of N1 hD
  refine kat_kind (s := { s with heap := h' }) (T := .type "int") k1 (by omega) (fun v hv => ?_) (by rfl) ?_
  · obtain ⟨i, t, rfl⟩ := k3 v hv
    exact Looks.of_pure rfl
  have hT : (Value.type "int" != Value.type "tuple") = true := by rfl
  rw [hT]
  have C := chk_n (n := ps.length) (lt := ltP ps) h2 h4 _ _ _ _ _ _ rfl (fun i j k hi hj hk h1 h2' => by
    rw [ltP_eq h4 hd hi hj] at h1
    rw [ltP_eq h4 hd hj hk] at h2'
    rw [ltP_eq h4 hd hi hk]
    exact plt_trans h1 h2')
  rw [hvl]
  refine kas_pure (lt := ltP ps) (n := ps.length) (fun i j C' hi hj hC => ?_) _ C.1 ?_
  · unfold kas_ask
    obtain ⟨v, e1, e2⟩ := hD.get (k := i) (by rw [List.length_map]; exact hi)
    obtain ⟨v', e1', e2'⟩ := hD.get (k := j) (by rw [List.length_map]; exact hj)
    have ev : vs.getD i Value.none = v := by rw [List.getD_eq_getElem?_getD, e1]; rfl
    have ev' : vs.getD j Value.none = v' := by rw [List.getD_eq_getElem?_getD, e1']; rfl
    have ep : gp ps i = ps[i] := by simp [gp, List.getD_eq_getElem?_getD, hi]
    have ep' : gp ps j = ps[j] := by simp [gp, List.getD_eq_getElem?_getD, hj]
    rw [List.getElem_map] at e2 e2'
    obtain ⟨a, t, u, n1, rfl, hm1⟩ := datIn_pair e2
    obtain ⟨b, t', u', n2, rfl, hm2⟩ := datIn_pair e2'
    rw [ev, ev']
    refine key_lt_pair (N1 _ hm1).1 (N1 _ hm2).1 ?_
    rw [ltP_eq h4 hd hi hj, ep, ep'] at hC
    exact hC
  · have hp := C.2.2
    have hin : ∀ i ∈ (kRun (ltP ps) (kas_sort ps.length)).toList, i < ps.length := fun i hi => by simpa using hp.mem_iff.mp hi
    refine KasFin.intro F' N' (UpdF.head fun p hp => Nat.ne_of_lt (l1 p hp)) fun h2 c F2 N2 => ?_
    refine h D _ ((kRun (ltP ps) (kas_sort ps.length)).toList.map fun i => gp ps i) c h2 F2 N2 l1 (datAll_pick hD _ hin) ?_ ?_
    · have e : (List.range ps.length).map (fun i => gp ps i) = ps := by
        refine List.ext_getElem (by simp) fun i h1 h2 => ?_
        simp [gp, List.getD_eq_getElem?_getD, h2]
      have := hp.map (fun i => gp ps i)
      rwa [e] at this
    · refine List.pairwise_map.mpr (C.2.1.imp_of_mem fun {i j} hi hj hij => ?_)
      rw [ltP_eq h4 hd (hin i hi) (hin j hj)] at hij
      exact hij
theorem list_sort_short {a : Addr} {P : PySem.Fin → Shared → Prop} (F : Fr h₀ L s.heap m) (N : News h₀ L s.heap news) (ho : s.heap.get? a = some (seqObj "list" vs.toArray n)) (haL : a ≠ L) (ha0 : h₀.get? a = none) (hna : ∀ p ∈ news, p.1 ≠ a)
    (h2 : vs.length < 2) (h : ∀ c h', Fr h₀ L h' m → News h₀ L h' ((a, listOf vs.toArray c) :: news) → P (.done (.ret .none)) { s with heap := h' }) :
    wpAny (model prog w) A (Builtin.«list.sort» ⟨[.ref a], []⟩) P E s := by
  have ha : a < s.heap.objs.size := Heap.lt_size ho
  have s1 := Heap.SameBut.update s.heap a (Obj.mapSeq fun _ => (#[] : Array Value))
  obtain ⟨e1, ho1⟩ : ∃ e1, (s.heap.update a (Obj.mapSeq fun _ => (#[] : Array Value))).get? a = some (seqObj "list" #[] e1) := ⟨_, get?_update_seq ho fun _ => #[]⟩
  have F3 : Fr h₀ L (((s.heap.update a (Obj.mapSeq fun _ => (#[] : Array Value))).push (seqObj "tuple" vs.toArray 0)).push (seqObj "list" #[] 0)) m := ((kas_fr F s1 haL ha0).push _).push _
  have N2 : News h₀ L (((s.heap.update a (Obj.mapSeq fun _ => (#[] : Array Value))).push (seqObj "tuple" vs.toArray 0)).push (seqObj "list" #[] 0)) news :=
    (kas_news N s1 hna).grown fun b x e => Heap.get?_push_of_some _ (Heap.get?_push_of_some _ e)
  have N3 : News h₀ L (((s.heap.update a (Obj.mapSeq fun _ => (#[] : Array Value))).push (seqObj "tuple" vs.toArray 0)).push (seqObj "list" #[] 0)) ((a, seqObj "list" #[] e1) :: news) := fun p hp => by
    rcases List.mem_cons.mp hp with rfl | hp
    · exact ⟨Heap.get?_push_of_some _ (Heap.get?_push_of_some _ ho1), haL, ha0⟩
    · exact N2 p hp
  rw [list_sort_plain]
  refine wpAny_bind (listItems_at ho rfl ?_)
  refine wpAny_bind (listUpdate_at ho rfl ?_ (by rw [List.size_toArray, sizeLine_eq]; omega) (Nat.zero_le _))
  refine wpAny_bind (seqEpoch_at ho1 rfl ?_)
  refine wpAny_bind (wpAny_newTuple ?_ (by show vs.length ≤ _; rw [sizeLine_eq]; omega))
  refine wpAny_bind (wpAny_newList ?_ (Nat.zero_le _))
  refine wpAny_holding ?_
  show wpAny (model prog w) A _ P E { s with heap := ((s.heap.update a (Obj.mapSeq fun _ => (#[] : Array Value))).push (seqObj "tuple" vs.toArray 0)).push (seqObj "list" #[] 0) }
  dsimp only
  have hn2 : vs.toArray.size < 2 := by rw [List.size_toArray]; omega
  rw [if_pos hn2, if_pos hn2]
  refine wpAny_bind (wpAny_pure ?_)
  rw [StateT.run_pure]
  refine wpAny_bind (wpAny_pure ?_)
  dsimp only
  have na := N3 (a, seqObj "list" #[] e1) (.head _)
  have hout : (arrOf (SortSt.mk' general' (vs.toArray.zip vs.toArray) #[] 7 none)).map (·.2) = vs.toArray := by
    show (vs.toArray.zip vs.toArray).map (·.2) = vs.toArray
    refine Array.ext (by simp) fun i h1 h2 => by simp
  refine wpAny_bind (seqEpoch_at na.1 rfl ?_)
  rw [hout]
  have s2 := Heap.SameBut.update (((s.heap.update a (Obj.mapSeq fun _ => (#[] : Array Value))).push (seqObj "tuple" vs.toArray 0)).push (seqObj "list" #[] 0)) a (Obj.mapSeq fun _ => vs.toArray)
  obtain ⟨c2, hc2⟩ : ∃ c2, ((((s.heap.update a (Obj.mapSeq fun _ => (#[] : Array Value))).push (seqObj "tuple" vs.toArray 0)).push (seqObj "list" #[] 0)).update a (Obj.mapSeq fun _ => vs.toArray)).get? a = some (seqObj "list" vs.toArray c2) := ⟨_, get?_update_seq na.1 fun _ => vs.toArray⟩
  refine wpAny_bind (listUpdate_at na.1 rfl ?_ (Nat.zero_le _) (by rw [List.size_toArray, sizeLine_eq]; omega))
  simp only [bne_self_eq_false, Bool.false_eq_true, if_false]
  refine wpAny_pure (h c2 _ (kas_fr F3 s2 na.2.1 na.2.2) ?_)
  intro p hp
  rcases List.mem_cons.mp hp with rfl | hp
  · exact ⟨hc2, haL, ha0⟩
  · exact ⟨(s2.2 p.1 (hna p hp)).trans (N2 p hp).1, (N2 p hp).2⟩
theorem sort_short {Q : Value → Shared → Prop} (F : Fr h₀ L s.heap m) (N : News h₀ L s.heap news) (hm : (l, listOf vs.toArray n) ∈ news) (h2 : vs.length < 2)
    (h : ∀ D c h', Fr h₀ L h' m → News h₀ L h' ((D, listOf vs.toArray c) :: news) → (∀ q ∈ news, q.1 < D) → Q (.ref D) { s with heap := h' }) :
    wpAny (model prog w) A (call (.builtin "sorted") [.ref l]) Q E s := by
  have hl : s.heap.IsList l vs.toArray := ⟨_, (N _ hm).1, rfl, n, rfl⟩
  refine Calls.call_function_entry kind_sorted plain_sorted entry_sorted (args_sorted1 _) ?_
  unfold Builtin.«sorted»
  refine wpAny_bind (m := checkCount "sorted" 1 1 _) (wpAny_pure ?_)
  refine wpAny_bind (collect_list hl ?_ (by rw [sizeLine_eq]; omega))
  refine wpAny_bind (wpAny_newList ?_ (by rw [sizeLine_eq]; omega))
  have hsz : ((s.heap.push (seqObj "list" #[] 0)).update s.heap.objs.size (Obj.mapSeq (· ++ vs.toArray))).objs.size = s.heap.objs.size + 1 := by
    rw [Heap.size_update, size_push']
  have hoL : (((s.heap.push (seqObj "list" #[] 0)).update s.heap.objs.size (Obj.mapSeq (· ++ vs.toArray))).push (seqObj "list" vs.toArray 0)).get? (s.heap.objs.size + 1) = some (seqObj "list" vs.toArray 0) := by
    rw [← hsz]; exact Heap.get?_push_size _ rfl
  have keep : ∀ b o, s.heap.get? b = some o → (((s.heap.push (seqObj "list" #[] 0)).update s.heap.objs.size (Obj.mapSeq (· ++ vs.toArray))).push (seqObj "list" vs.toArray 0)).get? b = some o := fun b o q => by
    have hlt : b < s.heap.objs.size := Heap.lt_size q
    rw [Heap.get?_push_ne _ _ _ (by rw [hsz]; exact Nat.ne_of_lt (Nat.lt_succ_of_lt hlt)), Heap.get?_update_ne _ _ _ _ (Nat.ne_of_lt hlt), Heap.get?_push_ne _ _ _ (Nat.ne_of_lt hlt)]
    exact q
  have hL : L < s.heap.objs.size := F.ns.lt
  show wpAny _ _ _ _ _ { s with heap := ((s.heap.push (seqObj "list" #[] 0)).update s.heap.objs.size (Obj.mapSeq (· ++ vs.toArray))).push (seqObj "list" vs.toArray 0) }
  rw [hsz]
  refine wpAny_bind (wpAny_holding (wpAny_call_entry slot_list_sort ⟨_, hoL, rfl⟩ entry_list_sort ?body (args_list_sort _)))
  case body =>
    refine list_sort_short (s := { s with heap := ((s.heap.push (seqObj "list" #[] 0)).update s.heap.objs.size (Obj.mapSeq (· ++ vs.toArray))).push (seqObj "list" vs.toArray 0) })
      (F.kept keep) (N.grown keep) hoL (Nat.ne_of_gt (Nat.lt_succ_of_lt hL)) (Heap.get?_none_of_le (Nat.le_trans F.above (Nat.le_succ_of_le (Nat.le_of_lt hL))))
      (fun p hp => Nat.ne_of_lt (Nat.lt_succ_of_lt (Heap.lt_size (N p hp).1))) h2 fun c h' F' N' => ?_
    exact ⟨_, rfl, wpAny_pure ⟨_, rfl, h _ c h' F' N' fun q hq => Nat.lt_succ_of_lt (Heap.lt_size (N q hq).1)⟩⟩
theorem sort_pairs {nd : List (Addr × Obj)} {ps : PL} {Q : Value → Shared → Prop} (F : Fr h₀ L s.heap m) (N : News h₀ L s.heap news) (hm : (l, listOf vs.toArray n) ∈ news) (hnd : ∀ p ∈ nd, p ∈ news) (hD : DatAll nd vs (ps.map pdat)) (hd : ps.Pairwise fun p q => p ≠ q) (h4 : ps.length ≤ 4)
    (h : ∀ D vs' ps' c h', Fr h₀ L h' m → News h₀ L h' ((D, listOf vs'.toArray c) :: news) → (∀ q ∈ news, q.1 < D) → DatAll nd vs' (ps'.map pdat) → ps'.Perm ps → SortedL ps' → Q (.ref D) { s with heap := h' }) :
    wpAny (model prog w) A (call (.builtin "sorted") [.ref l]) Q E s := by
  have hvl : vs.length = ps.length := DatAll.len2 hD
  by_cases h2 : 2 ≤ ps.length
  · exact sort_pairs2 F N hm hnd hD hd h2 h4 h
  · refine sort_short F N hm (by omega) fun D c h' F' N' l1 => h D vs ps c h' F' N' l1 hD (List.Perm.refl _) ?_
    cases ps with
    | nil => exact .nil
    | cons p r =>
      cases r with
      | nil => exact List.pairwise_singleton _ _
      | cons q r => exact absurd (by simp) h2
end

end
section
section
open PyProof.Rows.LCg PyProof.Rows.LCt PyProof.Rows.LCp
variable {prog : Program} {w : World} {A : Around} {h₀ : Heap} {L : Addr} {m : Str → Option Value} {env : Env} {ct elt : Expr} {x x₂ : Str} {scope : Scope} {cl : List (Str × Addr)} {s : Shared} {S : List (Addr × Obj) → Prop} {P : Nat → Value → Prop} {Fin : List Value → List (Addr × Obj) → Prop} {news : List (Addr × Obj)} {n : Nat}
theorem rest_T (J : Nat → List Value → List (Addr × Obj) → Prop) (h0 : J 0 [] news)
    (turn : ∀ i v I oI C oC D m₂ ys news₁ h tk (E' : Value → Shared → Prop), P i v → i < n → J i ys news₁ → NsObj oC m₂ → m₂ x = some v → Fr h₀ L h m → News h₀ L h ((I, oI) :: (C, oC) :: (D, lst ys) :: news₁) → Off3 I C D news₁ → ((@Ne Nat I C) ∧ (@Ne Nat I D) ∧ (@Ne Nat C D)) →
      wpAny (model prog w) A (isTrue ct (compEnvC scope cl C env) (eval ct (compEnvC scope cl C env))) (fun ok s' => if ok = true then
        wpAny (model prog w) A (eval elt (compEnvC scope cl C env)) (CompEnd h₀ L m { s with heap := h, toks := tk } I oI C oC D (lst ys) S (fun y news' => J (i + 1) (ys ++ [y]) news')) E' s'
        else CompEnd h₀ L m { s with heap := h, toks := tk } I oI C oC D (lst ys) S (fun _ news' => J (i + 1) ys news') Value.none s') E' { s with heap := h, toks := tk })
    (fin : ∀ ys news', J n ys news' → Fin ys news') : CompRestT prog w A h₀ L m env ct elt x scope cl s S P Fin n 0 [] news := by
  have key : ∀ (j i : Nat) (ys : List Value) (news : List (Addr × Obj)), i + j = n → J i ys news → CompRestT prog w A h₀ L m env ct elt x scope cl s S P Fin j i ys news := by
    intro j
    induction j with
    | zero =>
      intro i ys news hi hJ
      obtain rfl : i = n := by omega
      exact CompRestT.zero (fin _ _ hJ)
    | succ j ih =>
      intro i ys news hi hJ
      refine CompRestT.succ fun v I oI C oC D m₂ h tk E' hv hC hx F N off ne => ?_
      refine wpAny_mono (turn i v I oI C oC D m₂ ys news h tk E' hv (by omega) hJ hC hx F N off ne) (fun b s₂ hq => ?_) fun _ _ e => e
      cases b with
      | true =>
        simp only [if_true] at hq ⊢
        refine wpAny_mono hq (fun y s₃ hr => ?_) fun _ _ e => e
        obtain ⟨h', tk', nw, e, F', N', off', hS, hJ'⟩ := hr
        exact ⟨h', tk', nw, e, F', N', off', hS, ih (i + 1) _ _ (by omega) hJ'⟩
      | false =>
        simp only [Bool.false_eq_true, if_false] at hq ⊢
        obtain ⟨h', tk', nw, e, F', N', off', hS, hJ'⟩ := hq
        exact ⟨h', tk', nw, e, F', N', off', hS, ih (i + 1) _ _ (by omega) hJ'⟩
  exact key n 0 [] _ (by omega) h0
theorem rest_U (J : Nat → List Value → List (Addr × Obj) → Prop) (h0 : J 0 [] news)
    (turn : ∀ i v I oI C oC D m₂ ys news₁ h tk (E' : Value → Shared → Prop), P i v → i < n → J i ys news₁ → NsObj oC m₂ → m₂ x = some v → Fr h₀ L h m → News h₀ L h ((I, oI) :: (C, oC) :: (D, lst ys) :: news₁) → Off3 I C D news₁ → ((@Ne Nat I C) ∧ (@Ne Nat I D) ∧ (@Ne Nat C D)) →
      wpAny (model prog w) A (eval elt (compEnvC scope cl C env)) (CompEnd h₀ L m { s with heap := h, toks := tk } I oI C oC D (lst ys) S (fun y news' => J (i + 1) (ys ++ [y]) news')) E' { s with heap := h, toks := tk })
    (fin : ∀ ys news', J n ys news' → Fin ys news') : CompRest prog w A h₀ L m env elt x scope cl s S P Fin n 0 [] news := by
  have key : ∀ (j i : Nat) (ys : List Value) (news : List (Addr × Obj)), i + j = n → J i ys news → CompRest prog w A h₀ L m env elt x scope cl s S P Fin j i ys news := by
    intro j
    induction j with
    | zero =>
      intro i ys news hi hJ
      obtain rfl : i = n := by omega
      exact CompRest.zero (fin _ _ hJ)
    | succ j ih =>
      intro i ys news hi hJ
      refine CompRest.succ fun v I oI C oC D m₂ h tk E' hv hC hx F N off ne => ?_
      refine wpAny_mono (turn i v I oI C oC D m₂ ys news h tk E' hv (by omega) hJ hC hx F N off ne) (fun y s₃ hr => ?_) fun _ _ e => e
      obtain ⟨h', tk', nw, e, F', N', off', hS, hJ'⟩ := hr
      exact ⟨h', tk', nw, e, F', N', off', hS, ih (i + 1) _ _ (by omega) hJ'⟩
  exact key n 0 [] _ (by omega) h0
theorem rest_P (J : Nat → List Value → List (Addr × Obj) → Prop) (h0 : J 0 [] news)
    (turn : ∀ i v ys news₁, P i v → i < n → J i ys news₁ → ∃ (t : Addr) (ot : Obj) (v₁ v₂ : Value) (nt : Nat), v = .ref t ∧ (t, ot) ∈ news₁ ∧ ot.cls = .type "tuple" ∧ ot.data = .seq #[v₁, v₂] nt ∧
      ∀ I oI C oC D m₂ h tk (E' : Value → Shared → Prop), NsObj oC m₂ → m₂ x = some v₁ → m₂ x₂ = some v₂ → Fr h₀ L h m → News h₀ L h ((I, oI) :: (C, oC) :: (D, lst ys) :: news₁) → Off3 I C D news₁ → ((@Ne Nat I C) ∧ (@Ne Nat I D) ∧ (@Ne Nat C D)) →
      wpAny (model prog w) A (eval elt (compEnvC scope cl C env)) (CompEnd h₀ L m { s with heap := h, toks := tk } I oI C oC D (lst ys) S (fun y news' => J (i + 1) (ys ++ [y]) news')) E' { s with heap := h, toks := tk })
    (fin : ∀ ys news', J n ys news' → Fin ys news') : CompRestP prog w A h₀ L m env elt x x₂ scope cl s S P Fin n 0 [] news := by
  have key : ∀ (j i : Nat) (ys : List Value) (news : List (Addr × Obj)), i + j = n → J i ys news → CompRestP prog w A h₀ L m env elt x x₂ scope cl s S P Fin j i ys news := by
    intro j
    induction j with
    | zero =>
      intro i ys news hi hJ
      obtain rfl : i = n := by omega
      exact CompRestP.zero (fin _ _ hJ)
    | succ j ih =>
      intro i ys news hi hJ
      refine CompRestP.succ fun v hv => ?_
      obtain ⟨t, ot, v₁, v₂, nt, e1, e2, e3, e4, k⟩ := turn i v ys news hv (by omega) hJ
      refine ⟨t, ot, v₁, v₂, nt, e1, e2, e3, e4, fun I oI C oC D m₂ h tk E' hC hx hx2 F N off ne => ?_⟩
      refine wpAny_mono (k I oI C oC D m₂ h tk E' hC hx hx2 F N off ne) (fun y s₃ hr => ?_) fun _ _ e => e
      obtain ⟨h', tk', nw, e, F', N', off', hS, hJ'⟩ := hr
      exact ⟨h', tk', nw, e, F', N', off', hS, ih (i + 1) _ _ (by omega) hJ'⟩
  exact key n 0 [] _ (by omega) h0
theorem off1_mem {D : Addr} : ∀ {l : List (Addr × Obj)}, Off1 D l → ∀ p ∈ l, p.1 ≠ D
  | [], _, _, h => nomatch h
  | _ :: _, x, p, h => by
    rcases List.mem_cons.mp h with rfl | h
    · exact x.1
    · exact off1_mem x.2 p h
end

end
section
/-! plain facts for the plain reading -/
theorem mono_filter {α : Type} {q : α → Bool} {l : List α} (h : Mono q l) : l.filter q = l.drop (cnt q l) := by
  have m := mono_cut h
  have e : (l.take (cnt q l) ++ l.drop (cnt q l)).filter q = l.drop (cnt q l) := by
    rw [List.filter_append]
    have e1 : (l.take (cnt q l)).filter q = [] := List.filter_eq_nil_iff.mpr fun a ha => by simp [m.1 a ha]
    have e2 : (l.drop (cnt q l)).filter q = l.drop (cnt q l) := List.filter_eq_self.mpr fun a ha => m.2 a ha
    rw [e1, e2, List.nil_append]
  rwa [List.take_append_drop] at e
noncomputable abbrev goods (row : PL) : List Int := row.map (·.2)
theorem nodup_of_goods {row : PL} (h : (goods row).Nodup) : row.Pairwise fun p q => p ≠ q := by
  have := List.pairwise_map.mp h
  exact this.imp fun {a b} hab e => hab (by rw [e])
theorem filter_take {row : PL} (h : row.Pairwise fun p q => p ≠ q) (c : Nat) : row.filter (fun p => !(row.drop c).contains p) = row.take c := by
  have h3 := (List.take_append_drop c row) ▸ h
  rw [List.pairwise_append] at h3
  have e : (row.take c ++ row.drop c).filter (fun p => !(row.drop c).contains p) = row.take c := by
    rw [List.filter_append]
    have e1 : (row.take c).filter (fun p => !(row.drop c).contains p) = row.take c := List.filter_eq_self.mpr fun a ha => by
      simp only [Bool.not_eq_true', List.contains_eq_mem, decide_eq_false_iff_not]
      exact fun hm => h3.2.2 a ha a hm rfl
    have e2 : (row.drop c).filter (fun p => !(row.drop c).contains p) = [] := List.filter_eq_nil_iff.mpr fun a ha => by
      simp only [Bool.not_eq_true', List.contains_eq_mem, decide_eq_false_iff_not]
      exact fun hm => hm ha
    rw [e1, e2, List.append_nil]
  rwa [List.take_append_drop] at e
theorem insK_goods (odd : Bool) (p : Int × Int) (row : PL) : (goods (insK odd p row)).Perm (p.2 :: goods row) := by
  have := (insAt_perm (cnt (qK odd p.1) row) p row).map (·.2)
  exact this
theorem serveIn_goods (odd : Bool) : ∀ (taken row : PL), (goods (serveIn odd taken row)).Perm (goods row ++ goods taken) := by
  intro taken
  induction taken with
  | nil => intro row; simp [serveIn, goods]
  | cons p taken ih =>
    intro row
    have h1 := ih (insK odd (p.1 - 1, p.2) row)
    have h2 := insK_goods odd (p.1 - 1, p.2) row
    show (goods (serveIn odd taken (insK odd (p.1 - 1, p.2) row))).Perm _
    refine h1.trans ?_
    refine (h2.append_right _).trans ?_
    show (p.2 :: (goods row ++ goods taken)).Perm (goods row ++ p.2 :: goods taken)
    exact List.perm_middle.symm
theorem serveTurn_goods (odd : Bool) (row : PL) (t : Nat) : (goods (serveTurn odd row t)).Perm (goods row) := by
  have := serveIn_goods odd (row.drop (takeCut row t)) (row.take (takeCut row t))
  have e : goods (row.take (takeCut row t)) ++ goods (row.drop (takeCut row t)) = goods row := by
    unfold goods
    rw [← List.map_append, List.take_append_drop]
  rw [e] at this
  exact this
noncomputable abbrev pairs0 (W : List Nat) (n : Nat) : PL := (List.range n).map fun i => (((W.getD i 0 : Nat) : Int), (i : Int))
theorem row0_perm (W : List Nat) : ∀ n, (row0 W n).Perm (pairs0 W n) := by
  intro n
  induction n with
  | zero => exact List.Perm.refl _
  | succ n ih =>
    unfold pairs0
    rw [List.range_succ, List.map_append]
    refine (insAt_perm _ _ _).trans ?_
    refine (List.Perm.cons _ ih).trans ?_
    exact (List.perm_append_singleton _ _).symm
theorem pairs0_nodup (W : List Nat) (n : Nat) : (goods (pairs0 W n)).Nodup := by
  unfold goods pairs0
  rw [List.map_map]
  refine List.pairwise_map.mpr (List.nodup_range.imp fun {a b} h e => h ?_)
  exact Int.ofNat_inj.mp e
theorem row0_goods (W : List Nat) (n : Nat) : (goods (row0 W n)).Nodup := ((row0_perm W n).map (·.2)).nodup_iff.mpr (pairs0_nodup W n)
theorem serveRow_goods (W T : List Nat) : ∀ i, (goods (serveRow W T i)).Nodup := by
  intro i
  induction i with
  | zero => exact row0_goods W _
  | succ i ih => exact (serveTurn_goods _ _ _).nodup_iff.mpr ih
theorem sortedL_unique {a b : PL} (h : a.Perm b) (ha : SortedL a) (hb : SortedL b) : a = b := by
  refine h.eq_of_pairwise (le := fun p q => pltB p q = true) ?_ ha hb
  intro p q _ _ h1 h2
  have := plt_trans h1 h2
  rw [pltB_irr] at this
  exact absurd this (by decide)
theorem sorted_row0 {W : List Nat} {a : PL} (h : a.Perm (pairs0 W W.length)) (hs : SortedL a) : a = row0 W W.length :=
  sortedL_unique (h.trans (row0_perm W _).symm) hs (row0_spec W _).1

end
section
section
variable {prog : Program} {w : World} {A : Around} {E : Value → Shared → Prop} {s : Shared} {h₀ : Heap} {L : Addr} {news : List (Addr × Obj)}
theorem tup_item0 {a : Addr} {x y : Int} {t u z : Tok} {n : Nat} {value slice : PySem.Expr} {Q : Value → Shared → Prop} (N : News h₀ L s.heap news) (hm : (a, tupOf [.int x t, .int y u] n) ∈ news) (h : Q (.int x t) s)
    (hs : subscripted slice false (.ref a) (.int 0 z) = operate [.ref a, .int 0 z] (getItem (.ref a) (.int 0 z)) := by with_unfolding_all rfl) :
    wpAny (model prog w) A (subscriptTail value slice (.ref a) (.int 0 z)) Q E s := by
  have ht : IsTup s.heap a #[.int x t, .int y u] := ⟨_, (N _ hm).1, rfl, n, rfl⟩
  exact tail_any ht.typeIs slot_tuple_getitem.lookup (getItem_tuple ht (by decide) (by decide) (j := 0) (by rfl) (by rfl) h) hs
end
theorem filter_succ {α : Type} (q : α → Bool) (l : List α) {j : Nat} (hj : j < l.length) : (l.take (j + 1)).filter q = (l.take j).filter q ++ (if q l[j] = true then [l[j]] else []) := by
  rw [List.take_succ_eq_append_getElem hj, List.filter_append]
  congr 1
  cases e : q l[j] <;> simp [e]
theorem DatAll.fkeep {α : Type} {f : α → Dat} {news : List (Addr × Obj)} {ys : List Value} {v : Value} {q : α → Bool} {l : List α} {j : Nat} (h : DatAll news ys (((l.take j).filter q).map f)) (hj : j < l.length) (hq : q l[j] = true) (hd : DatIn news v (f l[j])) :
    DatAll news (ys ++ [v]) (((l.take (j + 1)).filter q).map f) := by
  rw [filter_succ q l hj, if_pos hq, List.map_append]
  exact h.append (.cons hd .nil)
theorem DatAll.fskip {α : Type} {f : α → Dat} {news : List (Addr × Obj)} {ys : List Value} {q : α → Bool} {l : List α} {j : Nat} (h : DatAll news ys (((l.take j).filter q).map f)) (hj : j < l.length) (hq : q l[j] = false) :
    DatAll news ys (((l.take (j + 1)).filter q).map f) := by
  rw [filter_succ q l hj, if_neg (by simp [hq]), List.append_nil]
  exact h
theorem pdat_inj {p q : Int × Int} (h : pdat p = pdat q) : p = q := by
  obtain ⟨a, b⟩ := p
  obtain ⟨c, d⟩ := q
  simp only [pdat, Dat.tuple.injEq, List.cons.injEq, Dat.int.injEq, and_true] at h
  rw [h.1, h.2]
theorem pdat_ok (p : Int × Int) : kqdOk 8 (pdat p) = true := by rfl
section
variable {prog : Program} {w : World} {A : Around} {E : Value → Shared → Prop} {s : Shared} {h₀ : Heap} {L : Addr} {news n₁ n₂ : List (Addr × Obj)}
open Classical in
theorem notIn_pairs {a : Addr} {ys : List Value} {k : Nat} {ts : PL} {v : Value} {q : Int × Int} {Q : Value → Shared → Prop} (N : News h₀ L s.heap news) (hm : (a, listOf ys.toArray k) ∈ news) (hD : DatAll n₁ ys (ts.map pdat)) (sa : ∀ p ∈ n₁, p ∈ news)
    (hd : DatIn n₂ v (pdat q)) (sx : ∀ p ∈ n₂, p ∈ news) (hu : A.units + 64 < cLine) (h : Q (.bool (!ts.contains q)) s) : wpAny (model prog w) A (compareOp .NotIn v (.ref a)) Q E s := by
  refine kqd_notIn N hm rfl rfl hD sa hd sx (fun d hd => ?_) (pdat_ok q) hu ?_
  · obtain ⟨p, _, rfl⟩ := List.mem_map.mp hd
    exact pdat_ok p
  · have e : decide (pdat q ∈ ts.map pdat) = ts.contains q := by
      rw [Bool.eq_iff_iff, decide_eq_true_eq, List.contains_iff_mem]
      refine ⟨fun hm => ?_, fun hm => List.mem_map.mpr ⟨q, hm, rfl⟩⟩
      obtain ⟨p, hp, e⟩ := List.mem_map.mp hm
      rw [← pdat_inj e]; exact hp
    rw [e]; exact h
end
theorem isOv_up {xs : List Str} {m₀ m : Str → Option Value} {x : Str} {v : Option Value} (h : IsOv xs m₀ m) (hx : xs.contains x = true) (hv : m x = v) : m = up (ov xs m m₀) x v := by
  obtain ⟨u, rfl⟩ := h
  funext y
  simp only [up]
  by_cases e : y = x
  · rw [if_pos e, e, hv]
  · rw [if_neg e]
    simp only [ov]
    split <;> rfl

end

local macro_rules | `(tactic| walk_at $k:str) => tabl [("CompEnd", "ST"), ("CompSrc", "ST"), ("CompSrcT", "ST"), ("SrcLP", "ST"), ("eval ListComp", "ST"), ("exec Assign cons ListComp", "ST")] k
section
section
noncomputable abbrev NC (L a : Nat) : Prop := a ≠ L + 1 + 1 + 1 + 1 ∧ a ≠ L + 1 + 1 + 1 ∧ a ≠ L + 1 + 1
theorem NC.gt {L a : Nat} (h : L + 1 + 1 + 1 + 1 < a) : NC L a := by refine ⟨?_, ?_, ?_⟩ <;> omega
theorem NC.lt {L a : Nat} (h : a < L) : NC L a := by refine ⟨?_, ?_, ?_⟩ <;> omega
local macro_rules | `(tactic| walk_at $k:str) => tabl [("compareOp NotIn ref", "ST"), ("compareOp NotIn", "ST"), ("binaryOp Mod int int", "ST"), ("newList", "ST"), ("newTuple", "ST"), ("call builtin:len", "LN"), ("subscriptTail", "SB"), ("call builtin:max", "ST"), ("subscriptTail Name Slice ref ref", "ST"), ("call builtin:chr", "ST"), ("call type:str", "ST"), ("call builtin:sorted", "ST"), ("call builtin:list.insert", "ST")] k
theorem c_plain (w : World) (news : List (Addr × Obj)) (wl tl : Addr) (wvs tvs : List Value) (wn tn : Nat) (W T : List Nat) (hw : (wl, listOf wvs.toArray wn) ∈ news) (ht : (tl, listOf tvs.toArray tn) ∈ news)
   (hW : IntsAre wvs (nats W)) (hT : IntsAre tvs (nats T)) (hWl : W.length ≤ 4) (hTl : T.length ≤ 4) :
   Con w 8 100 (call (.ref 284) [.ref wl, .ref tl]) news (fun r news' => ∃ r0 row pl vs n pvs pn, r = .ref r0 ∧ (∀ p ∈ news, p ∈ news') ∧ (r0, tupOf [.ref row, .ref pl] 0) ∈ news' ∧ (row, listOf vs.toArray n) ∈ news' ∧
     (pl, listOf pvs.toArray pn) ∈ news' ∧ DatAll news' vs ((serveRow W T T.length).map pdat) ∧ DatAll news' pvs ((servePairs W T T.length).map hdat)) := by
  intro p loose mean mg mb dp un gd cn cs a ccd cl outer A₀ base h₀ L m s Q E B F X N T' hkf hdd hu ret
  have hWv : wvs.length = W.length := by rw [hW.length]; simp
  have hTv : tvs.length = T.length := by rw [hT.length]; simp
  refine wpAny_call ?_
  refine' code_defC ?k1 ?k2 ?k3 ?k4 ?k5 ?kA ?kF ?kK ?k6 ?k7 ?k8 ?k9 ?kB ?kD ?_ ?c2 ?c3 ?c4
  case kA => exact rfl
  case kF => exact rfl
  case kK => assumption
  case k1 => k_asm
  case k2 => k_asm
  case k3 => k_asm
  case k4 => k_asm
  case k5 => k_asm
  case k6 => k_is
  case k7 => k_is
  case k8 => first | k_room | ktr_room
  case k9 => exact BindsTo.of_eq rfl
  case kB => exact rfl
  case kD => decide +kernel
  case c2 => exact rfl
  case c3 => exact rfl
  case c4 => exact rfl
  k_whole
  intro g' L' h' tk' cells' FG' F' N' Y' B' X' T2 l1
  obtain ⟨oW, oA, oU, oS, hE, d1, d2, d3, d4⟩ := PyProof.Rows.CellsAre.four Y'
  subst hE
  clear Y'
  replace F' : Fr g' L' h' (fun y => if y = Str.ofString "takes" then some (.ref tl) else none) := by with_unfolding_all exact F'
  replace d1 : oW.data = .cell none := by with_unfolding_all exact d1
  replace d2 : oA.data = .cell none := by with_unfolding_all exact d2
  replace d3 : oU.data = .cell none := by with_unfolding_all exact d3
  replace d4 : oS.data = .cell (some (.ref wl)) := by with_unfolding_all exact d4
  simp only [List.cons_append, List.nil_append] at N'
  try dsimp only
  try k_lift B'
  try k_fold
  (k_steps; repeat' ((unfold Stop; first | (first | (lct_look; k_dflt (refine LCt.ListComp_T (F₀ := by k_asm) (by with_unfolding_all rfl) (by decide) (by rfl) (by decide) (by rfl) ?_)) | (k_dflt (refine LCg.ListComp_U (F₀ := by k_asm) (by with_unfolding_all rfl) (by decide) (by rfl) (by decide) (by rfl) ?_))) | (first | (lct_look; k_dflt (refine LCt.Assign_ListComp_T (F₀ := by k_asm) (by rfl) (by with_unfolding_all rfl) (by with_unfolding_all rfl) (by decide) (by rfl) (by decide) (by rfl) (by rfl) (by rfl) ?_)) | (k_dflt (refine LCg.Assign_ListComp_U (F₀ := by k_asm) (by rfl) (by with_unfolding_all rfl) (by with_unfolding_all rfl) (by decide) (by rfl) (by decide) (by rfl) (by rfl) (by rfl) ?_))) | (first | (refine mod2_even (by assumption) ?_) | (refine mod2_odd (by assumption) ?_))); k_steps))
  unfold Stop
  refine LCg.CompSrc.range (n := W.length) (by rfl) (by k_asm) (by k_asm) (by assumption) (small_one (by omega) (by omega) (by omega) (by omega)) (rangeSize_nat _ _) (by rw [PySem.sizeLine_eq]; omega) ?_
  intro g1
  refine rest_U (fun i ys nw => ∃ r, nw = (L' + 1 + 1 + 1 + 1, oW) :: (L' + 1 + 1 + 1, oA) :: (L' + 1 + 1, oU) :: (L' + 1, oS) :: r ∧ (∀ p ∈ news, p ∈ r) ∧ (∀ p ∈ r, NC L' p.1) ∧ DatAll r ys ((pairs0 W i).map pdat)) ⟨news, rfl, fun p hp => hp, fun p hp => NC.lt (l1 p hp), .nil⟩ ?turn ?fin
  case turn =>
    rintro i v I oI C oC D m₂ ys _ h tk E' ⟨t, rfl⟩ hi ⟨r, rfl, hs, hr, hD⟩ hC hx F1 N1 off ne
    have hw1 := hs _ hw
    have ez : (0 : Int) + (i : Int) = (i : Int) := by omega
    rw [ez] at hx
    have off3 := off.mem
    (k_steps; repeat' ((unfold Stop; first | (first | (lct_look; k_dflt (refine LCt.ListComp_T (F₀ := by k_asm) (by with_unfolding_all rfl) (by decide) (by rfl) (by decide) (by rfl) ?_)) | (k_dflt (refine LCg.ListComp_U (F₀ := by k_asm) (by with_unfolding_all rfl) (by decide) (by rfl) (by decide) (by rfl) ?_))) | (first | (lct_look; k_dflt (refine LCt.Assign_ListComp_T (F₀ := by k_asm) (by rfl) (by with_unfolding_all rfl) (by with_unfolding_all rfl) (by decide) (by rfl) (by decide) (by rfl) (by rfl) (by rfl) ?_)) | (k_dflt (refine LCg.Assign_ListComp_U (F₀ := by k_asm) (by rfl) (by with_unfolding_all rfl) (by with_unfolding_all rfl) (by decide) (by rfl) (by decide) (by rfl) (by rfl) (by rfl) ?_))) | (first | (refine mod2_even (by assumption) ?_) | (refine mod2_odd (by assumption) ?_))); k_steps))
    unfold Stop
    k_dflt (refine int_item (by k_asm) (by k_mem) hW (i := i) hi (by omega) ?_ (by with_unfolding_all rfl))
    intro tw
    (k_steps; repeat' ((unfold Stop; first | (first | (lct_look; k_dflt (refine LCt.ListComp_T (F₀ := by k_asm) (by with_unfolding_all rfl) (by decide) (by rfl) (by decide) (by rfl) ?_)) | (k_dflt (refine LCg.ListComp_U (F₀ := by k_asm) (by with_unfolding_all rfl) (by decide) (by rfl) (by decide) (by rfl) ?_))) | (first | (lct_look; k_dflt (refine LCt.Assign_ListComp_T (F₀ := by k_asm) (by rfl) (by with_unfolding_all rfl) (by with_unfolding_all rfl) (by decide) (by rfl) (by decide) (by rfl) (by rfl) (by rfl) ?_)) | (k_dflt (refine LCg.Assign_ListComp_U (F₀ := by k_asm) (by rfl) (by with_unfolding_all rfl) (by with_unfolding_all rfl) (by decide) (by rfl) (by decide) (by rfl) (by rfl) (by rfl) ?_))) | (first | (refine mod2_even (by assumption) ?_) | (refine mod2_odd (by assumption) ?_))); k_steps))
    unfold Stop
    refine kup_newTuple (by k_asm) (by k_asm) ?_ (by kmk_size)
    intro a1 h2 F2 N2 l2
    (k_steps; repeat' ((unfold Stop; first | (first | (lct_look; k_dflt (refine LCt.ListComp_T (F₀ := by k_asm) (by with_unfolding_all rfl) (by decide) (by rfl) (by decide) (by rfl) ?_)) | (k_dflt (refine LCg.ListComp_U (F₀ := by k_asm) (by with_unfolding_all rfl) (by decide) (by rfl) (by decide) (by rfl) ?_))) | (first | (lct_look; k_dflt (refine LCt.Assign_ListComp_T (F₀ := by k_asm) (by rfl) (by with_unfolding_all rfl) (by with_unfolding_all rfl) (by decide) (by rfl) (by decide) (by rfl) (by rfl) (by rfl) ?_)) | (k_dflt (refine LCg.Assign_ListComp_U (F₀ := by k_asm) (by rfl) (by with_unfolding_all rfl) (by with_unfolding_all rfl) (by decide) (by rfl) (by decide) (by rfl) (by rfl) (by rfl) ?_))) | (first | (refine mod2_even (by assumption) ?_) | (refine mod2_odd (by assumption) ?_))); k_steps))
    unfold Stop
    have hI : I < a1 := l2 (I, _) (.head _)
    have hCC : C < a1 := l2 (C, _) (.tail _ (.head _))
    have hDD : D < a1 := l2 (D, _) (.tail _ (.tail _ (.head _)))
    have hLL : L' + 1 + 1 + 1 + 1 < a1 := l2 (L' + 1 + 1 + 1 + 1, _) (.tail _ (.tail _ (.tail _ (.head _))))
    refine LCg.CompEnd.intro (by k_asm) (by k_asm) ((L' + 1 + 1 + 1 + 1, oW) :: (L' + 1 + 1 + 1, oA) :: (L' + 1 + 1, oU) :: (L' + 1, oS) :: (a1, tupOf [.int ((W[i] : Nat) : Int) tw, .int (i : Int) t] 0) :: r) ?_ (LCg.Off3.of ?_) trivial ⟨_, rfl, fun p hp => .tail _ (hs p hp), ?_, ?_⟩
    · exact List.forall_mem_cons.mpr ⟨.tail _ (.head _), List.forall_mem_cons.mpr ⟨.tail _ (.tail _ (.head _)), List.forall_mem_cons.mpr ⟨.tail _ (.tail _ (.tail _ (.head _))), List.forall_mem_cons.mpr ⟨.tail _ (.tail _ (.tail _ (.tail _ (.head _)))), List.forall_mem_cons.mpr ⟨.tail _ (.tail _ (.tail _ (.tail _ (.tail _ (.head _))))), List.forall_mem_cons.mpr ⟨.tail _ (.tail _ (.tail _ (.tail _ (.tail _ (.tail _ (.head _)))))), List.forall_mem_cons.mpr ⟨.tail _ (.tail _ (.tail _ (.tail _ (.tail _ (.tail _ (.tail _ (.head _))))))), List.forall_mem_cons.mpr ⟨.head _, fun p hp => .tail _ (.tail _ (.tail _ (.tail _ (.tail _ (.tail _ (.tail _ (.tail _ hp)))))))⟩⟩⟩⟩⟩⟩⟩⟩
    · exact List.forall_mem_cons.mpr ⟨off3 _ (.head _), List.forall_mem_cons.mpr ⟨off3 _ (.tail _ (.head _)), List.forall_mem_cons.mpr ⟨off3 _ (.tail _ (.tail _ (.head _))), List.forall_mem_cons.mpr ⟨off3 _ (.tail _ (.tail _ (.tail _ (.head _)))), List.forall_mem_cons.mpr ⟨⟨Nat.ne_of_gt hI, Nat.ne_of_gt hCC, Nat.ne_of_gt hDD⟩, fun p hp => off3 p (.tail _ (.tail _ (.tail _ (.tail _ hp))))⟩⟩⟩⟩⟩
    · exact List.forall_mem_cons.mpr ⟨NC.gt hLL, hr⟩
    · have e : pairs0 W (i + 1) = pairs0 W i ++ [(((W[i] : Nat) : Int), (i : Int))] := by
        unfold pairs0
        rw [List.range_succ, List.map_append]
        simp [List.getD_eq_getElem?_getD, hi]
      rw [e, List.map_append]
      exact (hD.mono fun p hp => .tail _ hp).append (.cons (.tuple (.head _) (.cons (.int _ _) (.cons (.int _ _) .nil))) .nil)
  case fin =>
    rintro ys _ ⟨r, rfl, hs, hr, hD⟩ D h tk F1 N1 o1
    (k_steps; repeat' ((unfold Stop; first | (first | (lct_look; k_dflt (refine LCt.ListComp_T (F₀ := by k_asm) (by with_unfolding_all rfl) (by decide) (by rfl) (by decide) (by rfl) ?_)) | (k_dflt (refine LCg.ListComp_U (F₀ := by k_asm) (by with_unfolding_all rfl) (by decide) (by rfl) (by decide) (by rfl) ?_))) | (first | (lct_look; k_dflt (refine LCt.Assign_ListComp_T (F₀ := by k_asm) (by rfl) (by with_unfolding_all rfl) (by with_unfolding_all rfl) (by decide) (by rfl) (by decide) (by rfl) (by rfl) (by rfl) ?_)) | (k_dflt (refine LCg.Assign_ListComp_U (F₀ := by k_asm) (by rfl) (by with_unfolding_all rfl) (by with_unfolding_all rfl) (by decide) (by rfl) (by decide) (by rfl) (by rfl) (by rfl) ?_))) | (first | (refine mod2_even (by assumption) ?_) | (refine mod2_odd (by assumption) ?_))); k_steps))
    unfold Stop
    refine sort_pairs (nd := r) (ps := pairs0 W W.length) (by k_asm) (by k_asm) (.head _) (fun p hp => .tail _ (.tail _ (.tail _ (.tail _ (.tail _ hp))))) hD (nodup_of_goods (pairs0_nodup W _)) (by simpa using hWl) ?_
    intro row vs ps c h1 F2 N2 l2 hD2 hp hso
    obtain rfl := sorted_row0 hp hso
    have hrow : L' + 1 + 1 + 1 + 1 < row := l2 (L' + 1 + 1 + 1 + 1, _) (.tail _ (.head _))
    have off1 := off1_mem o1
    have hDr : NC L' D := ⟨Ne.symm (off1 _ (.head _)), Ne.symm (off1 _ (.tail _ (.head _))), Ne.symm (off1 _ (.tail _ (.tail _ (.head _))))⟩
    have ht1 := hs _ ht
    (k_steps; repeat' ((unfold Stop; first | (first | (lct_look; k_dflt (refine LCt.ListComp_T (F₀ := by k_asm) (by with_unfolding_all rfl) (by decide) (by rfl) (by decide) (by rfl) ?_)) | (k_dflt (refine LCg.ListComp_U (F₀ := by k_asm) (by with_unfolding_all rfl) (by decide) (by rfl) (by decide) (by rfl) ?_))) | (first | (lct_look; k_dflt (refine LCt.Assign_ListComp_T (F₀ := by k_asm) (by rfl) (by with_unfolding_all rfl) (by with_unfolding_all rfl) (by decide) (by rfl) (by decide) (by rfl) (by rfl) (by rfl) ?_)) | (k_dflt (refine LCg.Assign_ListComp_U (F₀ := by k_asm) (by rfl) (by with_unfolding_all rfl) (by with_unfolding_all rfl) (by decide) (by rfl) (by decide) (by rfl) (by rfl) (by rfl) ?_))) | (first | (refine mod2_even (by assumption) ?_) | (refine mod2_odd (by assumption) ?_))); k_steps))
    unfold Stop
    refine newList_K (by k_asm) (by k_asm) ?_
    intro pl h2 F3 N3 l3
    have hpl : row < pl := l3 (row, _) (.head _)
    (k_steps; repeat' ((unfold Stop; first | (first | (lct_look; k_dflt (refine LCt.ListComp_T (F₀ := by k_asm) (by with_unfolding_all rfl) (by decide) (by rfl) (by decide) (by rfl) ?_)) | (k_dflt (refine LCg.ListComp_U (F₀ := by k_asm) (by with_unfolding_all rfl) (by decide) (by rfl) (by decide) (by rfl) ?_))) | (first | (lct_look; k_dflt (refine LCt.Assign_ListComp_T (F₀ := by k_asm) (by rfl) (by with_unfolding_all rfl) (by with_unfolding_all rfl) (by decide) (by rfl) (by decide) (by rfl) (by rfl) (by rfl) ?_)) | (k_dflt (refine LCg.Assign_ListComp_U (F₀ := by k_asm) (by rfl) (by with_unfolding_all rfl) (by with_unfolding_all rfl) (by decide) (by rfl) (by decide) (by rfl) (by rfl) (by rfl) ?_))) | (first | (refine mod2_even (by assumption) ?_) | (refine mod2_odd (by assumption) ?_))); k_steps))
    unfold Stop
    have hr3 : ∀ p ∈ (row, listOf vs.toArray c) :: (D, LCg.lst ys) :: r, NC L' p.1 := List.forall_mem_cons.mpr ⟨NC.gt hrow, List.forall_mem_cons.mpr ⟨hDr, hr⟩⟩
    have hN : News g' L' _ ((L' + 1 + 1 + 1 + 1, oW) :: (L' + 1 + 1 + 1, oA) :: (L' + 1 + 1, oU) :: (L' + 1, oS) :: (pl, listOf (List.toArray []) 0) :: (row, listOf vs.toArray c) :: (D, LCg.lst ys) :: r) :=
      nsub ‹News g' L' _ ((pl, listOf #[] 0) :: _)› (List.forall_mem_cons.mpr ⟨.tail _ (.tail _ (.tail _ (.head _))), List.forall_mem_cons.mpr ⟨.tail _ (.tail _ (.tail _ (.tail _ (.head _)))), List.forall_mem_cons.mpr ⟨.tail _ (.tail _ (.tail _ (.tail _ (.tail _ (.head _))))), List.forall_mem_cons.mpr ⟨.tail _ (.tail _ (.tail _ (.tail _ (.tail _ (.tail _ (.head _)))))), List.forall_mem_cons.mpr ⟨.head _, List.forall_mem_cons.mpr ⟨.tail _ (.head _), List.forall_mem_cons.mpr ⟨.tail _ (.tail _ (.head _)), fun p hp => .tail _ (.tail _ (.tail _ (.tail _ (.tail _ (.tail _ (.tail _ hp))))))⟩⟩⟩⟩⟩⟩⟩)
    refine for_rangeM (fun m₀ i m' n' => ∃ u row vs n pvs pn oW oA oU r vW vA vU, m' = up (ov ["row", "wanted", "good", "ahead"] u m₀) "row" (some (.ref row)) ∧
        n' = (L' + 1 + 1 + 1 + 1, oW) :: (L' + 1 + 1 + 1, oA) :: (L' + 1 + 1, oU) :: (L' + 1, oS) :: (pl, listOf pvs.toArray pn) :: r ∧ oW.data = .cell vW ∧ oA.data = .cell vA ∧ oU.data = .cell vU ∧
        (∀ p ∈ news, p ∈ r) ∧ (row, listOf vs.toArray n) ∈ r ∧ (∀ p ∈ r, NC L' p.1) ∧ (∀ p ∈ r, p.1 ≠ pl) ∧
        DatAll r vs ((serveRow W T i).map pdat) ∧ DatAll r pvs ((servePairs W T i).map hdat) ∧ pvs.length ≤ 4 * i)
      rfl ‹IsRange _ _ _ _ _ _ _ _› (by omega) (by k_asm) hN ?h1 ?turn1 ?done1
    case h1 =>
      refine ⟨_, row, vs, c, [], 0, oW, oA, oU, _, none, none, none, isOv_up (IsOv.refl _ _) rfl rfl, rfl, d1, d2, d3, fun p hp => .tail _ (.tail _ (hs p hp)), .head _, hr3, ?_, hD2.mono fun p hp => .tail _ (.tail _ hp), .nil, Nat.zero_le _⟩
      exact List.forall_mem_cons.mpr ⟨Nat.ne_of_lt hpl, List.forall_mem_cons.mpr ⟨Nat.ne_of_lt (l3 (D, _) (.tail _ (.head _))), fun p hp => Nat.ne_of_lt (l3 p (.tail _ (.tail _ (.tail _ (.tail _ (.tail _ (.tail _ hp)))))))⟩⟩
    case turn1 =>
      rintro I i t m1 n1 h3 tk3 it hi ⟨u, row, vs, n, pvs, pn, oW, oA, oU, r, vW, vA, vU, rfl, rfl, dW, dA, dU, hs, hrw, hr, hrp, hD, hH, hHl⟩ off F4 N4
      have hr1 : ∀ p ∈ r, p.1 ≠ L' + 1 + 1 + 1 + 1 := fun p hp => (hr p hp).1
      have hr2 : ∀ p ∈ r, p.1 ≠ L' + 1 + 1 + 1 := fun p hp => (hr p hp).2.1
      have hr3 : ∀ p ∈ r, p.1 ≠ L' + 1 + 1 := fun p hp => (hr p hp).2.2
      have hI1 : @Ne Nat (L' + 1 + 1 + 1 + 1) I := off _ (.head _)
      have hI2 : @Ne Nat (L' + 1 + 1 + 1) I := off _ (.tail _ (.head _))
      have hI3 : @Ne Nat (L' + 1 + 1) I := off _ (.tail _ (.tail _ (.head _)))
      have hIp : @Ne Nat pl I := off _ (.tail _ (.tail _ (.tail _ (.tail _ (.head _)))))
      have hplc : @LT.lt Nat _ (L' + 1 + 1 + 1 + 1) pl := Nat.lt_trans hrow hpl
      (k_steps; repeat' ((unfold Stop; first | (first | (lct_look; k_dflt (refine LCt.ListComp_T (F₀ := by k_asm) (by with_unfolding_all rfl) (by decide) (by rfl) (by decide) (by rfl) ?_)) | (k_dflt (refine LCg.ListComp_U (F₀ := by k_asm) (by with_unfolding_all rfl) (by decide) (by rfl) (by decide) (by rfl) ?_))) | (first | (lct_look; k_dflt (refine LCt.Assign_ListComp_T (F₀ := by k_asm) (by rfl) (by with_unfolding_all rfl) (by with_unfolding_all rfl) (by decide) (by rfl) (by decide) (by rfl) (by rfl) (by rfl) ?_)) | (k_dflt (refine LCg.Assign_ListComp_U (F₀ := by k_asm) (by rfl) (by with_unfolding_all rfl) (by with_unfolding_all rfl) (by decide) (by rfl) (by decide) (by rfl) (by rfl) (by rfl) ?_))) | (first | (refine mod2_even (by assumption) ?_) | (refine mod2_odd (by assumption) ?_))); k_steps))
      rename_i h4 oU' F5 N5 dU'
      unfold Stop
      have hok := serveRow_ok W T i
      have hgd := serveRow_goods W T i
      have hvl : vs.length = W.length := by rw [DatAll.len2 hD, hok.len]
      refine LCt.CompSrcT.ledger (its := vs.toArray) (k := n) (by rfl) (by k_asm) (by k_asm) (by k_mem) (by rw [PySem.sizeLine_eq, List.size_toArray]; omega) ?_
      intro g2
      refine rest_T (fun j ys nw => nw = (I, it) :: (L' + 1 + 1 + 1 + 1, oW) :: (L' + 1 + 1 + 1, oA) :: (L' + 1 + 1, oU') :: (L' + 1, oS) :: (pl, listOf pvs.toArray pn) :: r ∧ DatAll r ys ((((serveRow W T i).take j).filter (fun p => decide (0 < p.1))).map pdat)) ⟨rfl, .nil⟩ ?turn2 ?fin2
      case turn2 =>
        rintro j v I2 oI C oC D m₂ ys _ h tk E' hv hj ⟨rfl, hD2⟩ hC hx F6 N6 off6 ne
        obtain ⟨hj2, hdv⟩ := DatAll.at hD (j := j) (v := v) (by simpa using hv)
        obtain ⟨av, t1, t2, na, rfl, hav⟩ := datIn_pair hdv
        (k_steps; repeat' ((unfold Stop; first | (first | (lct_look; k_dflt (refine LCt.ListComp_T (F₀ := by k_asm) (by with_unfolding_all rfl) (by decide) (by rfl) (by decide) (by rfl) ?_)) | (k_dflt (refine LCg.ListComp_U (F₀ := by k_asm) (by with_unfolding_all rfl) (by decide) (by rfl) (by decide) (by rfl) ?_))) | (first | (lct_look; k_dflt (refine LCt.Assign_ListComp_T (F₀ := by k_asm) (by rfl) (by with_unfolding_all rfl) (by with_unfolding_all rfl) (by decide) (by rfl) (by decide) (by rfl) (by rfl) (by rfl) ?_)) | (k_dflt (refine LCg.Assign_ListComp_U (F₀ := by k_asm) (by rfl) (by with_unfolding_all rfl) (by with_unfolding_all rfl) (by decide) (by rfl) (by decide) (by rfl) (by rfl) (by rfl) ?_))) | (first | (refine mod2_even (by assumption) ?_) | (refine mod2_odd (by assumption) ?_))); k_steps))
        unfold Stop
        k_dflt (refine tup_item0 (by k_asm) (by k_mem) ?_ (by with_unfolding_all rfl))
        (k_steps; repeat' ((unfold Stop; first | (first | (lct_look; k_dflt (refine LCt.ListComp_T (F₀ := by k_asm) (by with_unfolding_all rfl) (by decide) (by rfl) (by decide) (by rfl) ?_)) | (k_dflt (refine LCg.ListComp_U (F₀ := by k_asm) (by with_unfolding_all rfl) (by decide) (by rfl) (by decide) (by rfl) ?_))) | (first | (lct_look; k_dflt (refine LCt.Assign_ListComp_T (F₀ := by k_asm) (by rfl) (by with_unfolding_all rfl) (by with_unfolding_all rfl) (by decide) (by rfl) (by decide) (by rfl) (by rfl) (by rfl) ?_)) | (k_dflt (refine LCg.Assign_ListComp_U (F₀ := by k_asm) (by rfl) (by with_unfolding_all rfl) (by with_unfolding_all rfl) (by decide) (by rfl) (by decide) (by rfl) (by rfl) (by rfl) ?_))) | (first | (refine mod2_even (by assumption) ?_) | (refine mod2_odd (by assumption) ?_))); k_steps))
        · rename_i hq
          unfold Stop
          exact LCg.CompEnd.intro (by k_asm) (by k_asm) _ (fun p hp => hp) off6 (.inr ⟨_, by k_mem, rfl, _, rfl⟩) ⟨rfl, DatAll.fkeep hD2 hj2 (by simpa using hq) hdv⟩
        · rename_i hq
          unfold Stop
          exact LCg.CompEnd.intro (by k_asm) (by k_asm) _ (fun p hp => hp) off6 (.inr ⟨_, by k_mem, rfl, _, rfl⟩) ⟨rfl, DatAll.fskip hD2 hj2 (by simpa using hq)⟩
      case fin2 =>
        rintro ys _ ⟨rfl, hD2⟩ D h tk F6 N6 o6
        have hvs : vs.toArray.size = (serveRow W T i).length := by rw [List.size_toArray, hvl, hok.len]
        rw [hvs, List.take_length, mono_filter (hok.sorted.mono_lt 0)] at hD2
        have hcl := cnt_le (fun p : Int × Int => decide (0 < p.1)) (serveRow W T i)
        rw [hok.len] at hcl
        have hyl : ys.length = W.length - cnt (fun p : Int × Int => decide (0 < p.1)) (serveRow W T i) := by rw [DatAll.len2 hD2, List.length_drop, hok.len]
        have o6' := off1_mem o6
        have hD1 : @Ne Nat (L' + 1 + 1 + 1 + 1) D := o6' _ (.tail _ (.head _))
        have hD3 : @Ne Nat (L' + 1 + 1 + 1) D := o6' _ (.tail _ (.tail _ (.head _)))
        have hD4 : @Ne Nat (L' + 1 + 1) D := o6' _ (.tail _ (.tail _ (.tail _ (.head _))))
        have hD5 : @Ne Nat pl D := o6' _ (.tail _ (.tail _ (.tail _ (.tail _ (.tail _ (.head _))))))
        have hD6 : @Ne Nat I D := o6' _ (.head _)
        have ht1 := hs _ ht
        (k_steps; repeat' ((unfold Stop; first | (first | (lct_look; k_dflt (refine LCt.ListComp_T (F₀ := by k_asm) (by with_unfolding_all rfl) (by decide) (by rfl) (by decide) (by rfl) ?_)) | (k_dflt (refine LCg.ListComp_U (F₀ := by k_asm) (by with_unfolding_all rfl) (by decide) (by rfl) (by decide) (by rfl) ?_))) | (first | (lct_look; k_dflt (refine LCt.Assign_ListComp_T (F₀ := by k_asm) (by rfl) (by with_unfolding_all rfl) (by with_unfolding_all rfl) (by decide) (by rfl) (by decide) (by rfl) (by rfl) (by rfl) ?_)) | (k_dflt (refine LCg.Assign_ListComp_U (F₀ := by k_asm) (by rfl) (by with_unfolding_all rfl) (by with_unfolding_all rfl) (by decide) (by rfl) (by decide) (by rfl) (by rfl) (by rfl) ?_))) | (first | (refine mod2_even (by assumption) ?_) | (refine mod2_odd (by assumption) ?_))); k_steps))
        unfold Stop
        k_dflt (refine int_item (by k_asm) (by k_mem) hT (i := i) hi (by omega) ?_ (by with_unfolding_all rfl))
        intro tt
        (k_steps; repeat' ((unfold Stop; first | (first | (lct_look; k_dflt (refine LCt.ListComp_T (F₀ := by k_asm) (by with_unfolding_all rfl) (by decide) (by rfl) (by decide) (by rfl) ?_)) | (k_dflt (refine LCg.ListComp_U (F₀ := by k_asm) (by with_unfolding_all rfl) (by decide) (by rfl) (by decide) (by rfl) ?_))) | (first | (lct_look; k_dflt (refine LCt.Assign_ListComp_T (F₀ := by k_asm) (by rfl) (by with_unfolding_all rfl) (by with_unfolding_all rfl) (by decide) (by rfl) (by decide) (by rfl) (by rfl) (by rfl) ?_)) | (k_dflt (refine LCg.Assign_ListComp_U (F₀ := by k_asm) (by rfl) (by with_unfolding_all rfl) (by with_unfolding_all rfl) (by decide) (by rfl) (by decide) (by rfl) (by rfl) (by rfl) ?_))) | (first | (refine mod2_even (by assumption) ?_) | (refine mod2_odd (by assumption) ?_))); k_steps))
        unfold Stop
        refine max_cut (z := 0) (by rfl) (by k_asm) (by k_asm) ?_
        intro h5 tk5 tm F7 N7
        (k_steps; repeat' ((unfold Stop; first | (first | (lct_look; k_dflt (refine LCt.ListComp_T (F₀ := by k_asm) (by with_unfolding_all rfl) (by decide) (by rfl) (by decide) (by rfl) ?_)) | (k_dflt (refine LCg.ListComp_U (F₀ := by k_asm) (by with_unfolding_all rfl) (by decide) (by rfl) (by decide) (by rfl) ?_))) | (first | (lct_look; k_dflt (refine LCt.Assign_ListComp_T (F₀ := by k_asm) (by rfl) (by with_unfolding_all rfl) (by with_unfolding_all rfl) (by decide) (by rfl) (by decide) (by rfl) (by rfl) (by rfl) ?_)) | (k_dflt (refine LCg.Assign_ListComp_U (F₀ := by k_asm) (by rfl) (by with_unfolding_all rfl) (by with_unfolding_all rfl) (by decide) (by rfl) (by decide) (by rfl) (by rfl) (by rfl) ?_))) | (first | (refine mod2_even (by assumption) ?_) | (refine mod2_odd (by assumption) ?_))); k_steps))
        unfold Stop
        k_dflt (refine slice_from (vs := ys) (n := ys.length) (by k_asm) (by k_asm) (by k_mem) (by omega) ?_ (by with_unfolding_all rfl) (by kmk_pure))
        intro tkl h6 F8 N8 l8
        have htkl : @LT.lt Nat _ pl tkl := l8 (pl, _) (by k_mem)
        have htD : @LT.lt Nat _ D tkl := l8 (D, _) (by k_mem)
        have htI : @LT.lt Nat _ I tkl := l8 (I, _) (by k_mem)
        (k_steps; repeat' ((unfold Stop; first | (first | (lct_look; k_dflt (refine LCt.ListComp_T (F₀ := by k_asm) (by with_unfolding_all rfl) (by decide) (by rfl) (by decide) (by rfl) ?_)) | (k_dflt (refine LCg.ListComp_U (F₀ := by k_asm) (by with_unfolding_all rfl) (by decide) (by rfl) (by decide) (by rfl) ?_))) | (first | (lct_look; k_dflt (refine LCt.Assign_ListComp_T (F₀ := by k_asm) (by rfl) (by with_unfolding_all rfl) (by with_unfolding_all rfl) (by decide) (by rfl) (by decide) (by rfl) (by rfl) (by rfl) ?_)) | (k_dflt (refine LCg.Assign_ListComp_U (F₀ := by k_asm) (by rfl) (by with_unfolding_all rfl) (by with_unfolding_all rfl) (by decide) (by rfl) (by decide) (by rfl) (by rfl) (by rfl) ?_))) | (first | (refine mod2_even (by assumption) ?_) | (refine mod2_odd (by assumption) ?_))); k_steps))
        rename_i h7 oA' F9 N9 dA'
        obtain ⟨tv2, htv, hDT⟩ : ∃ l, ys.drop (max 0 (W.length - cnt (fun p : Int × Int => decide (0 < p.1)) (serveRow W T i) - T[i])) = l ∧ DatAll r l (((serveRow W T i).drop (takeCut (serveRow W T i) T[i])).map pdat) := by
          refine ⟨_, rfl, ?_⟩
          have := DatAll.drop (max 0 (W.length - cnt (fun p : Int × Int => decide (0 < p.1)) (serveRow W T i) - T[i])) hD2
          rw [← List.map_drop, List.drop_drop] at this
          have e : cnt (fun p : Int × Int => decide (0 < p.1)) (serveRow W T i) + max 0 (W.length - cnt (fun p : Int × Int => decide (0 < p.1)) (serveRow W T i) - T[i]) = takeCut (serveRow W T i) T[i] := by
            unfold takeCut; rw [hok.len]; omega
          rw [e] at this
          exact this
        rw [htv] at N9
        unfold Stop
        refine LCt.CompSrcT.ledger (its := vs.toArray) (k := n) (by rfl) (by k_asm) (by k_asm) (by k_mem) (by rw [PySem.sizeLine_eq, List.size_toArray]; omega) ?_
        intro g3
        refine rest_T (fun j ys3 nw => nw = (tkl, listOf tv2.toArray 0) :: (D, LCg.lst ys) :: (I, it) :: (L' + 1 + 1 + 1 + 1, oW) :: (L' + 1 + 1 + 1, oA') :: (L' + 1 + 1, oU') :: (L' + 1, oS) :: (pl, listOf pvs.toArray pn) :: r ∧ DatAll r ys3 ((((serveRow W T i).take j).filter (fun p => !((serveRow W T i).drop (takeCut (serveRow W T i) T[i])).contains p)).map pdat)) ⟨rfl, .nil⟩ ?turn3 ?fin3
        case turn3 =>
          rintro j v I2 oI C oC D2 m₂ ys3 _ h tk E' hv hj ⟨rfl, hD3⟩ hC hx F10 N10 off6 ne
          obtain ⟨hj2, hdv⟩ := DatAll.at hD (j := j) (v := v) (by simpa using hv)
          (k_steps; repeat' ((unfold Stop; first | (first | (lct_look; k_dflt (refine LCt.ListComp_T (F₀ := by k_asm) (by with_unfolding_all rfl) (by decide) (by rfl) (by decide) (by rfl) ?_)) | (k_dflt (refine LCg.ListComp_U (F₀ := by k_asm) (by with_unfolding_all rfl) (by decide) (by rfl) (by decide) (by rfl) ?_))) | (first | (lct_look; k_dflt (refine LCt.Assign_ListComp_T (F₀ := by k_asm) (by rfl) (by with_unfolding_all rfl) (by with_unfolding_all rfl) (by decide) (by rfl) (by decide) (by rfl) (by rfl) (by rfl) ?_)) | (k_dflt (refine LCg.Assign_ListComp_U (F₀ := by k_asm) (by rfl) (by with_unfolding_all rfl) (by with_unfolding_all rfl) (by decide) (by rfl) (by decide) (by rfl) (by rfl) (by rfl) ?_))) | (first | (refine mod2_even (by assumption) ?_) | (refine mod2_odd (by assumption) ?_))); k_steps))
          unfold Stop
          refine notIn_pairs (by k_asm) (by k_mem) hDT (fun p hp => .tail _ (.tail _ (.tail _ (.tail _ (.tail _ (.tail _ (.tail _ (.tail _ (.tail _ (.tail _ (.tail _ hp))))))))))) hdv (fun p hp => .tail _ (.tail _ (.tail _ (.tail _ (.tail _ (.tail _ (.tail _ (.tail _ (.tail _ (.tail _ (.tail _ hp))))))))))) (by ((try simp only [units_in1, units_deeper, Around.mark_units, units_caller]); (try dsimp only [ktrTop]); omega)) ?_
          (k_steps; repeat' ((unfold Stop; first | (first | (lct_look; k_dflt (refine LCt.ListComp_T (F₀ := by k_asm) (by with_unfolding_all rfl) (by decide) (by rfl) (by decide) (by rfl) ?_)) | (k_dflt (refine LCg.ListComp_U (F₀ := by k_asm) (by with_unfolding_all rfl) (by decide) (by rfl) (by decide) (by rfl) ?_))) | (first | (lct_look; k_dflt (refine LCt.Assign_ListComp_T (F₀ := by k_asm) (by rfl) (by with_unfolding_all rfl) (by with_unfolding_all rfl) (by decide) (by rfl) (by decide) (by rfl) (by rfl) (by rfl) ?_)) | (k_dflt (refine LCg.Assign_ListComp_U (F₀ := by k_asm) (by rfl) (by with_unfolding_all rfl) (by with_unfolding_all rfl) (by decide) (by rfl) (by decide) (by rfl) (by rfl) (by rfl) ?_))) | (first | (refine mod2_even (by assumption) ?_) | (refine mod2_odd (by assumption) ?_))); k_steps))
          · rename_i hq
            unfold Stop
            exact LCg.CompEnd.intro (by k_asm) (by k_asm) _ (fun p hp => hp) off6 (.inr ⟨_, by k_mem, rfl, _, rfl⟩) ⟨rfl, DatAll.fskip hD3 hj2 (by simpa using hq)⟩
          · rename_i hq
            unfold Stop
            exact LCg.CompEnd.intro (by k_asm) (by k_asm) _ (fun p hp => hp) off6 (.inr ⟨_, by k_mem, rfl, _, rfl⟩) ⟨rfl, DatAll.fkeep hD3 hj2 (by simpa using hq) hdv⟩
        case fin3 =>
          rintro ys3 _ ⟨rfl, hD3⟩ D2 h tk F10 N10 o10
          have hvs : vs.toArray.size = (serveRow W T i).length := by rw [List.size_toArray, hvl, hok.len]
          rw [hvs, List.take_length, filter_take (nodup_of_goods hgd)] at hD3
          have o10' := off1_mem o10
          have hE0 : @Ne Nat (L' + 1) D2 := o10' (L' + 1, _) (by k_mem)
          have hE1 : @Ne Nat (L' + 1 + 1 + 1 + 1) D2 := o10' (L' + 1 + 1 + 1 + 1, _) (by k_mem)
          have hE2 : @Ne Nat (L' + 1 + 1 + 1) D2 := o10' (L' + 1 + 1 + 1, _) (by k_mem)
          have hE3 : @Ne Nat (L' + 1 + 1) D2 := o10' (L' + 1 + 1, _) (by k_mem)
          have hE4 : @Ne Nat pl D2 := o10' (pl, _) (by k_mem)
          have hE5 : @Ne Nat I D2 := o10' (I, _) (by k_mem)
          have hE6 : @Ne Nat tkl D2 := o10' (tkl, _) (by k_mem)
          have hE7 : @Ne Nat D D2 := o10' (D, _) (by k_mem)
          have hE8 : ∀ p ∈ r, p.1 ≠ D2 := fun p hp => o10' _ (.tail _ (.tail _ (.tail _ (.tail _ (.tail _ (.tail _ (.tail _ (.tail _ hp))))))))
          have hIr : ∀ p ∈ r, p.1 ≠ I := fun p hp => off _ (.tail _ (.tail _ (.tail _ (.tail _ (.tail _ hp)))))
          (k_steps; repeat' ((unfold Stop; first | (first | (lct_look; k_dflt (refine LCt.ListComp_T (F₀ := by k_asm) (by with_unfolding_all rfl) (by decide) (by rfl) (by decide) (by rfl) ?_)) | (k_dflt (refine LCg.ListComp_U (F₀ := by k_asm) (by with_unfolding_all rfl) (by decide) (by rfl) (by decide) (by rfl) ?_))) | (first | (lct_look; k_dflt (refine LCt.Assign_ListComp_T (F₀ := by k_asm) (by rfl) (by with_unfolding_all rfl) (by with_unfolding_all rfl) (by decide) (by rfl) (by decide) (by rfl) (by rfl) (by rfl) ?_)) | (k_dflt (refine LCg.Assign_ListComp_U (F₀ := by k_asm) (by rfl) (by with_unfolding_all rfl) (by with_unfolding_all rfl) (by decide) (by rfl) (by decide) (by rfl) (by rfl) (by rfl) ?_))) | (first | (refine mod2_even (by assumption) ?_) | (refine mod2_odd (by assumption) ?_))); k_steps))
          unfold Stop
          refine for_listM (vs := tv2) (n := 0) (fun m₀ j m' n' => ∃ vs3 n3 pvs3 pn3 oW3 vW3 rest3, IsOv ["good", "ahead"] m₀ m' ∧ n' = (L' + 1 + 1 + 1 + 1, oW3) :: (L' + 1 + 1 + 1, oA') :: (L' + 1 + 1, oU') :: (L' + 1, oS) :: (D2, listOf vs3.toArray n3) :: (pl, listOf pvs3.toArray pn3) :: (tkl, listOf tv2.toArray 0) :: (I, it) :: rest3 ∧ oW3.data = .cell vW3 ∧
              (∀ p ∈ rest3, NC L' p.1) ∧ (∀ p ∈ rest3, p.1 ≠ D2) ∧ (∀ p ∈ rest3, p.1 ≠ pl) ∧ (∀ p ∈ rest3, p.1 ≠ I) ∧ (∀ p ∈ r, p ∈ rest3) ∧
              DatAll rest3 vs3 ((serveIn (oddB i) (((serveRow W T i).drop (takeCut (serveRow W T i) T[i])).take j) ((serveRow W T i).take (takeCut (serveRow W T i) T[i]))).map pdat) ∧
              DatAll rest3 pvs3 ((servePairs W T i ++ letters (oddB i) i (((serveRow W T i).drop (takeCut (serveRow W T i) T[i])).take j)).map hdat) ∧ pvs3.length = pvs.length + j)
            rfl (by k_asm) (nsub (news' := (L' + 1 + 1 + 1 + 1, oW) :: (L' + 1 + 1 + 1, oA') :: (L' + 1 + 1, oU') :: (L' + 1, oS) :: (D2, listOf ys3.toArray ys3.length) :: (pl, listOf pvs.toArray pn) :: (tkl, listOf tv2.toArray 0) :: (I, it) :: r) (by k_asm) ?hsub) ?h2 ?hm2 ?turn4 ?done4
          case hsub => exact List.forall_mem_cons.mpr ⟨by k_mem, List.forall_mem_cons.mpr ⟨by k_mem, List.forall_mem_cons.mpr ⟨by k_mem, List.forall_mem_cons.mpr ⟨by k_mem, List.forall_mem_cons.mpr ⟨by k_mem, List.forall_mem_cons.mpr ⟨by k_mem, List.forall_mem_cons.mpr ⟨by k_mem, List.forall_mem_cons.mpr ⟨by k_mem, fun p hp => .tail _ (.tail _ (.tail _ (.tail _ (.tail _ (.tail _ (.tail _ (.tail _ (.tail _ hp))))))))⟩⟩⟩⟩⟩⟩⟩⟩
          case h2 => exact ⟨ys3, _, pvs, pn, oW, vW, r, IsOv.refl _ _, rfl, dW, hr, hE8, hrp, hIr, fun p hp => hp, by simpa [serveIn] using hD3, by simpa [letters] using hH, rfl⟩
          case hm2 =>
            rintro j m' n' ⟨vs3, n3, pvs3, pn3, oW3, vW3, rest3, -, rfl, -⟩
            exact .tail _ (.tail _ (.tail _ (.tail _ (.tail _ (.tail _ (.head _))))))
          case turn4 =>
            rintro I2 j v m2 nn2 h8 tk8 it2 hv ⟨vs3, n3, pvs3, pn3, oW3, vW3, rest3, ⟨u3, rfl⟩, rfl, dW3, hr3, hrd3, hrp3, hrI3, hs3, hD4, hH4, hl4⟩ off2 F11 N11
            obtain ⟨hj, hdv⟩ := DatAll.at hDT hv
            obtain ⟨av, t1, t2, na, rfl, hav⟩ := datIn_pair hdv
            have hav3 := hs3 _ hav
            have hgood := hok.goods _ (List.mem_of_mem_drop (List.getElem_mem hj))
            have hG0 : @Ne Nat (L' + 1) I2 := off2 (L' + 1, _) (by k_mem)
            have hG8 : ∀ p ∈ rest3, p.1 ≠ I2 := fun p hp => off2 p (by repeat (first | exact hp | refine List.Mem.tail _ ?_))
            have hG1 : @Ne Nat (L' + 1 + 1 + 1 + 1) I2 := off2 (L' + 1 + 1 + 1 + 1, _) (by k_mem)
            have hG2 : @Ne Nat (L' + 1 + 1 + 1) I2 := off2 (L' + 1 + 1 + 1, _) (by k_mem)
            have hG3 : @Ne Nat (L' + 1 + 1) I2 := off2 (L' + 1 + 1, _) (by k_mem)
            have hG4 : @Ne Nat D2 I2 := off2 (D2, _) (by k_mem)
            have hG5 : @Ne Nat pl I2 := off2 (pl, _) (by k_mem)
            have hG6 : @Ne Nat tkl I2 := off2 (tkl, _) (by k_mem)
            have hG7 : @Ne Nat I I2 := off2 (I, _) (by k_mem)
            have hr31 : ∀ p ∈ rest3, p.1 ≠ L' + 1 + 1 + 1 + 1 := fun p hp => (hr3 p hp).1
            (k_steps; repeat' ((unfold Stop; first | (first | (lct_look; k_dflt (refine LCt.ListComp_T (F₀ := by k_asm) (by with_unfolding_all rfl) (by decide) (by rfl) (by decide) (by rfl) ?_)) | (k_dflt (refine LCg.ListComp_U (F₀ := by k_asm) (by with_unfolding_all rfl) (by decide) (by rfl) (by decide) (by rfl) ?_))) | (first | (lct_look; k_dflt (refine LCt.Assign_ListComp_T (F₀ := by k_asm) (by rfl) (by with_unfolding_all rfl) (by with_unfolding_all rfl) (by decide) (by rfl) (by decide) (by rfl) (by rfl) (by rfl) ?_)) | (k_dflt (refine LCg.Assign_ListComp_U (F₀ := by k_asm) (by rfl) (by with_unfolding_all rfl) (by with_unfolding_all rfl) (by decide) (by rfl) (by decide) (by rfl) (by rfl) (by rfl) ?_))) | (first | (refine mod2_even (by assumption) ?_) | (refine mod2_odd (by assumption) ?_))); k_steps))
            rename_i h9 oW4 dW4 h10 F12 N12
            rcases Nat.mod_two_eq_zero_or_one i with hpar | hpar
            · have hodd : oddB i = false := by simp [oddB, hpar]
              rw [hodd] at hD4 hH4
              unfold Stop
              have hsp := serveIn_spec false (((serveRow W T i).drop (takeCut (serveRow W T i) T[i])).take j) ((serveRow W T i).take (takeCut (serveRow W T i) T[i])) (hok.sorted.sublist (List.take_sublist _ _))
              have hjl : j < 4 := by
                have h2 := hok.len
                simp only [List.length_drop] at hj
                omega
              have hsl : (serveIn false (((serveRow W T i).drop (takeCut (serveRow W T i) T[i])).take j) ((serveRow W T i).take (takeCut (serveRow W T i) T[i]))).length ≤ 99 := by
                have h1 := hsp.2.1
                have h2 := hok.len
                simp only [List.length_take, List.length_drop] at h1
                omega
              have hv3 : vs3.length ≤ 99 := by rw [DatAll.len2 hD4]; exact hsl
              generalize hcur : serveIn false (((serveRow W T i).drop (takeCut (serveRow W T i) T[i])).take j) ((serveRow W T i).take (takeCut (serveRow W T i) T[i])) = cur at hD4 hsl hsp
              generalize hpp : ((serveRow W T i).drop (takeCut (serveRow W T i) T[i]))[j] = pp at *
              refine LCt.CompSrcT.ledger (its := vs3.toArray) (k := n3) (by rfl) (by k_asm) (by k_asm) (by k_mem) (by rw [PySem.sizeLine_eq, List.size_toArray]; omega) ?_
              intro g4
              refine rest_T (fun j2 ys4 nw => nw = (I2, it2) :: (L' + 1 + 1 + 1 + 1, oW4) :: (L' + 1 + 1 + 1, oA') :: (L' + 1 + 1, oU') :: (L' + 1, oS) :: (D2, listOf vs3.toArray n3) :: (pl, listOf pvs3.toArray pn3) :: (tkl, listOf tv2.toArray 0) :: (I, it) :: rest3 ∧ DatAll rest3 ys4 (((cur.take j2).filter (fun q => !(qK false (pp.1 - 1) q))).map pdat)) ⟨rfl, .nil⟩ ?turn5 ?fin5
              case turn5 =>
                rintro j5 v I5 oI C oC D5 m₂ ys4 _ h tk E' hv hj5 ⟨rfl, hD5⟩ hC hx F13 N13 off7 ne
                obtain ⟨hj2, hdv5⟩ := DatAll.at hD4 (j := j5) (v := v) (by simpa using hv)
                obtain ⟨av5, t15, t25, na5, rfl, hav5⟩ := datIn_pair hdv5
                (k_steps; repeat' ((unfold Stop; first | (first | (lct_look; k_dflt (refine LCt.ListComp_T (F₀ := by k_asm) (by with_unfolding_all rfl) (by decide) (by rfl) (by decide) (by rfl) ?_)) | (k_dflt (refine LCg.ListComp_U (F₀ := by k_asm) (by with_unfolding_all rfl) (by decide) (by rfl) (by decide) (by rfl) ?_))) | (first | (lct_look; k_dflt (refine LCt.Assign_ListComp_T (F₀ := by k_asm) (by rfl) (by with_unfolding_all rfl) (by with_unfolding_all rfl) (by decide) (by rfl) (by decide) (by rfl) (by rfl) (by rfl) ?_)) | (k_dflt (refine LCg.Assign_ListComp_U (F₀ := by k_asm) (by rfl) (by with_unfolding_all rfl) (by with_unfolding_all rfl) (by decide) (by rfl) (by decide) (by rfl) (by rfl) (by rfl) ?_))) | (first | (refine mod2_even (by assumption) ?_) | (refine mod2_odd (by assumption) ?_))); k_steps))
                unfold Stop
                k_dflt (refine tup_item0 (by k_asm) (by k_mem) ?_ (by with_unfolding_all rfl))
                (k_steps; repeat' ((unfold Stop; first | (first | (lct_look; k_dflt (refine LCt.ListComp_T (F₀ := by k_asm) (by with_unfolding_all rfl) (by decide) (by rfl) (by decide) (by rfl) ?_)) | (k_dflt (refine LCg.ListComp_U (F₀ := by k_asm) (by with_unfolding_all rfl) (by decide) (by rfl) (by decide) (by rfl) ?_))) | (first | (lct_look; k_dflt (refine LCt.Assign_ListComp_T (F₀ := by k_asm) (by rfl) (by with_unfolding_all rfl) (by with_unfolding_all rfl) (by decide) (by rfl) (by decide) (by rfl) (by rfl) (by rfl) ?_)) | (k_dflt (refine LCg.Assign_ListComp_U (F₀ := by k_asm) (by rfl) (by with_unfolding_all rfl) (by with_unfolding_all rfl) (by decide) (by rfl) (by decide) (by rfl) (by rfl) (by rfl) ?_))) | (first | (refine mod2_even (by assumption) ?_) | (refine mod2_odd (by assumption) ?_))); k_steps))
                · rename_i hq
                  unfold Stop
                  exact LCg.CompEnd.intro (by k_asm) (by k_asm) _ (fun p hp => hp) off7 (.inr ⟨_, by k_mem, rfl, _, rfl⟩) ⟨rfl, DatAll.fkeep hD5 hj2 (by simp [qK]; omega) hdv5⟩
                · rename_i hq
                  unfold Stop
                  k_dflt (refine tup_item0 (by k_asm) (by k_mem) ?_ (by with_unfolding_all rfl))
                  (k_steps; repeat' ((unfold Stop; first | (first | (lct_look; k_dflt (refine LCt.ListComp_T (F₀ := by k_asm) (by with_unfolding_all rfl) (by decide) (by rfl) (by decide) (by rfl) ?_)) | (k_dflt (refine LCg.ListComp_U (F₀ := by k_asm) (by with_unfolding_all rfl) (by decide) (by rfl) (by decide) (by rfl) ?_))) | (first | (lct_look; k_dflt (refine LCt.Assign_ListComp_T (F₀ := by k_asm) (by rfl) (by with_unfolding_all rfl) (by with_unfolding_all rfl) (by decide) (by rfl) (by decide) (by rfl) (by rfl) (by rfl) ?_)) | (k_dflt (refine LCg.Assign_ListComp_U (F₀ := by k_asm) (by rfl) (by with_unfolding_all rfl) (by with_unfolding_all rfl) (by decide) (by rfl) (by decide) (by rfl) (by rfl) (by rfl) ?_))) | (first | (refine mod2_even (by assumption) ?_) | (refine mod2_odd (by assumption) ?_))); k_steps))
                  all_goals
                    unfold Stop
                    first
                    | exact LCg.CompEnd.intro (by k_asm) (by k_asm) _ (fun p hp => hp) off7 (.inr ⟨_, by k_mem, rfl, _, rfl⟩) ⟨rfl, DatAll.fkeep hD5 hj2 (by simp [qK]; omega) hdv5⟩
                    | exact LCg.CompEnd.intro (by k_asm) (by k_asm) _ (fun p hp => hp) off7 (.inr ⟨_, by k_mem, rfl, _, rfl⟩) ⟨rfl, DatAll.fskip hD5 hj2 (by simp [qK]; omega)⟩
              case fin5 =>
                rintro ys4 _ ⟨rfl, hD5⟩ D5 h tk F13 N13 o13
                have hvs3 : vs3.toArray.size = cur.length := by rw [List.size_toArray, DatAll.len2 hD4]
                rw [hvs3, List.take_length] at hD5
                have hyl4 : ys4.length = cnt (qK false (pp.1 - 1)) cur := by rw [DatAll.len2 hD5]; rfl
                have hcc := cnt_le (qK false (pp.1 - 1)) cur
                have o13' := off1_mem o13
                (k_steps; repeat' ((unfold Stop; first | (first | (lct_look; k_dflt (refine LCt.ListComp_T (F₀ := by k_asm) (by with_unfolding_all rfl) (by decide) (by rfl) (by decide) (by rfl) ?_)) | (k_dflt (refine LCg.ListComp_U (F₀ := by k_asm) (by with_unfolding_all rfl) (by decide) (by rfl) (by decide) (by rfl) ?_))) | (first | (lct_look; k_dflt (refine LCt.Assign_ListComp_T (F₀ := by k_asm) (by rfl) (by with_unfolding_all rfl) (by with_unfolding_all rfl) (by decide) (by rfl) (by decide) (by rfl) (by rfl) (by rfl) ?_)) | (k_dflt (refine LCg.Assign_ListComp_U (F₀ := by k_asm) (by rfl) (by with_unfolding_all rfl) (by with_unfolding_all rfl) (by decide) (by rfl) (by decide) (by rfl) (by rfl) (by rfl) ?_))) | (first | (refine mod2_even (by assumption) ?_) | (refine mod2_odd (by assumption) ?_))); k_steps))
                unfold Stop
                refine kup_newTuple (by k_asm) (by k_asm) ?_ (by kmk_size)
                intro a1 h11 F14 N14 l14
                have la1 : @LT.lt Nat _ (L' + 1 + 1 + 1 + 1) a1 := l14 (L' + 1 + 1 + 1 + 1, _) (by k_mem)
                have la2 : @LT.lt Nat _ D2 a1 := l14 (D2, _) (by k_mem)
                have la3 : @LT.lt Nat _ pl a1 := l14 (pl, _) (by k_mem)
                have la4 : @LT.lt Nat _ I a1 := l14 (I, _) (by k_mem)
                have la5 : @LT.lt Nat _ I2 a1 := l14 (I2, _) (by k_mem)
                (k_steps; repeat' ((unfold Stop; first | (first | (lct_look; k_dflt (refine LCt.ListComp_T (F₀ := by k_asm) (by with_unfolding_all rfl) (by decide) (by rfl) (by decide) (by rfl) ?_)) | (k_dflt (refine LCg.ListComp_U (F₀ := by k_asm) (by with_unfolding_all rfl) (by decide) (by rfl) (by decide) (by rfl) ?_))) | (first | (lct_look; k_dflt (refine LCt.Assign_ListComp_T (F₀ := by k_asm) (by rfl) (by with_unfolding_all rfl) (by with_unfolding_all rfl) (by decide) (by rfl) (by decide) (by rfl) (by rfl) (by rfl) ?_)) | (k_dflt (refine LCg.Assign_ListComp_U (F₀ := by k_asm) (by rfl) (by with_unfolding_all rfl) (by with_unfolding_all rfl) (by decide) (by rfl) (by decide) (by rfl) (by rfl) (by rfl) ?_))) | (first | (refine mod2_even (by assumption) ?_) | (refine mod2_odd (by assumption) ?_))); k_steps))
                unfold Stop
                have hD52 : @Ne Nat D2 D5 := o13' (D2, _) (by k_mem)
                refine ins_rule (c := cnt (qK false (pp.1 - 1)) cur) (vs := vs3) (n := n3) (by k_asm) (npick (D := D2) N14 (.tail (.tail (.tail (.tail (.tail (.tail (.tail .head)))))))) ?hne1 (by have := DatAll.len2 hD4; omega) (by omega) ?_
                case hne1 => exact List.forall_mem_cons.mpr ⟨Nat.ne_of_gt la2, List.forall_mem_cons.mpr ⟨Ne.symm hD52, List.forall_mem_cons.mpr ⟨Ne.symm hG4, List.forall_mem_cons.mpr ⟨hE1, List.forall_mem_cons.mpr ⟨hE2, List.forall_mem_cons.mpr ⟨hE3, List.forall_mem_cons.mpr ⟨hE0, List.forall_mem_cons.mpr ⟨hE4, List.forall_mem_cons.mpr ⟨hE6, List.forall_mem_cons.mpr ⟨hE5, hrd3⟩⟩⟩⟩⟩⟩⟩⟩⟩⟩
                intro h12 F15 N15
                (k_steps; repeat' ((unfold Stop; first | (first | (lct_look; k_dflt (refine LCt.ListComp_T (F₀ := by k_asm) (by with_unfolding_all rfl) (by decide) (by rfl) (by decide) (by rfl) ?_)) | (k_dflt (refine LCg.ListComp_U (F₀ := by k_asm) (by with_unfolding_all rfl) (by decide) (by rfl) (by decide) (by rfl) ?_))) | (first | (lct_look; k_dflt (refine LCt.Assign_ListComp_T (F₀ := by k_asm) (by rfl) (by with_unfolding_all rfl) (by with_unfolding_all rfl) (by decide) (by rfl) (by decide) (by rfl) (by rfl) (by rfl) ?_)) | (k_dflt (refine LCg.Assign_ListComp_U (F₀ := by k_asm) (by rfl) (by with_unfolding_all rfl) (by with_unfolding_all rfl) (by decide) (by rfl) (by decide) (by rfl) (by rfl) (by rfl) ?_))) | (first | (refine mod2_even (by assumption) ?_) | (refine mod2_odd (by assumption) ?_))); k_steps))
                unfold Stop
                refine chr_nat (c := 97 + pp.2.toNat) (by omega) (by omega) ?_
                (k_steps; repeat' ((unfold Stop; first | (first | (lct_look; k_dflt (refine LCt.ListComp_T (F₀ := by k_asm) (by with_unfolding_all rfl) (by decide) (by rfl) (by decide) (by rfl) ?_)) | (k_dflt (refine LCg.ListComp_U (F₀ := by k_asm) (by with_unfolding_all rfl) (by decide) (by rfl) (by decide) (by rfl) ?_))) | (first | (lct_look; k_dflt (refine LCt.Assign_ListComp_T (F₀ := by k_asm) (by rfl) (by with_unfolding_all rfl) (by with_unfolding_all rfl) (by decide) (by rfl) (by decide) (by rfl) (by rfl) (by rfl) ?_)) | (k_dflt (refine LCg.Assign_ListComp_U (F₀ := by k_asm) (by rfl) (by with_unfolding_all rfl) (by with_unfolding_all rfl) (by decide) (by rfl) (by decide) (by rfl) (by rfl) (by rfl) ?_))) | (first | (refine mod2_even (by assumption) ?_) | (refine mod2_odd (by assumption) ?_))); k_steps))
                unfold Stop
                refine str_nat (k := i) (by omega) ?_
                intro t9
                (k_steps; repeat' ((unfold Stop; first | (first | (lct_look; k_dflt (refine LCt.ListComp_T (F₀ := by k_asm) (by with_unfolding_all rfl) (by decide) (by rfl) (by decide) (by rfl) ?_)) | (k_dflt (refine LCg.ListComp_U (F₀ := by k_asm) (by with_unfolding_all rfl) (by decide) (by rfl) (by decide) (by rfl) ?_))) | (first | (lct_look; k_dflt (refine LCt.Assign_ListComp_T (F₀ := by k_asm) (by rfl) (by with_unfolding_all rfl) (by with_unfolding_all rfl) (by decide) (by rfl) (by decide) (by rfl) (by rfl) (by rfl) ?_)) | (k_dflt (refine LCg.Assign_ListComp_U (F₀ := by k_asm) (by rfl) (by with_unfolding_all rfl) (by with_unfolding_all rfl) (by decide) (by rfl) (by decide) (by rfl) (by rfl) (by rfl) ?_))) | (first | (refine mod2_even (by assumption) ?_) | (refine mod2_odd (by assumption) ?_))); k_steps))
                unfold Stop
                refine kup_newTuple (by k_asm) (by k_asm) ?_ (by kmk_size)
                intro a2 h13 F16 N16 l16
                have lb1 : @LT.lt Nat _ (L' + 1 + 1 + 1 + 1) a2 := l16 (L' + 1 + 1 + 1 + 1, _) (by k_mem)
                have lb2 : @LT.lt Nat _ D2 a2 := l16 (D2, _) (by k_mem)
                have lb3 : @LT.lt Nat _ pl a2 := l16 (pl, _) (by k_mem)
                have lb4 : @LT.lt Nat _ I a2 := l16 (I, _) (by k_mem)
                have lb5 : @LT.lt Nat _ I2 a2 := l16 (I2, _) (by k_mem)
                have hD5a : @Ne Nat (L' + 1 + 1 + 1 + 1) D5 := o13' (L' + 1 + 1 + 1 + 1, _) (by k_mem)
                have hD5b : @Ne Nat (L' + 1 + 1 + 1) D5 := o13' (L' + 1 + 1 + 1, _) (by k_mem)
                have hD5c : @Ne Nat (L' + 1 + 1) D5 := o13' (L' + 1 + 1, _) (by k_mem)
                have hD5p : @Ne Nat pl D5 := o13' (pl, _) (by k_mem)
                have hD5I : @Ne Nat I D5 := o13' (I, _) (by k_mem)
                have hD5J : @Ne Nat I2 D5 := o13' (I2, _) (by k_mem)
                (k_steps; repeat' ((unfold Stop; first | (first | (lct_look; k_dflt (refine LCt.ListComp_T (F₀ := by k_asm) (by with_unfolding_all rfl) (by decide) (by rfl) (by decide) (by rfl) ?_)) | (k_dflt (refine LCg.ListComp_U (F₀ := by k_asm) (by with_unfolding_all rfl) (by decide) (by rfl) (by decide) (by rfl) ?_))) | (first | (lct_look; k_dflt (refine LCt.Assign_ListComp_T (F₀ := by k_asm) (by rfl) (by with_unfolding_all rfl) (by with_unfolding_all rfl) (by decide) (by rfl) (by decide) (by rfl) (by rfl) (by rfl) ?_)) | (k_dflt (refine LCg.Assign_ListComp_U (F₀ := by k_asm) (by rfl) (by with_unfolding_all rfl) (by with_unfolding_all rfl) (by decide) (by rfl) (by decide) (by rfl) (by rfl) (by rfl) ?_))) | (first | (refine mod2_even (by assumption) ?_) | (refine mod2_odd (by assumption) ?_))); k_steps))
                refine fEnd_intro (by k_asm) (npick (D := I2) (npick (D := L' + 1 + 1 + 1 + 1) (npick (D := L' + 1 + 1 + 1) (npick (D := L' + 1 + 1) (npick (D := L' + 1) (npick (D := D2) (npick (D := pl) (npick (D := tkl) (npick (D := I) (by k_asm) (.tail (.tail (.tail (.tail (.tail (.tail (.tail (.tail (.tail (.tail (.tail (.head))))))))))))) (.tail (.tail (.tail (.tail (.tail (.tail (.tail (.tail (.tail (.tail (.tail (.head))))))))))))) (.tail (.tail (.tail (.tail (.tail (.tail (.tail (.tail (.tail (.tail (.tail (.head))))))))))))) (.tail (.tail (.tail (.tail (.head)))))) (.tail (.tail (.tail (.tail (.tail (.tail (.tail (.tail (.tail (.tail (.tail (.head))))))))))))) (.tail (.tail (.tail (.tail (.tail (.tail (.tail (.tail (.tail (.tail (.tail (.head))))))))))))) (.tail (.tail (.tail (.tail (.tail (.tail (.tail (.tail (.tail (.tail (.tail (.head))))))))))))) (.tail (.tail (.tail (.tail (.tail (.tail (.tail (.tail (.tail (.tail (.tail (.head))))))))))))) (.tail (.tail (.tail (.tail (.tail (.tail (.tail (.tail (.tail (.tail (.tail (.head))))))))))))) ?_ ⟨_, _, _, _, oW4, _, _, IsOv.up (IsOv.up (IsOv.mk _ _ _) rfl) rfl, rfl, dW4, ?_, ?_, ?_, ?_, fun p hp => .tail _ (.tail _ (.tail _ (hs3 p hp))), ?_, ?_, ?_⟩
                · exact List.forall_mem_cons.mpr ⟨hG1, List.forall_mem_cons.mpr ⟨hG2, List.forall_mem_cons.mpr ⟨hG3, List.forall_mem_cons.mpr ⟨hG0, List.forall_mem_cons.mpr ⟨hG4, List.forall_mem_cons.mpr ⟨hG5, List.forall_mem_cons.mpr ⟨hG6, List.forall_mem_cons.mpr ⟨hG7, List.forall_mem_cons.mpr ⟨Nat.ne_of_gt lb5, List.forall_mem_cons.mpr ⟨Nat.ne_of_gt la5, List.forall_mem_cons.mpr ⟨Ne.symm hD5J, hG8⟩⟩⟩⟩⟩⟩⟩⟩⟩⟩⟩
                · exact List.forall_mem_cons.mpr ⟨NC.gt lb1, List.forall_mem_cons.mpr ⟨NC.gt la1, List.forall_mem_cons.mpr ⟨⟨Ne.symm hD5a, Ne.symm hD5b, Ne.symm hD5c⟩, hr3⟩⟩⟩
                · exact List.forall_mem_cons.mpr ⟨Nat.ne_of_gt lb2, List.forall_mem_cons.mpr ⟨Nat.ne_of_gt la2, List.forall_mem_cons.mpr ⟨Ne.symm hD52, hrd3⟩⟩⟩
                · exact List.forall_mem_cons.mpr ⟨Nat.ne_of_gt lb3, List.forall_mem_cons.mpr ⟨Nat.ne_of_gt la3, List.forall_mem_cons.mpr ⟨Ne.symm hD5p, hrp3⟩⟩⟩
                · exact List.forall_mem_cons.mpr ⟨Nat.ne_of_gt lb4, List.forall_mem_cons.mpr ⟨Nat.ne_of_gt la4, List.forall_mem_cons.mpr ⟨Ne.symm hD5I, hrI3⟩⟩⟩
                · rw [hodd, serveIn_take _ _ _ hj, hcur, hpp]
                  show DatAll _ _ ((insAt (cnt (qK false (pp.1 - 1)) cur) (pp.1 - 1, pp.2) cur).map pdat)
                  rw [insAt_map]
                  exact DatAll.insAt _ (hD4.mono fun p hp => .tail _ (.tail _ (.tail _ hp))) (.tuple (.tail _ (.head _)) (.cons (.int _ _) (.cons (.int _ _) .nil)))
                · rw [hodd, letters_take _ _ _ hj, ← List.append_assoc, List.map_append, hpp]
                  exact (hH4.mono fun p hp => .tail _ (.tail _ (.tail _ hp))).append (.cons (.tuple (.head _) (.cons (.str _ _) (.cons (.str _ _) .nil))) .nil)
                · rw [List.length_append, hl4]; simp only [List.length_cons, List.length_nil]; omega
            · have hodd : oddB i = true := by simp [oddB, hpar]
              rw [hodd] at hD4 hH4
              unfold Stop
              have hsp := serveIn_spec true (((serveRow W T i).drop (takeCut (serveRow W T i) T[i])).take j) ((serveRow W T i).take (takeCut (serveRow W T i) T[i])) (hok.sorted.sublist (List.take_sublist _ _))
              have hjl : j < 4 := by
                have h2 := hok.len
                simp only [List.length_drop] at hj
                omega
              have hsl : (serveIn true (((serveRow W T i).drop (takeCut (serveRow W T i) T[i])).take j) ((serveRow W T i).take (takeCut (serveRow W T i) T[i]))).length ≤ 99 := by
                have h1 := hsp.2.1
                have h2 := hok.len
                simp only [List.length_take, List.length_drop] at h1
                omega
              have hv3 : vs3.length ≤ 99 := by rw [DatAll.len2 hD4]; exact hsl
              generalize hcur : serveIn true (((serveRow W T i).drop (takeCut (serveRow W T i) T[i])).take j) ((serveRow W T i).take (takeCut (serveRow W T i) T[i])) = cur at hD4 hsl hsp
              generalize hpp : ((serveRow W T i).drop (takeCut (serveRow W T i) T[i]))[j] = pp at *
              refine LCt.CompSrcT.ledger (its := vs3.toArray) (k := n3) (by rfl) (by k_asm) (by k_asm) (by k_mem) (by rw [PySem.sizeLine_eq, List.size_toArray]; omega) ?_
              intro g4
              refine rest_T (fun j2 ys4 nw => nw = (I2, it2) :: (L' + 1 + 1 + 1 + 1, oW4) :: (L' + 1 + 1 + 1, oA') :: (L' + 1 + 1, oU') :: (L' + 1, oS) :: (D2, listOf vs3.toArray n3) :: (pl, listOf pvs3.toArray pn3) :: (tkl, listOf tv2.toArray 0) :: (I, it) :: rest3 ∧ DatAll rest3 ys4 (((cur.take j2).filter (fun q => !(qK true (pp.1 - 1) q))).map pdat)) ⟨rfl, .nil⟩ ?turn5 ?fin5
              case turn5 =>
                rintro j5 v I5 oI C oC D5 m₂ ys4 _ h tk E' hv hj5 ⟨rfl, hD5⟩ hC hx F13 N13 off7 ne
                obtain ⟨hj2, hdv5⟩ := DatAll.at hD4 (j := j5) (v := v) (by simpa using hv)
                obtain ⟨av5, t15, t25, na5, rfl, hav5⟩ := datIn_pair hdv5
                (k_steps; repeat' ((unfold Stop; first | (first | (lct_look; k_dflt (refine LCt.ListComp_T (F₀ := by k_asm) (by with_unfolding_all rfl) (by decide) (by rfl) (by decide) (by rfl) ?_)) | (k_dflt (refine LCg.ListComp_U (F₀ := by k_asm) (by with_unfolding_all rfl) (by decide) (by rfl) (by decide) (by rfl) ?_))) | (first | (lct_look; k_dflt (refine LCt.Assign_ListComp_T (F₀ := by k_asm) (by rfl) (by with_unfolding_all rfl) (by with_unfolding_all rfl) (by decide) (by rfl) (by decide) (by rfl) (by rfl) (by rfl) ?_)) | (k_dflt (refine LCg.Assign_ListComp_U (F₀ := by k_asm) (by rfl) (by with_unfolding_all rfl) (by with_unfolding_all rfl) (by decide) (by rfl) (by decide) (by rfl) (by rfl) (by rfl) ?_))) | (first | (refine mod2_even (by assumption) ?_) | (refine mod2_odd (by assumption) ?_))); k_steps))
                unfold Stop
                k_dflt (refine tup_item0 (by k_asm) (by k_mem) ?_ (by with_unfolding_all rfl))
                (k_steps; repeat' ((unfold Stop; first | (first | (lct_look; k_dflt (refine LCt.ListComp_T (F₀ := by k_asm) (by with_unfolding_all rfl) (by decide) (by rfl) (by decide) (by rfl) ?_)) | (k_dflt (refine LCg.ListComp_U (F₀ := by k_asm) (by with_unfolding_all rfl) (by decide) (by rfl) (by decide) (by rfl) ?_))) | (first | (lct_look; k_dflt (refine LCt.Assign_ListComp_T (F₀ := by k_asm) (by rfl) (by with_unfolding_all rfl) (by with_unfolding_all rfl) (by decide) (by rfl) (by decide) (by rfl) (by rfl) (by rfl) ?_)) | (k_dflt (refine LCg.Assign_ListComp_U (F₀ := by k_asm) (by rfl) (by with_unfolding_all rfl) (by with_unfolding_all rfl) (by decide) (by rfl) (by decide) (by rfl) (by rfl) (by rfl) ?_))) | (first | (refine mod2_even (by assumption) ?_) | (refine mod2_odd (by assumption) ?_))); k_steps))
                · rename_i hq
                  unfold Stop
                  exact LCg.CompEnd.intro (by k_asm) (by k_asm) _ (fun p hp => hp) off7 (.inr ⟨_, by k_mem, rfl, _, rfl⟩) ⟨rfl, DatAll.fkeep hD5 hj2 (by simp [qK]; omega) hdv5⟩
                · rename_i hq
                  unfold Stop
                  k_dflt (refine tup_item0 (by k_asm) (by k_mem) ?_ (by with_unfolding_all rfl))
                  (k_steps; repeat' ((unfold Stop; first | (first | (lct_look; k_dflt (refine LCt.ListComp_T (F₀ := by k_asm) (by with_unfolding_all rfl) (by decide) (by rfl) (by decide) (by rfl) ?_)) | (k_dflt (refine LCg.ListComp_U (F₀ := by k_asm) (by with_unfolding_all rfl) (by decide) (by rfl) (by decide) (by rfl) ?_))) | (first | (lct_look; k_dflt (refine LCt.Assign_ListComp_T (F₀ := by k_asm) (by rfl) (by with_unfolding_all rfl) (by with_unfolding_all rfl) (by decide) (by rfl) (by decide) (by rfl) (by rfl) (by rfl) ?_)) | (k_dflt (refine LCg.Assign_ListComp_U (F₀ := by k_asm) (by rfl) (by with_unfolding_all rfl) (by with_unfolding_all rfl) (by decide) (by rfl) (by decide) (by rfl) (by rfl) (by rfl) ?_))) | (first | (refine mod2_even (by assumption) ?_) | (refine mod2_odd (by assumption) ?_))); k_steps))
                  all_goals
                    unfold Stop
                    first
                    | exact LCg.CompEnd.intro (by k_asm) (by k_asm) _ (fun p hp => hp) off7 (.inr ⟨_, by k_mem, rfl, _, rfl⟩) ⟨rfl, DatAll.fkeep hD5 hj2 (by simp [qK]; omega) hdv5⟩
                    | exact LCg.CompEnd.intro (by k_asm) (by k_asm) _ (fun p hp => hp) off7 (.inr ⟨_, by k_mem, rfl, _, rfl⟩) ⟨rfl, DatAll.fskip hD5 hj2 (by simp [qK]; omega)⟩
              case fin5 =>
                rintro ys4 _ ⟨rfl, hD5⟩ D5 h tk F13 N13 o13
                have hvs3 : vs3.toArray.size = cur.length := by rw [List.size_toArray, DatAll.len2 hD4]
                rw [hvs3, List.take_length] at hD5
                have hyl4 : ys4.length = cnt (qK true (pp.1 - 1)) cur := by rw [DatAll.len2 hD5]; rfl
                have hcc := cnt_le (qK true (pp.1 - 1)) cur
                have o13' := off1_mem o13
                (k_steps; repeat' ((unfold Stop; first | (first | (lct_look; k_dflt (refine LCt.ListComp_T (F₀ := by k_asm) (by with_unfolding_all rfl) (by decide) (by rfl) (by decide) (by rfl) ?_)) | (k_dflt (refine LCg.ListComp_U (F₀ := by k_asm) (by with_unfolding_all rfl) (by decide) (by rfl) (by decide) (by rfl) ?_))) | (first | (lct_look; k_dflt (refine LCt.Assign_ListComp_T (F₀ := by k_asm) (by rfl) (by with_unfolding_all rfl) (by with_unfolding_all rfl) (by decide) (by rfl) (by decide) (by rfl) (by rfl) (by rfl) ?_)) | (k_dflt (refine LCg.Assign_ListComp_U (F₀ := by k_asm) (by rfl) (by with_unfolding_all rfl) (by with_unfolding_all rfl) (by decide) (by rfl) (by decide) (by rfl) (by rfl) (by rfl) ?_))) | (first | (refine mod2_even (by assumption) ?_) | (refine mod2_odd (by assumption) ?_))); k_steps))
                unfold Stop
                refine kup_newTuple (by k_asm) (by k_asm) ?_ (by kmk_size)
                intro a1 h11 F14 N14 l14
                have la1 : @LT.lt Nat _ (L' + 1 + 1 + 1 + 1) a1 := l14 (L' + 1 + 1 + 1 + 1, _) (by k_mem)
                have la2 : @LT.lt Nat _ D2 a1 := l14 (D2, _) (by k_mem)
                have la3 : @LT.lt Nat _ pl a1 := l14 (pl, _) (by k_mem)
                have la4 : @LT.lt Nat _ I a1 := l14 (I, _) (by k_mem)
                have la5 : @LT.lt Nat _ I2 a1 := l14 (I2, _) (by k_mem)
                (k_steps; repeat' ((unfold Stop; first | (first | (lct_look; k_dflt (refine LCt.ListComp_T (F₀ := by k_asm) (by with_unfolding_all rfl) (by decide) (by rfl) (by decide) (by rfl) ?_)) | (k_dflt (refine LCg.ListComp_U (F₀ := by k_asm) (by with_unfolding_all rfl) (by decide) (by rfl) (by decide) (by rfl) ?_))) | (first | (lct_look; k_dflt (refine LCt.Assign_ListComp_T (F₀ := by k_asm) (by rfl) (by with_unfolding_all rfl) (by with_unfolding_all rfl) (by decide) (by rfl) (by decide) (by rfl) (by rfl) (by rfl) ?_)) | (k_dflt (refine LCg.Assign_ListComp_U (F₀ := by k_asm) (by rfl) (by with_unfolding_all rfl) (by with_unfolding_all rfl) (by decide) (by rfl) (by decide) (by rfl) (by rfl) (by rfl) ?_))) | (first | (refine mod2_even (by assumption) ?_) | (refine mod2_odd (by assumption) ?_))); k_steps))
                unfold Stop
                have hD52 : @Ne Nat D2 D5 := o13' (D2, _) (by k_mem)
                refine ins_rule (c := cnt (qK true (pp.1 - 1)) cur) (vs := vs3) (n := n3) (by k_asm) (npick (D := D2) N14 (.tail (.tail (.tail (.tail (.tail (.tail (.tail .head)))))))) ?hne1 (by have := DatAll.len2 hD4; omega) (by omega) ?_
                case hne1 => exact List.forall_mem_cons.mpr ⟨Nat.ne_of_gt la2, List.forall_mem_cons.mpr ⟨Ne.symm hD52, List.forall_mem_cons.mpr ⟨Ne.symm hG4, List.forall_mem_cons.mpr ⟨hE1, List.forall_mem_cons.mpr ⟨hE2, List.forall_mem_cons.mpr ⟨hE3, List.forall_mem_cons.mpr ⟨hE0, List.forall_mem_cons.mpr ⟨hE4, List.forall_mem_cons.mpr ⟨hE6, List.forall_mem_cons.mpr ⟨hE5, hrd3⟩⟩⟩⟩⟩⟩⟩⟩⟩⟩
                intro h12 F15 N15
                (k_steps; repeat' ((unfold Stop; first | (first | (lct_look; k_dflt (refine LCt.ListComp_T (F₀ := by k_asm) (by with_unfolding_all rfl) (by decide) (by rfl) (by decide) (by rfl) ?_)) | (k_dflt (refine LCg.ListComp_U (F₀ := by k_asm) (by with_unfolding_all rfl) (by decide) (by rfl) (by decide) (by rfl) ?_))) | (first | (lct_look; k_dflt (refine LCt.Assign_ListComp_T (F₀ := by k_asm) (by rfl) (by with_unfolding_all rfl) (by with_unfolding_all rfl) (by decide) (by rfl) (by decide) (by rfl) (by rfl) (by rfl) ?_)) | (k_dflt (refine LCg.Assign_ListComp_U (F₀ := by k_asm) (by rfl) (by with_unfolding_all rfl) (by with_unfolding_all rfl) (by decide) (by rfl) (by decide) (by rfl) (by rfl) (by rfl) ?_))) | (first | (refine mod2_even (by assumption) ?_) | (refine mod2_odd (by assumption) ?_))); k_steps))
                unfold Stop
                refine chr_nat (c := 65 + pp.2.toNat) (by omega) (by omega) ?_
                (k_steps; repeat' ((unfold Stop; first | (first | (lct_look; k_dflt (refine LCt.ListComp_T (F₀ := by k_asm) (by with_unfolding_all rfl) (by decide) (by rfl) (by decide) (by rfl) ?_)) | (k_dflt (refine LCg.ListComp_U (F₀ := by k_asm) (by with_unfolding_all rfl) (by decide) (by rfl) (by decide) (by rfl) ?_))) | (first | (lct_look; k_dflt (refine LCt.Assign_ListComp_T (F₀ := by k_asm) (by rfl) (by with_unfolding_all rfl) (by with_unfolding_all rfl) (by decide) (by rfl) (by decide) (by rfl) (by rfl) (by rfl) ?_)) | (k_dflt (refine LCg.Assign_ListComp_U (F₀ := by k_asm) (by rfl) (by with_unfolding_all rfl) (by with_unfolding_all rfl) (by decide) (by rfl) (by decide) (by rfl) (by rfl) (by rfl) ?_))) | (first | (refine mod2_even (by assumption) ?_) | (refine mod2_odd (by assumption) ?_))); k_steps))
                unfold Stop
                refine str_nat (k := i) (by omega) ?_
                intro t9
                (k_steps; repeat' ((unfold Stop; first | (first | (lct_look; k_dflt (refine LCt.ListComp_T (F₀ := by k_asm) (by with_unfolding_all rfl) (by decide) (by rfl) (by decide) (by rfl) ?_)) | (k_dflt (refine LCg.ListComp_U (F₀ := by k_asm) (by with_unfolding_all rfl) (by decide) (by rfl) (by decide) (by rfl) ?_))) | (first | (lct_look; k_dflt (refine LCt.Assign_ListComp_T (F₀ := by k_asm) (by rfl) (by with_unfolding_all rfl) (by with_unfolding_all rfl) (by decide) (by rfl) (by decide) (by rfl) (by rfl) (by rfl) ?_)) | (k_dflt (refine LCg.Assign_ListComp_U (F₀ := by k_asm) (by rfl) (by with_unfolding_all rfl) (by with_unfolding_all rfl) (by decide) (by rfl) (by decide) (by rfl) (by rfl) (by rfl) ?_))) | (first | (refine mod2_even (by assumption) ?_) | (refine mod2_odd (by assumption) ?_))); k_steps))
                unfold Stop
                refine kup_newTuple (by k_asm) (by k_asm) ?_ (by kmk_size)
                intro a2 h13 F16 N16 l16
                have lb1 : @LT.lt Nat _ (L' + 1 + 1 + 1 + 1) a2 := l16 (L' + 1 + 1 + 1 + 1, _) (by k_mem)
                have lb2 : @LT.lt Nat _ D2 a2 := l16 (D2, _) (by k_mem)
                have lb3 : @LT.lt Nat _ pl a2 := l16 (pl, _) (by k_mem)
                have lb4 : @LT.lt Nat _ I a2 := l16 (I, _) (by k_mem)
                have lb5 : @LT.lt Nat _ I2 a2 := l16 (I2, _) (by k_mem)
                have hD5a : @Ne Nat (L' + 1 + 1 + 1 + 1) D5 := o13' (L' + 1 + 1 + 1 + 1, _) (by k_mem)
                have hD5b : @Ne Nat (L' + 1 + 1 + 1) D5 := o13' (L' + 1 + 1 + 1, _) (by k_mem)
                have hD5c : @Ne Nat (L' + 1 + 1) D5 := o13' (L' + 1 + 1, _) (by k_mem)
                have hD5p : @Ne Nat pl D5 := o13' (pl, _) (by k_mem)
                have hD5I : @Ne Nat I D5 := o13' (I, _) (by k_mem)
                have hD5J : @Ne Nat I2 D5 := o13' (I2, _) (by k_mem)
                (k_steps; repeat' ((unfold Stop; first | (first | (lct_look; k_dflt (refine LCt.ListComp_T (F₀ := by k_asm) (by with_unfolding_all rfl) (by decide) (by rfl) (by decide) (by rfl) ?_)) | (k_dflt (refine LCg.ListComp_U (F₀ := by k_asm) (by with_unfolding_all rfl) (by decide) (by rfl) (by decide) (by rfl) ?_))) | (first | (lct_look; k_dflt (refine LCt.Assign_ListComp_T (F₀ := by k_asm) (by rfl) (by with_unfolding_all rfl) (by with_unfolding_all rfl) (by decide) (by rfl) (by decide) (by rfl) (by rfl) (by rfl) ?_)) | (k_dflt (refine LCg.Assign_ListComp_U (F₀ := by k_asm) (by rfl) (by with_unfolding_all rfl) (by with_unfolding_all rfl) (by decide) (by rfl) (by decide) (by rfl) (by rfl) (by rfl) ?_))) | (first | (refine mod2_even (by assumption) ?_) | (refine mod2_odd (by assumption) ?_))); k_steps))
                refine fEnd_intro (by k_asm) (npick (D := I2) (npick (D := L' + 1 + 1 + 1 + 1) (npick (D := L' + 1 + 1 + 1) (npick (D := L' + 1 + 1) (npick (D := L' + 1) (npick (D := D2) (npick (D := pl) (npick (D := tkl) (npick (D := I) (by k_asm) (.tail (.tail (.tail (.tail (.tail (.tail (.tail (.tail (.tail (.tail (.tail (.head))))))))))))) (.tail (.tail (.tail (.tail (.tail (.tail (.tail (.tail (.tail (.tail (.tail (.head))))))))))))) (.tail (.tail (.tail (.tail (.tail (.tail (.tail (.tail (.tail (.tail (.tail (.head))))))))))))) (.tail (.tail (.tail (.tail (.head)))))) (.tail (.tail (.tail (.tail (.tail (.tail (.tail (.tail (.tail (.tail (.tail (.head))))))))))))) (.tail (.tail (.tail (.tail (.tail (.tail (.tail (.tail (.tail (.tail (.tail (.head))))))))))))) (.tail (.tail (.tail (.tail (.tail (.tail (.tail (.tail (.tail (.tail (.tail (.head))))))))))))) (.tail (.tail (.tail (.tail (.tail (.tail (.tail (.tail (.tail (.tail (.tail (.head))))))))))))) (.tail (.tail (.tail (.tail (.tail (.tail (.tail (.tail (.tail (.tail (.tail (.head))))))))))))) ?_ ⟨_, _, _, _, oW4, _, _, IsOv.up (IsOv.up (IsOv.mk _ _ _) rfl) rfl, rfl, dW4, ?_, ?_, ?_, ?_, fun p hp => .tail _ (.tail _ (.tail _ (hs3 p hp))), ?_, ?_, ?_⟩
                · exact List.forall_mem_cons.mpr ⟨hG1, List.forall_mem_cons.mpr ⟨hG2, List.forall_mem_cons.mpr ⟨hG3, List.forall_mem_cons.mpr ⟨hG0, List.forall_mem_cons.mpr ⟨hG4, List.forall_mem_cons.mpr ⟨hG5, List.forall_mem_cons.mpr ⟨hG6, List.forall_mem_cons.mpr ⟨hG7, List.forall_mem_cons.mpr ⟨Nat.ne_of_gt lb5, List.forall_mem_cons.mpr ⟨Nat.ne_of_gt la5, List.forall_mem_cons.mpr ⟨Ne.symm hD5J, hG8⟩⟩⟩⟩⟩⟩⟩⟩⟩⟩⟩
                · exact List.forall_mem_cons.mpr ⟨NC.gt lb1, List.forall_mem_cons.mpr ⟨NC.gt la1, List.forall_mem_cons.mpr ⟨⟨Ne.symm hD5a, Ne.symm hD5b, Ne.symm hD5c⟩, hr3⟩⟩⟩
                · exact List.forall_mem_cons.mpr ⟨Nat.ne_of_gt lb2, List.forall_mem_cons.mpr ⟨Nat.ne_of_gt la2, List.forall_mem_cons.mpr ⟨Ne.symm hD52, hrd3⟩⟩⟩
                · exact List.forall_mem_cons.mpr ⟨Nat.ne_of_gt lb3, List.forall_mem_cons.mpr ⟨Nat.ne_of_gt la3, List.forall_mem_cons.mpr ⟨Ne.symm hD5p, hrp3⟩⟩⟩
                · exact List.forall_mem_cons.mpr ⟨Nat.ne_of_gt lb4, List.forall_mem_cons.mpr ⟨Nat.ne_of_gt la4, List.forall_mem_cons.mpr ⟨Ne.symm hD5I, hrI3⟩⟩⟩
                · rw [hodd, serveIn_take _ _ _ hj, hcur, hpp]
                  show DatAll _ _ ((insAt (cnt (qK true (pp.1 - 1)) cur) (pp.1 - 1, pp.2) cur).map pdat)
                  rw [insAt_map]
                  exact DatAll.insAt _ (hD4.mono fun p hp => .tail _ (.tail _ (.tail _ hp))) (.tuple (.tail _ (.head _)) (.cons (.int _ _) (.cons (.int _ _) .nil)))
                · rw [hodd, letters_take _ _ _ hj, ← List.append_assoc, List.map_append, hpp]
                  exact (hH4.mono fun p hp => .tail _ (.tail _ (.tail _ hp))).append (.cons (.tuple (.head _) (.cons (.str _ _) (.cons (.str _ _) .nil))) .nil)
                · rw [List.length_append, hl4]; simp only [List.length_cons, List.length_nil]; omega
          case done4 =>
            rintro m2 nn2 h8 tk8 ⟨vs3, n3, pvs3, pn3, oW3, vW3, rest3, ⟨u3, rfl⟩, rfl, dW3, hr3, hrd3, hrp3, hrI3, hs3, hD4, hH4, hl4⟩ F11 N11
            (k_steps; repeat' ((unfold Stop; first | (first | (lct_look; k_dflt (refine LCt.ListComp_T (F₀ := by k_asm) (by with_unfolding_all rfl) (by decide) (by rfl) (by decide) (by rfl) ?_)) | (k_dflt (refine LCg.ListComp_U (F₀ := by k_asm) (by with_unfolding_all rfl) (by decide) (by rfl) (by decide) (by rfl) ?_))) | (first | (lct_look; k_dflt (refine LCt.Assign_ListComp_T (F₀ := by k_asm) (by rfl) (by with_unfolding_all rfl) (by with_unfolding_all rfl) (by decide) (by rfl) (by decide) (by rfl) (by rfl) (by rfl) ?_)) | (k_dflt (refine LCg.Assign_ListComp_U (F₀ := by k_asm) (by rfl) (by with_unfolding_all rfl) (by with_unfolding_all rfl) (by decide) (by rfl) (by decide) (by rfl) (by rfl) (by rfl) ?_))) | (first | (refine mod2_even (by assumption) ?_) | (refine mod2_odd (by assumption) ?_))); k_steps))
            have hI0 : @Ne Nat (L' + 1) I := off (L' + 1, _) (by k_mem)
            have hdl : tv2.length = ((serveRow W T i).drop (takeCut (serveRow W T i) T[i])).length := DatAll.len2 hDT
            rw [hdl, List.take_length] at hD4 hH4
            have eT : T.getD i 0 = T[i] := by simp [List.getD_eq_getElem?_getD, hi]
            have hlt : @LT.lt Nat _ (L' + 1 + 1 + 1 + 1) tkl := Nat.lt_trans hplc htkl
            refine fEnd_intro (by k_asm) (npick (D := I) (npick (D := L' + 1 + 1 + 1 + 1) (npick (D := L' + 1 + 1 + 1) (npick (D := L' + 1 + 1) (npick (D := L' + 1) (npick (D := pl) N11 (.tail (.tail (.tail (.tail (.tail (.head))))))) (.tail (.tail (.tail (.tail (.head)))))) (.tail (.tail (.tail (.tail (.head)))))) (.tail (.tail (.tail (.tail (.head)))))) (.tail (.tail (.tail (.tail (.head)))))) (.tail (.tail (.tail (.tail (.tail (.tail (.tail (.head))))))))) ?_ ⟨_, D2, vs3, n3, pvs3, pn3, oW3, oA', oU', _, vW3, _, _, isOv_up (IsOv.sub (IsOv.up (IsOv.up (IsOv.up (IsOv.mk _ _ _) rfl) rfl) rfl) rfl) rfl rfl, rfl, dW3, dA', dU', fun p hp => .tail _ (.tail _ (hs3 _ (hs p hp))), .head _, ?_, ?_, ?_, ?_, ?_⟩
            · exact List.forall_mem_cons.mpr ⟨hI1, List.forall_mem_cons.mpr ⟨hI2, List.forall_mem_cons.mpr ⟨hI3, List.forall_mem_cons.mpr ⟨hI0, List.forall_mem_cons.mpr ⟨hIp, List.forall_mem_cons.mpr ⟨Ne.symm hE5, List.forall_mem_cons.mpr ⟨Nat.ne_of_gt htI, hrI3⟩⟩⟩⟩⟩⟩⟩
            · exact List.forall_mem_cons.mpr ⟨⟨Ne.symm hE1, Ne.symm hE2, Ne.symm hE3⟩, List.forall_mem_cons.mpr ⟨NC.gt hlt, hr3⟩⟩
            · exact List.forall_mem_cons.mpr ⟨Ne.symm hE4, List.forall_mem_cons.mpr ⟨Nat.ne_of_gt htkl, hrp3⟩⟩
            · show DatAll _ vs3 (List.map pdat (serveTurn (oddB i) (serveRow W T i) (T.getD i 0)))
              rw [eT]; exact hD4.mono fun p hp => .tail _ (.tail _ hp)
            · show DatAll _ pvs3 (List.map hdat (servePairs W T i ++ letters (oddB i) i ((serveRow W T i).drop (takeCut (serveRow W T i) (T.getD i 0)))))
              rw [eT]; exact hH4.mono fun p hp => .tail _ (.tail _ hp)
            · rw [hl4, hdl]
              have := hok.len
              simp only [List.length_drop]; omega
    case done1 =>
      rintro m1 n1 h3 tk3 ⟨u, row, vs, n, pvs, pn, oW, oA, oU, r, vW, vA, vU, rfl, rfl, dW, dA, dU, hs, hrw, hr, hrp, hD, hH, hHl⟩ F4 N4
      (k_steps; repeat' ((unfold Stop; first | (first | (lct_look; k_dflt (refine LCt.ListComp_T (F₀ := by k_asm) (by with_unfolding_all rfl) (by decide) (by rfl) (by decide) (by rfl) ?_)) | (k_dflt (refine LCg.ListComp_U (F₀ := by k_asm) (by with_unfolding_all rfl) (by decide) (by rfl) (by decide) (by rfl) ?_))) | (first | (lct_look; k_dflt (refine LCt.Assign_ListComp_T (F₀ := by k_asm) (by rfl) (by with_unfolding_all rfl) (by with_unfolding_all rfl) (by decide) (by rfl) (by decide) (by rfl) (by rfl) (by rfl) ?_)) | (k_dflt (refine LCg.Assign_ListComp_U (F₀ := by k_asm) (by rfl) (by with_unfolding_all rfl) (by with_unfolding_all rfl) (by decide) (by rfl) (by decide) (by rfl) (by rfl) (by rfl) ?_))) | (first | (refine mod2_even (by assumption) ?_) | (refine mod2_odd (by assumption) ?_))); k_steps))
      unfold Stop
      refine kup_newTuple (by k_asm) (by k_asm) ?_ (by kmk_size)
      intro r0 h4 F5 N5 l5
      (k_steps; repeat' ((unfold Stop; first | (first | (lct_look; k_dflt (refine LCt.ListComp_T (F₀ := by k_asm) (by with_unfolding_all rfl) (by decide) (by rfl) (by decide) (by rfl) ?_)) | (k_dflt (refine LCg.ListComp_U (F₀ := by k_asm) (by with_unfolding_all rfl) (by decide) (by rfl) (by decide) (by rfl) ?_))) | (first | (lct_look; k_dflt (refine LCt.Assign_ListComp_T (F₀ := by k_asm) (by rfl) (by with_unfolding_all rfl) (by with_unfolding_all rfl) (by decide) (by rfl) (by decide) (by rfl) (by rfl) (by rfl) ?_)) | (k_dflt (refine LCg.Assign_ListComp_U (F₀ := by k_asm) (by rfl) (by with_unfolding_all rfl) (by with_unfolding_all rfl) (by decide) (by rfl) (by decide) (by rfl) (by rfl) (by rfl) ?_))) | (first | (refine mod2_even (by assumption) ?_) | (refine mod2_odd (by assumption) ?_))); k_steps))
      refine ret _ _ _ _ (by k_asm) (by k_asm) ⟨r0, row, pl, vs, n, pvs, pn, rfl, fun p hp => ?_, .head _, ?_, by k_mem, hD.mono fun p hp => ?_, hH.mono fun p hp => ?_⟩
      · exact .tail _ (.tail _ (.tail _ (.tail _ (.tail _ (.tail _ (hs p hp))))))
      · exact .tail _ (.tail _ (.tail _ (.tail _ (.tail _ (.tail _ hrw)))))
      · exact .tail _ (.tail _ (.tail _ (.tail _ (.tail _ (.tail _ hp)))))
      · exact .tail _ (.tail _ (.tail _ (.tail _ (.tail _ (.tail _ hp)))))
end

end
section
noncomputable def sortN (W : List Nat) : List Nat := W.mergeSort (fun a b => decide (a ≤ b))
theorem sortN_perm (W : List Nat) : (sortN W).Perm W := List.mergeSort_perm _ _
theorem sortN_pw (W : List Nat) : (sortN W).Pairwise (· ≤ ·) := by
  have := List.pairwise_mergeSort (le := fun a b : Nat => decide (a ≤ b)) (fun a b c h1 h2 => by simp only [decide_eq_true_eq] at *; omega) (fun a b => by simp only [Bool.or_eq_true, decide_eq_true_eq]; omega) W
  exact this.imp fun h => by simpa using h
theorem sortN_unique {W : List Nat} {ns : List Int} (h : ns.Perm (nats W)) (hs : ns.Pairwise (· ≤ ·)) : ns = nats (sortN W) := by
  refine (h.trans ((sortN_perm W).map _).symm).eq_of_pairwise (le := fun a b : Int => a ≤ b) (fun a b _ _ h1 h2 => by omega) hs ?_
  exact List.pairwise_map.mpr ((sortN_pw W).imp fun h => by omega)
noncomputable def cutVal (W T : List Nat) (g k : Nat) : Int := (g : Int) * (k : Int) + (nats ((sortN W).take (W.length - g)) ++ nats ((sortN T).take (T.length - k))).sum
noncomputable def cutsRow (W T : List Nat) (g n : Nat) : List Int := (List.range n).map (cutVal W T g)
noncomputable def cutsAll (W T : List Nat) (n : Nat) : List Int := (List.range n).flatMap fun g => cutsRow W T g (T.length + 1)
section
variable {prog : Program} {w : World} {A : Around} {E : Value → Shared → Prop} {s : Shared} {h₀ : Heap} {L l : Addr} {m : Str → Option Value} {news : List (Addr × Obj)} {vs : List Value} {n : Nat}
theorem sorted_nats {W : List Nat} {Q : Value → Shared → Prop} (F : Fr h₀ L s.heap m) (N : News h₀ L s.heap news) (hm : (l, listOf vs.toArray n) ∈ news) (hi : IntsAre vs (nats W)) (h64 : W.length < 64)
    (h : ∀ D vs' c h', Fr h₀ L h' m → News h₀ L h' ((D, listOf vs'.toArray c) :: news) → (∀ q ∈ news, q.1 < D) → IntsAre vs' (nats (sortN W)) → Q (.ref D) { s with heap := h' }) :
    wpAny (model prog w) A (call (.builtin "sorted") [.ref l]) Q E s := by
  refine kso_sorted F N ⟨_, (N _ hm).1, rfl, n, rfl⟩ hi (by simpa using h64) fun D vs' ns' c h' F' N' l1 hi' _ hp hs _ => ?_
  rw [sortN_unique hp hs] at hi'
  exact h D vs' c h' F' N' l1 hi'
theorem slice_to {value slice : PySem.Expr} {c : Nat} {i : Int} {u : Tok} {Q : Value → Shared → Prop} (e : i = (c : Int)) (F : Fr h₀ L s.heap m) (N : News h₀ L s.heap news) (hm : (l, listOf vs.toArray n) ∈ news) (hz : vs.length ≤ 10000)
    (h : ∀ D h', Fr h₀ L h' m → News h₀ L h' ((D, listOf (vs.take c).toArray 0) :: news) → (∀ p ∈ news, p.1 < D) → Q (.ref D) { s with heap := h' })
    (hs : subscripted slice false (.ref l) (.ref s.heap.objs.size) = operate [.ref s.heap.objs.size, .ref l] (getItem (.ref l) (.ref s.heap.objs.size))) (ht : ∀ r, letTemporaryGo value (.ref l) r = pure ()) :
    wpAny (model prog w) A (subscriptTail value slice (.ref l) (.ref s.heap.objs.size)) Q E { s with heap := s.heap.push { cls := .type "slice", data := .fields #[.none, .int i u, .none] } } := by
  subst e
  refine kms_slice_lit F N ⟨_, (N _ hm).1, rfl, n, rfl⟩ .none (.int _ _) ?_ h hs ht (by simp only [List.size_toArray, PySem.sizeLine_eq]; omega)
  have h1 : ¬ ((c : Int) < 0) := by omega
  have e0 : vs.toArray.toList = vs := by simp
  rw [e0]
  simp only [kms_pick, kms_lo, kms_hi, if_neg h1, List.drop_zero, Nat.sub_zero]
  by_cases hc : c ≤ vs.length
  · have e : min ((c : Int)).toNat vs.length = c := by omega
    rw [e]
  · have e : min ((c : Int)).toNat vs.length = vs.length := by omega
    rw [e, List.take_length, List.take_of_length_le (by omega)]
theorem add_nats {b : Addr} {ws : List Value} {n2 : Nat} {ns ms : List Int} {Q : Value → Shared → Prop} (F : Fr h₀ L s.heap m) (N : News h₀ L s.heap news) (ha : (l, listOf vs.toArray n) ∈ news) (hb : (b, listOf ws.toArray n2) ∈ news) (hi : IntsAre vs ns) (hj : IntsAre ws ms) (hz : ns.length + ms.length ≤ 1000)
    (h : ∀ D us h', Fr h₀ L h' m → News h₀ L h' ((D, listOf (List.toArray us) 0) :: news) → (∀ p ∈ news, p.1 < D) → IntsAre us (ns ++ ms) → Q (.ref D) { s with heap := h' }) :
    wpAny (model prog w) A (binaryOp .Add (.ref l) (.ref b)) Q E s :=
  kmk_add_ints F N ⟨_, (N _ ha).1, rfl, n, rfl⟩ ⟨_, (N _ hb).1, rfl, n2, rfl⟩ hi hj h (by rw [PySem.sizeLine_eq]; omega)
theorem sum_nats {ns : List Int} {Q : Value → Shared → Prop} (hh : A.handled = none) (F : Fr h₀ L s.heap m) (N : News h₀ L s.heap news) (ha : (l, listOf vs.toArray n) ∈ news) (hi : IntsAre vs ns)
    (h : ∀ h' tk t', Fr h₀ L h' m → News h₀ L h' news → Q (.int ns.sum t') { s with heap := h', toks := tk }) :
    wpAny (model prog w) A (call (.builtin "sum") [.ref l]) Q E s := sumK hh F N ⟨_, (N _ ha).1, rfl, n, rfl⟩ hi h
end
section
local macro_rules | `(tactic| walk_at "zz") => `(tactic| walk_at "ST")
local macro_rules | `(tactic| walk_at $k:str) => tabl [("newList", "ST"), ("call builtin:len", "LN"), ("call builtin:sorted", "ST"), ("call builtin:sum", "ST"), ("call builtin:min", "ST"), ("subscriptTail Name Slice ref ref", "ST"), ("binaryOp Add ref ref", "ST")] k
theorem c_leastCut (w : World) (news : List (Addr × Obj)) (wl tl : Addr) (wvs tvs : List Value) (wn tn : Nat) (W T : List Nat) (hw : (wl, listOf wvs.toArray wn) ∈ news) (ht : (tl, listOf tvs.toArray tn) ∈ news)
   (hW : IntsAre wvs (nats W)) (hT : IntsAre tvs (nats T)) (hWl : W.length ≤ 4) (hTl : T.length ≤ 4) :
   Con w 8 100 (call (.ref 291) [.ref wl, .ref tl]) news (fun r news' => (∀ p ∈ news, p ∈ news') ∧ ∃ c t, r = .int c t ∧ c ∈ cutsAll W T (W.length + 1) ∧ ∀ a ∈ cutsAll W T (W.length + 1), c ≤ a) := by
  intro p loose mean mg mb dp un gd cn cs a ccd cl outer A₀ base h₀ L m s Q E B F X N T' hkf hdd hu ret
  have hWv : wvs.length = W.length := by rw [hW.length]; simp
  have hTv : tvs.length = T.length := by rw [hT.length]; simp
  refine wpAny_call ?_
  k_dflt (first | (refine' code_defC ?k1 ?k2 ?k3 ?k4 ?k5 ?kA ?kF ?kK ?k6 ?k7 ?k8 ?k9 ?kB ?kD ?_ ?c2 ?c3 ?c4; (case kA => exact rfl); (case kF => exact rfl); (case kK => first | exact rfl | assumption); (case k1 => k_asm); (case k2 => k_asm); (case k3 => k_asm); (case k4 => k_asm); (case k5 => k_asm); (case k6 => k_is); (case k7 => k_is); (case k8 => first | k_room | ktr_room); (case k9 => first | exact BindsTo.of_eq rfl | (refine' kp_binds ?kx ?ke; (case kx => k_in); (case ke => exact fun _ => rfl)) | exact binds_K (by k_in) rfl (by k_is) rfl rfl rfl); (case kB => exact rfl); (case kD => decide +kernel); (case c2 => exact rfl); (case c3 => exact rfl); (case c4 => exact rfl); k_whole; intro g' L' h' tk' cells' FG' F' N' Y' B' X' T' l1; (try k_lt l1); k_cells Y'; (try simp only [List.cons_append, List.nil_append] at N'); (try dsimp only); (try k_lift B'); (try k_fold)) | (kp_kind "more"; (refine' kp_more ?k1 ?k2 ?k3 ?k4 ?k5 ?kA ?kF ?kK ?k6 ?k7 ?k8 ?kX ?kM ?kN ?kD ?kR ?kP ?kT ?kB ?_ ?c2 ?c3 ?c4 ?c5; (case kA => exact rfl); (case kF => exact rfl); (case kK => first | exact rfl | assumption); (case k1 => k_asm); (case k2 => k_asm); (case k3 => k_asm); (case k4 => k_asm); (case k5 => k_asm); (case k6 => k_is); (case k7 => k_is); (case k8 => first | k_room | ktr_room); (case kX => kp_lit); (case kM => exact rfl); (case kN => exact rfl); (case kD => kp_flats); (case kR => exact rfl); (case kP => exact rfl); (case kT => exact fun _ => rfl); (case kB => exact fun _ => locs rfl); (case c5 => decide); (case c2 => exact rfl); (case c3 => exact rfl); (case c4 => exact rfl); k_whole; intro D' o' g' L' h' tk' l1 lo' hs' fs' FG' F' N' B' X' T'; (try k_lt l1); (try dsimp only); (try k_lift B'); (try k_fold))) | (refine' code_def ?k1 ?k2 ?k3 ?k4 ?k5 ?kA ?kF ?kK ?k6 ?k7 ?k8 ?k9 ?kB ?_ ?c2 ?c3 ?c4 ?c5; (case kA => exact rfl); (case kF => exact rfl); (case kK => first | exact rfl | assumption); (case k1 => k_asm); (case k2 => k_asm); (case k3 => k_asm); (case k4 => k_asm); (case k5 => k_asm); (case k6 => k_is); (case k7 => k_is); (case k8 => first | k_room | ktr_room); (case k9 => first | exact BindsTo.of_eq rfl | (refine' kp_binds ?kx ?ke; (case kx => k_in); (case ke => exact fun _ => rfl)) | exact binds_K (by k_in) rfl (by k_is) rfl rfl rfl); (case c5 => decide); (case kB => exact locs rfl); (case c2 => exact rfl); (case c3 => exact rfl); (case c4 => exact rfl); k_whole; intro g' L' h' FG' F' N' B' X' T'; (try dsimp only); (try k_lift B'); (try k_fold)))
  (k_steps; repeat' ((unfold Stop; first | (first | (lct_look; k_dflt (refine LCt.ListComp_T (F₀ := by k_asm) (by with_unfolding_all rfl) (by decide) (by rfl) (by decide) (by rfl) ?_)) | (k_dflt (refine LCg.ListComp_U (F₀ := by k_asm) (by with_unfolding_all rfl) (by decide) (by rfl) (by decide) (by rfl) ?_))) | (first | (lct_look; k_dflt (refine LCt.Assign_ListComp_T (F₀ := by k_asm) (by rfl) (by with_unfolding_all rfl) (by with_unfolding_all rfl) (by decide) (by rfl) (by decide) (by rfl) (by rfl) (by rfl) ?_)) | (k_dflt (refine LCg.Assign_ListComp_U (F₀ := by k_asm) (by rfl) (by with_unfolding_all rfl) (by with_unfolding_all rfl) (by decide) (by rfl) (by decide) (by rfl) (by rfl) (by rfl) ?_)))); k_steps))
  unfold Stop
  refine newList_K (by k_asm) (by k_asm) ?_
  intro cu h1 F1 N1 l1
  (k_steps; repeat' ((unfold Stop; first | (first | (lct_look; k_dflt (refine LCt.ListComp_T (F₀ := by k_asm) (by with_unfolding_all rfl) (by decide) (by rfl) (by decide) (by rfl) ?_)) | (k_dflt (refine LCg.ListComp_U (F₀ := by k_asm) (by with_unfolding_all rfl) (by decide) (by rfl) (by decide) (by rfl) ?_))) | (first | (lct_look; k_dflt (refine LCt.Assign_ListComp_T (F₀ := by k_asm) (by rfl) (by with_unfolding_all rfl) (by with_unfolding_all rfl) (by decide) (by rfl) (by decide) (by rfl) (by rfl) (by rfl) ?_)) | (k_dflt (refine LCg.Assign_ListComp_U (F₀ := by k_asm) (by rfl) (by with_unfolding_all rfl) (by with_unfolding_all rfl) (by decide) (by rfl) (by decide) (by rfl) (by rfl) (by rfl) ?_)))); k_steps))
  unfold Stop
  have hR1 := ‹IsRange _ _ _ _ _ _ _ _›
  refine for_rangeM (n := W.length + 1) (fun m₀ i m' n' => ∃ cvs cn r, IsOv ["goods", "customers", "others"] m₀ m' ∧ n' = (cu, listOf cvs.toArray cn) :: r ∧ (∀ p ∈ news, p ∈ r) ∧ (∀ p ∈ r, p.1 ≠ cu) ∧ IntsAre cvs (cutsAll W T i) ∧ cvs.length ≤ 5 * i)
    rfl (by exact hR1) (by omega) (by k_asm) (by k_asm) ?h1 ?turn1 ?done1
  case h1 => exact ⟨[], 0, news, IsOv.refl _ _, rfl, fun p hp => hp, fun p hp => Nat.ne_of_lt (l1 p hp), .nil, Nat.zero_le _⟩
  case turn1 =>
    rintro I i t m1 n1 h3 tk3 it hi ⟨cvs, cn, r, ⟨u, rfl⟩, rfl, hs, hr, hC, hCl⟩ off F3 N3
    have ht1 := hs _ ht
    have hw1 := hs _ hw
    (k_steps; repeat' ((unfold Stop; first | (first | (lct_look; k_dflt (refine LCt.ListComp_T (F₀ := by k_asm) (by with_unfolding_all rfl) (by decide) (by rfl) (by decide) (by rfl) ?_)) | (k_dflt (refine LCg.ListComp_U (F₀ := by k_asm) (by with_unfolding_all rfl) (by decide) (by rfl) (by decide) (by rfl) ?_))) | (first | (lct_look; k_dflt (refine LCt.Assign_ListComp_T (F₀ := by k_asm) (by rfl) (by with_unfolding_all rfl) (by with_unfolding_all rfl) (by decide) (by rfl) (by decide) (by rfl) (by rfl) (by rfl) ?_)) | (k_dflt (refine LCg.Assign_ListComp_U (F₀ := by k_asm) (by rfl) (by with_unfolding_all rfl) (by with_unfolding_all rfl) (by decide) (by rfl) (by decide) (by rfl) (by rfl) (by rfl) ?_)))); k_steps))
    unfold Stop
    have hR2 := ‹IsRange _ _ 0 ((T.length : Int) + 1) _ _ _ _›
    refine for_rangeM (n := T.length + 1) (fun m₀ k m' n' => ∃ cvs2 cn2 r2, IsOv ["customers", "others"] m₀ m' ∧ n' = (cu, listOf cvs2.toArray cn2) :: (I, it) :: r2 ∧ (∀ p ∈ r, p ∈ r2) ∧ (∀ p ∈ r2, p.1 ≠ cu) ∧ (∀ p ∈ r2, p.1 ≠ I) ∧ IntsAre cvs2 (cutsAll W T i ++ cutsRow W T i k) ∧ cvs2.length = cvs.length + k)
      rfl (by exact hR2) (by omega) (by k_asm) (npick (D := cu) (by k_asm) (.tail .head)) ?h2 ?turn2 ?done2
    case h2 => exact ⟨cvs, cn, r, IsOv.refl _ _, rfl, fun p hp => hp, hr, fun p hp => off p (.tail _ hp), by simpa [cutsRow] using hC, rfl⟩
    case turn2 =>
      rintro I2 k t2 m2 n2 h4 tk4 it2 hk ⟨cvs2, cn2, r2, ⟨u2, rfl⟩, rfl, hs2, hr2, hrI2, hC2, hCl2⟩ off2 F4 N4
      have ht2 := hs2 _ ht1
      have hw2 := hs2 _ hw1
      (k_steps; repeat' ((unfold Stop; first | (first | (lct_look; k_dflt (refine LCt.ListComp_T (F₀ := by k_asm) (by with_unfolding_all rfl) (by decide) (by rfl) (by decide) (by rfl) ?_)) | (k_dflt (refine LCg.ListComp_U (F₀ := by k_asm) (by with_unfolding_all rfl) (by decide) (by rfl) (by decide) (by rfl) ?_))) | (first | (lct_look; k_dflt (refine LCt.Assign_ListComp_T (F₀ := by k_asm) (by rfl) (by with_unfolding_all rfl) (by with_unfolding_all rfl) (by decide) (by rfl) (by decide) (by rfl) (by rfl) (by rfl) ?_)) | (k_dflt (refine LCg.Assign_ListComp_U (F₀ := by k_asm) (by rfl) (by with_unfolding_all rfl) (by with_unfolding_all rfl) (by decide) (by rfl) (by decide) (by rfl) (by rfl) (by rfl) ?_)))); k_steps))
      unfold Stop
      refine sorted_nats (by k_asm) (by k_asm) (by k_mem) hW (by omega) ?_
      intro D1 vs1 c1 h5 F5 N5 l5 hi1
      (k_steps; repeat' ((unfold Stop; first | (first | (lct_look; k_dflt (refine LCt.ListComp_T (F₀ := by k_asm) (by with_unfolding_all rfl) (by decide) (by rfl) (by decide) (by rfl) ?_)) | (k_dflt (refine LCg.ListComp_U (F₀ := by k_asm) (by with_unfolding_all rfl) (by decide) (by rfl) (by decide) (by rfl) ?_))) | (first | (lct_look; k_dflt (refine LCt.Assign_ListComp_T (F₀ := by k_asm) (by rfl) (by with_unfolding_all rfl) (by with_unfolding_all rfl) (by decide) (by rfl) (by decide) (by rfl) (by rfl) (by rfl) ?_)) | (k_dflt (refine LCg.Assign_ListComp_U (F₀ := by k_asm) (by rfl) (by with_unfolding_all rfl) (by with_unfolding_all rfl) (by decide) (by rfl) (by decide) (by rfl) (by rfl) (by rfl) ?_)))); k_steps))
      unfold Stop
      k_dflt (refine slice_to (vs := vs1) (n := c1) (c := W.length - i) (by omega) (by k_asm) (by k_asm) (by k_mem) (by have := hi1.length; simp [sortN] at this; omega) ?_ (by with_unfolding_all rfl) (by kmk_pure))
      intro E1 h6 F6 N6 l6
      (k_steps; repeat' ((unfold Stop; first | (first | (lct_look; k_dflt (refine LCt.ListComp_T (F₀ := by k_asm) (by with_unfolding_all rfl) (by decide) (by rfl) (by decide) (by rfl) ?_)) | (k_dflt (refine LCg.ListComp_U (F₀ := by k_asm) (by with_unfolding_all rfl) (by decide) (by rfl) (by decide) (by rfl) ?_))) | (first | (lct_look; k_dflt (refine LCt.Assign_ListComp_T (F₀ := by k_asm) (by rfl) (by with_unfolding_all rfl) (by with_unfolding_all rfl) (by decide) (by rfl) (by decide) (by rfl) (by rfl) (by rfl) ?_)) | (k_dflt (refine LCg.Assign_ListComp_U (F₀ := by k_asm) (by rfl) (by with_unfolding_all rfl) (by with_unfolding_all rfl) (by decide) (by rfl) (by decide) (by rfl) (by rfl) (by rfl) ?_)))); k_steps))
      unfold Stop
      refine sorted_nats (by k_asm) (by k_asm) (by k_mem) hT (by omega) ?_
      intro D2 vs2 c2 h7 F7 N7 l7 hi2
      (k_steps; repeat' ((unfold Stop; first | (first | (lct_look; k_dflt (refine LCt.ListComp_T (F₀ := by k_asm) (by with_unfolding_all rfl) (by decide) (by rfl) (by decide) (by rfl) ?_)) | (k_dflt (refine LCg.ListComp_U (F₀ := by k_asm) (by with_unfolding_all rfl) (by decide) (by rfl) (by decide) (by rfl) ?_))) | (first | (lct_look; k_dflt (refine LCt.Assign_ListComp_T (F₀ := by k_asm) (by rfl) (by with_unfolding_all rfl) (by with_unfolding_all rfl) (by decide) (by rfl) (by decide) (by rfl) (by rfl) (by rfl) ?_)) | (k_dflt (refine LCg.Assign_ListComp_U (F₀ := by k_asm) (by rfl) (by with_unfolding_all rfl) (by with_unfolding_all rfl) (by decide) (by rfl) (by decide) (by rfl) (by rfl) (by rfl) ?_)))); k_steps))
      unfold Stop
      k_dflt (refine slice_to (vs := vs2) (n := c2) (c := T.length - k) (by omega) (by k_asm) (by k_asm) (by k_mem) (by have := hi2.length; simp [sortN] at this; omega) ?_ (by with_unfolding_all rfl) (by kmk_pure))
      intro E2 h8 F8 N8 l8
      (k_steps; repeat' ((unfold Stop; first | (first | (lct_look; k_dflt (refine LCt.ListComp_T (F₀ := by k_asm) (by with_unfolding_all rfl) (by decide) (by rfl) (by decide) (by rfl) ?_)) | (k_dflt (refine LCg.ListComp_U (F₀ := by k_asm) (by with_unfolding_all rfl) (by decide) (by rfl) (by decide) (by rfl) ?_))) | (first | (lct_look; k_dflt (refine LCt.Assign_ListComp_T (F₀ := by k_asm) (by rfl) (by with_unfolding_all rfl) (by with_unfolding_all rfl) (by decide) (by rfl) (by decide) (by rfl) (by rfl) (by rfl) ?_)) | (k_dflt (refine LCg.Assign_ListComp_U (F₀ := by k_asm) (by rfl) (by with_unfolding_all rfl) (by with_unfolding_all rfl) (by decide) (by rfl) (by decide) (by rfl) (by rfl) (by rfl) ?_)))); k_steps))
      unfold Stop
      have hj1 : IntsAre (vs1.take (W.length - i)) (nats ((sortN W).take (W.length - i))) := by rw [nats, List.map_take]; exact IntsAre.take hi1 _
      have hj2 : IntsAre (vs2.take (T.length - k)) (nats ((sortN T).take (T.length - k))) := by rw [nats, List.map_take]; exact IntsAre.take hi2 _
      refine add_nats (by k_asm) (by k_asm) (.tail _ (.tail _ (.head _))) (.head _) hj1 hj2 (by simp; exact Nat.le_trans (Nat.add_le_add (Nat.min_le_left _ _) (Nat.min_le_left _ _)) (by omega)) ?_
      intro G us h9 F9 N9 l9 hus
      have q1 : @LT.lt Nat _ cu D1 := l5 (cu, _) (by k_mem)
      have q2 : @LT.lt Nat _ cu E1 := l6 (cu, _) (by k_mem)
      have q3 : @LT.lt Nat _ cu D2 := l7 (cu, _) (by k_mem)
      have q4 : @LT.lt Nat _ cu E2 := l8 (cu, _) (by k_mem)
      have q5 : @LT.lt Nat _ cu G := l9 (cu, _) (by k_mem)
      have w1 : @LT.lt Nat _ I D1 := l5 (I, _) (by k_mem)
      have w2 : @LT.lt Nat _ I E1 := l6 (I, _) (by k_mem)
      have w3 : @LT.lt Nat _ I D2 := l7 (I, _) (by k_mem)
      have w4 : @LT.lt Nat _ I E2 := l8 (I, _) (by k_mem)
      have w5 : @LT.lt Nat _ I G := l9 (I, _) (by k_mem)
      have z1 : @LT.lt Nat _ I2 D1 := l5 (I2, _) (by k_mem)
      have z2 : @LT.lt Nat _ I2 E1 := l6 (I2, _) (by k_mem)
      have z3 : @LT.lt Nat _ I2 D2 := l7 (I2, _) (by k_mem)
      have z4 : @LT.lt Nat _ I2 E2 := l8 (I2, _) (by k_mem)
      have z5 : @LT.lt Nat _ I2 G := l9 (I2, _) (by k_mem)
      have y1 : @Ne Nat cu I2 := off2 (cu, _) (by k_mem)
      have y2 : @Ne Nat I I2 := off2 (I, _) (by k_mem)
      have y3 : @Ne Nat cu I := off (cu, _) (by k_mem)
      have hlen2 : cvs2.length ≤ 5 * 5 + 5 := by omega
      (k_steps; repeat' ((unfold Stop; first | (first | (lct_look; k_dflt (refine LCt.ListComp_T (F₀ := by k_asm) (by with_unfolding_all rfl) (by decide) (by rfl) (by decide) (by rfl) ?_)) | (k_dflt (refine LCg.ListComp_U (F₀ := by k_asm) (by with_unfolding_all rfl) (by decide) (by rfl) (by decide) (by rfl) ?_))) | (first | (lct_look; k_dflt (refine LCt.Assign_ListComp_T (F₀ := by k_asm) (by rfl) (by with_unfolding_all rfl) (by with_unfolding_all rfl) (by decide) (by rfl) (by decide) (by rfl) (by rfl) (by rfl) ?_)) | (k_dflt (refine LCg.Assign_ListComp_U (F₀ := by k_asm) (by rfl) (by with_unfolding_all rfl) (by with_unfolding_all rfl) (by decide) (by rfl) (by decide) (by rfl) (by rfl) (by rfl) ?_)))); k_steps))
      unfold Stop
      refine sum_nats rfl (by k_asm) (by k_asm) (by k_mem) hus ?_
      intro h10 tk10 t10 F10 N10
      (k_steps; repeat' ((unfold Stop; first | (first | (lct_look; k_dflt (refine LCt.ListComp_T (F₀ := by k_asm) (by with_unfolding_all rfl) (by decide) (by rfl) (by decide) (by rfl) ?_)) | (k_dflt (refine LCg.ListComp_U (F₀ := by k_asm) (by with_unfolding_all rfl) (by decide) (by rfl) (by decide) (by rfl) ?_))) | (first | (lct_look; k_dflt (refine LCt.Assign_ListComp_T (F₀ := by k_asm) (by rfl) (by with_unfolding_all rfl) (by with_unfolding_all rfl) (by decide) (by rfl) (by decide) (by rfl) (by rfl) (by rfl) ?_)) | (k_dflt (refine LCg.Assign_ListComp_U (F₀ := by k_asm) (by rfl) (by with_unfolding_all rfl) (by with_unfolding_all rfl) (by decide) (by rfl) (by decide) (by rfl) (by rfl) (by rfl) ?_)))); k_steps))
      refine fEnd_intro (by k_asm) (npick (D := I2) (npick (D := cu) (npick (D := I) (by k_asm) (.tail (.tail (.tail (.tail (.tail (.tail (.tail (.head))))))))) (.tail (.tail (.tail (.tail (.tail (.tail (.tail (.head))))))))) (.tail (.tail (.tail (.tail (.tail (.tail (.tail (.head))))))))) ?_ ⟨_, _, _, IsOv.up (IsOv.up (IsOv.mk _ _ _) rfl) rfl, rfl, fun p hp => .tail _ (.tail _ (.tail _ (.tail _ (.tail _ (hs2 p hp))))), ?_, ?_, ?_, ?_⟩
      · exact List.forall_mem_cons.mpr ⟨y1, List.forall_mem_cons.mpr ⟨y2, List.forall_mem_cons.mpr ⟨Nat.ne_of_gt z5, List.forall_mem_cons.mpr ⟨Nat.ne_of_gt z4, List.forall_mem_cons.mpr ⟨Nat.ne_of_gt z3, List.forall_mem_cons.mpr ⟨Nat.ne_of_gt z2, List.forall_mem_cons.mpr ⟨Nat.ne_of_gt z1, fun p hp => off2 p (.tail _ (.tail _ hp))⟩⟩⟩⟩⟩⟩⟩
      · exact List.forall_mem_cons.mpr ⟨Nat.ne_of_gt q5, List.forall_mem_cons.mpr ⟨Nat.ne_of_gt q4, List.forall_mem_cons.mpr ⟨Nat.ne_of_gt q3, List.forall_mem_cons.mpr ⟨Nat.ne_of_gt q2, List.forall_mem_cons.mpr ⟨Nat.ne_of_gt q1, hr2⟩⟩⟩⟩⟩
      · exact List.forall_mem_cons.mpr ⟨Nat.ne_of_gt w5, List.forall_mem_cons.mpr ⟨Nat.ne_of_gt w4, List.forall_mem_cons.mpr ⟨Nat.ne_of_gt w3, List.forall_mem_cons.mpr ⟨Nat.ne_of_gt w2, List.forall_mem_cons.mpr ⟨Nat.ne_of_gt w1, hrI2⟩⟩⟩⟩⟩
      · have e : cutsRow W T i (k + 1) = cutsRow W T i k ++ [cutVal W T i k] := by
          unfold cutsRow
          rw [List.range_succ, List.map_append]; rfl
        rw [e, ← List.append_assoc]
        exact hC2.append (.cons _ _ .nil)
      · rw [List.length_append, hCl2]; simp only [List.length_cons, List.length_nil]; omega
    case done2 =>
      rintro m2 n2 h4 tk4 ⟨cvs2, cn2, r2, ⟨u2, rfl⟩, rfl, hs2, hr2, hrI2, hC2, hCl2⟩ F4 N4
      (k_steps; repeat' ((unfold Stop; first | (first | (lct_look; k_dflt (refine LCt.ListComp_T (F₀ := by k_asm) (by with_unfolding_all rfl) (by decide) (by rfl) (by decide) (by rfl) ?_)) | (k_dflt (refine LCg.ListComp_U (F₀ := by k_asm) (by with_unfolding_all rfl) (by decide) (by rfl) (by decide) (by rfl) ?_))) | (first | (lct_look; k_dflt (refine LCt.Assign_ListComp_T (F₀ := by k_asm) (by rfl) (by with_unfolding_all rfl) (by with_unfolding_all rfl) (by decide) (by rfl) (by decide) (by rfl) (by rfl) (by rfl) ?_)) | (k_dflt (refine LCg.Assign_ListComp_U (F₀ := by k_asm) (by rfl) (by with_unfolding_all rfl) (by with_unfolding_all rfl) (by decide) (by rfl) (by decide) (by rfl) (by rfl) (by rfl) ?_)))); k_steps))
      refine fEnd_intro (by k_asm) (npick (D := I) (npick (D := cu) N4 (.head)) (.tail (.head))) ?_ ⟨_, _, _, IsOv.sub (IsOv.up (IsOv.mk _ _ _) rfl) rfl, rfl, fun p hp => hs2 p (hs p hp), hr2, ?_, ?_⟩
      · exact List.forall_mem_cons.mpr ⟨off (cu, listOf cvs.toArray cn) (.head _), hrI2⟩
      · have e : cutsAll W T (i + 1) = cutsAll W T i ++ cutsRow W T i (T.length + 1) := by
          unfold cutsAll
          rw [List.range_succ, List.flatMap_append]; simp
        rw [e]; exact hC2
      · omega
  case done1 =>
    rintro m1 n1 h3 tk3 ⟨cvs, cn, r, ⟨u, rfl⟩, rfl, hs, hr, hC, hCl⟩ F3 N3
    have hne : 0 < (cutsAll W T (W.length + 1)).length := by
      unfold cutsAll
      rw [List.range_succ_eq_map, List.flatMap_cons, List.length_append]
      simp only [cutsRow, List.length_map, List.length_range]; omega
    (k_steps; repeat' ((unfold Stop; first | (first | (lct_look; k_dflt (refine LCt.ListComp_T (F₀ := by k_asm) (by with_unfolding_all rfl) (by decide) (by rfl) (by decide) (by rfl) ?_)) | (k_dflt (refine LCg.ListComp_U (F₀ := by k_asm) (by with_unfolding_all rfl) (by decide) (by rfl) (by decide) (by rfl) ?_))) | (first | (lct_look; k_dflt (refine LCt.Assign_ListComp_T (F₀ := by k_asm) (by rfl) (by with_unfolding_all rfl) (by with_unfolding_all rfl) (by decide) (by rfl) (by decide) (by rfl) (by rfl) (by rfl) ?_)) | (k_dflt (refine LCg.Assign_ListComp_U (F₀ := by k_asm) (by rfl) (by with_unfolding_all rfl) (by with_unfolding_all rfl) (by decide) (by rfl) (by decide) (by rfl) (by rfl) (by rfl) ?_)))); k_steps))
    unfold Stop
    refine kso_min (by k_asm) (by k_asm) ⟨_, (N3 _ (.head _)).1, rfl, cn, rfl⟩ hC hne rfl ?_
    intro h4 M t4 tk4 F4 N4 hM1 hM2
    (k_steps; repeat' ((unfold Stop; first | (first | (lct_look; k_dflt (refine LCt.ListComp_T (F₀ := by k_asm) (by with_unfolding_all rfl) (by decide) (by rfl) (by decide) (by rfl) ?_)) | (k_dflt (refine LCg.ListComp_U (F₀ := by k_asm) (by with_unfolding_all rfl) (by decide) (by rfl) (by decide) (by rfl) ?_))) | (first | (lct_look; k_dflt (refine LCt.Assign_ListComp_T (F₀ := by k_asm) (by rfl) (by with_unfolding_all rfl) (by with_unfolding_all rfl) (by decide) (by rfl) (by decide) (by rfl) (by rfl) (by rfl) ?_)) | (k_dflt (refine LCg.Assign_ListComp_U (F₀ := by k_asm) (by rfl) (by with_unfolding_all rfl) (by with_unfolding_all rfl) (by decide) (by rfl) (by decide) (by rfl) (by rfl) (by rfl) ?_)))); k_steps))
    exact ret _ _ _ _ (by k_asm) (by k_asm) ⟨fun p hp => .tail _ (hs p hp), M, _, rfl, hM1, hM2⟩
end

end
section
noncomputable def dg8 (n : Nat) : List Nat := if h : n = 0 then [] else n % 8 :: dg8 (n / 8)
termination_by n
decreasing_by omega
theorem dg8_zero : dg8 0 = [] := by rw [dg8]; rfl
theorem dg8_pos {n : Nat} (h : 0 < n) : dg8 n = n % 8 :: dg8 (n / 8) := by
  rw [dg8, dif_neg (by omega)]
theorem dg8_len : ∀ (k n : Nat), n < 8 ^ k → (dg8 n).length ≤ k := by
  intro k
  induction k with
  | zero => intro n hn; have : n = 0 := by omega
            subst this; rw [dg8_zero]; exact Nat.le_refl _
  | succ k ih =>
    intro n hn
    by_cases h : n = 0
    · subst h; rw [dg8_zero]; exact Nat.zero_le _
    · rw [dg8_pos (by omega), List.length_cons]
      have := ih (n / 8) (by rw [Nat.pow_succ] at hn; omega)
      omega
section
variable {prog : Program} {w : World} {A : Around} {E : Value → Shared → Prop} {s : Shared}
theorem mod8_nat {a : Nat} {t u : Tok} {Q : Value → Shared → Prop} (h : Q (.int ((a % 8 : Nat) : Int) s.toks) { s with toks := s.toks + 1 }) :
    wpAny (model prog w) A (binaryOp .Mod (.int (a : Int) t) (.int 8 u)) Q E s := by
  refine mod_int (by decide) ?_
  have e : ((a : Int)).fmod 8 = ((a % 8 : Nat) : Int) := by
    rw [Int.fmod_eq_emod_of_nonneg _ (by decide)]; omega
  rw [e]; exact h
theorem div8_nat {a : Nat} {t u : Tok} {Q : Value → Shared → Prop} (h : Q (.int ((a / 8 : Nat) : Int) s.toks) { s with toks := s.toks + 1 }) :
    wpAny (model prog w) A (binaryOp .FloorDiv (.int (a : Int) t) (.int 8 u)) Q E s := by
  refine floordiv_int (by decide) ?_ (Or.inl (PyProof.noPylong_of_log2 (by decide +kernel)))
  have e : ((a : Int)).fdiv 8 = ((a / 8 : Nat) : Int) := by
    rw [Int.fdiv_eq_ediv_of_nonneg _ (by decide)]
    omega
  rw [e]; exact h
end
section
local macro_rules | `(tactic| walk_at $k:str) => tabl [("newList", "ST"), ("exec While Compare cons nil", "ST"), ("binaryOp FloorDiv int int", "ST"), ("binaryOp Mod int int", "ST")] k
theorem c_eights (w : World) (news : List (Addr × Obj)) (x : Nat) (t : Tok) (hx : x < 4096) :
   Con w 8 100 (call (.ref 272) [.int (x : Int) t]) news (fun r news' => ∃ D vs c, r = .ref D ∧ news' = (D, listOf vs.toArray c) :: news ∧ (∀ p ∈ news, p.1 < D) ∧ IntsAre vs (nats (dg8 x))) := by
  intro p loose mean mg mb dp un gd cn cs a ccd cl outer A₀ base h₀ L m s Q E B F X N T' hkf hdd hu ret
  refine wpAny_call ?_
  k_dflt (first | (refine' code_defC ?k1 ?k2 ?k3 ?k4 ?k5 ?kA ?kF ?kK ?k6 ?k7 ?k8 ?k9 ?kB ?kD ?_ ?c2 ?c3 ?c4; (case kA => exact rfl); (case kF => exact rfl); (case kK => first | exact rfl | assumption); (case k1 => k_asm); (case k2 => k_asm); (case k3 => k_asm); (case k4 => k_asm); (case k5 => k_asm); (case k6 => k_is); (case k7 => k_is); (case k8 => first | k_room | ktr_room); (case k9 => first | exact BindsTo.of_eq rfl | (refine' kp_binds ?kx ?ke; (case kx => k_in); (case ke => exact fun _ => rfl)) | exact binds_K (by k_in) rfl (by k_is) rfl rfl rfl); (case kB => exact rfl); (case kD => decide +kernel); (case c2 => exact rfl); (case c3 => exact rfl); (case c4 => exact rfl); k_whole; intro g' L' h' tk' cells' FG' F' N' Y' B' X' T' l1; (try k_lt l1); k_cells Y'; (try simp only [List.cons_append, List.nil_append] at N'); (try dsimp only); (try k_lift B'); (try k_fold)) | (kp_kind "more"; (refine' kp_more ?k1 ?k2 ?k3 ?k4 ?k5 ?kA ?kF ?kK ?k6 ?k7 ?k8 ?kX ?kM ?kN ?kD ?kR ?kP ?kT ?kB ?_ ?c2 ?c3 ?c4 ?c5; (case kA => exact rfl); (case kF => exact rfl); (case kK => first | exact rfl | assumption); (case k1 => k_asm); (case k2 => k_asm); (case k3 => k_asm); (case k4 => k_asm); (case k5 => k_asm); (case k6 => k_is); (case k7 => k_is); (case k8 => first | k_room | ktr_room); (case kX => kp_lit); (case kM => exact rfl); (case kN => exact rfl); (case kD => kp_flats); (case kR => exact rfl); (case kP => exact rfl); (case kT => exact fun _ => rfl); (case kB => exact fun _ => locs rfl); (case c5 => decide); (case c2 => exact rfl); (case c3 => exact rfl); (case c4 => exact rfl); k_whole; intro D' o' g' L' h' tk' l1 lo' hs' fs' FG' F' N' B' X' T'; (try k_lt l1); (try dsimp only); (try k_lift B'); (try k_fold))) | (refine' code_def ?k1 ?k2 ?k3 ?k4 ?k5 ?kA ?kF ?kK ?k6 ?k7 ?k8 ?k9 ?kB ?_ ?c2 ?c3 ?c4 ?c5; (case kA => exact rfl); (case kF => exact rfl); (case kK => first | exact rfl | assumption); (case k1 => k_asm); (case k2 => k_asm); (case k3 => k_asm); (case k4 => k_asm); (case k5 => k_asm); (case k6 => k_is); (case k7 => k_is); (case k8 => first | k_room | ktr_room); (case k9 => first | exact BindsTo.of_eq rfl | (refine' kp_binds ?kx ?ke; (case kx => k_in); (case ke => exact fun _ => rfl)) | exact binds_K (by k_in) rfl (by k_is) rfl rfl rfl); (case c5 => decide); (case kB => exact locs rfl); (case c2 => exact rfl); (case c3 => exact rfl); (case c4 => exact rfl); k_whole; intro g' L' h' FG' F' N' B' X' T'; (try dsimp only); (try k_lift B'); (try k_fold)))
  (k_steps; repeat' ((unfold Stop; first | ((k_here; with_reducible refine div8_nat ?_)) | ((k_here; with_reducible refine mod8_nat ?_))); k_steps))
  unfold Stop
  refine newList_K (by k_asm) (by k_asm) ?_
  intro D h1 F1 N1 l1
  (k_steps; repeat' ((unfold Stop; first | ((k_here; with_reducible refine div8_nat ?_)) | ((k_here; with_reducible refine mod8_nat ?_))); k_steps))
  unfold Stop
  refine while_invM (fun m₀ k m' news' => ∃ u y yt vs c acc, m' = up (ov ["x"] u m₀) "x" (some (.int ((y : Nat) : Int) yt)) ∧ news' = (D, listOf vs.toArray c) :: news ∧ IntsAre vs (nats acc) ∧ acc ++ dg8 y = dg8 x ∧ k = y ∧ y < 4096 ∧ acc.length ≤ 4) (k := x) ?hE (by k_asm) (by k_asm) ?hI ?turn
  case hE => passes_own
  case hI => exact ⟨_, x, t, [], 0, [], isOv_up (IsOv.refl _ _) rfl rfl, rfl, .nil, rfl, rfl, hx, Nat.zero_le _⟩
  case turn =>
    rintro k m' news' h tk ⟨u, y, yt, vs, c, acc, rfl, rfl, hvs, hacc, rfl, hy, hal⟩ F' N'
    have hne : ∀ p ∈ news, p.1 ≠ D := fun p hp => Nat.ne_of_lt (l1 p hp)
    have hvl : vs.length ≤ 4 := by rw [hvs.length]; simpa using hal
    have hal2 : acc.length + (dg8 k).length ≤ 4 := by
      have := dg8_len 4 x hx
      rw [← hacc, List.length_append] at this
      exact this
    (k_steps; repeat' ((unfold Stop; first | ((k_here; with_reducible refine div8_nat ?_)) | ((k_here; with_reducible refine mod8_nat ?_))); k_steps))
    refine whlIf_dec (fun hp => ?_) fun hp => ?_
    · have hp' : 0 < k := by omega
      rw [dg8_pos hp'] at hacc hal2
      simp only [List.length_cons] at hal2
      (k_steps; repeat' ((unfold Stop; first | ((k_here; with_reducible refine div8_nat ?_)) | ((k_here; with_reducible refine mod8_nat ?_))); k_steps))
      refine wEnd_intro (by k_asm) (by k_asm) (k' := k / 8) (by omega) ⟨_, k / 8, _, _, _, acc ++ [k % 8], isOv_up (IsOv.up (IsOv.up (IsOv.mk _ _ _) rfl) rfl) rfl rfl, rfl, ?_, by rw [List.append_assoc]; exact hacc, rfl, by omega, ?_⟩
      · rw [nats, List.map_append]; exact hvs.append (.cons _ _ .nil)
      · rw [List.length_append]; simp only [List.length_cons, List.length_nil]; omega
    · have hp' : k = 0 := by omega
      subst hp'
      rw [dg8_zero, List.append_nil] at hacc
      subst hacc
      (k_steps; repeat' ((unfold Stop; first | ((k_here; with_reducible refine div8_nat ?_)) | ((k_here; with_reducible refine mod8_nat ?_))); k_steps))
      exact ret _ _ _ _ (by k_asm) (by k_asm) ⟨D, vs, c, rfl, rfl, l1, hvs⟩
end

end
section
noncomputable def lowc (c : Nat) : Nat := if c < 97 then c + 32 else c
theorem lower_chS : ∀ c ∈ [65, 66, 67, 68, 97, 98, 99, 100], Txt.lower (chS c) = chS (lowc c) := by decide +kernel
theorem lower_fits : ∀ c ∈ [65, 66, 67, 68, 97, 98, 99, 100], PySem.Builtin.Str.tooLong (Txt.lower (chS c)).length = false := by decide +kernel
theorem chS_inj {a b : Nat} (h : chS a = chS b) : a = b := by
  simp only [chS, Str.mk.injEq, Array.mk.injEq, List.cons.injEq, and_true] at h
  exact h
theorem datIn_hpair {news : List (Addr × Obj)} {v : Value} {p : Nat × Nat} (h : DatIn news v (hdat p)) : ∃ a t u n, v = .ref a ∧ (a, tupOf [.str (chS p.1) t, .str (chS p.2) u] n) ∈ news := by
  cases h with
  | tuple hm r =>
    cases r with
    | cons h1 r =>
      cases r with
      | cons h2 r =>
        cases r
        cases h1
        cases h2
        exact ⟨_, _, _, _, rfl, hm⟩
section
variable {prog : Program} {w : World} {A : Around} {E : Value → Shared → Prop} {s : Shared} {h₀ : Heap} {L : Addr} {news : List (Addr × Obj)}
theorem tup_g0 {a : Addr} {x y : Value} {z : Tok} {n : Nat} {value slice : PySem.Expr} {Q : Value → Shared → Prop} (N : News h₀ L s.heap news) (hm : (a, tupOf [x, y] n) ∈ news) (h : Q x s)
    (hs : subscripted slice false (.ref a) (.int 0 z) = operate [.ref a, .int 0 z] (getItem (.ref a) (.int 0 z)) := by with_unfolding_all rfl) :
    wpAny (model prog w) A (subscriptTail value slice (.ref a) (.int 0 z)) Q E s := by
  have ht : IsTup s.heap a #[x, y] := ⟨_, (N _ hm).1, rfl, n, rfl⟩
  exact tail_any ht.typeIs slot_tuple_getitem.lookup (getItem_tuple ht (by decide) (by decide) (j := 0) (by rfl) (by rfl) h) hs
theorem tup_g1 {a : Addr} {x y : Value} {z : Tok} {n : Nat} {value slice : PySem.Expr} {Q : Value → Shared → Prop} (N : News h₀ L s.heap news) (hm : (a, tupOf [x, y] n) ∈ news) (h : Q y s)
    (hs : subscripted slice false (.ref a) (.int 1 z) = operate [.ref a, .int 1 z] (getItem (.ref a) (.int 1 z)) := by with_unfolding_all rfl) :
    wpAny (model prog w) A (subscriptTail value slice (.ref a) (.int 1 z)) Q E s := by
  have ht : IsTup s.heap a #[x, y] := ⟨_, (N _ hm).1, rfl, n, rfl⟩
  exact tail_any ht.typeIs slot_tuple_getitem.lookup (getItem_tuple ht (by decide) (by decide) (j := 1) (by rfl) (by rfl) h) hs
theorem low_rule {c : Nat} {t : Tok} {Q : Value → Shared → Prop} (hc : c ∈ [65, 66, 67, 68, 97, 98, 99, 100]) (h : ∀ t' k, Q (.str (chS (lowc c)) t') { s with toks := k }) : wpAny (model prog w) A (call (.builtin "str.lower") [.str (chS c) t]) Q E s :=
  KXw.lower (lower_chS c hc) (lower_fits c hc) h
end
section
local macro_rules | `(tactic| walk_at "zz") => `(tactic| walk_at "ST")
local macro_rules | `(tactic| walk_at $k:str) => tabl [("call ref", "ST"), ("subscriptTail", "SB"), ("subscriptTail Name Slice ref ref", "ST"), ("call builtin:str.lower", "ST")] k
theorem c_items (w : World) (rest : List (Addr × Obj)) (x d l : Addr) (tk : Tok) (vs : List Value) (n : Nat)
   (hx : (x, instObj 254 d) ∈ rest) (hd : (d, hdict w l tk) ∈ rest) (hl : (l, listOf vs.toArray n) ∈ rest) (hsz : vs.length ≤ 1000) :
   Con w 4 32 (call (.ref 218) [.ref x]) rest (fun r news' => ∃ D, r = .ref D ∧ news' = (D, listOf vs.toArray 0) :: rest ∧ (∀ p ∈ rest, p.1 < D)) := by
  intro p loose mean mg mb dp un gd cn cs a ccd cl outer A₀ base h₀ L m s Q E B F X N T hkf hdd hu ret
  refine wpAny_call ?_
  k_dflt (first | (refine' code_defC ?k1 ?k2 ?k3 ?k4 ?k5 ?kA ?kF ?kK ?k6 ?k7 ?k8 ?k9 ?kB ?kD ?_ ?c2 ?c3 ?c4; (case kA => exact rfl); (case kF => exact rfl); (case kK => first | exact rfl | assumption); (case k1 => k_asm); (case k2 => k_asm); (case k3 => k_asm); (case k4 => k_asm); (case k5 => k_asm); (case k6 => k_is); (case k7 => k_is); (case k8 => first | k_room | ktr_room); (case k9 => first | exact BindsTo.of_eq rfl | (refine' kp_binds ?kx ?ke; (case kx => k_in); (case ke => exact fun _ => rfl)) | exact binds_K (by k_in) rfl (by k_is) rfl rfl rfl); (case kB => exact rfl); (case kD => decide +kernel); (case c2 => exact rfl); (case c3 => exact rfl); (case c4 => exact rfl); k_whole; intro g' L' h' tk' cells' FG' F' N' Y' B' X' T' l1; (try k_lt l1); k_cells Y'; (try simp only [List.cons_append, List.nil_append] at N'); (try dsimp only); (try k_lift B'); (try k_fold)) | (kp_kind "more"; (refine' kp_more ?k1 ?k2 ?k3 ?k4 ?k5 ?kA ?kF ?kK ?k6 ?k7 ?k8 ?kX ?kM ?kN ?kD ?kR ?kP ?kT ?kB ?_ ?c2 ?c3 ?c4 ?c5; (case kA => exact rfl); (case kF => exact rfl); (case kK => first | exact rfl | assumption); (case k1 => k_asm); (case k2 => k_asm); (case k3 => k_asm); (case k4 => k_asm); (case k5 => k_asm); (case k6 => k_is); (case k7 => k_is); (case k8 => first | k_room | ktr_room); (case kX => kp_lit); (case kM => exact rfl); (case kN => exact rfl); (case kD => kp_flats); (case kR => exact rfl); (case kP => exact rfl); (case kT => exact fun _ => rfl); (case kB => exact fun _ => locs rfl); (case c5 => decide); (case c2 => exact rfl); (case c3 => exact rfl); (case c4 => exact rfl); k_whole; intro D' o' g' L' h' tk' l1 lo' hs' fs' FG' F' N' B' X' T'; (try k_lt l1); (try dsimp only); (try k_lift B'); (try k_fold))) | (refine' code_def ?k1 ?k2 ?k3 ?k4 ?k5 ?kA ?kF ?kK ?k6 ?k7 ?k8 ?k9 ?kB ?_ ?c2 ?c3 ?c4 ?c5; (case kA => exact rfl); (case kF => exact rfl); (case kK => first | exact rfl | assumption); (case k1 => k_asm); (case k2 => k_asm); (case k3 => k_asm); (case k4 => k_asm); (case k5 => k_asm); (case k6 => k_is); (case k7 => k_is); (case k8 => first | k_room | ktr_room); (case k9 => first | exact BindsTo.of_eq rfl | (refine' kp_binds ?kx ?ke; (case kx => k_in); (case ke => exact fun _ => rfl)) | exact binds_K (by k_in) rfl (by k_is) rfl rfl rfl); (case c5 => decide); (case kB => exact locs rfl); (case c2 => exact rfl); (case c3 => exact rfl); (case c4 => exact rfl); k_whole; intro g' L' h' FG' F' N' B' X' T'; (try dsimp only); (try k_lift B'); (try k_fold)))
  (k_steps; repeat' ((unfold Stop; first | (first | (lct_look; k_dflt (refine LCt.ListComp_T (F₀ := by k_asm) (by with_unfolding_all rfl) (by decide) (by rfl) (by decide) (by rfl) ?_)) | (k_dflt (refine LCg.ListComp_U (F₀ := by k_asm) (by with_unfolding_all rfl) (by decide) (by rfl) (by decide) (by rfl) ?_))) | (first | (lct_look; k_dflt (refine LCt.Assign_ListComp_T (F₀ := by k_asm) (by rfl) (by with_unfolding_all rfl) (by with_unfolding_all rfl) (by decide) (by rfl) (by decide) (by rfl) (by rfl) (by rfl) ?_)) | (k_dflt (refine LCg.Assign_ListComp_U (F₀ := by k_asm) (by rfl) (by with_unfolding_all rfl) (by with_unfolding_all rfl) (by decide) (by rfl) (by decide) (by rfl) (by rfl) (by rfl) ?_)))); k_steps))
  unfold Stop
  k_dflt (refine kms_slice_lit (zs := vs) (by k_asm) (by k_asm) ⟨_, (News.get (by k_asm) hl), rfl, n, rfl⟩ .none .none ?_ ?_ (by with_unfolding_all rfl) (by kmk_pure) (by simp only [List.size_toArray, PySem.sizeLine_eq]; omega))
  · show kms_pick vs.toArray.toList none none = vs
    simp [kms_pick, kms_lo, kms_hi]
  intro D h1 F1 N1 l1
  (k_steps; repeat' ((unfold Stop; first | (first | (lct_look; k_dflt (refine LCt.ListComp_T (F₀ := by k_asm) (by with_unfolding_all rfl) (by decide) (by rfl) (by decide) (by rfl) ?_)) | (k_dflt (refine LCg.ListComp_U (F₀ := by k_asm) (by with_unfolding_all rfl) (by decide) (by rfl) (by decide) (by rfl) ?_))) | (first | (lct_look; k_dflt (refine LCt.Assign_ListComp_T (F₀ := by k_asm) (by rfl) (by with_unfolding_all rfl) (by with_unfolding_all rfl) (by decide) (by rfl) (by decide) (by rfl) (by rfl) (by rfl) ?_)) | (k_dflt (refine LCg.Assign_ListComp_U (F₀ := by k_asm) (by rfl) (by with_unfolding_all rfl) (by with_unfolding_all rfl) (by decide) (by rfl) (by decide) (by rfl) (by rfl) (by rfl) ?_)))); k_steps))
  exact ret _ _ _ _ (by k_asm) (by k_asm) ⟨D, rfl, rfl, l1⟩
theorem c_getAll (w : World) (rest nd : List (Addr × Obj)) (x d l : Addr) (tk : Tok) (vs : List Value) (n g : Nat) (t : Tok) (ps : List (Nat × Nat)) (hg : g < 4)
   (hx : (x, instObj 254 d) ∈ rest) (hd : (d, hdict w l tk) ∈ rest) (hl : (l, listOf vs.toArray n) ∈ rest) (hnd : ∀ p ∈ nd, p ∈ rest) (hD : DatAll nd vs (ps.map hdat)) (hps : ∀ p ∈ ps, p.1 ∈ [65, 66, 67, 68, 97, 98, 99, 100]) (hsz : ps.length ≤ 1000) :
   Con w 4 40 (call (.ref 193) [.ref x, .str (chS (65 + g)) t]) rest (fun r news' => ∃ D us c, r = .ref D ∧ news' = (D, listOf us.toArray c) :: rest ∧ (∀ p ∈ rest, p.1 ≠ D) ∧ DatAll rest us ((ps.filter fun p => decide (lowc p.1 = 97 + g)).map fun p => .str (chS p.2))) := by
  intro p loose mean mg mb dp un gd cn cs a ccd cl outer A₀ base h₀ L m s Q E B F X N T hkf hdd hu ret
  refine wpAny_call ?_
  refine' code_defC ?k1 ?k2 ?k3 ?k4 ?k5 ?kA ?kF ?kK ?k6 ?k7 ?k8 ?k9 ?kB ?kD ?_ ?c2 ?c3 ?c4
  case kA => exact rfl
  case kF => exact rfl
  case kK => assumption
  case k1 => k_asm
  case k2 => k_asm
  case k3 => k_asm
  case k4 => k_asm
  case k5 => k_asm
  case k6 => k_is
  case k7 => k_is
  case k8 => first | k_room | ktr_room
  case k9 => exact BindsTo.of_eq rfl
  case kB => exact rfl
  case kD => decide +kernel
  case c2 => exact rfl
  case c3 => exact rfl
  case c4 => exact rfl
  k_whole
  intro g' L' h' tk' cells' FG' F' N' Y' B' X' T2 l1
  obtain ⟨oN, hE, d1⟩ := PyProof.Rows.CellsAre.one Y'
  subst hE
  clear Y'
  replace F' : Fr g' L' h' (fun y => if y = Str.ofString "self" then some (.ref x) else none) := by with_unfolding_all exact F'
  replace d1 : oN.data = .cell (some (.str (chS (65 + g)) t)) := by with_unfolding_all exact d1
  simp only [List.cons_append, List.nil_append] at N'
  try dsimp only
  try k_lift B'
  try k_fold
  have hne : ∀ p ∈ rest, p.1 ≠ L' + 1 := fun p hp => Nat.ne_of_lt (Nat.lt_succ_of_lt (l1 p hp))
  (k_steps; repeat' ((unfold Stop; first | (first | (lct_look; k_dflt (refine LCt.ListComp_T (F₀ := by k_asm) (by with_unfolding_all rfl) (by decide) (by rfl) (by decide) (by rfl) ?_)) | (k_dflt (refine LCg.ListComp_U (F₀ := by k_asm) (by with_unfolding_all rfl) (by decide) (by rfl) (by decide) (by rfl) ?_))) | (first | (lct_look; k_dflt (refine LCt.Assign_ListComp_T (F₀ := by k_asm) (by rfl) (by with_unfolding_all rfl) (by with_unfolding_all rfl) (by decide) (by rfl) (by decide) (by rfl) (by rfl) (by rfl) ?_)) | (k_dflt (refine LCg.Assign_ListComp_U (F₀ := by k_asm) (by rfl) (by with_unfolding_all rfl) (by with_unfolding_all rfl) (by decide) (by rfl) (by decide) (by rfl) (by rfl) (by rfl) ?_)))); k_steps))
  unfold Stop
  refine low_rule (by first | exact memU (by omega) | exact memL (by omega) | exact memD (by omega)) ?_
  intro t1 k1
  have elow : lowc (65 + g) = 97 + g := by unfold lowc; rw [if_pos (by omega)]; omega
  rw [elow]
  (k_steps; repeat' ((unfold Stop; first | (first | (lct_look; k_dflt (refine LCt.ListComp_T (F₀ := by k_asm) (by with_unfolding_all rfl) (by decide) (by rfl) (by decide) (by rfl) ?_)) | (k_dflt (refine LCg.ListComp_U (F₀ := by k_asm) (by with_unfolding_all rfl) (by decide) (by rfl) (by decide) (by rfl) ?_))) | (first | (lct_look; k_dflt (refine LCt.Assign_ListComp_T (F₀ := by k_asm) (by rfl) (by with_unfolding_all rfl) (by with_unfolding_all rfl) (by decide) (by rfl) (by decide) (by rfl) (by rfl) (by rfl) ?_)) | (k_dflt (refine LCg.Assign_ListComp_U (F₀ := by k_asm) (by rfl) (by with_unfolding_all rfl) (by with_unfolding_all rfl) (by decide) (by rfl) (by decide) (by rfl) (by rfl) (by rfl) ?_)))); k_steps))
  unfold Stop
  k_dflt (refine Con.use (c_convN _ _ _ _ _ (by first | exact memU (by omega) | exact memL (by omega) | exact memD (by omega))) (by k_asm) (by k_asm) (by k_asm) (by k_asm) (by k_asm) (by (first | exact rfl | assumption)) (by ((try dsimp only [ktrTop]); omega)) (by ((try simp only [units_in1, units_deeper, Around.mark_units, units_caller]); (try dsimp only [ktrTop]); omega)) ?_)
  rintro _ h2 tk2 n2 F2 N2 ⟨⟨t2, rfl⟩, rfl⟩
  (k_steps; repeat' ((unfold Stop; first | (first | (lct_look; k_dflt (refine LCt.ListComp_T (F₀ := by k_asm) (by with_unfolding_all rfl) (by decide) (by rfl) (by decide) (by rfl) ?_)) | (k_dflt (refine LCg.ListComp_U (F₀ := by k_asm) (by with_unfolding_all rfl) (by decide) (by rfl) (by decide) (by rfl) ?_))) | (first | (lct_look; k_dflt (refine LCt.Assign_ListComp_T (F₀ := by k_asm) (by rfl) (by with_unfolding_all rfl) (by with_unfolding_all rfl) (by decide) (by rfl) (by decide) (by rfl) (by rfl) (by rfl) ?_)) | (k_dflt (refine LCg.Assign_ListComp_U (F₀ := by k_asm) (by rfl) (by with_unfolding_all rfl) (by with_unfolding_all rfl) (by decide) (by rfl) (by decide) (by rfl) (by rfl) (by rfl) ?_)))); k_steps))
  rename_i hA oN2 FA NA dN2
  unfold Stop
  refine LCt.CompSrcT.ledger (its := vs.toArray) (k := n) (by rfl) (by k_asm) (by k_asm) (.tail _ hl) (by have := DatAll.len2 hD; rw [PySem.sizeLine_eq, List.size_toArray]; omega) ?_
  intro g2
  refine rest_T (fun j ys nw => nw = (L' + 1, oN2) :: rest ∧ DatAll rest ys (((ps.take j).filter (fun p => decide (lowc p.1 = 97 + g))).map fun p => .str (chS p.2))) ⟨rfl, .nil⟩ ?turn ?fin
  case turn =>
    rintro j v I oI C oC D m₂ ys _ h tk E' hv hj ⟨rfl, hD2⟩ hC hx2 F6 N6 off6 ne
    obtain ⟨hj2, hdv⟩ := DatAll.at hD (j := j) (v := v) (by simpa using hv)
    obtain ⟨av, t1, t2, na, rfl, hav⟩ := datIn_hpair hdv
    have hav2 := hnd _ hav
    have hps2 := hps _ (List.getElem_mem hj2)
    (k_steps; repeat' ((unfold Stop; first | (first | (lct_look; k_dflt (refine LCt.ListComp_T (F₀ := by k_asm) (by with_unfolding_all rfl) (by decide) (by rfl) (by decide) (by rfl) ?_)) | (k_dflt (refine LCg.ListComp_U (F₀ := by k_asm) (by with_unfolding_all rfl) (by decide) (by rfl) (by decide) (by rfl) ?_))) | (first | (lct_look; k_dflt (refine LCt.Assign_ListComp_T (F₀ := by k_asm) (by rfl) (by with_unfolding_all rfl) (by with_unfolding_all rfl) (by decide) (by rfl) (by decide) (by rfl) (by rfl) (by rfl) ?_)) | (k_dflt (refine LCg.Assign_ListComp_U (F₀ := by k_asm) (by rfl) (by with_unfolding_all rfl) (by with_unfolding_all rfl) (by decide) (by rfl) (by decide) (by rfl) (by rfl) (by rfl) ?_)))); k_steps))
    unfold Stop
    k_dflt (refine tup_g0 (by k_asm) (by k_mem) ?_ (by with_unfolding_all rfl))
    (k_steps; repeat' ((unfold Stop; first | (first | (lct_look; k_dflt (refine LCt.ListComp_T (F₀ := by k_asm) (by with_unfolding_all rfl) (by decide) (by rfl) (by decide) (by rfl) ?_)) | (k_dflt (refine LCg.ListComp_U (F₀ := by k_asm) (by with_unfolding_all rfl) (by decide) (by rfl) (by decide) (by rfl) ?_))) | (first | (lct_look; k_dflt (refine LCt.Assign_ListComp_T (F₀ := by k_asm) (by rfl) (by with_unfolding_all rfl) (by with_unfolding_all rfl) (by decide) (by rfl) (by decide) (by rfl) (by rfl) (by rfl) ?_)) | (k_dflt (refine LCg.Assign_ListComp_U (F₀ := by k_asm) (by rfl) (by with_unfolding_all rfl) (by with_unfolding_all rfl) (by decide) (by rfl) (by decide) (by rfl) (by rfl) (by rfl) ?_)))); k_steps))
    unfold Stop
    refine low_rule hps2 ?_
    intro t3 k3
    (k_steps; repeat' ((unfold Stop; first | (first | (lct_look; k_dflt (refine LCt.ListComp_T (F₀ := by k_asm) (by with_unfolding_all rfl) (by decide) (by rfl) (by decide) (by rfl) ?_)) | (k_dflt (refine LCg.ListComp_U (F₀ := by k_asm) (by with_unfolding_all rfl) (by decide) (by rfl) (by decide) (by rfl) ?_))) | (first | (lct_look; k_dflt (refine LCt.Assign_ListComp_T (F₀ := by k_asm) (by rfl) (by with_unfolding_all rfl) (by with_unfolding_all rfl) (by decide) (by rfl) (by decide) (by rfl) (by rfl) (by rfl) ?_)) | (k_dflt (refine LCg.Assign_ListComp_U (F₀ := by k_asm) (by rfl) (by with_unfolding_all rfl) (by with_unfolding_all rfl) (by decide) (by rfl) (by decide) (by rfl) (by rfl) (by rfl) ?_)))); k_steps))
    · rename_i hq
      have hq' : lowc ps[j].1 = 97 + g := chS_inj (by simpa using hq)
      unfold Stop
      k_dflt (refine tup_g1 (by k_asm) (by k_mem) ?_ (by with_unfolding_all rfl))
      (k_steps; repeat' ((unfold Stop; first | (first | (lct_look; k_dflt (refine LCt.ListComp_T (F₀ := by k_asm) (by with_unfolding_all rfl) (by decide) (by rfl) (by decide) (by rfl) ?_)) | (k_dflt (refine LCg.ListComp_U (F₀ := by k_asm) (by with_unfolding_all rfl) (by decide) (by rfl) (by decide) (by rfl) ?_))) | (first | (lct_look; k_dflt (refine LCt.Assign_ListComp_T (F₀ := by k_asm) (by rfl) (by with_unfolding_all rfl) (by with_unfolding_all rfl) (by decide) (by rfl) (by decide) (by rfl) (by rfl) (by rfl) ?_)) | (k_dflt (refine LCg.Assign_ListComp_U (F₀ := by k_asm) (by rfl) (by with_unfolding_all rfl) (by with_unfolding_all rfl) (by decide) (by rfl) (by decide) (by rfl) (by rfl) (by rfl) ?_)))); k_steps))
      unfold Stop
      exact LCg.CompEnd.intro (by k_asm) (by k_asm) _ (fun p hp => hp) off6 (.inr ⟨_, .tail _ hl, rfl, _, rfl⟩) ⟨rfl, DatAll.fkeep hD2 hj2 (by simpa using hq') (.str _ _)⟩
    · rename_i hq
      have hq' : lowc ps[j].1 ≠ 97 + g := fun e => by rw [e] at hq; simp at hq
      unfold Stop
      exact LCg.CompEnd.intro (by k_asm) (by k_asm) _ (fun p hp => hp) off6 (.inr ⟨_, .tail _ hl, rfl, _, rfl⟩) ⟨rfl, DatAll.fskip hD2 hj2 (by simpa using hq')⟩
  case fin =>
    rintro ys _ ⟨rfl, hD2⟩ D h tk F6 N6 o6
    have hvs : vs.toArray.size = ps.length := by rw [List.size_toArray, DatAll.len2 hD]
    rw [hvs, List.take_length] at hD2
    (k_steps; repeat' ((unfold Stop; first | (first | (lct_look; k_dflt (refine LCt.ListComp_T (F₀ := by k_asm) (by with_unfolding_all rfl) (by decide) (by rfl) (by decide) (by rfl) ?_)) | (k_dflt (refine LCg.ListComp_U (F₀ := by k_asm) (by with_unfolding_all rfl) (by decide) (by rfl) (by decide) (by rfl) ?_))) | (first | (lct_look; k_dflt (refine LCt.Assign_ListComp_T (F₀ := by k_asm) (by rfl) (by with_unfolding_all rfl) (by with_unfolding_all rfl) (by decide) (by rfl) (by decide) (by rfl) (by rfl) (by rfl) ?_)) | (k_dflt (refine LCg.Assign_ListComp_U (F₀ := by k_asm) (by rfl) (by with_unfolding_all rfl) (by with_unfolding_all rfl) (by decide) (by rfl) (by decide) (by rfl) (by rfl) (by rfl) ?_)))); k_steps))
    exact ret _ _ _ _ (by k_asm) (nsub (news' := (D, listOf ys.toArray ys.length) :: rest) (by k_asm) (List.forall_mem_cons.mpr ⟨.head _, fun p hp => .tail _ (.tail _ hp)⟩)) ⟨D, ys, _, rfl, rfl, fun p hp => off1_mem o6 p (.tail _ hp), hD2⟩
end

end
section
noncomputable def digsN : Nat → Nat → List Nat
  | 0, _ => []
  | k + 1, x => x % 8 :: digsN k (x / 8)
theorem digsN_length : ∀ k x, (digsN k x).length = k := by
  intro k
  induction k with
  | zero => intro x; rfl
  | succ k ih => intro x; rw [digsN, List.length_cons, ih]
theorem digsN_add (b : Nat) : ∀ a x, digsN (a + b) x = digsN a (x % 8 ^ a) ++ digsN b (x / 8 ^ a) := by
  intro a
  induction a with
  | zero => intro x; simp [digsN]
  | succ a ih =>
    intro x
    have e : a + 1 + b = (a + b) + 1 := by omega
    rw [e, digsN, ih, digsN, List.cons_append]
    have h1 : x % 8 ^ (a + 1) % 8 = x % 8 := Nat.mod_mod_of_dvd x (by rw [Nat.pow_succ]; exact Nat.dvd_mul_left 8 _)
    have h2 : x % 8 ^ (a + 1) / 8 = x / 8 % 8 ^ a := by
      rw [Nat.pow_succ, Nat.mul_comm]; exact Nat.mod_mul_right_div_self x 8 (8 ^ a)
    have h3 : x / 8 ^ (a + 1) = x / 8 / 8 ^ a := by
      rw [Nat.pow_succ, Nat.mul_comm, Nat.div_div_eq_div_mul]
    rw [h1, h2, h3]
theorem dg8_digsN : ∀ n, dg8 n = digsN (dg8 n).length n := by
  intro n
  induction n using Nat.strongRecOn with
  | ind n ih =>
    by_cases h : n = 0
    · subst h; rw [dg8_zero]; rfl
    · rw [dg8_pos (by omega), List.length_cons, digsN, ← ih (n / 8) (by omega)]
theorem xor_low (x s : Nat) : x ^^^ (x / 2 ^ s * 2 ^ s) = x % 2 ^ s := by
  apply Nat.eq_of_testBit_eq
  intro i
  rw [Nat.testBit_xor, Nat.testBit_mod_two_pow, Nat.testBit_mul_two_pow, Nat.testBit_div_two_pow]
  by_cases h : i < s
  · have h2 : ¬ s ≤ i := by omega
    simp [h, h2]
  · have h2 : s ≤ i := by omega
    have e : i - s + s = i := by omega
    simp [h, h2, e]
theorem pow83 (k : Nat) : (2 : Nat) ^ (3 * k) = 8 ^ k := by rw [Nat.pow_mul]
theorem nd_bits {x : Nat} (hx : x < 4096) : ((Builtin.Int.intBits (x : Int) : Int) + 3 - 1).fdiv 3 = ((dg8 x).length : Int) := by
  rw [Int.fdiv_eq_ediv_of_nonneg _ (by decide)]
  by_cases h : x = 0
  · subst h; rw [dg8_zero]; rfl
  have hb : Builtin.Int.intBits (x : Int) = x.log2 + 1 := by
    unfold Builtin.Int.intBits
    rw [if_neg (by simpa using h)]
    simp
  rw [hb]
  have l1 := fun k => Nat.log2_lt (n := x) (k := k) h
  by_cases h1 : x < 8
  · have e : dg8 x = [x % 8] := by rw [dg8_pos (by omega), show x / 8 = 0 by omega, dg8_zero]
    rw [e]
    have := (l1 3).mpr (by omega)
    simp only [List.length_cons, List.length_nil]; omega
  by_cases h2 : x < 64
  · have e : dg8 x = [x % 8, x / 8 % 8] := by rw [dg8_pos (by omega), dg8_pos (by omega), show x / 8 / 8 = 0 by omega, dg8_zero]
    rw [e]
    have a1 := (l1 6).mpr (by omega)
    have a2 : ¬ x.log2 < 3 := fun q => by have := (l1 3).mp q; omega
    simp only [List.length_cons, List.length_nil]; omega
  by_cases h3 : x < 512
  · have e : dg8 x = [x % 8, x / 8 % 8, x / 8 / 8 % 8] := by rw [dg8_pos (by omega), dg8_pos (by omega), dg8_pos (by omega), show x / 8 / 8 / 8 = 0 by omega, dg8_zero]
    rw [e]
    have a1 := (l1 9).mpr (by omega)
    have a2 : ¬ x.log2 < 6 := fun q => by have := (l1 6).mp q; omega
    simp only [List.length_cons, List.length_nil]; omega
  · have e : dg8 x = [x % 8, x / 8 % 8, x / 8 / 8 % 8, x / 8 / 8 / 8 % 8] := by rw [dg8_pos (by omega), dg8_pos (by omega), dg8_pos (by omega), dg8_pos (by omega), show x / 8 / 8 / 8 / 8 = 0 by omega, dg8_zero]
    rw [e]
    have a1 := (l1 12).mpr (by omega)
    have a2 : ¬ x.log2 < 9 := fun q => by have := (l1 9).mp q; omega
    simp only [List.length_cons, List.length_nil]; omega

end
section
theorem and_high (x s : Nat) : x &&& (x / 2 ^ s * 2 ^ s) = x / 2 ^ s * 2 ^ s := by
  apply Nat.eq_of_testBit_eq
  intro i
  rw [Nat.testBit_and, Nat.testBit_mul_two_pow, Nat.testBit_div_two_pow]
  by_cases h : s ≤ i
  · have e : i - s + s = i := by omega
    simp [h, e]
  · simp [h]
section
variable {prog : Program} {w : World} {A : Around} {E : Value → Shared → Prop} {s : Shared}
theorem rsh1_nat {a b : Nat} {t u : Tok} {Q : Value → Shared → Prop} (h : Q (.int (((a + b) / 2 : Nat) : Int) s.toks) { s with toks := s.toks + 1 }) :
    wpAny (model prog w) A (binaryOp .RShift (.int ((a : Int) + (b : Int)) t) (.int 1 u)) Q E s := by
  refine rshift_int (by decide) ?_
  have e : ((a : Int) + (b : Int)).fdiv (2 ^ (1 : Int).toNat) = (((a + b) / 2 : Nat) : Int) := by
    rw [Int.fdiv_eq_ediv_of_nonneg _ (by decide)]
    show ((a : Int) + (b : Int)) / 2 = _
    omega
  rw [e]; exact h
theorem rshk_nat {x k : Nat} {i : Int} {t u : Tok} {Q : Value → Shared → Prop} (e : i = 3 * (k : Int)) (h : Q (.int ((x / 8 ^ k : Nat) : Int) s.toks) { s with toks := s.toks + 1 }) :
    wpAny (model prog w) A (binaryOp .RShift (.int (x : Int) t) (.int i u)) Q E s := by
  subst e
  refine rshift_int (by omega) ?_
  have e2 : (3 * (k : Int)).toNat = 3 * k := by omega
  have e3 : ((2 : Int) ^ (3 * k)) = ((8 ^ k : Nat) : Int) := by rw [← pow83]; norm_cast
  rw [e2, e3, Int.fdiv_eq_ediv_of_nonneg _ (Int.natCast_nonneg _), ← Int.natCast_ediv]
  exact h
theorem lshk_nat {y k : Nat} {i : Int} {t u : Tok} {Q : Value → Shared → Prop} (e : i = 3 * (k : Int)) (hy : y < 4096) (hk : k ≤ 100) (h : Q (.int ((y * 8 ^ k : Nat) : Int) s.toks) { s with toks := s.toks + 1 }) :
    wpAny (model prog w) A (binaryOp .LShift (.int (y : Int) t) (.int i u)) Q E s := by
  subst e
  refine lshift_int (by omega) (bits_add_le (by simp; omega) (by omega)) ?_
  have e2 : (3 * (k : Int)).toNat = 3 * k := by omega
  have e3 : ((2 : Int) ^ (3 * k)) = ((8 ^ k : Nat) : Int) := by rw [← pow83]; norm_cast
  rw [e2, e3, ← Int.natCast_mul]
  exact h
theorem xor_nat {x k : Nat} {t u : Tok} {Q : Value → Shared → Prop} (h : Q (.int ((x % 8 ^ k : Nat) : Int) s.toks) { s with toks := s.toks + 1 }) :
    wpAny (model prog w) A (binaryOp .BitXor (.int (x : Int) t) (.int ((x / 8 ^ k * 8 ^ k : Nat) : Int) u)) Q E s := by
  refine xor_int ?_
  have e : Builtin.bitXor (x : Int) ((x / 8 ^ k * 8 ^ k : Nat) : Int) = ((x % 8 ^ k : Nat) : Int) := by
    rw [bitXor_and]
    have ha : Builtin.bitAnd (x : Int) ((x / 8 ^ k * 8 ^ k : Nat) : Int) = ((x &&& (x / 8 ^ k * 8 ^ k) : Nat) : Int) := by
      unfold Builtin.bitAnd
      rw [decide_eq_true (Int.natCast_nonneg x), decide_eq_true (Int.natCast_nonneg _)]
      rfl
    have h2 := and_high x (3 * k)
    rw [pow83] at h2
    rw [ha, h2]
    have h3 := Nat.div_add_mod x (8 ^ k)
    have h4 : 8 ^ k * (x / 8 ^ k) = x / 8 ^ k * 8 ^ k := Nat.mul_comm _ _
    omega
  rw [e]; exact h
end

end
section
/-- a code table's state: empty, or it holds the one inner def's code -/
noncomputable def TabSt (pos : Pos) (qual : Str) (ps : Array Value) (nd : List (Addr × Obj)) : Prop :=
  ps = #[] ∨ ∃ c' oc vs t, ps = #[rawInt pos.line, rawInt pos.col, .ref c'] ∧ (c', oc) ∈ nd ∧ oc.data = .fields vs ∧ vs[1]? = some (.str qual t)
theorem TabSt.mono {pos : Pos} {qual : Str} {ps : Array Value} {nd nd' : List (Addr × Obj)} (h : TabSt pos qual ps nd) (hs : ∀ p ∈ nd, p ∈ nd') : TabSt pos qual ps nd' := by
  rcases h with h | ⟨c', oc, vs, t, h1, h2, h3, h4⟩
  · exact .inl h
  · exact .inr ⟨c', oc, vs, t, h1, hs _ h2, h3, h4⟩
section
variable {M : Model} {A : Around} {E : Value → Shared → Prop} {s : Shared} {h₀ : Heap} {L a c P : Addr} {m mg mb : Str → Option Value} {cn : Str} {cs : Scope} {ccd : Value} {cl : List (Str × Addr)} {rest nd : List (Addr × Obj)}
  {p : Program} {loose : List Str} {mean : ExcName → Option Value} {name qual : Str} {params : Arguments} {body : List Stmt} {scope : Scope} {ps : Array Value} {pos : Pos} {firstLine : Nat} {clos : List (Str × Addr)}
theorem nest_any {Q : Value → Shared → Prop} (F : Fr h₀ L s.heap m) (N : News h₀ L s.heap ((P, tabObj ps) :: rest)) (T : Top p loose mean mg mb h₀) (C : CodeHd h₀ c P) (hcd : ccd = .ref c) (hP : ∀ p ∈ rest, p.1 ≠ P) (hst : TabSt pos qual ps nd) (hnd : ∀ p ∈ nd, p ∈ rest)
    (hcl : closureFor scope (envX cn cs L a ccd cl) = pure clos)
    (h : ∀ f c' oc vs t ctv doc h' tk rest' ps', Fr h₀ L h' m → News h₀ L h' ((f, fnMade name qual params body scope clos doc ((mg "__name__").getD .none) c' ctv) :: (P, tabObj ps') :: rest') →
      ((rest' = rest ∧ TabSt pos qual ps' nd ∧ (c', oc) ∈ nd) ∨ (rest' = (c', oc) :: rest ∧ TabSt pos qual ps' [(c', oc)] ∧ ∀ q ∈ rest, q.1 < c')) → (∀ p ∈ rest', p.1 ≠ P) → (c', oc) ∈ rest' → oc.data = .fields vs → vs[1]? = some (.str qual t) → (∀ q ∈ (P, tabObj ps') :: rest', q.1 < f) → Q (.ref f) { s with heap := h', toks := tk }) :
    wpAny M A (makeFunction name qual params (.stmts body) scope (envX cn cs L a ccd cl) [] [] [] pos firstLine) Q E s := by
  rcases hst with rfl | ⟨c', oc, vs, t, rfl, h2, h3, h4⟩
  · refine nest_K F N T C hcd (UpdF.head hP) True.intro rfl hcl ?_
    intro f c' oc vs t ctv doc h' tk F' N' d1 d2 l1 l2
    have hc' : c' ≠ P := Nat.ne_of_gt (l1 (P, tabObj #[]) (.head _))
    refine h f c' oc vs t ctv doc h' tk ((c', oc) :: rest) _ F' (nsub N' ?_) (.inr ⟨rfl, .inr ⟨c', oc, vs, t, by rfl, .head _, d1, d2⟩, fun q hq => l1 q (.tail _ hq)⟩) (List.forall_mem_cons.mpr ⟨hc', hP⟩) (.head _) d1 d2 ?_
    · exact List.forall_mem_cons.mpr ⟨.head _, List.forall_mem_cons.mpr ⟨.tail _ (.tail _ (.head _)), List.forall_mem_cons.mpr ⟨.tail _ (.head _), fun p hp => .tail _ (.tail _ (.tail _ hp))⟩⟩⟩
    · exact List.forall_mem_cons.mpr ⟨Nat.lt_trans (l1 (P, tabObj #[]) (.head _)) l2, List.forall_mem_cons.mpr ⟨l2, fun p hp => Nat.lt_trans (l1 p (.tail _ hp)) l2⟩⟩
  · refine nestHit_K F N T C hcd (.head _) (by simp [TriplesOk, rawInt]) (c' := c') (by simp [codeAmong, rawInt]) hcl ?_
    intro f ctv doc h' tk F' N' l1
    exact h f c' oc vs t ctv doc h' tk rest _ F' N' (.inl ⟨rfl, .inr ⟨c', oc, vs, t, rfl, h2, h3, h4⟩, h2⟩) hP (hnd _ h2) h3 h4 l1
end
theorem fnAt_of {h₀ h : Heap} {L f : Addr} {fo : Obj} {news : List (Addr × Obj)} (N : News h₀ L h news) (hm : (f, fo) ∈ news) (hf : ∃ oc od fd sl, fo = (⟨oc, od, .func fd, sl⟩ : Obj)) : FnAt f h := by
  obtain ⟨oc, od, fd, sl, rfl⟩ := hf
  exact FnAt.of N hm

end
local macro_rules | `(tactic| walk_at "NC") => `(tactic| (k_here; k_dflt (refine' callWith_F ?k1 ?_; (case k1 => exact fnAt_of (by k_asm) (by k_mem) (by assumption)))))
local macro_rules | `(tactic| walk_at "NF") => `(tactic| (k_dflt (exact fnAt_of (by k_asm) (by k_mem) (by assumption))))
local macro_rules | `(tactic| walk_at "NN") => `(tactic| (k_here; k_dflt (refine' nameX_F ?N ?c ?m ?d ?_ ?a ?b; (case a => rfl); (case b => rfl); (case N => k_asm); (case c => rfl); (case m => k_mem); (case d => k_asm); k_whole)))
local macro_rules | `(tactic| walk_at "ND") => `(tactic| (k_dflt (refine' nestDef_K ?d0 ?k0 ?a0 ?_; (case d0 => exact rfl); (case k0 => exact rfl); (case a0 => exact rfl)); refine stop_ ?_))
section
section
theorem with_fo {g : Heap} {L : Addr} {h : Heap} {f : Addr} {O : Obj} {rest : List (Addr × Obj)} {G : Prop} (N : News g L h ((f, O) :: rest)) (k : ∀ fo, fo = O → News g L h ((f, fo) :: rest) → G) : G := k O rfl N
theorem lookup_if {a n : Str} {x : Value} {l : List (Str × Value)} : List.lookup n ((a, x) :: l) = if n = a then some x else List.lookup n l := by
  rw [List.lookup_cons]
  by_cases h : n = a
  · rw [if_pos h, beq_iff_eq.mpr h]
  · have e : (n == a) = false := by simpa using h
    rw [if_neg h, e]
theorem lookup3 {a b c : Str} {x y z : Value} : (fun n => List.lookup n [(a, x), (b, y), (c, z)]) = fun n => if n = a then some x else if n = b then some y else if n = c then some z else none := by
  funext n
  rw [lookup_if, lookup_if, lookup_if]; rfl
theorem lookup2 {a b : Str} {x y : Value} : (fun n => List.lookup n [(a, x), (b, y)]) = fun n => if n = a then some x else if n = b then some y else none := by
  funext n
  rw [lookup_if, lookup_if]; rfl
theorem digs_join {ds : List Nat} {l mid r y : Nat} (h1 : l ≤ mid) (h2 : mid ≤ r) (h3 : r ≤ ds.length) :
    ((ds.take l ++ digsN (mid - l) (y % 8 ^ (mid - l)) ++ ds.drop mid).take mid ++ digsN (r - mid) (y / 8 ^ (mid - l)) ++ (ds.take l ++ digsN (mid - l) (y % 8 ^ (mid - l)) ++ ds.drop mid).drop r) = ds.take l ++ digsN (r - l) y ++ ds.drop r := by
  have e0 : (ds.take l ++ digsN (mid - l) (y % 8 ^ (mid - l))).length = mid := by
    rw [List.length_append, List.length_take, digsN_length]; omega
  have e1 : (ds.take l ++ digsN (mid - l) (y % 8 ^ (mid - l)) ++ ds.drop mid).take mid = ds.take l ++ digsN (mid - l) (y % 8 ^ (mid - l)) := by
    rw [List.take_append_of_le_length (by omega), List.take_of_length_le (by omega)]
  have e2 : (ds.take l ++ digsN (mid - l) (y % 8 ^ (mid - l)) ++ ds.drop mid).drop r = ds.drop r := by
    rw [List.drop_append, e0, List.drop_of_length_le (by omega), List.nil_append, List.drop_drop]
    congr 1; omega
  have e3 : digsN (r - l) y = digsN (mid - l) (y % 8 ^ (mid - l)) ++ digsN (r - mid) (y / 8 ^ (mid - l)) := by
    rw [← digsN_add]; congr 1; omega
  rw [e1, e2, e3]
  simp only [List.append_assoc]
theorem digs_one {ds : List Nat} {l y : Nat} (h : l < ds.length) (hy : y < 8) : ds.set l y = ds.take l ++ digsN (l + 1 - l) y ++ ds.drop (l + 1) := by
  have e : l + 1 - l = 1 := by omega
  rw [e]
  show _ = ds.take l ++ [y % 8] ++ _
  rw [Nat.mod_eq_of_lt hy, List.append_assoc, List.set_eq_take_append_cons_drop, if_pos h]
  rfl
theorem pow8_le {k n : Nat} (h : k ≤ n) : 8 ^ k ≤ 8 ^ n := Nat.pow_le_pow_right (by decide) h
theorem up_lt {y a b n : Nat} (h : y < 8 ^ n) (e : n = a + b) : y / 8 ^ a < 8 ^ b := by
  subst e
  rw [Nat.pow_add] at h
  exact Nat.div_lt_of_lt_mul h
theorem nats_set (ds : List Nat) (l y : Nat) : (nats ds).set l (y : Int) = nats (ds.set l y) := by
  simp [nats, List.map_set]
/-- the parts of a def statement -/
noncomputable def bodyOf : Stmt → List Stmt
  | .FunctionDef _ _ b _ _ _ _ _ _ _ => b
  | _ => []
noncomputable def parsOf : Stmt → Arguments
  | .FunctionDef _ p _ _ _ _ _ _ _ _ => p
  | _ => default
noncomputable def scopeOf : Stmt → Scope
  | .FunctionDef _ _ _ _ _ _ s _ _ _ => s
  | _ => default
/-- the i-th statement of the text's k-th -/
noncomputable def innS (k i : Nat) : Stmt := (bodyOf ((PySem.Challenge.pw_ph0177_01.main.body)[k]?.getD (.Pass ⟨0, 0, 0, 0⟩)))[i]?.getD (.Pass ⟨0, 0, 0, 0⟩)
local macro_rules | `(tactic| walk_at $k:str) => tabl [("callWith ref", "NC"), ("FnAt", "NF"), ("eval Name", "NN"), ("call ref", "ST"), ("setItem ref int", "ST"), ("binaryOp RShift int int", "ST"), ("binaryOp LShift int int", "ST"), ("binaryOp BitXor int int", "ST")] k
set_option maxHeartbeats 8000000 in
theorem c_digI (w : World) (f c' ad cI cA c3 : Addr) (fo oc oI oA o3 : Obj) (cvs : Array Value) (tq t3 : Tok) (doc pm ctv : Value) (r : List (Addr × Obj))
   (hfo : fo = fnMade (Str.ofString "inner") (Str.ofString "_int2digits.<locals>.inner") (parsOf (innS 11 1)) (bodyOf (innS 11 1)) (scopeOf (innS 11 1)) [(Str.ofString "n", c3), (Str.ofString "inner", cI), (Str.ofString "a_digits", cA)] doc pm c' ctv)
   (hF : (f, fo) ∈ r) (hoc : oc.data = .fields cvs) (hcv : cvs[1]? = some (.str (Str.ofString "_int2digits.<locals>.inner") tq)) (hcM : (c', oc) ∈ r) (hI : (cI, oI) ∈ r) (dI : oI.data = .cell (some (.ref f)))
   (hA : (cA, oA) ∈ r) (dA : oA.data = .cell (some (.ref ad))) (h3 : (c3, o3) ∈ r) (d3 : o3.data = .cell (some (.int 3 t3))) (hr : ∀ p ∈ r, p.1 ≠ ad) :
   ∀ (k l r' y : Nat) (vs : List Value) (n : Nat) (ds : List Nat) (ta tb tc : Tok), r' - l ≤ k → l < r' → r' ≤ ds.length → ds.length ≤ 4 → y < 8 ^ (r' - l) → IntsAre vs (nats ds) →
     Con w (k + 1) (16 * (k + 1)) (call (.ref f) [.int (y : Int) ta, .int (l : Int) tb, .int (r' : Int) tc]) ((ad, listOf vs.toArray n) :: r)
       (fun res news' => res = .none ∧ ∃ vs' n', news' = (ad, listOf vs'.toArray n') :: r ∧ IntsAre vs' (nats (ds.take l ++ digsN (r' - l) y ++ ds.drop r'))) := by
  have hfd : ∃ oc od fd sl, fo = (⟨oc, od, .func fd, sl⟩ : Obj) := ⟨_, _, _, _, hfo⟩
  have hS : innS 11 1 = innS 11 1 := rfl
  conv at hS => rhs; whnf
  rw [hS] at hfo
  dsimp only [bodyOf, parsOf, scopeOf] at hfo
  clear hS
  intro k
  induction k with
  | zero => intro l r' y vs n ds ta tb tc h1 h2; omega
  | succ k ih =>
    intro l r' y vs n ds ta tb tc hk1 hk2 hk3 hk4 hk5 hvs
    intro p loose mean mg mb dp un gd cn cs a ccd cl outer A₀ base h₀ L m s Q E B F X N T hk hd hu ret
    have hFM : (f, fo) ∈ (ad, listOf vs.toArray n) :: r := .tail _ hF
    have hIM : (cI, oI) ∈ (ad, listOf vs.toArray n) :: r := .tail _ hI
    have hAM : (cA, oA) ∈ (ad, listOf vs.toArray n) :: r := .tail _ hA
    have h3M : (c3, o3) ∈ (ad, listOf vs.toArray n) :: r := .tail _ h3
    have hfoM := (show ∀ O, fo = O → (f, O) ∈ (ad, listOf vs.toArray n) :: r from fun O e => by subst e; exact hFM) _ hfo
    clear hfo
    refine wpAny_call ?_
    refine' code_nest ?k1 ?k2 ?k3 ?k4 ?k5 ?kA ?kF ?kK hfoM ?k7 ?k8 ?k9 ?kB ?_ ?c2 ?c3 ?c4 ?c5
    case kA => exact rfl
    case kF => exact rfl
    case kK => assumption
    case k1 => k_asm
    case k2 => k_asm
    case k3 => k_asm
    case k4 => k_asm
    case k5 => k_asm
    case k7 => exact codeRec_news N (.tail _ hcM) hoc hcv
    case k8 => first | k_room | ktr_room
    case k9 => exact BindsTo.of_eq rfl
    case c5 => decide
    case kB => exact locs rfl
    case c2 => exact rfl
    case c3 => exact rfl
    case c4 => exact rfl
    k_whole
    intro g2 L2 h6 FG2 F2 N2 B2 X2 T2
    clear hfoM
    replace F2 : Fr g2 L2 h6 (fun z => List.lookup z [(Str.ofString "R", Value.int (r' : Int) tc), (Str.ofString "L", Value.int (l : Int) tb), (Str.ofString "x", Value.int (y : Int) ta)]) := by with_unfolding_all exact F2
    rw [lookup3] at F2
    try dsimp only
    try k_lift B2
    try k_fold
    k_steps
    · unfold Stop
      have hl1 : l + 1 = r' := by omega
      subst hl1
      have hy : y < 8 := by
        have e : l + 1 - l = 1 := by omega
        rw [e] at hk5; simpa using hk5
      refine ksa_set (vs := vs) (ns := nats ds) (news' := (ad, listOf (vs.set l (.int (y : Int) ta)).toArray n) :: r) (k := (l : Int)) (by k_asm) (by k_asm) (Upd.head hr) hvs (by omega) (by simp; omega) (by omega) ?_
      intro h7 F7 N7 hi7 _ _
      k_steps
      refine ret _ _ _ _ (by k_asm) (by k_asm) ⟨rfl, _, n, rfl, ?_⟩
      have e1 : ((l : Int)).toNat = l := by omega
      rw [e1, nats_set, digs_one (by omega) hy] at hi7
      exact hi7
    · unfold Stop
      refine rsh1_nat ?_
      have hm1 : l < (l + r') / 2 := by omega
      have hm2 : (l + r') / 2 < r' := by omega
      have hp := pow8_le (k := r' - l) (n := 4) (by omega)
      have e84 : 8 ^ 4 = 4096 := by decide
      generalize hmid : (l + r') / 2 = mid at hm1 hm2
      k_steps
      unfold Stop
      refine rshk_nat (k := mid - l) (by omega) ?_
      have hup : y / 8 ^ (mid - l) < 8 ^ (r' - mid) := up_lt hk5 (by omega)
      have hup2 : y / 8 ^ (mid - l) < 4096 := Nat.lt_of_le_of_lt (Nat.div_le_self _ _) (by omega)
      have hlo : y % 8 ^ (mid - l) < 8 ^ (mid - l) := Nat.mod_lt _ (Nat.pow_pos (by decide))
      k_steps
      unfold Stop
      refine lshk_nat (k := mid - l) (by omega) hup2 (by omega) ?_
      k_steps
      unfold Stop
      refine xor_nat ?_
      k_steps
      unfold Stop
      k_dflt (refine Con.use (ih l mid (y % 8 ^ (mid - l)) vs n ds _ _ _ (by omega) hm1 (by omega) hk4 hlo hvs) (by k_asm) (by k_asm) (by k_asm) (by k_asm) (by k_asm) (by (first | exact rfl | assumption)) (by ((try dsimp only [ktrTop]); omega)) (by ((try simp only [units_in1, units_deeper, Around.mark_units, units_caller]); (try dsimp only [ktrTop]); omega)) ?_)
      rintro _ h7 tk7 n7 F7 N7 ⟨rfl, vs7, c7, rfl, hi7⟩
      k_steps
      unfold Stop
      have hl7 : (ds.take l ++ digsN (mid - l) (y % 8 ^ (mid - l)) ++ ds.drop mid).length = ds.length := by
        rw [List.length_append, List.length_append, List.length_take, digsN_length, List.length_drop]; omega
      k_dflt (refine Con.use (ih mid r' (y / 8 ^ (mid - l)) vs7 c7 _ _ _ _ (by omega) hm2 (by rw [hl7]; omega) (by rw [hl7]; omega) hup hi7) (by k_asm) (by k_asm) (by k_asm) (by k_asm) (by k_asm) (by (first | exact rfl | assumption)) (by ((try dsimp only [ktrTop]); omega)) (by ((try simp only [units_in1, units_deeper, Around.mark_units, units_caller]); (try dsimp only [ktrTop]); omega)) ?_)
      rintro _ h8 tk8 n8 F8 N8 ⟨rfl, vs8, c8, rfl, hi8⟩
      k_steps
      rw [digs_join (by omega) (by omega) (by omega)] at hi8
      exact ret _ _ _ _ (by k_asm) (by k_asm) ⟨rfl, vs8, c8, rfl, hi8⟩
end

end
section
section
local macro_rules | `(tactic| walk_at "zz") => `(tactic| walk_at "ST")
local macro_rules | `(tactic| walk_at $k:str) => tabl [("callWith ref", "NC"), ("FnAt", "NF"), ("call ref", "ST"), ("call builtin:len", "LN"), ("exec FunctionDef", "ND"), ("newList", "ST"), ("binaryOp Mult ref int", "ST")] k
theorem dg8_lt : ∀ n, n < 8 ^ (dg8 n).length := by
  intro n
  induction n using Nat.strongRecOn with
  | ind n ih =>
    by_cases h : n = 0
    · subst h; rw [dg8_zero]; decide
    · rw [dg8_pos (by omega), List.length_cons, Nat.pow_succ]
      have := ih (n / 8) (by omega)
      omega
theorem ints_zeros (t : Tok) : ∀ n : Nat, IntsAre (List.replicate n (Value.int 0 t)) (nats (List.replicate n 0))
  | 0 => .nil
  | n + 1 => .cons _ _ (ints_zeros t n)
/-- a ledger grown by one entry at the most: the table's code is that entry, or stands in nd -/
noncomputable def Grow (rest nd rest' nd' : List (Addr × Obj)) : Prop := (rest' = rest ∧ nd' = nd) ∨ ∃ e, rest' = e :: rest ∧ nd' = [e] ∧ ∀ q ∈ rest, q.1 < e.1
theorem Grow.sub {rest nd rest' nd' : List (Addr × Obj)} (h : Grow rest nd rest' nd') : ∀ p ∈ rest, p ∈ rest' := by
  rcases h with ⟨rfl, _⟩ | ⟨e, rfl, _⟩
  · exact fun p hp => hp
  · exact fun p hp => .tail _ hp
set_option maxHeartbeats 8000000 in
theorem c_int2digits (w : World) (rest nd : List (Addr × Obj)) (x : Nat) (t t3 : Tok) (ps : Array Value) (hx : x < 4096) (hr : ∀ p ∈ rest, p.1 ≠ 98) (hndS : ∀ p ∈ nd, p ∈ rest) (hst : TabSt ⟨116, 4, 125, 28⟩ (Str.ofString "_int2digits.<locals>.inner") ps nd) :
   Con w 16 200 (call (.ref 103) [.int (x : Int) t, .int 3 t3]) ((98, tabObj ps) :: rest) (fun r news' => ∃ D vs n ps' rest' nd', r = .ref D ∧ news' = (98, tabObj ps') :: (D, listOf vs.toArray n) :: rest' ∧ Grow rest nd rest' nd' ∧ (∀ p ∈ rest', p.1 ≠ 98) ∧ TabSt ⟨116, 4, 125, 28⟩ (Str.ofString "_int2digits.<locals>.inner") ps' nd' ∧ 98 < D ∧ (∀ p ∈ rest', p.1 ≠ D) ∧ (∀ p ∈ rest, p.1 < D) ∧ IntsAre vs (nats (dg8 x))) := by
  intro p loose mean mg mb dp un gd cn cs a ccd cl outer A₀ base h₀ L m s Q E B F X N T' hkf hdd hu ret
  have C0 : CodeHd h₀ 102 98 := codeHd_of_K X (by kernel_rfl)
  refine wpAny_call ?_
  refine' code_defC ?k1 ?k2 ?k3 ?k4 ?k5 ?kA ?kF ?kK ?k6 ?k7 ?k8 ?k9 ?kB ?kD ?_ ?c2 ?c3 ?c4
  case kA => exact rfl
  case kF => exact rfl
  case kK => assumption
  case k1 => k_asm
  case k2 => k_asm
  case k3 => k_asm
  case k4 => k_asm
  case k5 => k_asm
  case k6 => k_is
  case k7 => k_is
  case k8 => first | k_room | ktr_room
  case k9 => exact BindsTo.of_eq rfl
  case kB => exact rfl
  case kD => decide +kernel
  case c2 => exact rfl
  case c3 => exact rfl
  case c4 => exact rfl
  k_whole
  intro g' L' h' tk' cells' FG' F' N' Y' B' X' T2 l1
  obtain ⟨o1, o2, o3, hE, d1, d2, d3⟩ := PyProof.Rows.CellsAre.three Y'
  subst hE
  clear Y'
  replace F' : Fr g' L' h' (fun y => if y = Str.ofString "a" then some (.int (x : Int) t) else none) := by with_unfolding_all exact F'
  replace d1 : o1.data = .cell none := by with_unfolding_all exact d1
  replace d2 : o2.data = .cell none := by with_unfolding_all exact d2
  replace d3 : o3.data = .cell (some (.int 3 t3)) := by with_unfolding_all exact d3
  replace d1 : o1.data = .cell none := by with_unfolding_all exact d1
  replace d2 : o2.data = .cell none := by with_unfolding_all exact d2
  replace d3 : o3.data = .cell (some (.int 3 t3)) := by with_unfolding_all exact d3
  simp only [List.cons_append, List.nil_append] at N'
  have C1 : CodeHd g' 102 98 := C0.keeps FG'.keep
  try dsimp only
  try k_lift B'
  try k_fold
  k_steps
  unfold Stop
  refine newList_K (by k_asm) (by k_asm) ?_
  intro z h1 F1 N1 lz
  k_steps
  unfold Stop
  have hnd := nd_bits hx
  have hnl := dg8_len 4 x hx
  rw [hnd]
  refine KMa.mul (vs := [.int 0 tk']) (ws := List.replicate (dg8 x).length (.int 0 tk')) (by k_asm) (by k_asm) ⟨_, (News.get (by k_asm) (.head _)), rfl, 0, rfl⟩ (by omega) (by omega) (by simp; omega) (by simp) ?_
  intro ad h2 F2 N2 lad
  have e0 : @LT.lt Nat _ 98 L' := l1 (98, _) (.head _)
  have e1 : @LT.lt Nat _ (L' + 1 + 1 + 1) z := lz (L' + 1 + 1 + 1, _) (by k_mem)
  have e2 : @LT.lt Nat _ z ad := lad (z, _) (by k_mem)
  have r1 : ∀ p ∈ rest, p.1 ≠ L' + 1 := fun p hp => Nat.ne_of_lt (Nat.lt_succ_of_lt (l1 p (.tail _ hp)))
  have r2 : ∀ p ∈ rest, p.1 ≠ L' + 1 + 1 := fun p hp => Nat.ne_of_lt (Nat.lt_succ_of_lt (Nat.lt_succ_of_lt (l1 p (.tail _ hp))))
  have r3 : ∀ p ∈ rest, p.1 ≠ L' + 1 + 1 + 1 := fun p hp => Nat.ne_of_lt (Nat.lt_succ_of_lt (Nat.lt_succ_of_lt (Nat.lt_succ_of_lt (l1 p (.tail _ hp)))))
  k_steps
  rename_i hA oA FA NA dA
  unfold Stop
  have n1 : @LT.lt Nat _ 98 ad := by omega
  have n2 : @LT.lt Nat _ 98 z := by omega
  refine nest_any (nd := nd) FA (npick (D := 98) NA (.tail (.tail (.tail (.tail (.tail .head)))))) T2 C1 rfl ?hP hst (fun p hp => .tail _ (.tail _ (.tail _ (.tail _ (.tail _ (hndS p hp)))))) (by rfl) ?_
  case hP => exact List.forall_mem_cons.mpr ⟨Nat.ne_of_gt n1, List.forall_mem_cons.mpr ⟨Nat.ne_of_gt n2, List.forall_mem_cons.mpr ⟨Nat.ne_of_gt (Nat.lt_succ_of_lt (Nat.lt_succ_of_lt (Nat.lt_succ_of_lt e0))), List.forall_mem_cons.mpr ⟨Nat.ne_of_gt (Nat.lt_succ_of_lt (Nat.lt_succ_of_lt e0)), List.forall_mem_cons.mpr ⟨Nat.ne_of_gt (Nat.lt_succ_of_lt e0), hr⟩⟩⟩⟩⟩
  intro f c' oc cvs tq ctv doc h3 tk3 rest2 ps2 F3 N3 hre hP2 hc' hoc hcv lf
  refine with_fo N3 ?_
  intro fo hfo N3'
  obtain ⟨rest4, nd4, hg4, hr98, hs4, hx4, hst4, ho4, N4⟩ : ∃ rest4 nd4, Grow rest nd rest4 nd4 ∧ (∀ p ∈ rest4, p.1 ≠ 98) ∧ (∀ p ∈ rest, p ∈ rest4) ∧ (∀ p ∈ rest4, p.1 < L' ∨ ad < p.1) ∧ TabSt ⟨116, 4, 125, 28⟩ (Str.ofString "_int2digits.<locals>.inner") ps2 nd4 ∧ (c', oc) ∈ rest4 ∧ News g' L' h3 ((f, fo) :: (98, tabObj ps2) :: (ad, listOf (List.replicate (dg8 x).length (Value.int 0 tk')).toArray 0) :: (L' + 1 + 1 + 1, o1) :: (L' + 1 + 1, oA) :: (L' + 1, o3) :: rest4) := by
    rcases hre with ⟨rfl, hst3, hc3⟩ | ⟨rfl, hst3, hlt⟩
    · refine ⟨rest, nd, .inl ⟨rfl, rfl⟩, hr, fun p hp => hp, fun p hp => .inl (l1 p (.tail _ hp)), hst3, hndS _ hc3, nsub N3' ?_⟩
      exact List.forall_mem_cons.mpr ⟨.head _, List.forall_mem_cons.mpr ⟨.tail _ (.head _), List.forall_mem_cons.mpr ⟨.tail _ (.tail _ (.head _)), fun p hp => .tail _ (.tail _ (.tail _ (.tail _ hp)))⟩⟩⟩
    · refine ⟨(c', oc) :: rest, [(c', oc)], .inr ⟨_, rfl, rfl, fun q hq => hlt q (.tail _ (.tail _ (.tail _ (.tail _ (.tail _ hq)))))⟩, List.forall_mem_cons.mpr ⟨hP2 _ (.head _), hr⟩, fun p hp => .tail _ hp, List.forall_mem_cons.mpr ⟨.inr (hlt (ad, _) (.head _)), fun p hp => .inl (l1 p (.tail _ hp))⟩, hst3, .head _, nsub N3' ?_⟩
      exact List.forall_mem_cons.mpr ⟨.head _, List.forall_mem_cons.mpr ⟨.tail _ (.head _), List.forall_mem_cons.mpr ⟨.tail _ (.tail _ (.tail _ (.head _))), List.forall_mem_cons.mpr ⟨.tail _ (.tail _ (.tail _ (.tail _ (.tail _ (.head _))))), List.forall_mem_cons.mpr ⟨.tail _ (.tail _ (.tail _ (.tail _ (.tail _ (.tail _ (.head _)))))), List.forall_mem_cons.mpr ⟨.tail _ (.tail _ (.tail _ (.tail _ (.tail _ (.tail _ (.tail _ (.head _))))))), List.forall_mem_cons.mpr ⟨.tail _ (.tail _ (.head _)), fun p hp => .tail _ (.tail _ (.tail _ (.tail _ (.tail _ (.tail _ (.tail _ (.tail _ hp)))))))⟩⟩⟩⟩⟩⟩⟩
  clear N3 N3'
  have q1 : @LT.lt Nat _ ad f := lf (ad, _) (by rcases hre with ⟨rfl, _⟩ | ⟨rfl, _⟩; exact .tail _ (.head _); exact .tail _ (.tail _ (.head _)))
  have e3 : @LT.lt Nat _ (L' + 1 + 1 + 1) ad := Nat.lt_trans e1 e2
  have hr4a : ∀ p ∈ rest4, p.1 ≠ L' + 1 + 1 + 1 := fun p hp => (hx4 p hp).elim (fun q => Nat.ne_of_lt (Nat.lt_succ_of_lt (Nat.lt_succ_of_lt (Nat.lt_succ_of_lt q)))) fun q => Nat.ne_of_gt (Nat.lt_trans e3 q)
  have hr4b : ∀ p ∈ rest4, p.1 ≠ ad := fun p hp => (hx4 p hp).elim (fun q => Nat.ne_of_lt (Nat.lt_trans q (Nat.lt_trans (Nat.lt_succ_of_lt (Nat.lt_succ_of_lt (Nat.lt_succ_self _))) e3))) fun q => Nat.ne_of_gt q
  have hfd : ∃ oc od fd sl, fo = (⟨oc, od, .func fd, sl⟩ : Obj) := ⟨_, _, _, _, hfo⟩
  replace hfo : fo = fnMade (Str.ofString "inner") (Str.ofString "_int2digits.<locals>.inner") (parsOf (innS 11 1)) (bodyOf (innS 11 1)) (scopeOf (innS 11 1)) [(Str.ofString "n", L' + 1), (Str.ofString "inner", L' + 1 + 1 + 1), (Str.ofString "a_digits", L' + 1 + 1)] doc ((mg (Str.ofString "__name__")).getD Value.none) c' ctv := by with_unfolding_all exact hfo
  replace hcv : cvs[1]? = some (.str (Str.ofString "_int2digits.<locals>.inner") tq) := by with_unfolding_all exact hcv
  clear hre hP2 hc' lf hst
  have hvl : (List.replicate (dg8 x).length (Value.int 0 tk')).length = (dg8 x).length := List.length_replicate
  k_steps
  · unfold Stop
    rename_i h5 oI F5 N5 dI q9 e9 hx0
    have hx1 : dg8 x ≠ [] := by
      intro e
      have := dg8_lt x
      rw [e] at this
      simp only [List.length_nil] at this
      omega
    have hx2 : 0 < (dg8 x).length := List.length_pos_iff.mpr hx1
    have hnx : ∀ p ∈ (f, fo) :: (98, tabObj ps2) :: (L' + 1 + 1 + 1, oI) :: (L' + 1 + 1, oA) :: (L' + 1, o3) :: rest4, p.1 ≠ ad :=
      List.forall_mem_cons.mpr ⟨Nat.ne_of_gt q1, List.forall_mem_cons.mpr ⟨Nat.ne_of_lt n1, List.forall_mem_cons.mpr ⟨Nat.ne_of_lt e3, List.forall_mem_cons.mpr ⟨Nat.ne_of_lt (Nat.lt_of_succ_lt e3), List.forall_mem_cons.mpr ⟨Nat.ne_of_lt (Nat.lt_of_succ_lt (Nat.lt_of_succ_lt e3)), hr4b⟩⟩⟩⟩⟩
    k_dflt (refine Con.use (c_digI w f c' ad (L' + 1 + 1 + 1) (L' + 1 + 1) (L' + 1) fo oc oI oA o3 cvs tq t3 doc _ ctv ((f, fo) :: (98, tabObj ps2) :: (L' + 1 + 1 + 1, oI) :: (L' + 1 + 1, oA) :: (L' + 1, o3) :: rest4) hfo (.head _) hoc hcv (.tail _ (.tail _ (.tail _ (.tail _ (.tail _ ho4))))) (.tail _ (.tail _ (.head _))) dI (.tail _ (.tail _ (.tail _ (.head _)))) dA (.tail _ (.tail _ (.tail _ (.tail _ (.head _))))) d3 hnx
      4 0 (dg8 x).length x _ 0 (List.replicate (dg8 x).length 0) _ _ _ (by omega) hx2 (by rw [List.length_replicate]; exact Nat.le_refl _) (by rw [List.length_replicate]; exact hnl) (dg8_lt x) (ints_zeros tk' _)) (by k_asm) (by k_asm) (by k_asm) (npick (D := ad) N5 (.tail (.tail .head))) (by k_asm) (by (first | exact rfl | assumption)) (by ((try dsimp only [ktrTop]); omega)) (by ((try simp only [units_in1, units_deeper, Around.mark_units, units_caller]); (try dsimp only [ktrTop]); omega)) ?_)
    rintro _ h8 tk8 n8 F8 N8 ⟨rfl, vs8, c8, rfl, hi8⟩
    have e8 : (List.replicate (dg8 x).length 0).take 0 ++ digsN ((dg8 x).length - 0) x ++ (List.replicate (dg8 x).length 0).drop (dg8 x).length = dg8 x := by
      rw [List.take_zero, List.nil_append, Nat.sub_zero, List.drop_of_length_le (by rw [List.length_replicate]; exact Nat.le_refl _), List.append_nil, ← dg8_digsN]
    rw [e8] at hi8
    k_steps
    refine ret _ _ _ _ (by k_asm) (nsub (by k_asm) ?_) ⟨ad, vs8, c8, ps2, rest4, nd4, rfl, rfl, hg4, hr98, hst4, n1, hr4b, fun p hp => Nat.lt_trans (l1 p (.tail _ hp)) (Nat.lt_trans (Nat.lt_succ_of_lt (Nat.lt_succ_of_lt (Nat.lt_succ_self _))) e3), hi8⟩
    exact List.forall_mem_cons.mpr ⟨.tail _ (.tail _ (.head _)), List.forall_mem_cons.mpr ⟨.head _, fun p hp => .tail _ (.tail _ (.tail _ (.tail _ (.tail _ (.tail _ hp)))))⟩⟩
  · have hx0 : x = 0 := by omega
    subst hx0
    refine ret _ _ _ _ (by k_asm) (nsub (by k_asm) ?_) ⟨ad, List.replicate (dg8 0).length (Value.int 0 tk'), 0, ps2, rest4, nd4, rfl, rfl, hg4, hr98, hst4, n1, hr4b, fun p hp => Nat.lt_trans (l1 p (.tail _ hp)) (Nat.lt_trans (Nat.lt_succ_of_lt (Nat.lt_succ_of_lt (Nat.lt_succ_self _))) e3), ?_⟩
    · exact List.forall_mem_cons.mpr ⟨.tail _ (.head _), List.forall_mem_cons.mpr ⟨.tail _ (.tail _ (.head _)), fun p hp => .tail _ (.tail _ (.tail _ (.tail _ (.tail _ (.tail _ hp)))))⟩⟩
    · rw [dg8_zero]; exact .nil
end

end
section
/-! the greedy way gives as many pairs as the least cut lets through -/
noncomputable def rT : List Nat → Nat → Int
  | [], _ => 0
  | t :: T, a => ((min a t : Nat) : Int) + rT T a
theorem rT_mono : ∀ (T : List Nat) (a : Nat), rT T a ≤ rT T (a + 1)
  | [], _ => Int.le_refl _
  | t :: T, a => by
    have := rT_mono T a
    simp only [rT]; omega
theorem rT_conc : ∀ (T : List Nat) (a : Nat), rT T (a + 2) + rT T a ≤ 2 * rT T (a + 1)
  | [], _ => Int.le_refl _
  | t :: T, a => by
    have := rT_conc T a
    simp only [rT]; omega
theorem rT_append : ∀ (S T : List Nat) (a : Nat), rT (S ++ T) a = rT S a + rT T a
  | [], T, a => by simp [rT]
  | s :: S, T, a => by
    have := rT_append S T a
    simp only [List.cons_append, rT]; omega
theorem rT_perm {S T : List Nat} (h : S.Perm T) (a : Nat) : rT S a = rT T a := by
  induction h with
  | nil => rfl
  | cons x _ ih => simp only [rT]; omega
  | swap x y l => simp only [rT]; omega
  | trans _ _ h1 h2 => exact h1.trans h2
theorem rT_le_sum : ∀ (T : List Nat) (a : Nat), rT T a ≤ (nats T).sum
  | [], _ => Int.le_refl _
  | t :: T, a => by
    have := rT_le_sum T a
    show _ ≤ ((t : Int) :: nats T).sum
    rw [List.sum_cons]
    simp only [rT]; omega
theorem rT_le_mul : ∀ (T : List Nat) (a : Nat), rT T a ≤ (a : Int) * (T.length : Int)
  | [], _ => by simp [rT]
  | t :: T, a => by
    have := rT_le_mul T a
    rw [List.length_cons, Int.natCast_add, Int.mul_add]
    simp only [rT]; omega
theorem rT_const : ∀ (T : List Nat) (a : Nat), (∀ t ∈ T, a ≤ t) → rT T a = (a : Int) * (T.length : Int)
  | [], _, _ => by simp [rT]
  | t :: T, a, h => by
    have h1 := rT_const T a fun x hx => h x (.tail _ hx)
    have h2 := h t (.head _)
    rw [List.length_cons, Int.natCast_add, Int.mul_add]
    simp only [rT]; omega
noncomputable def outS (q : Int → Bool) : PL → Int
  | [] => 0
  | p :: r => (if q p.2 = true then 0 else p.1) + outS q r
noncomputable def inN (q : Int → Bool) : PL → Nat
  | [] => 0
  | p :: r => (if q p.2 = true then 1 else 0) + inN q r
theorem outS_append (q : Int → Bool) : ∀ (a b : PL), outS q (a ++ b) = outS q a + outS q b
  | [], b => by simp [outS]
  | p :: a, b => by
    have := outS_append q a b
    simp only [List.cons_append, outS]; omega
theorem inN_append (q : Int → Bool) : ∀ (a b : PL), inN q (a ++ b) = inN q a + inN q b
  | [], b => by simp [inN]
  | p :: a, b => by
    have := inN_append q a b
    simp only [List.cons_append, inN]; omega
theorem outS_perm (q : Int → Bool) {a b : PL} (h : a.Perm b) : outS q a = outS q b := by
  induction h with
  | nil => rfl
  | cons x _ ih => simp only [outS]; omega
  | swap x y l => simp only [outS]; omega
  | trans _ _ h1 h2 => exact h1.trans h2
theorem inN_perm (q : Int → Bool) {a b : PL} (h : a.Perm b) : inN q a = inN q b := by
  induction h with
  | nil => rfl
  | cons x _ ih => simp only [inN]; omega
  | swap x y l => simp only [inN]; omega
  | trans _ _ h1 h2 => exact h1.trans h2
theorem inN_le (q : Int → Bool) : ∀ (a : PL), inN q a ≤ a.length
  | [] => Nat.le_refl _
  | p :: a => by
    have := inN_le q a
    simp only [inN, List.length_cons]; split <;> omega
noncomputable abbrev decP (p : Int × Int) : Int × Int := (p.1 - 1, p.2)
theorem inN_dec (q : Int → Bool) : ∀ (a : PL), inN q (a.map decP) = inN q a
  | [] => rfl
  | p :: a => by
    have := inN_dec q a
    simp only [List.map_cons, inN]; omega
theorem outS_dec (q : Int → Bool) : ∀ (a : PL), outS q (a.map decP) = outS q a - ((a.length : Int) - (inN q a : Int))
  | [] => rfl
  | p :: a => by
    have := outS_dec q a
    simp only [List.map_cons, outS, inN, List.length_cons]
    split <;> omega
theorem outS_nonneg (q : Int → Bool) : ∀ (a : PL), (∀ p ∈ a, 0 ≤ p.1) → 0 ≤ outS q a
  | [], _ => Int.le_refl _
  | p :: a, h => by
    have h1 := outS_nonneg q a fun x hx => h x (.tail _ hx)
    have h2 := h p (.head _)
    simp only [outS]; split <;> omega
noncomputable abbrev setQ (q : Int → Bool) (g : Int) (b : Bool) : Int → Bool := fun x => if x = g then b else q x
theorem set_off (q : Int → Bool) (g : Int) (b : Bool) : ∀ (a : PL), (∀ p ∈ a, p.2 ≠ g) → outS (setQ q g b) a = outS q a ∧ inN (setQ q g b) a = inN q a
  | [], _ => ⟨rfl, rfl⟩
  | p :: a, h => by
    have h1 := set_off q g b a fun x hx => h x (.tail _ hx)
    have h2 := h p (.head _)
    simp only [outS, inN, setQ, if_neg h2]
    exact ⟨by rw [h1.1], by rw [h1.2]⟩
theorem set_false (q : Int → Bool) : ∀ (a : PL) (p : Int × Int), p ∈ a → (goods a).Nodup → q p.2 = true → outS (setQ q p.2 false) a = outS q a + p.1 ∧ inN q a = inN (setQ q p.2 false) a + 1
  | [], _, h, _, _ => nomatch h
  | x :: a, p, h, hn, hq => by
    have hn' : x.2 ∉ goods a ∧ (goods a).Nodup := List.nodup_cons.mp hn
    rcases List.mem_cons.mp h with rfl | h
    · have h1 := set_off q p.2 false a fun y hy e => hn'.1 (e ▸ List.mem_map.mpr ⟨y, hy, rfl⟩)
      have e1 : outS (setQ q p.2 false) (p :: a) = p.1 + outS (setQ q p.2 false) a := by simp [outS, setQ]
      have e2 : inN (setQ q p.2 false) (p :: a) = inN (setQ q p.2 false) a := by simp [inN, setQ]
      have e3 : outS q (p :: a) = outS q a := by simp [outS, hq]
      have e4 : inN q (p :: a) = 1 + inN q a := by simp [inN, hq]
      rw [e1, e2, e3, e4]
      omega
    · have h1 := set_false q a p h hn'.2 hq
      have hne : x.2 ≠ p.2 := fun e => hn'.1 (e ▸ List.mem_map.mpr ⟨p, h, rfl⟩)
      simp only [outS, inN, setQ, if_neg hne] at h1 ⊢
      exact ⟨by rw [h1.1]; omega, by rw [h1.2]; omega⟩
theorem set_true (q : Int → Bool) : ∀ (a : PL) (p : Int × Int), p ∈ a → (goods a).Nodup → q p.2 = false → outS q a = outS (setQ q p.2 true) a + p.1 ∧ inN (setQ q p.2 true) a = inN q a + 1
  | [], _, h, _, _ => nomatch h
  | x :: a, p, h, hn, hq => by
    have hn' : x.2 ∉ goods a ∧ (goods a).Nodup := List.nodup_cons.mp hn
    rcases List.mem_cons.mp h with rfl | h
    · have h1 := set_off q p.2 true a fun y hy e => hn'.1 (e ▸ List.mem_map.mpr ⟨y, hy, rfl⟩)
      have e1 : outS (setQ q p.2 true) (p :: a) = outS (setQ q p.2 true) a := by simp [outS, setQ]
      have e2 : inN (setQ q p.2 true) (p :: a) = 1 + inN (setQ q p.2 true) a := by simp [inN, setQ]
      have e3 : outS q (p :: a) = p.1 + outS q a := by simp [outS, hq]
      have e4 : inN q (p :: a) = inN q a := by simp [inN, hq]
      rw [e1, e2, e3, e4]
      omega
    · have h1 := set_true q a p h hn'.2 hq
      have hne : x.2 ≠ p.2 := fun e => hn'.1 (e ▸ List.mem_map.mpr ⟨p, h, rfl⟩)
      simp only [outS, inN, setQ, if_neg hne] at h1 ⊢
      exact ⟨by rw [h1.1]; omega, by rw [h1.2]; omega⟩
theorem inN_pos (q : Int → Bool) : ∀ (a : PL), 0 < inN q a → ∃ p ∈ a, q p.2 = true
  | [], h => absurd h (Nat.lt_irrefl _)
  | p :: a, h => by
    cases e : q p.2 with
    | true => exact ⟨p, .head _, e⟩
    | false =>
      have : 0 < inN q a := by simpa [inN, e] using h
      obtain ⟨x, hx, hq⟩ := inN_pos q a this
      exact ⟨x, .tail _ hx, hq⟩
theorem inN_lt (q : Int → Bool) : ∀ (a : PL), inN q a < a.length → ∃ p ∈ a, q p.2 = false
  | [], h => absurd h (Nat.lt_irrefl _)
  | p :: a, h => by
    cases e : q p.2 with
    | false => exact ⟨p, .head _, e⟩
    | true =>
      have : inN q a < a.length := by simp only [inN, e, if_true, List.length_cons] at h; omega
      obtain ⟨x, hx, hq⟩ := inN_lt q a this
      exact ⟨x, .tail _ hx, hq⟩
/-- two parts of a row, the upper one given to a customer who takes t -/
structure Part (low high : PL) (t : Nat) : Prop where
  fit : high.length ≤ t
  full : high.length = t ∨ ∀ p ∈ low, p.1 ≤ 0
  ord : ∀ p ∈ low, ∀ r ∈ high, p.1 ≤ r.1
  nd : (goods low ++ goods high).Nodup
theorem exchange {low high : PL} {t : Nat} (P : Part low high t) (T : List Nat) : ∀ (n : Nat) (q : Int → Bool), (high.length - inN q high) + inN q low ≤ n →
    ∃ q', outS q' low + outS q' high + ((min (inN q' low + inN q' high) t : Nat) : Int) + rT T (inN q' low + inN q' high) ≤ outS q low + outS q high + (inN q high : Int) + rT T (inN q low + inN q high) := by
  have nd1 : (goods low).Nodup := (List.nodup_append.mp P.nd).1
  have nd2 : (goods high).Nodup := (List.nodup_append.mp P.nd).2.1
  have nd3 : ∀ p ∈ low, ∀ r ∈ high, p.2 ≠ r.2 := fun p hp r hr => (List.nodup_append.mp P.nd).2.2 _ (List.mem_map.mpr ⟨p, hp, rfl⟩) _ (List.mem_map.mpr ⟨r, hr, rfl⟩)
  intro n
  induction n with
  | zero =>
    intro q h
    have h1 := inN_le q high
    exact ⟨q, by omega⟩
  | succ n ih =>
    intro q h
    have h1 := inN_le q high
    by_cases h0 : inN q low = 0
    · exact ⟨q, by omega⟩
    obtain ⟨g, hg, hgq⟩ := inN_pos q low (by omega)
    have sl := set_false q low g hg nd1 hgq
    have sh := set_off q g.2 false high fun p hp e => nd3 g hg p hp e.symm
    have drop : rT T (inN q low + inN q high - 1) + g.1 ≤ rT T (inN q low + inN q high) → ∃ q', outS q' low + outS q' high + ((min (inN q' low + inN q' high) t : Nat) : Int) + rT T (inN q' low + inN q' high) ≤ outS q low + outS q high + (inN q high : Int) + rT T (inN q low + inN q high) := by
      intro hd
      obtain ⟨q', hq'⟩ := ih (setQ q g.2 false) (by omega)
      refine ⟨q', Int.le_trans hq' ?_⟩
      have e : inN (setQ q g.2 false) low + inN (setQ q g.2 false) high = inN q low + inN q high - 1 := by omega
      rw [e, sl.1, sh.1, sh.2]
      omega
    have m1 := rT_mono T (inN q low + inN q high - 1)
    have ea : inN q low + inN q high - 1 + 1 = inN q low + inN q high := by omega
    rw [ea] at m1
    rcases P.full with hf | hf
    · by_cases h2 : inN q high = high.length
      · exact ⟨q, by omega⟩
      obtain ⟨u, hu, huq⟩ := inN_lt q high (by omega)
      by_cases hd : rT T (inN q low + inN q high - 1) + g.1 ≤ rT T (inN q low + inN q high)
      · exact drop hd
      · have su := set_true q high u hu nd2 huq
        have so := set_off q u.2 true low fun p hp => nd3 p hp u hu
        obtain ⟨q', hq'⟩ := ih (setQ q u.2 true) (by omega)
        refine ⟨q', Int.le_trans hq' ?_⟩
        have hc := rT_conc T (inN q low + inN q high - 1)
        have e2 : inN q low + inN q high - 1 + 2 = inN q low + inN q high + 1 := by omega
        rw [ea, e2] at hc
        have hgu := P.ord g hg u hu
        have e : inN (setQ q u.2 true) low + inN (setQ q u.2 true) high = inN q low + inN q high + 1 := by omega
        rw [e, so.1, su.2]
        omega
    · have := hf g hg
      exact drop (by omega)
/-- what holds of a row between the turns -/
structure RowF (row : PL) : Prop where
  sorted : SortedW row
  nd : (goods row).Nodup
  nn : ∀ p ∈ row, 0 ≤ p.1
theorem serveIn_perm (odd : Bool) : ∀ (taken row : PL), (serveIn odd taken row).Perm (row ++ taken.map decP) := by
  intro taken
  induction taken with
  | nil => intro row; simp [serveIn]
  | cons p taken ih =>
    intro row
    refine (ih (insK odd (p.1 - 1, p.2) row)).trans ?_
    refine ((insAt_perm _ _ row).append_right _).trans ?_
    rw [List.map_cons]
    exact List.perm_middle.symm
theorem part_of {row : PL} (h : RowF row) (t : Nat) : Part (row.take (takeCut row t)) (row.drop (takeCut row t)) t ∧ ∀ p ∈ row.drop (takeCut row t), 0 < p.1 := by
  have m := mono_cut (h.sorted.mono_lt 0)
  have hle := takeCut_le row t
  have hc : cnt (fun q => decide (0 < q.1)) row ≤ takeCut row t := Nat.le_max_left _ _
  have hc2 : row.length - t ≤ takeCut row t := Nat.le_max_right _ _
  refine ⟨⟨by rw [List.length_drop]; omega, ?_, ?_, ?_⟩, ?_⟩
  · rcases Nat.lt_or_ge (cnt (fun q : Int × Int => decide (0 < q.1)) row) (row.length - t) with h1 | h1
    · refine .inl ?_
      have e : takeCut row t = row.length - t := Nat.max_eq_right (Nat.le_of_lt h1)
      rw [List.length_drop, e]; omega
    · refine .inr fun p hp => ?_
      have e : takeCut row t = cnt (fun q : Int × Int => decide (0 < q.1)) row := Nat.max_eq_left h1
      rw [e] at hp
      have := m.1 p hp
      simp only [decide_eq_false_iff_not] at this
      omega
  · have h3 := (List.take_append_drop (takeCut row t) row) ▸ h.sorted
    exact (List.pairwise_append.mp h3).2.2
  · unfold goods
    rw [← List.map_append, List.take_append_drop]
    exact h.nd
  · intro p hp
    have : p ∈ row.drop (cnt (fun q => decide (0 < q.1)) row) := by
      have e : takeCut row t = cnt (fun q : Int × Int => decide (0 < q.1)) row + (takeCut row t - cnt (fun q : Int × Int => decide (0 < q.1)) row) := by omega
      rw [e, ← List.drop_drop] at hp
      exact List.mem_of_mem_drop hp
    simpa using m.2 p this
theorem turn_perm (odd : Bool) (row : PL) (t : Nat) : (serveTurn odd row t).Perm (row.take (takeCut row t) ++ (row.drop (takeCut row t)).map decP) := serveIn_perm odd _ _
theorem RowF.turn {row : PL} (h : RowF row) (odd : Bool) (t : Nat) : RowF (serveTurn odd row t) := by
  refine ⟨(serveIn_spec odd _ _ (h.sorted.sublist (List.take_sublist _ _))).1, (serveTurn_goods odd row t).nodup_iff.mpr h.nd, fun p hp => ?_⟩
  have hp := (turn_perm odd row t).mem_iff.mp hp
  rcases List.mem_append.mp hp with hp | hp
  · exact h.nn p (List.mem_of_mem_take hp)
  · obtain ⟨r, hr, rfl⟩ := List.mem_map.mp hp
    have := (part_of h t).2 r hr
    show 0 ≤ r.1 - 1
    omega
noncomputable def tot : PL → Nat → List Nat → Nat
  | _, _, [] => 0
  | row, i, t :: T => (row.drop (takeCut row t)).length + tot (serveTurn (oddB i) row t) (i + 1) T
theorem tot_le : ∀ (T : List Nat) (row : PL) (i : Nat), RowF row → ∀ q, (tot row i T : Int) ≤ outS q row + rT T (inN q row)
  | [], row, i, h, q => by
    have := outS_nonneg q row h.nn
    simp only [tot, rT]; omega
  | t :: T, row, i, h, q => by
    have ih := tot_le T _ (i + 1) (h.turn (oddB i) t) q
    have hp := turn_perm (oddB i) row t
    have P := (part_of h t).1
    rw [outS_perm q hp, inN_perm q hp, outS_append, inN_append, outS_dec, inN_dec] at ih
    have e1 : outS q row = outS q (row.take (takeCut row t)) + outS q (row.drop (takeCut row t)) := by rw [← outS_append, List.take_append_drop]
    have e2 : inN q row = inN q (row.take (takeCut row t)) + inN q (row.drop (takeCut row t)) := by rw [← inN_append, List.take_append_drop]
    have h1 := inN_le q (row.drop (takeCut row t))
    have h2 := P.fit
    rw [e1, e2]
    simp only [tot, rT]
    omega
theorem le_tot : ∀ (T : List Nat) (row : PL) (i : Nat), RowF row → ∃ q, outS q row + rT T (inN q row) ≤ (tot row i T : Int)
  | [], row, i, h => by
    refine ⟨fun _ => true, ?_⟩
    have : ∀ r : PL, outS (fun _ => true) r = 0 := by
      intro r
      induction r with
      | nil => rfl
      | cons p r ih => simp [outS, ih]
    rw [this]
    simp [rT, tot]
  | t :: T, row, i, h => by
    obtain ⟨q, ih⟩ := le_tot T _ (i + 1) (h.turn (oddB i) t)
    have hp := turn_perm (oddB i) row t
    have P := (part_of h t).1
    rw [outS_perm q hp, inN_perm q hp, outS_append, inN_append, outS_dec, inN_dec] at ih
    obtain ⟨q', hq'⟩ := exchange P T _ q (Nat.le_refl _)
    refine ⟨q', ?_⟩
    have e1 : outS q' row = outS q' (row.take (takeCut row t)) + outS q' (row.drop (takeCut row t)) := by rw [← outS_append, List.take_append_drop]
    have e2 : inN q' row = inN q' (row.take (takeCut row t)) + inN q' (row.drop (takeCut row t)) := by rw [← inN_append, List.take_append_drop]
    have h1 := inN_le q (row.drop (takeCut row t))
    rw [e1, e2]
    simp only [tot, rT]
    omega
theorem pairs_tot (W T : List Nat) : ∀ j, j ≤ T.length → (servePairs W T j).length + tot (serveRow W T j) j (T.drop j) = tot (serveRow W T 0) 0 T := by
  intro j
  induction j with
  | zero => intro _; simp [servePairs]
  | succ j ih =>
    intro h
    rw [← ih (by omega), List.drop_eq_getElem_cons (show j < T.length by omega)]
    have e : T.getD j 0 = T[j] := by simp [List.getD_eq_getElem?_getD, show j < T.length by omega]
    simp only [servePairs, serveRow, tot, e, letters, List.length_append, List.length_map]
    omega
theorem take_shift : ∀ (l : List Int) (x : Int) (j : Nat), (∀ y ∈ l, x ≤ y) → l.Pairwise (· ≤ ·) → j ≤ l.length → ((x :: l).take j).sum ≤ (l.take j).sum
  | _, _, 0, _, _, _ => by simp
  | [], _, j + 1, _, _, h => absurd h (by simp)
  | y :: l, x, j + 1, hx, hs, h => by
    have hs' := List.pairwise_cons.mp hs
    have ih := take_shift l y j hs'.1 hs'.2 (by simpa using h)
    have := hx y (.head _)
    rw [List.take_succ_cons, List.take_succ_cons, List.sum_cons, List.sum_cons]
    omega
theorem out_ge (q : Int → Bool) : ∀ (row : PL), SortedW row → ((row.map (·.1)).take (row.length - inN q row)).sum ≤ outS q row
  | [], _ => by simp [outS]
  | p :: row, h => by
    have h' := List.pairwise_cons.mp h
    have ih := out_ge q row h'.2
    have hl := inN_le q row
    cases e : q p.2 with
    | true =>
      have e1 : outS q (p :: row) = outS q row := by simp [outS, e]
      have e2 : (p :: row).length - inN q (p :: row) = row.length - inN q row := by simp only [inN, e, if_true, List.length_cons]; omega
      rw [e1, e2, List.map_cons]
      refine Int.le_trans (take_shift _ _ _ ?_ ?_ ?_) ih
      · intro y hy
        obtain ⟨r, hr, rfl⟩ := List.mem_map.mp hy
        exact h'.1 r hr
      · exact List.pairwise_map.mpr h'.2
      · rw [List.length_map]; omega
    | false =>
      have e1 : outS q (p :: row) = p.1 + outS q row := by simp [outS, e]
      have e2 : (p :: row).length - inN q (p :: row) = (row.length - inN q row) + 1 := by simp only [inN, e, List.length_cons]; simp; omega
      rw [e1, e2, List.map_cons, List.take_succ_cons, List.sum_cons]
      omega
theorem rT_ge : ∀ (s : List Nat) (a : Nat), s.Pairwise (· ≤ ·) → ∃ k, k ≤ s.length ∧ (a : Int) * (k : Int) + (nats (s.take (s.length - k))).sum ≤ rT s a
  | [], a, _ => ⟨0, Nat.le_refl _, by simp [rT, nats]⟩
  | x :: s, a, h => by
    have h' := List.pairwise_cons.mp h
    by_cases hx : a ≤ x
    · refine ⟨(x :: s).length, Nat.le_refl _, ?_⟩
      rw [rT_const (x :: s) a (List.forall_mem_cons.mpr ⟨hx, fun y hy => Nat.le_trans hx (h'.1 y hy)⟩), Nat.sub_self]
      simp [nats]
    · obtain ⟨k, hk, ih⟩ := rT_ge s a h'.2
      refine ⟨k, Nat.le_succ_of_le hk, ?_⟩
      have e : (x :: s).length - k = (s.length - k) + 1 := by simp only [List.length_cons]; omega
      rw [e, List.take_succ_cons]
      show _ + ((x : Int) :: nats (s.take (s.length - k))).sum ≤ _
      rw [List.sum_cons]
      simp only [rT]
      omega
theorem row0_wants (W : List Nat) : (row0 W W.length).map (·.1) = nats (sortN W) := by
  refine sortN_unique ?_ ?_
  · refine ((row0_perm W W.length).map (·.1)).trans ?_
    have e : (pairs0 W W.length).map (·.1) = nats W := by
      unfold pairs0 nats
      rw [List.map_map]
      refine List.ext_getElem (by simp) fun i h1 h2 => ?_
      simp at h2
      simp [List.getD_eq_getElem?_getD, h2]
    rw [e]
  · exact List.pairwise_map.mpr (row0_spec W W.length).1.toW
theorem row0_F (W : List Nat) : RowF (row0 W W.length) := by
  refine ⟨(row0_spec W W.length).1.toW, row0_goods W _, fun p hp => ?_⟩
  obtain ⟨i, _, rfl⟩ := List.mem_map.mp ((row0_perm W _).mem_iff.mp hp)
  exact Int.natCast_nonneg _
theorem cut_mem {W T : List Nat} {c : Int} : c ∈ cutsAll W T (W.length + 1) ↔ ∃ g k, g ≤ W.length ∧ k ≤ T.length ∧ c = cutVal W T g k := by
  unfold cutsAll cutsRow
  simp only [List.mem_flatMap, List.mem_range, List.mem_map]
  constructor
  · rintro ⟨g, hg, k, hk, rfl⟩
    exact ⟨g, k, by omega, by omega, rfl⟩
  · rintro ⟨g, k, hg, hk, rfl⟩
    exact ⟨g, by omega, k, by omega, rfl⟩
theorem sortN_len (W : List Nat) : (sortN W).length = W.length := (sortN_perm W).length_eq
theorem nats_append (a b : List Nat) : nats (a ++ b) = nats a ++ nats b := List.map_append
theorem sel_top (row : PL) (c : Nat) (nd : (goods row).Nodup) : outS (fun x => (goods (row.drop c)).contains x) row = ((row.take c).map (·.1)).sum ∧ inN (fun x => (goods (row.drop c)).contains x) row = (row.drop c).length := by
  have hnd : (goods (row.take c) ++ goods (row.drop c)).Nodup := by
    unfold goods
    rw [← List.map_append, List.take_append_drop]; exact nd
  have hd := (List.nodup_append.mp hnd).2.2
  have A : ∀ (q : Int → Bool) (a : PL), (∀ p ∈ a, q p.2 = false) → outS q a = (a.map (·.1)).sum ∧ inN q a = 0 := by
    intro q a
    induction a with
    | nil => intro _; exact ⟨rfl, rfl⟩
    | cons p a ih =>
      intro h
      have h1 := ih fun x hx => h x (.tail _ hx)
      have h2 := h p (.head _)
      simp [outS, inN, h2, h1]
  have B : ∀ (q : Int → Bool) (a : PL), (∀ p ∈ a, q p.2 = true) → outS q a = 0 ∧ inN q a = a.length := by
    intro q a
    induction a with
    | nil => intro _; exact ⟨rfl, rfl⟩
    | cons p a ih =>
      intro h
      have h1 := ih fun x hx => h x (.tail _ hx)
      have h2 := h p (.head _)
      simp only [outS, inN, h2, h1, if_true, List.length_cons]
      omega
  have a := A (fun x => (goods (row.drop c)).contains x) (row.take c) fun p hp => by
    simp only [List.contains_eq_mem, decide_eq_false_iff_not]
    exact fun hm => hd p.2 (List.mem_map.mpr ⟨p, hp, rfl⟩) p.2 hm rfl
  have b := B (fun x => (goods (row.drop c)).contains x) (row.drop c) fun p hp => by
    simp only [List.contains_eq_mem, decide_eq_true_eq]
    exact List.mem_map.mpr ⟨p, hp, rfl⟩
  have e1 := outS_append (fun x => (goods (row.drop c)).contains x) (row.take c) (row.drop c)
  have e2 := inN_append (fun x => (goods (row.drop c)).contains x) (row.take c) (row.drop c)
  rw [List.take_append_drop] at e1 e2
  rw [e1, e2, a.1, a.2, b.1, b.2]
  exact ⟨by omega, by omega⟩
theorem least_cut {W T : List Nat} {c : Int} (h1 : c ∈ cutsAll W T (W.length + 1)) (h2 : ∀ a ∈ cutsAll W T (W.length + 1), c ≤ a) : ((servePairs W T T.length).length : Int) = c := by
  have ht : (servePairs W T T.length).length = tot (row0 W W.length) 0 T := by
    have := pairs_tot W T T.length (Nat.le_refl _)
    rw [List.drop_length] at this
    simpa [tot, serveRow] using this
  rw [ht]
  have hF := row0_F W
  have hlen : (row0 W W.length).length = W.length := (row0_spec W W.length).2.1
  refine Int.le_antisymm ?_ ?_
  · obtain ⟨g, k, hg, hk, rfl⟩ := cut_mem.mp h1
    have s := sel_top (row0 W W.length) (W.length - g) hF.nd
    have h := tot_le T _ 0 hF (fun x => (goods ((row0 W W.length).drop (W.length - g))).contains x)
    rw [s.1, s.2, List.length_drop, hlen, List.map_take, row0_wants] at h
    have e : W.length - (W.length - g) = g := by omega
    rw [e] at h
    have r1 : rT T g = rT ((sortN T).take (T.length - k)) g + rT ((sortN T).drop (T.length - k)) g := by
      rw [← rT_append, List.take_append_drop]
      exact (rT_perm (sortN_perm T) g).symm
    have r2 := rT_le_sum ((sortN T).take (T.length - k)) g
    have r3 := rT_le_mul ((sortN T).drop (T.length - k)) g
    rw [List.length_drop, sortN_len, show T.length - (T.length - k) = k by omega] at r3
    unfold cutVal
    rw [List.sum_append_int]
    have e3 : (nats (sortN W)).take (W.length - g) = nats ((sortN W).take (W.length - g)) := by simp [nats, List.map_take]
    rw [e3] at h
    omega
  · obtain ⟨q, h⟩ := le_tot T (row0 W W.length) 0 hF
    have hle := inN_le q (row0 W W.length)
    rw [hlen] at hle
    obtain ⟨k, hk, hr⟩ := rT_ge (sortN T) (inN q (row0 W W.length)) (sortN_pw T)
    rw [rT_perm (sortN_perm T), sortN_len] at hr
    rw [sortN_len] at hk
    have ho := out_ge q (row0 W W.length) hF.sorted
    rw [hlen, row0_wants] at ho
    have h3 := h2 _ (cut_mem.mpr ⟨inN q (row0 W W.length), k, hle, hk, rfl⟩)
    unfold cutVal at h3
    rw [List.sum_append_int] at h3
    have e3 : (nats (sortN W)).take (W.length - inN q (row0 W W.length)) = nats ((sortN W).take (W.length - inN q (row0 W W.length))) := by simp [nats, List.map_take]
    rw [e3] at ho
    omega

end
section
/-! the turns at which a good is given, and what is still wanted of it -/
noncomputable def tookAt (W T : List Nat) (i : Nat) : PL := (serveRow W T i).drop (takeCut (serveRow W T i) (T.getD i 0))
noncomputable def trn (W T : List Nat) : Nat → Nat → List Nat
  | 0, _ => []
  | i + 1, g => trn W T i g ++ (if (goods (tookAt W T i)).contains (g : Int) then [i] else [])
theorem serveRow_F (W T : List Nat) : ∀ i, RowF (serveRow W T i)
  | 0 => row0_F W
  | i + 1 => (serveRow_F W T i).turn _ _
theorem letters_filter (odd : Bool) (k g : Nat) : ∀ (l : PL), (goods l).Nodup → (∀ p ∈ l, 0 ≤ p.2 ∧ p.2 < 4) →
    ((letters odd k l).filter fun p => decide (lowc p.1 = 97 + g)).map (·.2) = if (goods l).contains (g : Int) then [48 + k] else []
  | [], _, _ => rfl
  | p :: l, hn, hb => by
    have hn' := List.nodup_cons.mp (show (p.2 :: goods l).Nodup from hn)
    have ih := letters_filter odd k g l hn'.2 fun x hx => hb x (.tail _ hx)
    have hp := hb p (.head _)
    have el : lowc ((if odd then 65 else 97) + p.2.toNat) = 97 + p.2.toNat := by
      unfold lowc
      cases odd
      · show (if 97 + p.2.toNat < 97 then _ else _) = _
        rw [if_neg (by omega)]; rfl
      · show (if 65 + p.2.toNat < 97 then 65 + p.2.toNat + 32 else 65 + p.2.toNat) = _
        rw [if_pos (by omega)]; omega
    have e0 : letters odd k (p :: l) = ((if odd then 65 else 97) + p.2.toNat, 48 + k) :: letters odd k l := rfl
    rw [e0, List.filter_cons]
    simp only [el]
    by_cases h : p.2 = (g : Int)
    · have h1 : (97 + p.2.toNat = 97 + g) := by omega
      have h2 : (goods l).contains (g : Int) = false := by
        simp only [List.contains_eq_mem, decide_eq_false_iff_not]
        exact h ▸ hn'.1
      have h3 : (goods (p :: l)).contains (g : Int) = true := by
        simp only [List.contains_eq_mem, decide_eq_true_eq]
        exact h ▸ List.Mem.head _
      rw [h2] at ih
      rw [if_pos (by simpa using h1), h3, List.map_cons, ih]
      rfl
    · have h1 : ¬ (97 + p.2.toNat = 97 + g) := by omega
      have h3 : (goods (p :: l)).contains (g : Int) = (goods l).contains (g : Int) := by
        rw [Bool.eq_iff_iff]
        simp only [List.contains_iff_mem]
        exact ⟨fun q => (List.mem_cons.mp (show (g : Int) ∈ p.2 :: goods l from q)).resolve_left fun e => h e.symm, fun q => .tail _ q⟩
      rw [if_neg (by simpa using h1), h3, ih]
theorem tookAt_goods (W T : List Nat) (i : Nat) (hW : W.length ≤ 4) : (goods (tookAt W T i)).Nodup ∧ ∀ p ∈ tookAt W T i, 0 ≤ p.2 ∧ p.2 < 4 := by
  refine ⟨((List.drop_sublist _ _).map _).nodup (serveRow_goods W T i), fun p hp => ?_⟩
  have := (serveRow_ok W T i).goods p (List.mem_of_mem_drop hp)
  omega
theorem trn_pairs (W T : List Nat) (hW : W.length ≤ 4) (g : Nat) : ∀ i, ((servePairs W T i).filter fun p => decide (lowc p.1 = 97 + g)).map (·.2) = (trn W T i g).map (48 + ·)
  | 0 => rfl
  | i + 1 => by
    have ih := trn_pairs W T hW g i
    have hg := tookAt_goods W T i hW
    have hl := letters_filter (oddB i) i g (tookAt W T i) hg.1 hg.2
    show ((servePairs W T i ++ letters (oddB i) i (tookAt W T i)).filter _).map _ = (trn W T i g ++ _).map _
    rw [List.filter_append, List.map_append, List.map_append, ih, hl]
    split <;> rfl
theorem trn_lt (W T : List Nat) (g : Nat) : ∀ i, ∀ x ∈ trn W T i g, x < i
  | 0, x, h => nomatch h
  | i + 1, x, h => by
    rcases List.mem_append.mp (show x ∈ trn W T i g ++ _ from h) with h | h
    · have := trn_lt W T g i x h; omega
    · split at h
      · have := List.mem_singleton.mp h; omega
      · cases h
theorem trn_filter (W T : List Nat) (g : Nat) : ∀ i, (List.range i).filter (fun k => (trn W T i g).contains k) = trn W T i g
  | 0 => rfl
  | i + 1 => by
    have ih := trn_filter W T g i
    have hlt := trn_lt W T g i
    have hi : (trn W T i g).contains i = false := by
      simp only [List.contains_eq_mem, decide_eq_false_iff_not]
      exact fun h => Nat.lt_irrefl _ (hlt i h)
    have h1 : (List.range i).filter (fun k => (trn W T (i + 1) g).contains k) = (List.range i).filter (fun k => (trn W T i g).contains k) := by
      refine List.filter_congr fun k hk => ?_
      have hk := List.mem_range.mp hk
      show (trn W T i g ++ _).contains k = _
      rw [Bool.eq_iff_iff]
      simp only [List.contains_iff_mem, List.mem_append]
      refine ⟨fun q => q.resolve_right fun q => ?_, .inl⟩
      split at q
      · have := List.mem_singleton.mp q; omega
      · cases q
    rw [List.range_succ, List.filter_append, h1, ih]
    show _ = trn W T i g ++ _
    congr 1
    by_cases hc : (goods (tookAt W T i)).contains (g : Int) = true
    · rw [if_pos hc]
      have : (trn W T (i + 1) g).contains i = true := by
        show (trn W T i g ++ _).contains i = true
        rw [if_pos hc]
        simp
      rw [List.filter_cons, if_pos this]; rfl
    · rw [if_neg hc]
      have : (trn W T (i + 1) g).contains i = false := by
        show (trn W T i g ++ _).contains i = false
        rw [if_neg hc, List.append_nil]
        exact hi
      rw [List.filter_cons, if_neg (by rw [this]; exact Bool.false_ne_true)]; rfl
theorem want_left (W T : List Nat) : ∀ i, ∀ p ∈ serveRow W T i, p.1 = ((W.getD p.2.toNat 0 : Nat) : Int) - ((trn W T i p.2.toNat).length : Int)
  | 0, p, hp => by
    obtain ⟨i, _, rfl⟩ := List.mem_map.mp ((row0_perm W W.length).mem_iff.mp hp)
    simp [trn]
  | i + 1, p, hp => by
    have ih := want_left W T i
    have hF := serveRow_F W T i
    have hok := serveRow_ok W T i
    have P := (part_of hF (T.getD i 0)).1.nd
    have hp := (turn_perm (oddB i) (serveRow W T i) (T.getD i 0)).mem_iff.mp hp
    have et : ∀ g : Nat, (trn W T (i + 1) g).length = (trn W T i g).length + (if (goods (tookAt W T i)).contains (g : Int) then 1 else 0) := by
      intro g
      show (trn W T i g ++ _).length = _
      rw [List.length_append]
      split <;> rfl
    rcases List.mem_append.mp hp with hp | hp
    · have hg := hok.goods p (List.mem_of_mem_take hp)
      have hc : (goods (tookAt W T i)).contains ((p.2.toNat : Nat) : Int) = false := by
        simp only [List.contains_eq_mem, decide_eq_false_iff_not]
        intro h
        rw [Int.toNat_of_nonneg hg.1] at h
        exact (List.nodup_append.mp P).2.2 p.2 (List.mem_map.mpr ⟨p, hp, rfl⟩) p.2 h rfl
      rw [et, hc, ih p (List.mem_of_mem_take hp)]
      simp
    · obtain ⟨r, hr, rfl⟩ := List.mem_map.mp hp
      have hg := hok.goods r (List.mem_of_mem_drop hr)
      have hc : (goods (tookAt W T i)).contains ((r.2.toNat : Nat) : Int) = true := by
        simp only [List.contains_eq_mem, decide_eq_true_eq]
        rw [Int.toNat_of_nonneg hg.1]
        exact List.mem_map.mpr ⟨r, hr, rfl⟩
      have hi := ih r (List.mem_of_mem_drop hr)
      show r.1 - 1 = _
      rw [et, hc, hi]
      simp
      omega
theorem goods_perm (W T : List Nat) : ∀ i, (goods (serveRow W T i)).Perm ((List.range W.length).map fun (g : Nat) => (g : Int))
  | 0 => by
    have := (row0_perm W W.length).map (·.2)
    unfold pairs0 at this
    rw [List.map_map] at this
    exact this
  | i + 1 => (serveTurn_goods _ _ _).trans (goods_perm W T i)
/-- how often a good was given; what is still wanted of it -/
noncomputable abbrev givenN (W T : List Nat) (g : Nat) : Nat := (trn W T T.length g).length
noncomputable abbrev stillN (W T : List Nat) (g : Nat) : Nat := W.getD g 0 - givenN W T g
theorem given_le (W T : List Nat) {g : Nat} (hg : g < W.length) : givenN W T g ≤ W.getD g 0 := by
  have h1 : (g : Int) ∈ goods (serveRow W T T.length) := (goods_perm W T T.length).mem_iff.mpr (List.mem_map.mpr ⟨g, List.mem_range.mpr hg, rfl⟩)
  obtain ⟨p, hp, e⟩ := List.mem_map.mp h1
  have h2 := want_left W T T.length p hp
  have h3 := (serveRow_F W T T.length).nn p hp
  have e2 : p.2.toNat = g := by
    have e' : p.2 = (g : Int) := e
    omega
  rw [e2] at h2
  unfold givenN
  omega
theorem still_sorted (W T : List Nat) {qs : PL} (hp : qs.Perm ((serveRow W T T.length).map fun p => (p.2, p.1))) (hs : SortedL qs) : qs = (List.range W.length).map fun (g : Nat) => ((g : Int), ((stillN W T g : Nat) : Int)) := by
  refine sortedL_unique (hp.trans ?_) hs ?_
  · have e : (serveRow W T T.length).map (fun p => (p.2, p.1)) = (goods (serveRow W T T.length)).map fun x => (x, ((stillN W T x.toNat : Nat) : Int)) := by
      unfold goods
      rw [List.map_map]
      refine List.map_congr_left fun p hp => ?_
      have h1 := want_left W T T.length p hp
      have h2 := (serveRow_ok W T T.length).goods p hp
      have h3 := given_le W T (g := p.2.toNat) (by omega)
      unfold stillN givenN at *
      have h4 : p.1 = ((W.getD p.2.toNat 0 - (trn W T T.length p.2.toNat).length : Nat) : Int) := by omega
      exact congrArg (Prod.mk p.2) h4
    rw [e]
    refine ((goods_perm W T T.length).map fun x : Int => (x, ((stillN W T x.toNat : Nat) : Int))).trans (List.Perm.of_eq ?_)
    rw [List.map_map]
    rfl
  · refine List.pairwise_map.mpr (List.pairwise_lt_range.imp fun {a b} h => ?_)
    simp only [pltB, Bool.or_eq_true, decide_eq_true_eq]
    exact .inl (by omega)
theorem one_sum (x : Nat) : ∀ n, ((List.range n).map fun g => if x = g then 1 else 0).sum = if x < n then 1 else 0
  | 0 => rfl
  | n + 1 => by
    rw [List.range_succ, List.map_append, List.sum_append_nat, one_sum x n]
    simp only [List.map_cons, List.map_nil, List.sum_cons, List.sum_nil]
    split <;> split <;> split <;> omega
theorem add_sum (f h : Nat → Nat) : ∀ l : List Nat, (l.map fun g => f g + h g).sum = (l.map f).sum + (l.map h).sum
  | [] => rfl
  | a :: l => by
    have := add_sum f h l
    simp only [List.map_cons, List.sum_cons]; omega
theorem count_sum (n : Nat) : ∀ (l : List (Nat × Nat)), (∀ p ∈ l, ∃ g, g < n ∧ lowc p.1 = 97 + g) → ((List.range n).map fun g => (l.filter fun p => decide (lowc p.1 = 97 + g)).length).sum = l.length
  | [], _ => by
    have : ∀ l : List Nat, (l.map fun _ => 0).sum = 0 := by
      intro l
      induction l with
      | nil => rfl
      | cons a l ih => rw [List.map_cons, List.sum_cons, ih]
    exact this _
  | p :: l, h => by
    have ih := count_sum n l fun x hx => h x (.tail _ hx)
    obtain ⟨g0, h0, e0⟩ := h p (.head _)
    have e : ((List.range n).map fun g => ((p :: l).filter fun p => decide (lowc p.1 = 97 + g)).length) = (List.range n).map fun g => (l.filter fun p => decide (lowc p.1 = 97 + g)).length + (if g0 = g then 1 else 0) := by
      refine List.map_congr_left fun g _ => ?_
      rw [List.filter_cons, e0]
      by_cases hg : g0 = g
      · rw [if_pos (by simp; omega), if_pos hg, List.length_cons]
      · rw [if_neg (by simp; omega), if_neg hg]; rfl
    rw [e, add_sum, ih, one_sum, if_pos h0, List.length_cons]
theorem pairs_low (W T : List Nat) (hW : W.length ≤ 4) : ∀ i, ∀ p ∈ servePairs W T i, ∃ g, g < W.length ∧ lowc p.1 = 97 + g
  | 0, _, h => nomatch h
  | i + 1, p, h => by
    rcases List.mem_append.mp (show p ∈ servePairs W T i ++ letters (oddB i) i (tookAt W T i) from h) with h | h
    · exact pairs_low W T hW i p h
    · obtain ⟨r, hr, rfl⟩ := List.mem_map.mp h
      have hg := (serveRow_ok W T i).goods r (List.mem_of_mem_drop hr)
      refine ⟨r.2.toNat, by omega, ?_⟩
      show lowc ((if oddB i then 65 else 97) + r.2.toNat) = _
      unfold lowc
      cases oddB i
      · show (if 97 + r.2.toNat < 97 then _ else _) = _
        rw [if_neg (by omega)]; rfl
      · show (if 65 + r.2.toNat < 97 then 65 + r.2.toNat + 32 else 65 + r.2.toNat) = _
        rw [if_pos (by omega)]; omega
theorem given_sum (W T : List Nat) (hW : W.length ≤ 4) : ((List.range W.length).map (givenN W T)).sum = (servePairs W T T.length).length := by
  rw [← count_sum W.length _ (pairs_low W T hW T.length)]
  congr 1
  refine List.map_congr_left fun g _ => ?_
  have := congrArg List.length (trn_pairs W T hW g T.length)
  simp only [List.length_map] at this
  exact this.symm
noncomputable def und : List Nat → Nat
  | [] => 0
  | d :: r => d + 8 * und r
theorem und_append : ∀ (a b : List Nat), und (a ++ b) = und a + 8 ^ a.length * und b
  | [], b => by simp [und]
  | x :: a, b => by
    have := und_append a b
    simp only [List.cons_append, und, List.length_cons]
    rw [this, Nat.pow_succ, Nat.mul_add, Nat.add_assoc, ← Nat.mul_assoc, Nat.mul_comm 8 (8 ^ a.length)]
theorem und_dg8 : ∀ n, und (dg8 n) = n := by
  intro n
  induction n using Nat.strongRecOn with
  | ind n ih =>
    by_cases h : n = 0
    · subst h; rw [dg8_zero]; rfl
    · rw [dg8_pos (by omega), und, ih (n / 8) (by omega)]
      omega
theorem und_sub (f h : Nat → Nat) : ∀ l : List Nat, (∀ g ∈ l, f g ≤ h g) → und (l.map h) = und (l.map f) + und (l.map fun g => h g - f g)
  | [], _ => rfl
  | a :: l, hl => by
    have h1 := und_sub f h l fun g hg => hl g (.tail _ hg)
    have h2 := hl a (.head _)
    simp only [List.map_cons, und]; omega
theorem und_pow : ∀ (l : List Nat) (k : Nat), k ≤ l.length → ((List.range k).map fun j => l.getD j 0 * 8 ^ j).sum = und (l.take k) := by
  intro l k
  induction k with
  | zero => intro _; rw [List.take_zero]; rfl
  | succ k ih =>
    intro h
    rw [List.range_succ, List.map_append, List.sum_append_nat, ih (by omega), List.take_succ_eq_append_getElem (by omega), und_append]
    have e : l.getD k 0 = l[k] := by simp [List.getD_eq_getElem?_getD, show k < l.length by omega]
    have e2 : (l.take k).length = k := by rw [List.length_take]; omega
    rw [e2]
    simp only [List.map_cons, List.map_nil, List.sum_cons, List.sum_nil, und, e]
    rw [Nat.mul_zero, Nat.add_zero, Nat.add_zero, Nat.mul_comm]
theorem list_getD (W : List Nat) : (List.range W.length).map (fun g => W.getD g 0) = W := by
  refine List.ext_getElem (by simp) fun i h1 h2 => ?_
  simp [List.getD_eq_getElem?_getD, h2]
/-- what is left is what is still wanted -/
theorem left_und (x : Nat) (T : List Nat) : x = und ((List.range (dg8 x).length).map (givenN (dg8 x) T)) + und ((List.range (dg8 x).length).map (stillN (dg8 x) T)) := by
  have h := und_sub (givenN (dg8 x) T) (fun g => (dg8 x).getD g 0) (List.range (dg8 x).length) fun g hg => given_le _ T (List.mem_range.mp hg)
  rw [list_getD, und_dg8] at h
  exact h

end
section
section
theorem und_lt : ∀ l : List Nat, (∀ d ∈ l, d < 8) → und l < 8 ^ l.length
  | [], _ => by decide
  | d :: l, h => by
    have h1 := und_lt l fun x hx => h x (.tail _ hx)
    have h2 := h d (.head _)
    rw [und, List.length_cons, Nat.pow_succ]; omega
noncomputable abbrev uS (ds : List Nat) (l r : Nat) : Nat := und ((ds.drop l).take (r - l))
theorem uS_len {ds : List Nat} {l r : Nat} (h : r ≤ ds.length) : ((ds.drop l).take (r - l)).length = r - l := by
  rw [List.length_take, List.length_drop]; omega
theorem uS_join {ds : List Nat} {l mid r : Nat} (h1 : l ≤ mid) (h2 : mid ≤ r) (h3 : r ≤ ds.length) : uS ds mid r * 8 ^ (mid - l) + uS ds l mid = uS ds l r := by
  have e : (ds.drop l).take (r - l) = (ds.drop l).take (mid - l) ++ (ds.drop mid).take (r - mid) := by
    have e1 : r - l = (mid - l) + (r - mid) := by omega
    rw [e1, List.take_add, List.drop_drop]
    congr 3; omega
  unfold uS
  rw [e, und_append, uS_len (by omega), Nat.mul_comm]; omega
theorem uS_one {ds : List Nat} {l : Nat} (h : l < ds.length) : uS ds l (l + 1) = ds[l] := by
  have e : l + 1 - l = 1 := by omega
  unfold uS
  rw [e, List.drop_eq_getElem_cons h, List.take_succ_cons, List.take_zero]
  simp [und]
theorem uS_lt {ds : List Nat} {l r : Nat} (h : ∀ d ∈ ds, d < 8) (h3 : r ≤ ds.length) : uS ds l r < 8 ^ (r - l) := by
  have := und_lt ((ds.drop l).take (r - l)) fun d hd => h d (List.mem_of_mem_drop (List.mem_of_mem_take hd))
  rwa [uS_len h3] at this
local macro_rules | `(tactic| walk_at $k:str) => tabl [("callWith ref", "NC"), ("FnAt", "NF"), ("eval Name", "NN"), ("call ref", "ST"), ("setItem ref int", "ST"), ("binaryOp RShift int int", "ST"), ("binaryOp LShift int int", "ST"), ("binaryOp BitXor int int", "ST"), ("subscriptTail", "SB")] k
set_option maxHeartbeats 8000000 in
theorem c_undI (w : World) (f c' dl cI cD c3 : Addr) (fo oc oI oD o3 : Obj) (cvs : Array Value) (tq t3 : Tok) (doc pm ctv : Value) (r : List (Addr × Obj))
   (hfo : fo = fnMade (Str.ofString "inner") (Str.ofString "_digits2int.<locals>.inner") (parsOf (innS 12 0)) (bodyOf (innS 12 0)) (scopeOf (innS 12 0)) [(Str.ofString "n", c3), (Str.ofString "inner", cI), (Str.ofString "digits", cD)] doc pm c' ctv)
   (hFM : (f, fo) ∈ r) (hoc : oc.data = .fields cvs) (hcv : cvs[1]? = some (.str (Str.ofString "_digits2int.<locals>.inner") tq)) (hcM : (c', oc) ∈ r) (hIM : (cI, oI) ∈ r) (dI : oI.data = .cell (some (.ref f)))
   (hDM : (cD, oD) ∈ r) (dD : oD.data = .cell (some (.ref dl))) (h3M : (c3, o3) ∈ r) (d3 : o3.data = .cell (some (.int 3 t3)))
   (vs : List Value) (n : Nat) (ds : List Nat) (hdM : (dl, listOf vs.toArray n) ∈ r) (hvs : IntsAre vs (nats ds)) (hk4 : ds.length ≤ 4) (h8 : ∀ d ∈ ds, d < 8) :
   ∀ (k l r' : Nat) (tb tc : Tok), r' - l ≤ k → l < r' → r' ≤ ds.length →
     Con w (k + 1) (16 * (k + 1)) (call (.ref f) [.int (l : Int) tb, .int (r' : Int) tc]) r
       (fun res news' => (∃ t, res = .int ((uS ds l r' : Nat) : Int) t) ∧ news' = r) := by
  have hfd : ∃ oc od fd sl, fo = (⟨oc, od, .func fd, sl⟩ : Obj) := ⟨_, _, _, _, hfo⟩
  have hS : innS 12 0 = innS 12 0 := rfl
  conv at hS => rhs; whnf
  rw [hS] at hfo
  dsimp only [bodyOf, parsOf, scopeOf] at hfo
  clear hS
  intro k
  induction k with
  | zero => intro l r' tb tc h1 h2; omega
  | succ k ih =>
    intro l r' tb tc hk1 hk2 hk3
    intro p loose mean mg mb dp un gd cn cs a ccd cl outer A₀ base h₀ L m s Q E B F X N T hk hd hu ret
    have hfoM := (show ∀ O, fo = O → (f, O) ∈ r from fun O e => by subst e; exact hFM) _ hfo
    clear hfo
    refine wpAny_call ?_
    refine' code_nest ?k1 ?k2 ?k3 ?k4 ?k5 ?kA ?kF ?kK hfoM ?k7 ?k8 ?k9 ?kB ?_ ?c2 ?c3 ?c4 ?c5
    case kA => exact rfl
    case kF => exact rfl
    case kK => assumption
    case k1 => k_asm
    case k2 => k_asm
    case k3 => k_asm
    case k4 => k_asm
    case k5 => k_asm
    case k7 => exact codeRec_news N hcM hoc hcv
    case k8 => first | k_room | ktr_room
    case k9 => exact BindsTo.of_eq rfl
    case c5 => decide
    case kB => exact locs rfl
    case c2 => exact rfl
    case c3 => exact rfl
    case c4 => exact rfl
    k_whole
    intro g2 L2 h6 FG2 F2 N2 B2 X2 T2
    clear hfoM
    replace F2 : Fr g2 L2 h6 (fun z => List.lookup z [(Str.ofString "R", Value.int (r' : Int) tc), (Str.ofString "L", Value.int (l : Int) tb)]) := by with_unfolding_all exact F2
    rw [lookup2] at F2
    try dsimp only
    try k_lift B2
    try k_fold
    k_steps
    · unfold Stop
      have hl1 : l + 1 = r' := by omega
      subst hl1
      k_dflt (refine int_item (by k_asm) (by k_mem) hvs (i := l) (by omega) (by omega) ?_ (by with_unfolding_all rfl))
      intro tw
      k_steps
      exact ret _ _ _ _ (by k_asm) (by k_asm) ⟨⟨tw, by rw [uS_one (by omega)]⟩, rfl⟩
    · unfold Stop
      refine rsh1_nat ?_
      have hm1 : l < (l + r') / 2 := by omega
      have hm2 : (l + r') / 2 < r' := by omega
      have hp := pow8_le (k := r' - (l + r') / 2) (n := 4) (by omega)
      have e84 : 8 ^ 4 = 4096 := by decide
      generalize hmid : (l + r') / 2 = mid at hm1 hm2 hp
      have hu1 := uS_lt (ds := ds) (l := mid) (r := r') h8 hk3
      k_steps
      unfold Stop
      k_dflt (refine Con.use (ih mid r' _ _ (by omega) hm2 hk3) (by k_asm) (by k_asm) (by k_asm) (by k_asm) (by k_asm) (by (first | exact rfl | assumption)) (by ((try dsimp only [ktrTop]); omega)) (by ((try simp only [units_in1, units_deeper, Around.mark_units, units_caller]); (try dsimp only [ktrTop]); omega)) ?_)
      rintro _ h7 tk7 n7 F7 N7 ⟨⟨t7, rfl⟩, rfl⟩
      k_steps
      unfold Stop
      refine lshk_nat (k := mid - l) (by omega) (by omega) (by omega) ?_
      k_steps
      unfold Stop
      k_dflt (refine Con.use (ih l mid _ _ (by omega) hm1 (by omega)) (by k_asm) (by k_asm) (by k_asm) (by k_asm) (by k_asm) (by (first | exact rfl | assumption)) (by ((try dsimp only [ktrTop]); omega)) (by ((try simp only [units_in1, units_deeper, Around.mark_units, units_caller]); (try dsimp only [ktrTop]); omega)) ?_)
      rintro _ h8' tk8 n8 F8 N8 ⟨⟨t8, rfl⟩, rfl⟩
      k_steps
      have e : ((uS ds mid r' * 8 ^ (mid - l) : Nat) : Int) + ((uS ds l mid : Nat) : Int) = ((uS ds l r' : Nat) : Int) := by
        rw [← Int.natCast_add, uS_join (by omega) (by omega) hk3]
      exact ret _ _ _ _ (by k_asm) (by k_asm) ⟨⟨_, congrArg (fun z => Value.int z _) e⟩, rfl⟩
end

end
section
section
local macro_rules | `(tactic| walk_at "zz") => `(tactic| walk_at "ST")
local macro_rules | `(tactic| walk_at $k:str) => tabl [("callWith ref", "NC"), ("FnAt", "NF"), ("call ref", "ST"), ("call builtin:len", "LN"), ("exec FunctionDef", "ND"), ("newList", "ST"), ("binaryOp Mult ref int", "ST")] k
set_option maxHeartbeats 8000000 in
theorem c_digits2int (w : World) (rest nd : List (Addr × Obj)) (dl : Addr) (vs : List Value) (n : Nat) (ds : List Nat) (t3 : Tok) (ps : Array Value) (hr : ∀ p ∈ rest, p.1 ≠ 105) (hnd : ∀ p ∈ nd, p ∈ rest) (hst : TabSt ⟨131, 4, 136, 55⟩ (Str.ofString "_digits2int.<locals>.inner") ps nd)
   (hdl : (dl, listOf vs.toArray n) ∈ rest) (hvs : IntsAre vs (nats ds)) (hk4 : ds.length ≤ 4) (h8 : ∀ d ∈ ds, d < 8) :
   Con w 16 200 (call (.ref 110) [.ref dl, .int 3 t3]) ((105, tabObj ps) :: rest) (fun r news' => ∃ t ps' rest' nd', r = .int ((und ds : Nat) : Int) t ∧ news' = (105, tabObj ps') :: rest' ∧ Grow rest nd rest' nd' ∧ (∀ p ∈ rest', p.1 ≠ 105) ∧ TabSt ⟨131, 4, 136, 55⟩ (Str.ofString "_digits2int.<locals>.inner") ps' nd') := by
  intro p loose mean mg mb dp un gd cn cs a ccd cl outer A₀ base h₀ L m s Q E B F X N T' hkf hdd hu ret
  have C0 : CodeHd h₀ 109 105 := codeHd_of_K X (by kernel_rfl)
  refine wpAny_call ?_
  refine' code_defC ?k1 ?k2 ?k3 ?k4 ?k5 ?kA ?kF ?kK ?k6 ?k7 ?k8 ?k9 ?kB ?kD ?_ ?c2 ?c3 ?c4
  case kA => exact rfl
  case kF => exact rfl
  case kK => assumption
  case k1 => k_asm
  case k2 => k_asm
  case k3 => k_asm
  case k4 => k_asm
  case k5 => k_asm
  case k6 => k_is
  case k7 => k_is
  case k8 => first | k_room | ktr_room
  case k9 => exact BindsTo.of_eq rfl
  case kB => exact rfl
  case kD => decide +kernel
  case c2 => exact rfl
  case c3 => exact rfl
  case c4 => exact rfl
  k_whole
  intro g' L' h' tk' cells' FG' F' N' Y' B' X' T2 l1
  obtain ⟨o1, o2, o3, hE, d1, d2, d3⟩ := PyProof.Rows.CellsAre.three Y'
  subst hE
  clear Y'
  replace F' : Fr g' L' h' (fun _ => none) := by with_unfolding_all exact F'
  replace d1 : o1.data = .cell none := by with_unfolding_all exact d1
  replace d2 : o2.data = .cell (some (.int 3 t3)) := by with_unfolding_all exact d2
  replace d3 : o3.data = .cell (some (.ref dl)) := by with_unfolding_all exact d3
  simp only [List.cons_append, List.nil_append] at N'
  have C1 : CodeHd g' 109 105 := C0.keeps FG'.keep
  try dsimp only
  try k_lift B'
  try k_fold
  k_steps
  unfold Stop
  have e0 : @LT.lt Nat _ 105 L' := l1 (105, _) (.head _)
  have r1 : ∀ p ∈ rest, p.1 < L' := fun p hp => l1 p (.tail _ hp)
  refine nest_any (nd := nd) (by k_asm) (npick (D := 105) (by k_asm) (.tail (.tail (.tail .head)))) T2 C1 rfl ?hP hst (fun p hp => .tail _ (.tail _ (.tail _ (hnd p hp)))) (by rfl) ?_
  case hP => exact List.forall_mem_cons.mpr ⟨Nat.ne_of_gt (Nat.lt_succ_of_lt (Nat.lt_succ_of_lt (Nat.lt_succ_of_lt e0))), List.forall_mem_cons.mpr ⟨Nat.ne_of_gt (Nat.lt_succ_of_lt (Nat.lt_succ_of_lt e0)), List.forall_mem_cons.mpr ⟨Nat.ne_of_gt (Nat.lt_succ_of_lt e0), hr⟩⟩⟩
  intro f c' oc cvs tq ctv doc h3 tk3 rest2 ps2 F3 N3 hre hP2 hc' hoc hcv lf
  refine with_fo N3 ?_
  intro fo hfo N3'
  obtain ⟨rest4, nd4, hg4, hr98, hx4, hst4, ho4, N4⟩ : ∃ rest4 nd4, Grow rest nd rest4 nd4 ∧ (∀ p ∈ rest4, p.1 ≠ 105) ∧ (∀ p ∈ rest4, p.1 ≠ L' + 1 + 1 + 1) ∧ TabSt ⟨131, 4, 136, 55⟩ (Str.ofString "_digits2int.<locals>.inner") ps2 nd4 ∧ (c', oc) ∈ rest4 ∧ News g' L' h3 ((f, fo) :: (105, tabObj ps2) :: (L' + 1 + 1 + 1, o1) :: (L' + 1 + 1, o2) :: (L' + 1, o3) :: rest4) := by
    rcases hre with ⟨rfl, hst3, hc3⟩ | ⟨rfl, hst3, hlt⟩
    · refine ⟨rest, nd, .inl ⟨rfl, rfl⟩, hr, fun p hp => Nat.ne_of_lt (Nat.lt_succ_of_lt (Nat.lt_succ_of_lt (Nat.lt_succ_of_lt (r1 p hp)))), hst3, hnd _ hc3, N3'⟩
    · refine ⟨(c', oc) :: rest, [(c', oc)], .inr ⟨_, rfl, rfl, fun q hq => hlt q (.tail _ (.tail _ (.tail _ hq)))⟩, List.forall_mem_cons.mpr ⟨hP2 _ (.head _), hr⟩, List.forall_mem_cons.mpr ⟨Nat.ne_of_gt (hlt (L' + 1 + 1 + 1, _) (.head _)), fun p hp => Nat.ne_of_lt (Nat.lt_succ_of_lt (Nat.lt_succ_of_lt (Nat.lt_succ_of_lt (r1 p hp))))⟩, hst3, .head _, nsub N3' ?_⟩
      exact List.forall_mem_cons.mpr ⟨.head _, List.forall_mem_cons.mpr ⟨.tail _ (.head _), List.forall_mem_cons.mpr ⟨.tail _ (.tail _ (.tail _ (.head _))), List.forall_mem_cons.mpr ⟨.tail _ (.tail _ (.tail _ (.tail _ (.head _)))), List.forall_mem_cons.mpr ⟨.tail _ (.tail _ (.tail _ (.tail _ (.tail _ (.head _))))), List.forall_mem_cons.mpr ⟨.tail _ (.tail _ (.head _)), fun p hp => .tail _ (.tail _ (.tail _ (.tail _ (.tail _ (.tail _ hp)))))⟩⟩⟩⟩⟩⟩
  have q1 : @LT.lt Nat _ (L' + 1 + 1 + 1) f := lf (L' + 1 + 1 + 1, o1) (by rcases hre with ⟨rfl, _⟩ | ⟨rfl, _⟩; exact .tail _ (.head _); exact .tail _ (.tail _ (.head _)))
  clear N3 N3'
  have hfd : ∃ oc od fd sl, fo = (⟨oc, od, .func fd, sl⟩ : Obj) := ⟨_, _, _, _, hfo⟩
  replace hfo : fo = fnMade (Str.ofString "inner") (Str.ofString "_digits2int.<locals>.inner") (parsOf (innS 12 0)) (bodyOf (innS 12 0)) (scopeOf (innS 12 0)) [(Str.ofString "n", L' + 1 + 1), (Str.ofString "inner", L' + 1 + 1 + 1), (Str.ofString "digits", L' + 1)] doc ((mg (Str.ofString "__name__")).getD Value.none) c' ctv := by with_unfolding_all exact hfo
  replace hcv : cvs[1]? = some (.str (Str.ofString "_digits2int.<locals>.inner") tq) := by with_unfolding_all exact hcv
  have hvl : vs.length = ds.length := by rw [hvs.length]; simp
  have hdM : (dl, listOf vs.toArray n) ∈ rest4 := hg4.sub _ hdl
  clear hre hP2 hc' lf hst
  k_steps
  refine kgr_truthy (by k_asm) (.tail _ (.tail _ (.tail _ (.tail _ (.tail _ hdM))))) rfl rfl (by omega) ?_
  rename_i h5 oI F5 N5 dI
  by_cases hd0 : ds = []
  · have hv0 : vs = [] := List.length_eq_zero_iff.mp (by rw [hvl, hd0]; rfl)
    have e : (!vs.isEmpty) = false := by rw [hv0]; rfl
    rw [e]
    k_steps
    refine ret _ _ _ _ (by k_asm) (nsub (by k_asm) ?_) ⟨_, ps2, rest4, nd4, (by rw [hd0]; rfl), rfl, hg4, hr98, hst4⟩
    exact List.forall_mem_cons.mpr ⟨.tail _ (.head _), fun p hp => .tail _ (.tail _ (.tail _ (.tail _ (.tail _ hp))))⟩
  · have hl0 : 0 < ds.length := List.length_pos_iff.mpr hd0
    have e : (!vs.isEmpty) = true := by
      cases vs with
      | nil => simp only [List.length_nil] at hvl; omega
      | cons v vs => rfl
    rw [e]
    k_steps
    unfold Stop
    k_dflt (refine Con.use (c_undI w f c' dl (L' + 1 + 1 + 1) (L' + 1) (L' + 1 + 1) fo oc oI o3 o2 cvs tq t3 doc _ ctv ((f, fo) :: (105, tabObj ps2) :: (L' + 1 + 1 + 1, oI) :: (L' + 1 + 1, o2) :: (L' + 1, o3) :: rest4) hfo (.head _) hoc hcv (.tail _ (.tail _ (.tail _ (.tail _ (.tail _ ho4))))) (.tail _ (.tail _ (.head _))) dI (.tail _ (.tail _ (.tail _ (.tail _ (.head _))))) d3 (.tail _ (.tail _ (.tail _ (.head _)))) d2
      vs n ds (.tail _ (.tail _ (.tail _ (.tail _ (.tail _ hdM))))) hvs hk4 h8 4 0 ds.length _ _ (by omega) hl0 (Nat.le_refl _)) (by k_asm) (by k_asm) (by k_asm) (by k_asm) (by k_asm) (by (first | exact rfl | assumption)) (by ((try dsimp only [ktrTop]); omega)) (by ((try simp only [units_in1, units_deeper, Around.mark_units, units_caller]); (try dsimp only [ktrTop]); omega)) ?_)
    rintro _ h8 tk8 n8 F8 N8 ⟨⟨t8, rfl⟩, rfl⟩
    have e8 : uS ds 0 ds.length = und ds := by
      unfold uS
      rw [List.drop_zero, Nat.sub_zero, List.take_length]
    rw [e8]
    k_steps
    refine ret _ _ _ _ (by k_asm) (nsub (by k_asm) ?_) ⟨_, ps2, rest4, nd4, rfl, rfl, hg4, hr98, hst4⟩
    exact List.forall_mem_cons.mpr ⟨.tail _ (.head _), fun p hp => .tail _ (.tail _ (.tail _ (.tail _ (.tail _ hp))))⟩
end

end
section
/-- a contract whose call may draw from the world -/
noncomputable def ConD (w : World) (dd uu : Nat) (tree : Sem Value) (news : List (Addr × Obj)) (Post : Value → List (Addr × Obj) → Prop) : Prop :=
  ∀ (p : Program) (loose : List Str) (mean : ExcName → Option Value) (mg mb : Str → Option Value) (dp un : Nat) (gd : Option (List Code)) (cn : Str) (cs : Scope) (a : Addr) (ccd : Value) (cl : List (Str × Addr)) (outer : List Env) (A₀ : Around) (base h₀ : Heap) (L : Addr) (m : Str → Option Value) (s : Shared) (Q E : Value → Shared → Prop),
    Below A₀ base outer h₀ → Fr h₀ L s.heap m → (hd.heap_1 w.params).In h₀ → News h₀ L s.heap news → Top p loose mean mg mb h₀ → cs.kind = .function → dp + dd < recursionLimit → un + uu < cLine →
    (∀ r h' tk' dr' news', Fr h₀ L h' m → News h₀ L h' news' → Post r news' → Q r { s with heap := h', toks := tk', drawn := dr' }) →
    wpAny (model PySem.Challenge.rw_ph0177_01.row.prog w) (ktrTop dp un gd cn cs L a ccd cl outer) tree Q E s
theorem ConD.use {w : World} {dd uu : Nat} {tree : Sem Value} {news : List (Addr × Obj)} {Post : Value → List (Addr × Obj) → Prop} (C : ConD w dd uu tree news Post)
   {p : Program} {loose : List Str} {mean : ExcName → Option Value} {mg mb : Str → Option Value} {dp un : Nat} {gd : Option (List Code)} {cn : Str} {cs : Scope} {a : Addr} {ccd : Value} {cl : List (Str × Addr)} {outer : List Env} {A₀ : Around} {base h₀ : Heap} {L : Addr} {m : Str → Option Value} {s : Shared} {Q E : Value → Shared → Prop}
    (B : Below A₀ base outer h₀) (F : Fr h₀ L s.heap m) (X : (hd.heap_1 w.params).In h₀) (N : News h₀ L s.heap news) (T : Top p loose mean mg mb h₀) (hk : cs.kind = .function) (hd : dp + dd < recursionLimit) (hu : un + uu < cLine)
    (ret : ∀ r h' tk' dr' news', Fr h₀ L h' m → News h₀ L h' news' → Post r news' → Q r { s with heap := h', toks := tk', drawn := dr' }) :
    wpAny (model PySem.Challenge.rw_ph0177_01.row.prog w) (ktrTop dp un gd cn cs L a ccd cl outer) tree Q E s := C _ _ _ _ _ _ _ _ _ _ _ _ _ _ _ _ _ _ _ _ _ _ B F X N T hk hd hu ret
theorem noBool_set : typeLookup (.type "set") "__bool__" = pure none := by rw [typeLookup_type, builtinLookup_eq_fast]; kernel_rfl
theorem choose_any {α : Type} {M : Model} {A : Around} {E : Value → Shared → Prop} {s : Shared} {src : Source} {n : Nat} {f : Nat → Sem α} {Q : α → Shared → Prop} (hn : n ≠ 0) (h : ∀ i dr, i < n → wpAny M A (f i) Q E { s with drawn := dr }) : wpAny M A (choose src n >>= f) Q E s :=
  wpAny_bind fun Γ p hΓ => ⟨hn, fun Γ p hΓ => h _ _ (Nat.mod_lt _ (Nat.pos_of_ne_zero hn)) Γ p hΓ⟩
theorem pop_place {t : SetTable} (h : t.fits 1 = true) : t.popPlace = some 0 := by
  simp only [SetTable.fits, Bool.and_eq_true, beq_iff_eq, decide_eq_true_eq] at h
  unfold SetTable.popPlace
  have h1 : t.place.isEmpty = false := by
    unfold Array.isEmpty
    rw [h.1]; rfl
  rw [h1]
  simp only [Bool.false_eq_true, if_false]
  congr 1
  split <;> omega
theorem pop_fits {t : SetTable} (h : t.fits 1 = true) : (t.popped 0).fits 0 = true := by
  simp only [SetTable.fits, Bool.and_eq_true, beq_iff_eq, decide_eq_true_eq] at h
  have h0 : 0 < t.place.size := by omega
  have e : t.place[0]? = some t.place[0] := Array.getElem?_eq_getElem h0
  have e2 : t.drop 0 = { t with place := SetTable.eraseAt t.place 0, dummies := SetTable.insertAt t.dummies (SetTable.below t.dummies t.place[0]) t.place[0] } := by
    unfold SetTable.drop
    rw [e]
  have s1 : (SetTable.eraseAt t.place 0).size = 0 := by
    unfold SetTable.eraseAt
    simp; omega
  have s2 : ∀ (xs : Array Nat) (p x : Nat), (SetTable.insertAt xs p x).size = xs.size + 1 := by
    intro xs p x
    have := (SetTable.insertAt_perm xs p x).length_eq
    simpa using this
  have hf : t.place.size + t.dummies.size ≤ t.mask := h.2
  unfold SetTable.popped
  rw [e2]
  simp only [SetTable.fits, SetTable.fill, Bool.and_eq_true, beq_iff_eq, decide_eq_true_eq, s1, s2]
  exact ⟨trivial, by omega⟩
section
variable {prog : Program} {w : World} {A : Around} {E : Value → Shared → Prop} {s : Shared} {h₀ : Heap} {L sa : Addr} {m : Str → Option Value} {news : List (Addr × Obj)} {g : Obj → List (Addr × Obj)} {so : Obj} {S : Int → Bool} {n : Nat}
theorem set_truthy {Q : Bool → Shared → Prop} (N : News h₀ L s.heap news) (hm : (sa, so) ∈ news) (hso : so.SetObjOf (PySem.intKind prog w) S n) (hn : n ≤ 1000) (h : Q (decide (0 < n)) { s with toks := s.toks + 1 + 1 }) :
    wpAny (model prog w) A (truthy (.ref sa)) Q E s := by
  obtain ⟨hex, es, ep, t, hd, hel, hmem, hsz, hf⟩ := hso
  have ho := (N _ hm).1
  have hT : s.TypeIs (.ref sa) "set" := ⟨so, ho, hex.1⟩
  have hne : ((es.size : Int) != 0) = decide (0 < n) := by
    rw [hsz]
    by_cases h0 : n = 0
    · subst h0; rfl
    · have e1 : ((n : Int) != 0) = true := bne_iff_ne.mpr (by omega)
      rw [e1, decide_eq_true (by omega)]
  have key : wpAny (model prog w) A (runValue (.builtin "len" ⟨[.ref sa], []⟩)) (fun r s' => r = .int es.size (s.toks + 1) ∧ Q (decide (0 < n)) s') E s := by
    refine wpAny_runValue (codeAny_builtin entry_len ?_)
    rw [Around.under_plainId plain_len _]
    exact wpAny_mono (wpAny_len_body_set (Q := fun r s' => r = .int es.size (s.toks + 1) ∧ Q (decide (0 < n)) s') ho hex hd hf (by omega) ⟨rfl, h⟩)
      (fun fin s' h' => by obtain ⟨r, rfl, hq⟩ := h'; exact hq) fun _ _ e => e
  unfold truthy
  first
    | refine wpAny_bind (wpAny_callSpecial?_none (name := Str.ofString "__bool__") hT noBool_set ?_)
    | refine wpAny_bind (wpAny_pure (wpAny_bind (wpAny_callSpecial?_none (name := Str.ofString "__bool__") hT noBool_set ?_)))
  first
    | refine wpAny_bind (wpAny_specialOf (name := Str.ofString "__len__") hT F.slot_set_len.lookup ?_)
    | refine wpAny_bind (wpAny_pure (wpAny_bind (wpAny_specialOf (name := Str.ofString "__len__") hT F.slot_set_len.lookup ?_)))
  first
    | exact wpAny_bind (wpAny_mono key (fun r s' h' => by obtain ⟨rfl, hq⟩ := h'; exact wpAny_pure (hne ▸ hq)) fun _ _ e => e)
    | exact wpAny_bind (wpAny_pure (wpAny_bind (wpAny_mono key (fun r s' h' => by obtain ⟨rfl, hq⟩ := h'; exact wpAny_pure (hne ▸ hq)) fun _ _ e => e)))
theorem set_popM {pl : Sem Bool} {Q : Value × List Value → Shared → Prop} (N : News h₀ L s.heap news) (hm : (sa, so) ∈ news) (hso : so.SetObjOf (PySem.intKind prog w) S n) (hn : n ≤ 1000) (h : Q (.builtin "set.pop", [.ref sa]) s) :
    wpAny (model prog w) A (getMethod (.ref sa) "pop" pl) Q E s :=
  have hS := hso.setOf (N _ hm).1 (show n < scanBound by unfold scanBound; omega)
  getMethod_builtin hS.typeIs F.plainAttrs_set F.slot_set_pop F.type_set_pop hS.noDict h
theorem setPop_core {x : Int} {Q : Option Value → Shared → Prop} (FF : Fr h₀ L s.heap m) (N : News h₀ L s.heap news) (U : UpdF sa so news g) (hso : so.SetObjOf (PySem.intKind prog w) S 1) (hx : ∀ k, S k = true → k = x)
    (h : ∀ h' so' dr t, Fr h₀ L h' m → News h₀ L h' (g so') → so'.SetObjOf (PySem.intKind prog w) (fun _ => false) 0 → Q (some (.int x t)) { s with heap := h', drawn := dr }) :
    wpAny (model prog w) A (setPop sa) Q E s := by
  obtain ⟨pre, post, rfl, hg, a, b⟩ := U.split
  have hm := N (sa, so) (List.mem_append_right _ (.head _))
  obtain ⟨hex, es, ep, t, hd, hel, hmem, hsz, hf⟩ := hso
  have h0 : 0 < es.size := by omega
  have e0 : es[0]? = some es[0] := Array.getElem?_eq_getElem h0
  obtain ⟨tv, hv⟩ : ∃ tv, es[0].2 = .int x tv := by
    have hin : es[0] ∈ es.toList := Array.getElem_mem_toList h0
    obtain ⟨⟨k, hk, _⟩, _⟩ := hel _ hin
    have hk2 := hx k ((hmem k).mpr ⟨_, hin, hk⟩)
    subst hk2
    exact Value.isInt_shape hk
  have hf1 : t.fits 1 = true := by rw [← hsz]; exact hf
  have se : (SetTable.eraseAt es 0).size = 0 := by unfold SetTable.eraseAt; simp; omega
  have fin : ∀ dr, wpAny (model prog w) A (do storeSet sa (SetTable.eraseAt es 0) (t.popped 0); return some es[0].2) Q E { s with drawn := dr } := by
    intro dr
    refine wpAny_bind (wpAny_storeSet_of (s := { s with drawn := dr }) hm.1 hd ?_ (by rw [se]; exact Nat.zero_le _))
    refine wpAny_pure ?_
    rw [hv]
    have hel0 : (SetTable.eraseAt es 0).toList = [] := by
      apply List.eq_nil_of_length_eq_zero
      rw [Array.length_toList]; exact se
    obtain ⟨_, hS'⟩ := SetOf_store (knd := PySem.intKind prog w) (es' := SetTable.eraseAt es 0) (t' := t.popped 0) (S' := fun _ => false) hm.1 hex hd (by rw [hel0]; intro e he; cases he) (fun k => by rw [hel0]; simp) (by rw [se]; decide) (by rw [se]; exact pop_fits hf1)
    obtain ⟨so', ho', hso'⟩ := hS'.objOf
    rw [se] at hso'
    have hsb := Heap.SameBut.update s.heap sa (Obj.putSet (SetTable.eraseAt es 0) (t.popped 0))
    exact h _ so' dr tv (FF.change hsb hm.2.1 hm.2.2) (hg so' ▸ N.setIn a b hsb ho') hso'
  unfold setPop
  refine wpAny_bind (wpAny_setState_of hm.1 hd hf ?_)
  dsimp only
  rw [pop_place hf1]
  dsimp only
  have pick : ∀ dr, wpAny (model prog w) A (match es[0]? with
            | some (_, x) => do
              storeSet sa (SetTable.eraseAt es 0) (t.popped 0)
              pure (some x)
            | _ => unsupported "internal:set.pop") Q E { s with drawn := dr } := fun dr => by
    rw [e0]; exact fin dr
  unfold setsByText
  refine wpAny_bind (wpAny_bind (wpAny_askSetting (wpAny_pure ?_)))
  split
  · refine choose_any (by omega) fun i dr hi => ?_
    obtain rfl : i = 0 := by omega
    exact pick dr
  · refine wpAny_bind ?_
    show wpAny _ _ (if (!t.led && decide (es.size > 1)) = true then unsupported _ else pure ()) _ _ _
    rw [if_neg (by simp; omega)]
    refine wpAny_pure ?_
    refine wpAny_bind (wpAny_pure ?_)
    exact pick s.drawn
theorem set_pop1 {x : Int} {Q : Value → Shared → Prop} (FF : Fr h₀ L s.heap m) (N : News h₀ L s.heap news) (U : UpdF sa so news g) (hso : so.SetObjOf (PySem.intKind prog w) S 1) (hx : ∀ k, S k = true → k = x)
    (h : ∀ h' so' dr t, Fr h₀ L h' m → News h₀ L h' (g so') → so'.SetObjOf (PySem.intKind prog w) (fun _ => false) 0 → Q (.int x t) { s with heap := h', drawn := dr }) :
    wpAny (model prog w) A (call (.builtin "set.pop") [.ref sa]) Q E s := by
  have hT : s.TypeIs (.ref sa) "set" := by
    obtain ⟨pre, post, rfl, hg, a, b⟩ := U.split
    exact ⟨so, (N (sa, so) (List.mem_append_right _ (.head _))).1, hso.1.1⟩
  refine wpAny_call_entry F.slot_set_pop hT F.entry_set_pop ?_ (F.args_set_pop_1 _)
  unfold Builtin.«set.pop» Builtin.Frozenset.noArgs
  simp only [List.isEmpty_nil]
  unfold Builtin.Frozenset.addrOf
  refine wpAny_bind (wpAny_pure ?_)
  refine wpAny_bind (setPop_core FF N U hso hx fun h' so' dr t F' N' hs' => ?_)
  exact wpAny_pure ⟨_, rfl, h h' so' dr t F' N' hs'⟩
end

end
section
section
local macro_rules | `(tactic| walk_at $k:str) => tabl [("call ref", "ST"), ("truthy ref", "ST"), ("call builtin:set.pop", "ST"), ("getMethod ref", "ST")] k
set_option maxHeartbeats 4000000 in
theorem c_powers (w : World) (rest : List (Addr × Obj)) (t1 t2 t3 : Tok) :
   ConD w 8 100 (call (.ref 82) [.int 1 t1, .int 5 t2, .int 2048 t3]) rest (fun r news' => (∃ D, r = .ref D) ∧ news' = rest) := by
  intro p loose mean mg mb dp un gd cn cs a ccd cl outer A₀ base h₀ L m s Q E B F X N T' hkf hdd hu ret
  refine wpAny_call ?_
  k_dflt (first | (refine' code_defC ?k1 ?k2 ?k3 ?k4 ?k5 ?kA ?kF ?kK ?k6 ?k7 ?k8 ?k9 ?kB ?kD ?_ ?c2 ?c3 ?c4; (case kA => exact rfl); (case kF => exact rfl); (case kK => first | exact rfl | assumption); (case k1 => k_asm); (case k2 => k_asm); (case k3 => k_asm); (case k4 => k_asm); (case k5 => k_asm); (case k6 => k_is); (case k7 => k_is); (case k8 => first | k_room | ktr_room); (case k9 => first | exact BindsTo.of_eq rfl | (refine' kp_binds ?kx ?ke; (case kx => k_in); (case ke => exact fun _ => rfl)) | exact binds_K (by k_in) rfl (by k_is) rfl rfl rfl); (case kB => exact rfl); (case kD => decide +kernel); (case c2 => exact rfl); (case c3 => exact rfl); (case c4 => exact rfl); k_whole; intro g' L' h' tk' cells' FG' F' N' Y' B' X' T' l1; (try k_lt l1); k_cells Y'; (try simp only [List.cons_append, List.nil_append] at N'); (try dsimp only); (try k_lift B'); (try k_fold)) | (kp_kind "more"; (refine' kp_more ?k1 ?k2 ?k3 ?k4 ?k5 ?kA ?kF ?kK ?k6 ?k7 ?k8 ?kX ?kM ?kN ?kD ?kR ?kP ?kT ?kB ?_ ?c2 ?c3 ?c4 ?c5; (case kA => exact rfl); (case kF => exact rfl); (case kK => first | exact rfl | assumption); (case k1 => k_asm); (case k2 => k_asm); (case k3 => k_asm); (case k4 => k_asm); (case k5 => k_asm); (case k6 => k_is); (case k7 => k_is); (case k8 => first | k_room | ktr_room); (case kX => kp_lit); (case kM => exact rfl); (case kN => exact rfl); (case kD => kp_flats); (case kR => exact rfl); (case kP => exact rfl); (case kT => exact fun _ => rfl); (case kB => exact fun _ => locs rfl); (case c5 => decide); (case c2 => exact rfl); (case c3 => exact rfl); (case c4 => exact rfl); k_whole; intro D' o' g' L' h' tk' l1 lo' hs' fs' FG' F' N' B' X' T'; (try k_lt l1); (try dsimp only); (try k_lift B'); (try k_fold))) | (refine' code_def ?k1 ?k2 ?k3 ?k4 ?k5 ?kA ?kF ?kK ?k6 ?k7 ?k8 ?k9 ?kB ?_ ?c2 ?c3 ?c4 ?c5; (case kA => exact rfl); (case kF => exact rfl); (case kK => first | exact rfl | assumption); (case k1 => k_asm); (case k2 => k_asm); (case k3 => k_asm); (case k4 => k_asm); (case k5 => k_asm); (case k6 => k_is); (case k7 => k_is); (case k8 => first | k_room | ktr_room); (case k9 => first | exact BindsTo.of_eq rfl | (refine' kp_binds ?kx ?ke; (case kx => k_in); (case ke => exact fun _ => rfl)) | exact binds_K (by k_in) rfl (by k_is) rfl rfl rfl); (case c5 => decide); (case kB => exact locs rfl); (case c2 => exact rfl); (case c3 => exact rfl); (case c4 => exact rfl); k_whole; intro g' L' h' FG' F' N' B' X' T'; (try dsimp only); (try k_lift B'); (try k_fold)))
  k_steps
  unfold Stop
  rename_i oW sW hW FW NW
  refine set_truthy NW (.head _) sW (by decide) ?_
  refine WhlIf.yes (by decide) ?_
  k_steps
  unfold Stop
  refine set_popM NW (.head _) sW (by decide) ?_
  k_steps
  unfold Stop
  refine set_pop1 (x := 1) FW NW (by k_updF) sW (by intro k hk; simpa using hk) ?_
  intro h9 so9 dr9 t9 F9 N9 s9
  clear sW
  try dsimp only at N9
  k_steps
  unfold Stop
  refine set_truthy (by k_asm) (.head _) s9 (by decide) ?_
  refine WhlIf.no (by decide) ?_
  k_steps
  unfold Stop
  refine set_truthy (S := fun _ => false) (n := 0) (by k_asm) (.tail _ (.tail _ (.head _))) (setObjOf_fresh _) (by decide) ?_
  k_steps
  exact ret _ _ _ _ rest (by k_asm) (nsub (by k_asm) fun p hp => .tail _ (.tail _ (.tail _ (.tail _ hp)))) ⟨⟨_, rfl⟩, rfl⟩
end

end
section
section
theorem slice_chS : ∀ c ∈ [48, 49, 50, 51], Txt.slice (chS c) (some 0) (some 1) = chS c := by decide +kernel
theorem int_chS : ∀ c ∈ [48, 49, 50, 51], PySem.intText? (chS c) = some ((c : Int) - 48) := by decide +kernel
local macro_rules | `(tactic| walk_at "zz") => `(tactic| walk_at "ST")
local macro_rules | `(tactic| walk_at $k:str) => tabl [("call type:int", "ST"), ("callWith ref", "NC"), ("FnAt", "NF"), ("eval Name", "NN"), ("call ref", "ST"), ("setItem ref int", "ST"), ("binaryOp RShift int int", "ST"), ("binaryOp LShift int int", "ST"), ("binaryOp BitXor int int", "ST")] k
set_option maxHeartbeats 8000000 in
theorem c_strI (w : World) (f c' cI cS cD cW : Addr) (fo oc oI oS oD oW : Obj) (cvs : Array Value) (tq tD : Tok) (doc pm ctv : Value) (r : List (Addr × Obj))
   (hfo : fo = fnMade (Str.ofString "inner") (Str.ofString "_str_to_int_inner.<locals>.inner") (parsOf (innS 9 1)) (bodyOf (innS 9 1)) (scopeOf (innS 9 1)) [(Str.ofString "w5pow", cW), (Str.ofString "s", cS), (Str.ofString "inner", cI), (Str.ofString "DIGLIM", cD)] doc pm c' ctv)
   (hFM : (f, fo) ∈ r) (hoc : oc.data = .fields cvs) (hcv : cvs[1]? = some (.str (Str.ofString "_str_to_int_inner.<locals>.inner") tq)) (hcM : (c', oc) ∈ r)
   (hSM : (cS, oS) ∈ r) (c : Nat) (tS : Tok) (dS : oS.data = .cell (some (.str (chS c) tS))) (hc : c ∈ [48, 49, 50, 51]) (hDM : (cD, oD) ∈ r) (dD : oD.data = .cell (some (.int 2048 tD))) (tb tc : Tok) :
     Con w 2 32 (call (.ref f) [.int 0 tb, .int 1 tc]) r
       (fun res news' => (∃ t, res = .int ((c : Int) - 48) t) ∧ news' = r) := by
  have hS : innS 9 1 = innS 9 1 := rfl
  conv at hS => rhs; whnf
  rw [hS] at hfo
  dsimp only [bodyOf, parsOf, scopeOf] at hfo
  clear hS
  intro p loose mean mg mb dp un gd cn cs a ccd cl outer A₀ base h₀ L m s Q E B F X N T hk hd hu ret
  have hfoM := (show ∀ O, fo = O → (f, O) ∈ r from fun O e => by subst e; exact hFM) _ hfo
  clear hfo
  refine wpAny_call ?_
  refine' code_nest ?k1 ?k2 ?k3 ?k4 ?k5 ?kA ?kF ?kK hfoM ?k7 ?k8 ?k9 ?kB ?_ ?c2 ?c3 ?c4 ?c5
  case kA => exact rfl
  case kF => exact rfl
  case kK => assumption
  case k1 => k_asm
  case k2 => k_asm
  case k3 => k_asm
  case k4 => k_asm
  case k5 => k_asm
  case k7 => exact codeRec_news N hcM hoc hcv
  case k8 => first | k_room | ktr_room
  case k9 => exact BindsTo.of_eq rfl
  case c5 => decide
  case kB => exact locs rfl
  case c2 => exact rfl
  case c3 => exact rfl
  case c4 => exact rfl
  k_whole
  intro g2 L2 h6 FG2 F2 N2 B2 X2 T2
  clear hfoM
  replace F2 : Fr g2 L2 h6 (fun z => List.lookup z [(Str.ofString "b", Value.int 1 tc), (Str.ofString "a", Value.int 0 tb)]) := by with_unfolding_all exact F2
  rw [lookup2] at F2
  try dsimp only
  try k_lift B2
  try k_fold
  k_steps
  unfold Stop
  rw [slice_chS c hc]
  refine KIN.call_text (int_chS c hc) (Nat.le_of_ble_eq_true rfl) ?_
  k_steps
  exact ret _ _ _ _ (by k_asm) (by k_asm) ⟨⟨_, rfl⟩, rfl⟩
end

end
section
section
theorem len_chS {prog : Program} {w : World} {A : Around} {E : Value → Shared → Prop} {s : Shared} {c : Nat} {t : Tok} {Q : Value → Shared → Prop} (h : Q (.int 1 (s.toks + 1)) { s with toks := s.toks + 1 + 1 }) : wpAny (model prog w) A (call (.builtin "len") [.str (chS c) t]) Q E s :=
  PyProof.Rows.len_str (by show ¬ ((1 : Nat) : Int) ≥ 2 ^ 63; decide) h
local macro_rules | `(tactic| walk_at $k:str) => tabl [("call builtin:len", "ST"), ("callWith ref", "NC"), ("FnAt", "NF"), ("call ref", "ST"), ("exec FunctionDef", "ND"), ("newList", "ST"), ("binaryOp Mult ref int", "ST")] k
set_option maxHeartbeats 8000000 in
theorem c_strToInt (w : World) (rest nd : List (Addr × Obj)) (c : Nat) (t : Tok) (ps : Array Value) (hc : c ∈ [48, 49, 50, 51]) (hr : ∀ p ∈ rest, p.1 ≠ 84) (hnd : ∀ p ∈ nd, p ∈ rest) (hst : TabSt ⟨103, 4, 107, 74⟩ (Str.ofString "_str_to_int_inner.<locals>.inner") ps nd) :
   ConD w 16 200 (call (.ref 89) [.str (chS c) t]) ((84, tabObj ps) :: rest) (fun r news' => ∃ t ps' rest' nd', r = .int ((c : Int) - 48) t ∧ news' = (84, tabObj ps') :: rest' ∧ Grow rest nd rest' nd' ∧ (∀ p ∈ rest', p.1 ≠ 84) ∧ TabSt ⟨103, 4, 107, 74⟩ (Str.ofString "_str_to_int_inner.<locals>.inner") ps' nd') := by
  intro p loose mean mg mb dp un gd cn cs a ccd cl outer A₀ base h₀ L m s Q E B F X N T' hkf hdd hu ret
  have C0 : CodeHd h₀ 88 84 := codeHd_of_K X (by kernel_rfl)
  refine wpAny_call ?_
  refine' code_defC ?k1 ?k2 ?k3 ?k4 ?k5 ?kA ?kF ?kK ?k6 ?k7 ?k8 ?k9 ?kB ?kD ?_ ?c2 ?c3 ?c4
  case kA => exact rfl
  case kF => exact rfl
  case kK => assumption
  case k1 => k_asm
  case k2 => k_asm
  case k3 => k_asm
  case k4 => k_asm
  case k5 => k_asm
  case k6 => k_is
  case k7 => k_is
  case k8 => first | k_room | ktr_room
  case k9 => exact BindsTo.of_eq rfl
  case kB => exact rfl
  case kD => decide +kernel
  case c2 => exact rfl
  case c3 => exact rfl
  case c4 => exact rfl
  k_whole
  intro g' L' h' tk' cells' FG' F' N' Y' B' X' T2 l1
  obtain ⟨o1, o2, o3, o4, hE, d1, d2, d3, d4⟩ := PyProof.Rows.CellsAre.four Y'
  subst hE
  clear Y'
  replace F' : Fr g' L' h' (fun _ => none) := by with_unfolding_all exact F'
  replace d1 : o1.data = .cell none := by with_unfolding_all exact d1
  replace d2 : o2.data = .cell none := by with_unfolding_all exact d2
  replace d3 : o3.data = .cell none := by with_unfolding_all exact d3
  replace d4 : o4.data = .cell (some (.str (chS c) t)) := by with_unfolding_all exact d4
  simp only [List.cons_append, List.nil_append] at N'
  have C1 : CodeHd g' 88 84 := C0.keeps FG'.keep
  try dsimp only
  try k_lift B'
  try k_fold
  have e0 : @LT.lt Nat _ 84 L' := l1 (84, _) (.head _)
  have r0 : ∀ p ∈ rest, p.1 < L' := fun p hp => l1 p (.tail _ hp)
  have r2 : ∀ p ∈ rest, p.1 ≠ L' + 1 + 1 := fun p hp => Nat.ne_of_lt (Nat.lt_succ_of_lt (Nat.lt_succ_of_lt (r0 p hp)))
  (k_steps; repeat' ((unfold Stop; first | ((k_here; refine len_chS ?_))); k_steps))
  unfold Stop
  rename_i hD oD FD ND dD
  refine nest_any (nd := nd) FD (npick (D := 84) ND (.tail (.tail (.tail (.tail .head))))) T2 C1 rfl ?hP hst (fun p hp => .tail _ (.tail _ (.tail _ (.tail _ (hnd p hp))))) (by rfl) ?_
  case hP => exact List.forall_mem_cons.mpr ⟨Nat.ne_of_gt (Nat.lt_succ_of_lt (Nat.lt_succ_of_lt (Nat.lt_succ_of_lt (Nat.lt_succ_of_lt e0)))), List.forall_mem_cons.mpr ⟨Nat.ne_of_gt (Nat.lt_succ_of_lt (Nat.lt_succ_of_lt (Nat.lt_succ_of_lt e0))), List.forall_mem_cons.mpr ⟨Nat.ne_of_gt (Nat.lt_succ_of_lt (Nat.lt_succ_of_lt e0)), List.forall_mem_cons.mpr ⟨Nat.ne_of_gt (Nat.lt_succ_of_lt e0), hr⟩⟩⟩⟩
  intro f c' oc cvs tq ctv doc h3 tk3 rest2 ps2 F3 N3 hre hP2 hc' hoc hcv lf
  refine with_fo N3 ?_
  intro fo hfo N3'
  obtain ⟨rest4, nd4, hg4, hr98, hx4, hst4, ho4, N4⟩ : ∃ rest4 nd4, Grow rest nd rest4 nd4 ∧ (∀ p ∈ rest4, p.1 ≠ 84) ∧ (∀ p ∈ rest4, p.1 < L' ∨ L' + 1 + 1 + 1 + 1 < p.1) ∧ TabSt ⟨103, 4, 107, 74⟩ (Str.ofString "_str_to_int_inner.<locals>.inner") ps2 nd4 ∧ (c', oc) ∈ rest4 ∧ News g' L' h3 ((f, fo) :: (84, tabObj ps2) :: (L' + 1 + 1 + 1 + 1, o1) :: (L' + 1 + 1 + 1, o2) :: (L' + 1 + 1, oD) :: (L' + 1, o4) :: rest4) := by
    rcases hre with ⟨rfl, hst3, hc3⟩ | ⟨rfl, hst3, hlt⟩
    · exact ⟨rest, nd, .inl ⟨rfl, rfl⟩, hr, fun p hp => .inl (r0 p hp), hst3, hnd _ hc3, N3'⟩
    · refine ⟨(c', oc) :: rest, [(c', oc)], .inr ⟨_, rfl, rfl, fun q hq => hlt q (.tail _ (.tail _ (.tail _ (.tail _ hq))))⟩, List.forall_mem_cons.mpr ⟨hP2 _ (.head _), hr⟩, List.forall_mem_cons.mpr ⟨.inr (hlt (L' + 1 + 1 + 1 + 1, _) (.head _)), fun p hp => .inl (r0 p hp)⟩, hst3, .head _, nsub N3' ?_⟩
      exact List.forall_mem_cons.mpr ⟨.head _, List.forall_mem_cons.mpr ⟨.tail _ (.head _), List.forall_mem_cons.mpr ⟨.tail _ (.tail _ (.tail _ (.head _))), List.forall_mem_cons.mpr ⟨.tail _ (.tail _ (.tail _ (.tail _ (.head _)))), List.forall_mem_cons.mpr ⟨.tail _ (.tail _ (.tail _ (.tail _ (.tail _ (.head _))))), List.forall_mem_cons.mpr ⟨.tail _ (.tail _ (.tail _ (.tail _ (.tail _ (.tail _ (.head _)))))), List.forall_mem_cons.mpr ⟨.tail _ (.tail _ (.head _)), fun p hp => .tail _ (.tail _ (.tail _ (.tail _ (.tail _ (.tail _ (.tail _ hp))))))⟩⟩⟩⟩⟩⟩⟩
  have q1 : @LT.lt Nat _ (L' + 1 + 1 + 1 + 1) f := lf (L' + 1 + 1 + 1 + 1, o1) (by rcases hre with ⟨rfl, _⟩ | ⟨rfl, _⟩; exact .tail _ (.head _); exact .tail _ (.tail _ (.head _)))
  clear N3 N3'
  have hr4a : ∀ p ∈ rest4, p.1 ≠ L' + 1 + 1 + 1 := fun p hp => (hx4 p hp).elim (fun q => Nat.ne_of_lt (Nat.lt_succ_of_lt (Nat.lt_succ_of_lt (Nat.lt_succ_of_lt q)))) fun q => Nat.ne_of_gt (Nat.lt_of_succ_lt q)
  have hr4b : ∀ p ∈ rest4, p.1 ≠ L' + 1 + 1 + 1 + 1 := fun p hp => (hx4 p hp).elim (fun q => Nat.ne_of_lt (Nat.lt_succ_of_lt (Nat.lt_succ_of_lt (Nat.lt_succ_of_lt (Nat.lt_succ_of_lt q))))) fun q => Nat.ne_of_gt q
  have hfd : ∃ oc od fd sl, fo = (⟨oc, od, .func fd, sl⟩ : Obj) := ⟨_, _, _, _, hfo⟩
  replace hfo : fo = fnMade (Str.ofString "inner") (Str.ofString "_str_to_int_inner.<locals>.inner") (parsOf (innS 9 1)) (bodyOf (innS 9 1)) (scopeOf (innS 9 1)) [(Str.ofString "w5pow", L' + 1 + 1 + 1 + 1), (Str.ofString "s", L' + 1), (Str.ofString "inner", L' + 1 + 1 + 1), (Str.ofString "DIGLIM", L' + 1 + 1)] doc ((mg (Str.ofString "__name__")).getD Value.none) c' ctv := by with_unfolding_all exact hfo
  replace hcv : cvs[1]? = some (.str (Str.ofString "_str_to_int_inner.<locals>.inner") tq) := by with_unfolding_all exact hcv
  clear hre hP2 hc' lf hst
  (k_steps; repeat' ((unfold Stop; first | ((k_here; refine len_chS ?_))); k_steps))
  unfold Stop
  rename_i hI oI FI NI dI
  k_dflt (refine ConD.use (c_powers w _ _ _ _) (by k_asm) (by k_asm) (by k_asm) (by exact NI) (by k_asm) (by (first | exact rfl | assumption)) (by ((try dsimp only [ktrTop]); omega)) (by ((try simp only [units_in1, units_deeper, Around.mark_units, units_caller]); (try dsimp only [ktrTop]); omega)) ?_)
  rintro _ h8 tk8 dr8 n8 F8 N8 ⟨⟨D8, rfl⟩, rfl⟩
  clear NI
  (k_steps; repeat' ((unfold Stop; first | ((k_here; refine len_chS ?_))); k_steps))
  unfold Stop
  rename_i hW oW FW NW dW
  k_dflt (refine Con.use (c_strI w f c' (L' + 1 + 1 + 1) (L' + 1) (L' + 1 + 1) (L' + 1 + 1 + 1 + 1) fo oc oI o4 oD oW cvs tq _ doc _ ctv _ hfo (.head _) hoc hcv (.tail _ (.tail _ (.tail _ (.tail _ (.tail _ (.tail _ ho4)))))) (.tail _ (.tail _ (.tail _ (.tail _ (.tail _ (.head _)))))) c _ d4 hc (.tail _ (.tail _ (.tail _ (.tail _ (.head _))))) dD _ _) (by k_asm) (by k_asm) (by k_asm) (by exact NW) (by k_asm) (by (first | exact rfl | assumption)) (by ((try dsimp only [ktrTop]); omega)) (by ((try simp only [units_in1, units_deeper, Around.mark_units, units_caller]); (try dsimp only [ktrTop]); omega)) ?_)
  rintro _ h9 tk9 n9 F9 N9 ⟨⟨t9, rfl⟩, rfl⟩
  (k_steps; repeat' ((unfold Stop; first | ((k_here; refine len_chS ?_))); k_steps))
  refine ret _ _ _ _ _ (by k_asm) (nsub (by k_asm) ?_) ⟨_, ps2, rest4, nd4, rfl, rfl, hg4, hr98, hst4⟩
  exact List.forall_mem_cons.mpr ⟨.tail _ (.head _), fun p hp => .tail _ (.tail _ (.tail _ (.tail _ (.tail _ (.tail _ hp)))))⟩
local macro_rules | `(tactic| walk_at $k:str) => tabl [("call builtin:str.rstrip", "ST"), ("call builtin:str.replace", "ST")] k
theorem occ_chS : ∀ c ∈ [48, 49, 50, 51], ((PySem.Builtin.Str.occurrences (chS c) (Str.ofString "_") 0 (chS c).length ((chS c).length + 1)).isEmpty || ((Str.ofString "_").length == 0 && (Str.ofString "").length == 0)) = true := by decide +kernel
theorem replace_chS {prog : Program} {w : World} {A : Around} {E : Value → Shared → Prop} {s : Shared} {c : Nat} {t u v : Tok} {Q : Value → Shared → Prop} (hc : c ∈ [48, 49, 50, 51]) (h : Q (.str (chS c) t) s) :
    wpAny (model prog w) A (call (.builtin "str.replace") [.str (chS c) t, .str (Str.ofString "_") u, .str (Str.ofString "") v]) Q E s := by
  have ho := occ_chS c hc
  refine call_gives F.slot_str_replace (typeIs_str _ _ _) F.entry_str_replace (F.args_str_replace_3 _ _ _) (gives_str_replace (chS c) (Str.ofString "_") (Str.ofString "") t u v fun e => ?_) ?_
  · rw [ho] at e; cases e
  · rw [ho]
    exact h
theorem rstrip_chS : ∀ c ∈ [48, 49, 50, 51], Txt.rstrip (chS c) = chS c := by decide +kernel
theorem c_intFromStr (w : World) (rest nd : List (Addr × Obj)) (c : Nat) (t : Tok) (ps : Array Value) (hc : c ∈ [48, 49, 50, 51]) (hr : ∀ p ∈ rest, p.1 ≠ 84) (hnd : ∀ p ∈ nd, p ∈ rest) (hst : TabSt ⟨103, 4, 107, 74⟩ (Str.ofString "_str_to_int_inner.<locals>.inner") ps nd) :
   ConD w 18 220 (call (.ref 96) [.str (chS c) t]) ((84, tabObj ps) :: rest) (fun r news' => ∃ t ps' rest' nd', r = .int ((c : Int) - 48) t ∧ news' = (84, tabObj ps') :: rest' ∧ Grow rest nd rest' nd' ∧ (∀ p ∈ rest', p.1 ≠ 84) ∧ TabSt ⟨103, 4, 107, 74⟩ (Str.ofString "_str_to_int_inner.<locals>.inner") ps' nd') := by
  intro p loose mean mg mb dp un gd cn cs a ccd cl outer A₀ base h₀ L m s Q E B F X N T' hkf hdd hu ret
  refine wpAny_call ?_
  k_dflt (first | (refine' code_defC ?k1 ?k2 ?k3 ?k4 ?k5 ?kA ?kF ?kK ?k6 ?k7 ?k8 ?k9 ?kB ?kD ?_ ?c2 ?c3 ?c4; (case kA => exact rfl); (case kF => exact rfl); (case kK => first | exact rfl | assumption); (case k1 => k_asm); (case k2 => k_asm); (case k3 => k_asm); (case k4 => k_asm); (case k5 => k_asm); (case k6 => k_is); (case k7 => k_is); (case k8 => first | k_room | ktr_room); (case k9 => first | exact BindsTo.of_eq rfl | (refine' kp_binds ?kx ?ke; (case kx => k_in); (case ke => exact fun _ => rfl)) | exact binds_K (by k_in) rfl (by k_is) rfl rfl rfl); (case kB => exact rfl); (case kD => decide +kernel); (case c2 => exact rfl); (case c3 => exact rfl); (case c4 => exact rfl); k_whole; intro g' L' h' tk' cells' FG' F' N' Y' B' X' T' l1; (try k_lt l1); k_cells Y'; (try simp only [List.cons_append, List.nil_append] at N'); (try dsimp only); (try k_lift B'); (try k_fold)) | (kp_kind "more"; (refine' kp_more ?k1 ?k2 ?k3 ?k4 ?k5 ?kA ?kF ?kK ?k6 ?k7 ?k8 ?kX ?kM ?kN ?kD ?kR ?kP ?kT ?kB ?_ ?c2 ?c3 ?c4 ?c5; (case kA => exact rfl); (case kF => exact rfl); (case kK => first | exact rfl | assumption); (case k1 => k_asm); (case k2 => k_asm); (case k3 => k_asm); (case k4 => k_asm); (case k5 => k_asm); (case k6 => k_is); (case k7 => k_is); (case k8 => first | k_room | ktr_room); (case kX => kp_lit); (case kM => exact rfl); (case kN => exact rfl); (case kD => kp_flats); (case kR => exact rfl); (case kP => exact rfl); (case kT => exact fun _ => rfl); (case kB => exact fun _ => locs rfl); (case c5 => decide); (case c2 => exact rfl); (case c3 => exact rfl); (case c4 => exact rfl); k_whole; intro D' o' g' L' h' tk' l1 lo' hs' fs' FG' F' N' B' X' T'; (try k_lt l1); (try dsimp only); (try k_lift B'); (try k_fold))) | (refine' code_def ?k1 ?k2 ?k3 ?k4 ?k5 ?kA ?kF ?kK ?k6 ?k7 ?k8 ?k9 ?kB ?_ ?c2 ?c3 ?c4 ?c5; (case kA => exact rfl); (case kF => exact rfl); (case kK => first | exact rfl | assumption); (case k1 => k_asm); (case k2 => k_asm); (case k3 => k_asm); (case k4 => k_asm); (case k5 => k_asm); (case k6 => k_is); (case k7 => k_is); (case k8 => first | k_room | ktr_room); (case k9 => first | exact BindsTo.of_eq rfl | (refine' kp_binds ?kx ?ke; (case kx => k_in); (case ke => exact fun _ => rfl)) | exact binds_K (by k_in) rfl (by k_is) rfl rfl rfl); (case c5 => decide); (case kB => exact locs rfl); (case c2 => exact rfl); (case c3 => exact rfl); (case c4 => exact rfl); k_whole; intro g' L' h' FG' F' N' B' X' T'; (try dsimp only); (try k_lift B'); (try k_fold)))
  (k_steps; repeat' ((unfold Stop; first | ((k_here; refine len_chS ?_))); k_steps))
  unfold Stop
  refine KXw.rstrip (y := chS c) (rstrip_chS c hc) (Nat.le_trans (Nat.le_of_ble_eq_true rfl : (chS c).length ≤ 1) (by rw [sizeLine_eq]; omega)) ?_
  intro t1 k1
  (k_steps; repeat' ((unfold Stop; first | ((k_here; refine len_chS ?_))); k_steps))
  unfold Stop
  refine replace_chS hc ?_
  (k_steps; repeat' ((unfold Stop; first | ((k_here; refine len_chS ?_))); k_steps))
  unfold Stop
  k_dflt (refine ConD.use (c_strToInt w rest nd c _ ps hc hr hnd hst) (by k_asm) (by k_asm) (by k_asm) (by k_asm) (by k_asm) (by (first | exact rfl | assumption)) (by ((try dsimp only [ktrTop]); omega)) (by ((try simp only [units_in1, units_deeper, Around.mark_units, units_caller]); (try dsimp only [ktrTop]); omega)) ?_)
  rintro _ h8 tk8 dr8 n8 F8 N8 ⟨t8, ps', rest', nd', rfl, rfl, hg, h84, hst'⟩
  (k_steps; repeat' ((unfold Stop; first | ((k_here; refine len_chS ?_))); k_steps))
  exact ret _ _ _ _ _ (by k_asm) (by k_asm) ⟨_, ps', rest', nd', rfl, rfl, hg, h84, hst'⟩
end

end
section
/-! loops whose turns may draw from the world -/
section
open PyProof.Rows.LCg
variable {prog : Program} {w : World} {A : Around} {E : Value → Shared → Prop} {s : Shared} {env : Env} {h₀ : Heap} {L : Addr} {target : Expr} {body : List Stmt} {Q : Flow → Shared → Prop}
noncomputable def FPostD (h₀ : Heap) (L : Addr) (I : Addr) (it : Obj) (J : (Str → Option Value) → List (Addr × Obj) → Prop) (s₁ : Shared) (Q : Flow → Shared → Prop) (f : Flow) (s₂ : Shared) : Prop :=
  match f with
  | .ret v => Q (.ret v) s₂
  | .brk => Q .next s₂
  | _ => ∃ h' tk dr m' news', s₂ = { s₁ with heap := h', toks := tk, drawn := dr } ∧ Fr h₀ L h' m' ∧ News h₀ L h' ((I, it) :: news') ∧ (∀ p ∈ news', p.1 ≠ I) ∧ J m' news'
noncomputable def TurnsD (prog : Program) (w : World) (A : Around) (env : Env) (target : Expr) (body : List Stmt) (Q : Flow → Shared → Prop) (E : Value → Shared → Prop) (it : Value) (s₂ : Shared) : Prop :=
  codeAny (model prog w) A (.forLoop target it body [] env) (fun r s' => match r with | .ok f => Q f s' | .error e => cameBackBy (model prog w) A env E e s') s₂
theorem For_D {iter : Expr} {pos : Pos} (h : wpAny (model prog w) A (eval iter env) (fun xv s₁ => wpAny (model prog w) A (pyIter xv) (fun it s₂ => TurnsD prog w A env target body Q E it s₂) E s₁) E s)
    (hs : ∀ x, foldedSetIterable iter env x = pure x := by intro _; rfl) : wpAny (model prog w) A (exec (.For target iter body [] pos) env) Q E s := wpAny_For h hs
theorem for_rangeD {x : Str} {px : Pos} {r : Addr} {k : Int} {t₀ u₀ v₀ : Tok} {n : Nat} {m : Str → Option Value} {news : List (Addr × Obj)} (J : Nat → (Str → Option Value) → List (Addr × Obj) → Prop)
    (hE : PassesOwn (model prog w) A env E) (hh : A.handled = none) (hr : IsRange s.heap r 0 k 1 t₀ u₀ v₀) (hk : k = (n : Int)) (hn : n ≤ 10000) (F : Fr h₀ env.locals s.heap m) (N : News h₀ env.locals s.heap news) (h0 : J 0 m news)
    (turn : ∀ I i t m₁ news₁ h tk dr it, i < n → J i m₁ news₁ → (∀ p ∈ news₁, p.1 ≠ I) → Fr h₀ env.locals h m₁ → News h₀ env.locals h ((I, it) :: news₁) →
      wpAny (model prog w) A (assign (.Name x px) env (.int (i : Int) t)) (fun _ s₂ => wpAny (model prog w) A (execs body env) (FPostD h₀ env.locals I it (J (i + 1)) s Q) E s₂) E { s with heap := h, toks := tk, drawn := dr })
    (done : ∀ m₁ news₁ h tk dr, J n m₁ news₁ → Fr h₀ env.locals h m₁ → News h₀ env.locals h news₁ → Q .next { s with heap := h, toks := tk, drawn := dr }) :
    wpAny (model prog w) A (pyIter (.ref r)) (fun it s₂ => TurnsD prog w A env (.Name x px) body Q E it s₂) E s := by
  subst hk
  refine wpAny_pyIter_range hr (small_one (by omega) (by omega) (by omega) (by omega)) ?_
  have W := Walks.range (prog := prog) (w := w) hh s.heap.objs.size 0 1 n
  have hLlt : env.locals < s.heap.objs.size := F.ns.lt
  have hI0 : h₀.get? s.heap.objs.size = none := next_is_new F
  have keepI : ∀ {h h' : Heap} {m' : Str → Option Value} {nw : List (Addr × Obj)}, Fr h₀ env.locals h m' → News h₀ env.locals h nw → (∀ p ∈ nw, p.1 ≠ s.heap.objs.size) → (∀ b o, b ∉ [s.heap.objs.size] → h.get? b = some o → h'.get? b = some o) → Fr h₀ env.locals h' m' ∧ News h₀ env.locals h' nw :=
    fun F N off hk => ⟨fr_but F hk (Nat.ne_of_lt hLlt) hI0, news_but N hk off⟩
  refine codeAny_forLoop_any
    (fun k s' => ∃ h' tk dr m' news' i, s' = { s with heap := h', toks := tk, drawn := dr } ∧ IsRangeIter h' s.heap.objs.size (0 + (i : Nat) * 1) ((n : Int) - (i : Nat)) 1 ∧ Fr h₀ env.locals h' m' ∧ News h₀ env.locals h' news' ∧ (∀ p ∈ news', p.1 ≠ s.heap.objs.size) ∧ J i m' news' ∧ i ≤ n ∧ k = n + 1 - i) ?_ (n + 1)
    ⟨_, s.toks, s.drawn, m, news, 0, rfl, ?_, F.push _, N.grown (fun _ _ e => Heap.get?_push_of_some _ e), fun p hp => Nat.ne_of_lt (Heap.lt_size (N p hp).1), h0, Nat.zero_le _, rfl⟩
  · rintro k s' ⟨h', tk, dr, m', news', i, rfl, hst, F', N', off', hJ, hi, rfl⟩
    by_cases hlt : i < n
    · refine W.item i _ _ _ hlt hst fun v h₁ tk₁ hP hst₁ hk₁ => ?_
      obtain ⟨t, rfl⟩ := hP
      obtain ⟨F₁, N₁⟩ := keepI F' N' off' hk₁
      obtain ⟨oit, hit, hof⟩ : ∃ o, h₁.get? s.heap.objs.size = some o ∧ ∀ h'' : Heap, h''.get? s.heap.objs.size = some o → IsRangeIter h'' s.heap.objs.size (0 + ((i + 1 : Nat) : Nat) * 1) ((n : Int) - ((i + 1 : Nat) : Nat)) 1 := ⟨_, hst₁, fun h'' e => e⟩
      have e1 : (0 : Int) + (i : Int) * 1 = (i : Int) := by omega
      rw [e1]
      refine wpAny_pure ?_
      refine wpAny_mono (turn s.heap.objs.size i t m' news' h₁ tk₁ dr oit hlt hJ off' F₁ fun p hp => ?_) (fun _ s₂ h₂ => wpAny_mono (wpAny_passesOwn hE h₂) (fun f s₃ h₃ => ?_) fun _ _ e => e) hE
      · rcases List.mem_cons.mp hp with rfl | hp
        · exact ⟨hit, Nat.ne_of_gt hLlt, hI0⟩
        · exact N₁ p hp
      · have fin : (∃ h' tk dr m' news', s₃ = { s with heap := h', toks := tk, drawn := dr } ∧ Fr h₀ env.locals h' m' ∧ News h₀ env.locals h' ((s.heap.objs.size, oit) :: news') ∧ (∀ p ∈ news', p.1 ≠ s.heap.objs.size) ∧ J (i + 1) m' news') →
            ∃ mm, mm < n + 1 - i ∧ ∃ h' tk dr m' news' i', s₃ = { s with heap := h', toks := tk, drawn := dr } ∧ IsRangeIter h' s.heap.objs.size (0 + (i' : Nat) * 1) ((n : Int) - (i' : Nat)) 1 ∧ Fr h₀ env.locals h' m' ∧ News h₀ env.locals h' news' ∧ (∀ p ∈ news', p.1 ≠ s.heap.objs.size) ∧ J i' m' news' ∧ i' ≤ n ∧ mm = n + 1 - i' := by
          rintro ⟨h₃', tk₃, dr₃, m₂, news₂, rfl, F₃, N₃, off₃, hJ₃⟩
          exact ⟨n + 1 - (i + 1), by omega, h₃', tk₃, dr₃, m₂, news₂, i + 1, rfl, hof _ (N₃ _ (.head _)).1, F₃, fun p hp => N₃ p (.tail _ hp), off₃, hJ₃, hlt, rfl⟩
        cases f with
        | ret v => exact h₃
        | brk => exact h₃
        | cont => exact fin h₃
        | next => exact fin h₃
    · obtain rfl : i = n := by omega
      refine W.done _ _ _ hst fun h₁ tk₁ hk₁ => wpAny_execs_nil ?_
      obtain ⟨F₁, N₁⟩ := keepI F' N' off' hk₁
      exact done m' news' h₁ tk₁ dr hJ F₁ N₁
  · show IsRangeIter _ _ _ _ _
    rw [rangeSize_nat]
    simpa using Heap.get?_push_size _ rfl
theorem for_rangeDM {x : Str} {px : Pos} {r : Addr} {k : Int} {t₀ u₀ v₀ : Tok} {n : Nat} {m : Str → Option Value} {news : List (Addr × Obj)} (J : (Str → Option Value) → Nat → (Str → Option Value) → List (Addr × Obj) → Prop)
    (hE : PassesOwn (model prog w) A env E) (hh : A.handled = none) (hr : IsRange s.heap r 0 k 1 t₀ u₀ v₀) (hk : k = (n : Int)) (hn : n ≤ 10000) (F : Fr h₀ env.locals s.heap m) (N : News h₀ env.locals s.heap news) (h0 : J m 0 m news)
    (turn : ∀ I i t m₁ news₁ h tk dr it, i < n → J m i m₁ news₁ → (∀ p ∈ news₁, p.1 ≠ I) → Fr h₀ env.locals h m₁ → News h₀ env.locals h ((I, it) :: news₁) →
      wpAny (model prog w) A (assign (.Name x px) env (.int (i : Int) t)) (fun _ s₂ => wpAny (model prog w) A (execs body env) (FPostD h₀ env.locals I it (J m (i + 1)) s Q) E s₂) E { s with heap := h, toks := tk, drawn := dr })
    (done : ∀ m₁ news₁ h tk dr, J m n m₁ news₁ → Fr h₀ env.locals h m₁ → News h₀ env.locals h news₁ → Q .next { s with heap := h, toks := tk, drawn := dr }) :
    wpAny (model prog w) A (pyIter (.ref r)) (fun it s₂ => TurnsD prog w A env (.Name x px) body Q E it s₂) E s := for_rangeD (J m) hE hh hr hk hn F N h0 turn done
end

end
section
section
open PyProof.Rows.LCg
variable {prog : Program} {w : World} {A : Around} {E : Value → Shared → Prop} {s : Shared} {h₀ : Heap} {L : Addr} {m : Str → Option Value} {env : Env}
/-- the end of an element's reckoning -/
noncomputable def CEndD (h₀ : Heap) (L : Addr) (m : Str → Option Value) (s₁ : Shared) (I : Addr) (oI : Obj) (C : Addr) (oC : Obj) (D : Addr) (oD : Obj) (J : Value → List (Addr × Obj) → Prop) (y : Value) (s₂ : Shared) : Prop :=
  ∃ h' tk dr nw, s₂ = { s₁ with heap := h', toks := tk, drawn := dr } ∧ Fr h₀ L h' m ∧ News h₀ L h' ((I, oI) :: (C, oC) :: (D, oD) :: nw) ∧ Off3 I C D nw ∧ J y nw
/-- a comprehension over a list of the ledger, by an invariant; its element may draw -/
noncomputable def CSrcD (prog : Program) (w : World) (A : Around) (h₀ : Heap) (L : Addr) (m : Str → Option Value) (env : Env) (elt : Expr) (x : Str) (scope : Scope) (cl : List (Str × Addr)) (Q : Value → Shared → Prop) (xv : Value) (s₁ : Shared) : Prop :=
  ∃ (ax : Addr) (vs : List Value) (n : Nat) (news : List (Addr × Obj)) (J : Nat → List Value → List (Addr × Obj) → Prop), xv = .ref ax ∧ A.handled = none ∧ Fr h₀ L s₁.heap m ∧ News h₀ L s₁.heap news ∧ vs.length ≤ 1000 ∧ J 0 [] news ∧
    (∀ i ys nw, J i ys nw → (ax, listOf vs.toArray n) ∈ nw) ∧
    (∀ i v I oI C oC D m₂ ys nw h tk dr (E' : Value → Shared → Prop), vs[i]? = some v → J i ys nw → NsObj oC m₂ → m₂ x = some v → Fr h₀ L h m → News h₀ L h ((I, oI) :: (C, oC) :: (D, lst ys) :: nw) → Off3 I C D nw → ((@Ne Nat I C) ∧ (@Ne Nat I D) ∧ (@Ne Nat C D)) →
      wpAny (model prog w) A (eval elt (compEnvC scope cl C env)) (CEndD h₀ L m s₁ I oI C oC D (lst ys) (fun y nw' => J (i + 1) (ys ++ [y]) nw')) E' { s₁ with heap := h, toks := tk, drawn := dr }) ∧
    (∀ ys nw D h tk dr, J vs.length ys nw → Fr h₀ L h m → News h₀ L h ((D, lst ys) :: nw) → Off1 D nw → Q (.ref D) { s₁ with heap := h, toks := tk, drawn := dr })
theorem ListComp_D {elt iter : Expr} {x : Str} {px : Pos} {scope : Scope} {cl : List (Str × Addr)} {pos : Pos} {Q : Value → Shared → Prop} (_F₀ : Fr h₀ L s.heap m)
    (hclos : closureFor scope env = pure cl) (hcell : ∀ y ∈ scope.names, y.2 ≠ .cell) (hkind : scope.kind = .function)
    (hnames : ∀ y ∈ scope.names, y.2 = .local → scope.names.lookup y.1 = some .local) (hx : scope.names.lookup x = some .local)
    (h : wpAny (model prog w) A (eval iter env) (CSrcD prog w A h₀ L m env elt x scope cl Q) E s)
    (hs : ∀ x, foldedSetIterable iter env x = pure x := by intro _; rfl) :
    wpAny (model prog w) A (eval (.ListComp elt [⟨.Name x px, iter, [], 0⟩] scope pos) env) Q E s := by
  rw [eval_ListComp]
  refine wpAny_comprehension_free (use := none) rfl hs hclos hkind hnames (wpAny_mono h (fun xv s₁ h₁ => ?_) fun _ _ e => e)
  obtain ⟨ax, vs, nn, news, J, rfl, hh, F, N, hsz, h0, hmem, turn, fin⟩ := h₁
  have hax := N _ (hmem _ _ _ h0)
  have hl : s₁.heap.IsList ax vs.toArray := ⟨_, hax.1, rfl, nn, rfl⟩
  have hlt : ax < s₁.heap.objs.size := Heap.lt_size hax.1
  refine wpAny_pyIter_list hl ?_
  -- three new objects: the iterator, the list, the block's names
  refine wpAny_newObj_type (wpAny_newFunctionEnv hcell (by intro y hy; simp at hy) (fun h₁ hns₁ hsb₁ => ?_) hkind)
  dsimp only at hns₁ hsb₁ ⊢
  generalize hI : s₁.heap.objs.size = I at hlt hns₁ hsb₁ ⊢
  have hH1s : (s₁.heap.push { cls := .type "list_iterator", data := .fields #[.ref ax, .int 0 0] }).objs.size = I + 1 := by rw [Heap.size_push, hI]
  generalize hH1 : s₁.heap.push { cls := .type "list_iterator", data := .fields #[.ref ax, .int 0 0] } = H1 at hns₁ hsb₁ hH1s ⊢
  generalize hH2 : H1.push { cls := .type "list", dict := none, data := .seq ([] : List Value).toArray } = H2 at hns₁ hsb₁ ⊢
  have hH2s : H2.objs.size = I + 2 := by rw [← hH2, Heap.size_push, hH1s]
  rw [hH2s] at hns₁ hsb₁ ⊢
  rw [hH1s]
  have up1 : ∀ b o, s₁.heap.get? b = some o → H1.get? b = some o := fun b o e => hH1 ▸ Heap.get?_push_of_some _ e
  have up2 : ∀ b o, H1.get? b = some o → H2.get? b = some o := fun b o e => hH2 ▸ Heap.get?_push_of_some _ e
  have up3 : ∀ b o, b ≠ I + 2 → H2.get? b = some o → h₁.get? b = some o := fun b o hb e => hsb₁.extBut b o hb (Heap.get?_push_of_some _ e)
  have old : ∀ b o, s₁.heap.get? b = some o → h₁.get? b = some o := fun b o e => up3 b o (Nat.ne_of_lt (Nat.lt_succ_of_lt (Nat.lt_succ_of_lt (show @LT.lt Nat _ b I from hI ▸ Heap.lt_size e)))) (up2 b o (up1 b o e))
  have hI₁ : h₁.get? I = some { cls := .type "list_iterator", data := .fields #[.ref ax, .int 0 0] } := up3 _ _ (by omega) (up2 _ _ (by rw [← hH1, ← hI]; exact Heap.get?_push_size _ rfl))
  have hD₁ : h₁.get? (I + 1) = some (lst []) := up3 _ _ (by omega) (by rw [← hH2, ← hH1s]; exact Heap.get?_push_size _ rfl)
  have fresh : ∀ b : Nat, I ≤ b → h₀.get? b = none := fun b hb => by
    refine Heap.get?_none_of_le ?_
    have := F.above
    have := F.ns.lt
    exact Nat.le_trans (Nat.le_trans F.above (Nat.le_of_lt F.ns.lt)) (hI ▸ hb)
  have hLI : @LT.lt Nat _ L I := hI ▸ F.ns.lt
  have hCL : (I + 2 : Nat) ≠ L := Nat.ne_of_gt (Nat.lt_succ_of_lt (Nat.lt_succ_of_lt hLI))
  have hnI : ∀ p ∈ news, @LT.lt Nat _ p.1 I := fun p hp => hI ▸ Heap.lt_size (N p hp).1
  have W := Walks.list (prog := prog) (w := w) hh I ax (Nat.ne_of_lt hlt) vs.toArray
  have hvsz : vs.toArray.size = vs.length := by simp
  rw [hvsz] at W
  have loop : ∀ s₃ : Shared, s₃ = { s₁ with heap := h₁, toks := s₁.toks + ([] : List (Str × Value)).length } →
      codeAny (model prog w) A (.compLoop (.ListComp elt [⟨.Name x px, iter, [], 0⟩] scope pos) 0 (.ref I) (.ref (I + 1)) (compEnvC scope cl (I + 2) env)) (compPost (model prog w) A E none Q (.ref (I + 1)) (I + 2)) s₃ := by
    rintro s₃ rfl
    refine codeAny_compLoop_tests
      (fun k s' => ∃ h' tk dr i ys m' nw, s' = { s₁ with heap := h', toks := tk, drawn := dr } ∧ i ≤ vs.length ∧ k = vs.length + 1 - i ∧ ys.length = i ∧ h'.IsListIter I ax i ∧ Fr h₀ L h' m ∧ h'.Ns (I + 2) m' ∧ News h₀ L h' ((I + 1, lst ys) :: nw) ∧ Off3 I (I + 2) (I + 1) nw ∧ J i ys nw) ?_ (vs.length + 1)
      ⟨h₁, _, s₁.drawn, 0, [], _, news, rfl, Nat.zero_le _, rfl, rfl, ⟨_, hI₁, rfl, rfl⟩, F.keeps old, hns₁, ?_, Off3.of fun p hp => ?_, h0⟩
    · rintro k s' ⟨h', tk, dr, i, ys, m', nw, rfl, hi, rfl, hyl, hst', F', hn', N', off', hJ⟩
      have off3 := off'.mem
      have hl' : h'.IsList ax vs.toArray := ⟨_, (N' _ (.tail _ (hmem _ _ _ hJ))).1, rfl, nn, rfl⟩
      by_cases hlt2 : i < vs.length
      · refine W.item i _ _ _ hlt2 ⟨hst', hl'⟩ fun v h₂ tk₂ hPv hst₂ hk₂ => ?_
        have hv : vs[i]? = some v := by simpa using hPv
        refine wpAny_assign_Name (wpAny_storeName_local (lookup_relabel_local hx) (hn'.at' fun o e => hk₂ _ o (by simp) e) (fun h₃ hn₃ hs₃ => ?_) (by simp [compEnvC, relabel, hkind]))
        refine wpAny_tests_nil ?_
        simp only [if_true]
        obtain ⟨oI, heI2, hoI⟩ := hst₂.1
        have heI : h₃.get? I = some oI := hs₃.extBut _ _ (show (I : Nat) ≠ I + 2 by omega) heI2
        obtain ⟨oC, heC, hoC⟩ := ns_obj hn₃
        have F₃ : Fr h₀ L h₃ m := (fr_but F' hk₂ (Nat.ne_of_lt hLI) (fresh I (Nat.le_refl _))).change hs₃ hCL (fresh _ (Nat.le_succ_of_le (Nat.le_succ _)))
        have N₂ : News h₀ L h₂ ((I + 1, lst ys) :: nw) := news_but N' hk₂ (List.forall_mem_cons.mpr ⟨show (I + 1 : Nat) ≠ I by omega, fun p hp => (off3 p hp).1⟩)
        have N₃ : News h₀ L h₃ ((I, oI) :: (I + 2, oC) :: (I + 1, lst ys) :: nw) := by
          refine List.forall_mem_cons.mpr ⟨⟨heI, Nat.ne_of_gt hLI, fresh _ (Nat.le_refl _)⟩, List.forall_mem_cons.mpr ⟨⟨heC, show (I + 2 : Nat) ≠ L by omega, fresh _ (by omega)⟩, fun p hp => ?_⟩⟩
          refine ⟨hs₃.extBut _ _ ?_ (N₂ p hp).1, (N₂ p hp).2⟩
          rcases List.mem_cons.mp hp with rfl | hp
          · exact show (I + 1 : Nat) ≠ I + 2 by omega
          · exact (off3 p hp).2.1
        refine wpAny_mono (turn i v I oI (I + 2) oC (I + 1) _ ys nw h₃ _ _ _ hv hJ hoC (by simp) F₃ N₃ off' ⟨show (I : Nat) ≠ I + 2 by omega, show (I : Nat) ≠ I + 1 by omega, show (I + 2 : Nat) ≠ I + 1 by omega⟩) (fun y s₄ h₄ => ?_) fun _ _ e => e
        obtain ⟨h₄, tk₄, dr₄, nw₄, rfl, F₄, N₄, off₄, hJ₄⟩ := h₄
        have zI := (N₄ (I, oI) (.head _)).1
        have zC := (N₄ (I + 2, oC) (.tail _ (.head _))).1
        have zD := (N₄ (I + 1, lst ys) (.tail _ (.tail _ (.head _)))).1
        have off4 := off₄.mem
        refine append_at (hsz := by show ys.toArray.size ≤ sizeLine; rw [List.size_toArray, sizeLine_eq]; omega) zD fun h₅ hs₅ hD₅ => ?_
        refine ⟨vs.length + 1 - (i + 1), by omega, h₅, tk₄, dr₄, i + 1, ys ++ [y], _, nw₄, rfl, hlt2, rfl, by rw [List.length_append, List.length_singleton, hyl], ⟨oI, hs₅.extBut _ _ (show (I : Nat) ≠ I + 1 by omega) zI, hoI⟩,
          F₄.change hs₅ (show (I + 1 : Nat) ≠ L by omega) (fresh _ (by omega)), (hoC.ns zC).sameBut hs₅ (show (I + 2 : Nat) ≠ I + 1 by omega), fun p hp => ?_, off₄, hJ₄⟩
        rcases List.mem_cons.mp hp with rfl | hp
        · exact ⟨hD₅.trans (congrArg some (lst_snoc ys y)), show (I + 1 : Nat) ≠ L by omega, fresh _ (by omega)⟩
        · have z := N₄ p (.tail _ (.tail _ (.tail _ hp)))
          exact ⟨hs₅.extBut _ _ (off4 p hp).2.2 z.1, z.2⟩
      · obtain rfl : i = vs.length := Nat.le_antisymm hi (Nat.not_lt.mp hlt2)
        refine W.done _ _ _ ⟨hst', hl'⟩ fun h₂ tk₂ hk₂ => ?_
        have F₂ := fr_but F' hk₂ (Nat.ne_of_lt hLI) (fresh I (Nat.le_refl _))
        have N₂ : News h₀ L h₂ ((I + 1, lst ys) :: nw) := news_but N' hk₂ (List.forall_mem_cons.mpr ⟨show (I + 1 : Nat) ≠ I by omega, fun p hp => (off3 p hp).1⟩)
        refine ⟨m', hn'.at' fun o e => hk₂ _ o (by simp) e, fun h'' hs'' => fin ys nw (I + 1) h'' tk₂ dr hJ (F₂.change hs'' (show (I + 2 : Nat) ≠ L by omega) (fresh _ (by omega))) (fun p hp => ?_) off'.one⟩
        refine ⟨hs''.extBut _ _ ?_ (N₂ p hp).1, (N₂ p hp).2⟩
        rcases List.mem_cons.mp hp with rfl | hp
        · exact show (I + 1 : Nat) ≠ I + 2 by omega
        · exact (off3 p hp).2.1
    · refine List.forall_mem_cons.mpr ⟨⟨hD₁, show (I + 1 : Nat) ≠ L by omega, fresh _ (by omega)⟩, fun p hp => ⟨old _ _ (N p hp).1, (N p hp).2⟩⟩
    · have := hnI p hp
      exact ⟨Nat.ne_of_lt this, Nat.ne_of_lt (by omega), Nat.ne_of_lt (by omega)⟩
  exact codeAny_compStart_list (loop _ rfl) (W.self 0 _ _ _ ⟨⟨_, hI₁, rfl, rfl⟩, hl.at fun o e => old _ o e⟩ (loop _ rfl))
end

end
section
/-! the ledger without some addresses -/
noncomputable def offs (X : List Nat) (news : List (Addr × Obj)) : List (Addr × Obj) := news.filter fun p => !X.contains p.1
theorem offs_ne {X : List Nat} {news : List (Addr × Obj)} {x : Nat} (hx : x ∈ X) : ∀ p ∈ offs X news, p.1 ≠ x := fun p hp e => by
  have := (List.mem_filter.mp hp).2
  rw [Bool.not_eq_true'] at this
  have h2 : X.contains (p.1 : Nat) = true := List.contains_iff_mem.mpr (by rw [e]; exact hx)
  rw [this] at h2
  cases h2
theorem offs_mem {X : List Nat} {news : List (Addr × Obj)} {p : Addr × Obj} (hp : p ∈ news) (hx : ∀ x ∈ X, p.1 ≠ x) : p ∈ offs X news := by
  refine List.mem_filter.mpr ⟨hp, ?_⟩
  rw [Bool.not_eq_true']
  cases e : X.contains (p.1 : Nat) with
  | false => rfl
  | true => exact absurd rfl (hx _ (List.contains_iff_mem.mp e))
theorem offs_sub {X : List Nat} {news : List (Addr × Obj)} : ∀ p ∈ offs X news, p ∈ news := fun _ hp => (List.mem_filter.mp hp).1
/-- a cell, or a table of codes -/
noncomputable def badO (o : Obj) : Bool := match o.data with
  | .cell _ => true
  | .fields _ => true
  | _ => false
theorem good_ne {h₀ h : Heap} {L a x : Addr} {o ox : Obj} {news : List (Addr × Obj)} (N : News h₀ L h news) (ha : (a, o) ∈ news) (hx : (x, ox) ∈ news) (ho : badO o = false) (hb : badO ox = true) : a ≠ x := fun e => by
  subst e
  have e1 := (N _ ha).1
  have e2 := (N _ hx).1
  rw [e1] at e2
  cases e2
  rw [ho] at hb
  cases hb
/-- each address of X bears a cell or a table -/
noncomputable def BadAt (X : List Nat) (news : List (Addr × Obj)) : Prop := ∀ x ∈ X, ∃ ox, ((x : Addr), ox) ∈ news ∧ badO ox = true
section
variable {h₀ h : Heap} {L : Addr} {X : List Nat} {news : List (Addr × Obj)}
theorem offs_good (N : News h₀ L h news) (hX : BadAt X news) {a : Addr} {o : Obj} (ha : (a, o) ∈ news) (ho : badO o = false) : (a, o) ∈ offs X news :=
  offs_mem ha fun x hx => by
    obtain ⟨ox, h1, h2⟩ := hX x hx
    exact good_ne N ha h1 ho h2
theorem offs_pairs (N : News h₀ L h news) (hX : BadAt X news) : ∀ {vs : List Value} {ps : PL}, DatAll news vs (ps.map pdat) → DatAll (offs X news) vs (ps.map pdat)
  | [], [], _ => .nil
  | v :: vs, p :: ps, hD => by
    cases hD with
    | cons h1 hr =>
      obtain ⟨a, t, u, n, rfl, hm⟩ := datIn_pair h1
      exact .cons (.tuple (offs_good N hX hm rfl) (.cons (.int _ _) (.cons (.int _ _) .nil))) (offs_pairs N hX hr)
  | [], p :: ps, h => nomatch h
  | v :: vs, [], h => nomatch h
theorem offs_hpairs (N : News h₀ L h news) (hX : BadAt X news) : ∀ {vs : List Value} {ps : List (Nat × Nat)}, DatAll news vs (ps.map hdat) → DatAll (offs X news) vs (ps.map hdat)
  | [], [], _ => .nil
  | v :: vs, p :: ps, hD => by
    cases hD with
    | cons h1 hr =>
      obtain ⟨a, t, u, n, rfl, hm⟩ := datIn_hpair h1
      exact .cons (.tuple (offs_good N hX hm rfl) (.cons (.str _ _) (.cons (.str _ _) .nil))) (offs_hpairs N hX hr)
  | [], p :: ps, h => nomatch h
  | v :: vs, [], h => nomatch h
end
theorem strOk_chS : ∀ c ∈ [65, 66, 67, 68, 97, 98, 99, 100, 48, 49, 50, 51], PyData.strOk (chS c) = true := by decide +kernel
theorem pairs_ok (W T : List Nat) (hW : W.length ≤ 4) : ∀ i, ∀ p ∈ servePairs W T i, p.1 ∈ [65, 66, 67, 68, 97, 98, 99, 100] ∧ ∃ k, k < i ∧ p.2 = 48 + k
  | 0, _, h => nomatch h
  | i + 1, p, h => by
    rcases List.mem_append.mp (show p ∈ servePairs W T i ++ letters (oddB i) i (tookAt W T i) from h) with h | h
    · obtain ⟨h1, k, h2, h3⟩ := pairs_ok W T hW i p h
      exact ⟨h1, k, by omega, h3⟩
    · obtain ⟨r, hr, rfl⟩ := List.mem_map.mp h
      have hg := (serveRow_ok W T i).goods r (List.mem_of_mem_drop hr)
      refine ⟨?_, i, by omega, rfl⟩
      have h4 : r.2.toNat < 4 := by omega
      show (if oddB i then 65 else 97) + r.2.toNat ∈ _
      generalize r.2.toNat = g at h4
      have : g = 0 ∨ g = 1 ∨ g = 2 ∨ g = 3 := by omega
      rcases this with rfl | rfl | rfl | rfl <;> cases oddB i <;> decide
theorem hdats_ok {W T : List Nat} (hW : W.length ≤ 4) {i : Nat} (hi : i ≤ 4) : ∀ d ∈ (servePairs W T i).map hdat, kqdOk 8 d = true := by
  intro d hd
  obtain ⟨p, hp, rfl⟩ := List.mem_map.mp hd
  obtain ⟨h1, k, h2, h3⟩ := pairs_ok W T hW i p hp
  have e1 : PyData.strOk (chS p.1) = true := strOk_chS _ (List.mem_append_left [48, 49, 50, 51] h1)
  have hk : ∀ n < 4, 48 + n ∈ [65, 66, 67, 68, 97, 98, 99, 100, 48, 49, 50, 51] := by decide
  have e2 : PyData.strOk (chS p.2) = true := strOk_chS _ (h3 ▸ hk k (Nat.lt_of_lt_of_le h2 hi))
  simp [kqdOk, e1, e2]
theorem pdats_ok (l : PL) : ∀ d ∈ l.map pdat, kqdOk 8 d = true := by
  intro d hd
  obtain ⟨p, _, rfl⟩ := List.mem_map.mp hd
  exact pdat_ok p
section
variable {prog : Program} {w : World} {A : Around} {E : Value → Shared → Prop} {s : Shared} {h₀ : Heap} {L a b : Addr} {news n₁ n₂ : List (Addr × Obj)} {xs ys : List Value} {ka kb : Nat} {Q : Value → Shared → Prop}
open Classical in
theorem ne_same {ds : List Dat} (N : News h₀ L s.heap news) (ma : (a, listOf xs.toArray ka) ∈ news) (Da : DatAll n₁ xs ds) (sa : ∀ p ∈ n₁, p ∈ news) (mb : (b, listOf ys.toArray kb) ∈ news) (Db : DatAll n₂ ys ds) (sb : ∀ p ∈ n₂, p ∈ news)
    (ha : ∀ d ∈ ds, kqdOk 8 d = true) (hu : A.units + 64 < cLine) (h : Q (.bool false) s) : wpAny (model prog w) A (compareOp .NotEq (.ref a) (.ref b)) Q E s := by
  refine kqd_ne N ma rfl rfl Da sa mb rfl rfl Db sb ha ha hu ?_
  rw [decide_eq_true rfl]
  exact h
theorem ne_ints_same {ns : List Int} (N : News h₀ L s.heap news) (ma : (a, listOf xs.toArray ka) ∈ news) (hi : IntsAre xs ns) (mb : (b, listOf ys.toArray kb) ∈ news) (hj : IntsAre ys ns) (hu : A.units + 64 < cLine) (h : Q (.bool false) s) :
    wpAny (model prog w) A (compareOp .NotEq (.ref a) (.ref b)) Q E s :=
  ke_ne_ints ⟨_, (N _ ma).1, rfl, _, rfl⟩ ⟨_, (N _ mb).1, rfl, _, rfl⟩ hi hj hu (by rw [decide_eq_true rfl]; exact h)
theorem eq_ints_same {ns : List Int} (N : News h₀ L s.heap news) (ma : (a, listOf xs.toArray ka) ∈ news) (hi : IntsAre xs ns) (mb : (b, listOf ys.toArray kb) ∈ news) (hj : IntsAre ys ns) (hu : A.units + 64 < cLine) (h : Q (.bool true) s) :
    wpAny (model prog w) A (compareOp .Eq (.ref a) (.ref b)) Q E s :=
  eq_intsK ⟨_, (N _ ma).1, rfl, _, rfl⟩ hi ⟨_, (N _ mb).1, rfl, _, rfl⟩ hj hu (by rw [decide_eq_true rfl]; exact h)
theorem pow8_nat {k : Nat} {t u : Tok} (hk : k ≤ 4) (h : ∀ t', Q (.int ((8 ^ k : Nat) : Int) t') { s with toks := s.toks + 1 }) : wpAny (model prog w) A (binaryOp .Pow (.int 8 t) (.int (k : Int) u)) Q E s := by
  refine pow_int_small (by omega) (by
    have : k = 0 ∨ k = 1 ∨ k = 2 ∨ k = 3 ∨ k = 4 := by omega
    rcases this with rfl | rfl | rfl | rfl | rfl <;> decide) (by decide) ?_
  have e : ((8 : Int) ^ (k : Int).toNat) = ((8 ^ k : Nat) : Int) := by
    have e2 : ((k : Int)).toNat = k := by omega
    rw [e2]; norm_cast
  rw [e]
  exact h _
end
theorem intsAre_dats {vs : List Value} {ns : List Int} {news : List (Addr × Obj)} (h : IntsAre vs ns) : DatAll news vs (ns.map Dat.int) := by
  induction h with
  | nil => exact .nil
  | cons i t _ ih => exact .cons (.int _ _) ih

theorem trn_texts (W T : List Nat) (hW : W.length ≤ 4) (g i : Nat) : (((servePairs W T i).filter fun p => decide (lowc p.1 = 97 + g)).map fun p => Dat.str (chS p.2)) = (trn W T i g).map fun k => Dat.str (chS (48 + k)) := by
  have h := congrArg (List.map fun c => Dat.str (chS c)) (trn_pairs W T hW g i)
  rw [List.map_map, List.map_map] at h
  exact h
theorem datIn_str {news : List (Addr × Obj)} {v : Value} {x : Str} (h : DatIn news v (.str x)) : ∃ t, v = .str x t := by
  cases h with
  | str _ t => exact ⟨t, rfl⟩
/-- off the addresses X -/
noncomputable abbrev OffX (X : List Nat) (r : List (Addr × Obj)) : Prop := ∀ y ∈ X, ∀ p ∈ r, p.1 ≠ y
theorem OffX.cons {X : List Nat} {r : List (Addr × Obj)} {e : Addr × Obj} (h : OffX X r) (he : ∀ y ∈ X, e.1 ≠ y) : OffX X (e :: r) := fun y hy => List.forall_mem_cons.mpr ⟨he y hy, h y hy⟩
theorem nats_take_succ {l : List Nat} {j : Nat} (hj : j < l.length) : nats (l.take (j + 1)) = nats (l.take j) ++ [((l[j] : Nat) : Int)] := by
  rw [List.take_succ_eq_append_getElem hj, nats_append]
  rfl
theorem trn_len (W T : List Nat) (g i : Nat) : (trn W T i g).length ≤ i := by
  have h3 := trn_filter W T g i
  have h4 : (trn W T i g).length ≤ (List.range i).length := by
    rw [← h3]; exact List.length_filter_le _ _
  rwa [List.length_range] at h4
section
variable {prog : Program} {w : World} {A : Around} {E : Value → Shared → Prop} {s : Shared} {h₀ : Heap} {L a : Addr} {news : List (Addr × Obj)} {ys : List Value} {kb : Nat} {Q : Value → Shared → Prop}
open Classical in
theorem in_nats {l : List Nat} {k : Nat} {t : Tok} (N : News h₀ L s.heap news) (hm : (a, listOf ys.toArray kb) ∈ news) (hi : IntsAre ys (nats l)) (hu : A.units + 64 < cLine) (h : Q (.bool (l.contains k)) s) :
    wpAny (model prog w) A (compareOp .In (.int (k : Int) t) (.ref a)) Q E s := by
  refine kqd_isIn N hm rfl rfl (intsAre_dats (news := news) hi) (fun _ h => h) (DatIn.int (news := news) (k : Int) t) (fun _ h => h) (fun d hd => ?_) rfl hu ?_
  · obtain ⟨i, _, rfl⟩ := List.mem_map.mp hd
    rfl
  · have e : decide (Dat.int (k : Int) ∈ (nats l).map Dat.int) = l.contains k := by
      rw [Bool.eq_iff_iff, decide_eq_true_eq, List.contains_iff_mem]
      constructor
      · intro hm
        obtain ⟨i, hi, e⟩ := List.mem_map.mp hm
        obtain ⟨j, hj, rfl⟩ := List.mem_map.mp hi
        have e2 : (j : Int) = (k : Int) := Dat.int.inj e
        have : j = k := by omega
        exact this ▸ hj
      · exact fun hk => List.mem_map.mpr ⟨_, List.mem_map.mpr ⟨k, hk, rfl⟩, rfl⟩
    rw [e]; exact h
end
theorem range_filter {q : Nat → Bool} (j : Nat) : nats ((List.range (j + 1)).filter q) = nats ((List.range j).filter q) ++ (if q j = true then [(j : Int)] else []) := by
  rw [List.range_succ, List.filter_append, nats_append]
  congr 1
  cases e : q j <;> simp [e, nats]
theorem fEndD_intro {h₀ : Heap} {L I : Addr} {it : Obj} {J : (Str → Option Value) → List (Addr × Obj) → Prop} {s : Shared} {Q : Flow → Shared → Prop} {h' : Heap} {tk : Nat} {dr : Drawn} {m' : Str → Option Value} {news' : List (Addr × Obj)}
    (F : Fr h₀ L h' m') (N : News h₀ L h' ((I, it) :: news')) (off : ∀ p ∈ news', p.1 ≠ I) (hJ : J m' news') : FPostD h₀ L I it J s Q .next { s with heap := h', toks := tk, drawn := dr } := ⟨h', tk, dr, m', news', rfl, F, N, off, hJ⟩
theorem nats_sum : ∀ l : List Nat, (nats l).sum = ((l.sum : Nat) : Int)
  | [] => rfl
  | a :: l => by
    show ((a : Int) :: nats l).sum = _
    rw [List.sum_cons, nats_sum l, List.sum_cons, Int.natCast_add]
theorem dg8_lt8 : ∀ n, ∀ d ∈ dg8 n, d < 8 := by
  intro n
  induction n using Nat.strongRecOn with
  | ind n ih =>
    by_cases h : n = 0
    · subst h; rw [dg8_zero]; intro d hd; cases hd
    · rw [dg8_pos (by omega)]
      intro d hd
      rcases List.mem_cons.mp hd with rfl | hd
      · omega
      · exact ih (n / 8) (by omega) d hd
theorem givens_lt8 (n : Nat) (T : List Nat) : ∀ d ∈ (List.range (dg8 n).length).map (givenN (dg8 n) T), d < 8 := by
  intro d hd
  obtain ⟨g, hg, rfl⟩ := List.mem_map.mp hd
  have hg := List.mem_range.mp hg
  have h1 := given_le (dg8 n) T hg
  have h2 : (dg8 n).getD g 0 < 8 := by
    have e : (dg8 n).getD g 0 = (dg8 n)[g] := by simp [List.getD_eq_getElem?_getD, hg]
    rw [e]; exact dg8_lt8 n _ (List.getElem_mem hg)
  omega
section
variable {prog : Program} {w : World} {A : Around} {E : Value → Shared → Prop} {s : Shared} {Q : Value → Shared → Prop}
theorem sub_to {a b c : Int} {t u : Tok} (e : a - b = c) (h : ∀ t', Q (.int c t') { s with toks := s.toks + 1 }) : wpAny (model prog w) A (binaryOp .Sub (.int a t) (.int b u)) Q E s := by
  refine sub_int ?_
  rw [e]; exact h _
end

section
variable {prog : Program} {w : World} {A : Around} {E : Value → Shared → Prop} {s : Shared} {Q : Value → Shared → Prop}
theorem mul_to {a b c : Int} {t u : Tok} (e : a * b = c) (hb0 : 0 ≤ b) (hb : b ≤ 4096) (h : ∀ t', Q (.int c t') { s with toks := s.toks + 1 }) : wpAny (model prog w) A (binaryOp .Mult (.int a t) (.int b u)) Q E s := by
  refine mul_int ?_ (PySem.IntMulOk.of_right (PySem.intBits_le_64 (by omega) (by omega)))
  rw [e]; exact h _
end
theorem swap_nodup (W T : List Nat) (i : Nat) : ((serveRow W T i).map fun p => (p.2, p.1)).Pairwise fun p q => p ≠ q :=
  List.pairwise_map.mpr ((nodup_of_goods (serveRow_goods W T i)).imp fun h e => h (Prod.ext (Prod.mk.inj e).2 (Prod.mk.inj e).1))
theorem pow8_le4 {k : Nat} (h : k ≤ 4) : 8 ^ k ≤ 4096 := Nat.le_trans (Nat.pow_le_pow_right (by decide) h) (by decide)

end
section
noncomputable abbrev T3 (p1 p2 p3 : Array Value) (r : List (Addr × Obj)) : List (Addr × Obj) := (98, tabObj p1) :: (105, tabObj p2) :: (84, tabObj p3) :: r
noncomputable abbrev St1 := TabSt ⟨116, 4, 125, 28⟩ (Str.ofString "_int2digits.<locals>.inner")
noncomputable abbrev St2 := TabSt ⟨131, 4, 136, 55⟩ (Str.ofString "_digits2int.<locals>.inner")
noncomputable abbrev St3 := TabSt ⟨103, 4, 107, 74⟩ (Str.ofString "_str_to_int_inner.<locals>.inner")
theorem off3t {r : List (Addr × Obj)} (h1 : ∀ p ∈ r, p.1 ≠ 98) (h2 : ∀ p ∈ r, p.1 ≠ 105) (h3 : ∀ p ∈ r, p.1 ≠ 84) : OffX [98, 105, 84] r := fun y hy => by
  rcases List.mem_cons.mp hy with rfl | hy
  · exact h1
  rcases List.mem_cons.mp hy with rfl | hy
  · exact h2
  rcases List.mem_cons.mp hy with rfl | hy
  · exact h3
  cases hy
theorem c_i2d3 (w : World) (r : List (Addr × Obj)) (p1 p2 p3 : Array Value) (x : Nat) (t t3 : Tok) (hx : x < 4096) (ho : OffX [98, 105, 84] r) (hst : St1 p1 r) :
   Con w 16 200 (call (.ref 103) [.int (x : Int) t, .int 3 t3]) (T3 p1 p2 p3 r) (fun v news' => ∃ D vs n q r', v = .ref D ∧ news' = (D, listOf vs.toArray n) :: T3 q p2 p3 r' ∧ (∀ p ∈ r, p ∈ r') ∧ OffX [98, 105, 84] r' ∧ (∀ p ∈ T3 q p2 p3 r', p.1 ≠ D) ∧ St1 q r' ∧ IntsAre vs (nats (dg8 x))) := by
  intro p loose mean mg mb dp un gd cn cs a ccd cl outer A₀ base h₀ L m s Q E B F X N T' hkf hdd hu ret
  refine Con.use (c_int2digits w ((105, tabObj p2) :: (84, tabObj p3) :: r) r x t t3 p1 hx ?_ (fun p hp => .tail _ (.tail _ hp)) hst) B F X N T' hkf hdd hu ?_
  · exact List.forall_mem_cons.mpr ⟨by show @Ne Nat 105 98; decide, List.forall_mem_cons.mpr ⟨by show @Ne Nat 84 98; decide, ho 98 (by simp)⟩⟩
  rintro v h' tk news' F' N' ⟨D, vs, n, q, rest', nd', rfl, rfl, hg, h98, hst', hD98, hDr, hlt, hi⟩
  rcases hg with ⟨rfl, hnd⟩ | ⟨e, rfl, rfl, hle⟩
  · rw [hnd] at hst'
    refine ret _ _ _ _ F' (nsub N' ?_) ⟨D, vs, n, q, r, rfl, rfl, fun p hp => hp, ho, List.forall_mem_cons.mpr ⟨Nat.ne_of_lt hD98, hDr⟩, hst', hi⟩
    exact List.forall_mem_cons.mpr ⟨.tail _ (.head _), List.forall_mem_cons.mpr ⟨.head _, fun p hp => .tail _ (.tail _ hp)⟩⟩
  · refine ret _ _ _ _ F' (nsub N' ?_) ⟨D, vs, n, q, e :: r, rfl, rfl, fun p hp => .tail _ hp, OffX.cons ho ?_, ?_, hst'.mono ?_, hi⟩
    · exact List.forall_mem_cons.mpr ⟨.tail _ (.head _), List.forall_mem_cons.mpr ⟨.head _, List.forall_mem_cons.mpr ⟨.tail _ (.tail _ (.tail _ (.head _))), List.forall_mem_cons.mpr ⟨.tail _ (.tail _ (.tail _ (.tail _ (.head _)))), List.forall_mem_cons.mpr ⟨.tail _ (.tail _ (.head _)), fun p hp => .tail _ (.tail _ (.tail _ (.tail _ (.tail _ hp))))⟩⟩⟩⟩⟩
    · intro y hy
      rcases List.mem_cons.mp hy with rfl | hy
      · exact h98 e (.head _)
      rcases List.mem_cons.mp hy with rfl | hy
      · exact Nat.ne_of_gt (hle (105, _) (.head _))
      rcases List.mem_cons.mp hy with rfl | hy
      · exact Nat.ne_of_gt (hle (84, _) (.tail _ (.head _)))
      cases hy
    · exact List.forall_mem_cons.mpr ⟨Nat.ne_of_lt hD98, List.forall_mem_cons.mpr ⟨hDr (105, _) (.tail _ (.head _)), List.forall_mem_cons.mpr ⟨hDr (84, _) (.tail _ (.tail _ (.head _))), List.forall_mem_cons.mpr ⟨hDr e (.head _), fun p hp => hDr p (.tail _ (.tail _ (.tail _ hp)))⟩⟩⟩⟩
    · intro p hp
      rcases List.mem_cons.mp hp with rfl | hp
      · exact .head _
      · cases hp

end
section
theorem some_ints {vs : List Value} {ns : List Int} (h : IntsAre vs ns) : ∀ v ∈ vs, ∃ i t, v = .int i t := by
  induction h with
  | nil => intro v hv; cases hv
  | cons i t _ ih =>
    intro v hv
    rcases List.mem_cons.mp hv with rfl | hv
    · exact ⟨i, t, rfl⟩
    · exact ih v hv
theorem ints_some : ∀ {ws : List Value}, (∀ v ∈ ws, ∃ i t, v = .int i t) → ∃ ms, IntsAre ws ms
  | [], _ => ⟨[], .nil⟩
  | v :: ws, h => by
    obtain ⟨i, t, rfl⟩ := h v (.head _)
    obtain ⟨ms, hm⟩ := ints_some (ws := ws) fun v hv => h v (.tail _ hv)
    exact ⟨i :: ms, .cons _ _ hm⟩
theorem pick_ints {vs : List Value} {ns : List Int} (h : IntsAre vs ns) (lo hi st : Option Int) : ∃ ms, IntsAre (slicePick vs.toArray lo hi st).toList ms := by
  refine ints_some fun v hv => some_ints h v ?_
  unfold slicePick at hv
  obtain ⟨i, _, hi⟩ := List.mem_filterMap.mp hv
  have h2 := Array.mem_of_getElem? hi
  simpa using h2
section
variable {prog : Program} {w : World} {A : Around} {E : Value → Shared → Prop} {s : Shared} {h₀ : Heap} {L l : Addr} {m : Str → Option Value} {news : List (Addr × Obj)} {value slice : PySem.Expr} {vs : List Value} {ns : List Int} {vl vu vk : Value} {lo hi st : Option Int} {ops : List Value} {Q : Value → Shared → Prop}
theorem slice_step (F : Fr h₀ L s.heap m) (N : News h₀ L s.heap news) (hl : s.heap.IsList l vs.toArray) (pl : IsPart vl lo) (pu : IsPart vu hi) (pk : IsPart vk st) (h0 : st ≠ some 0) (hi' : IntsAre vs ns)
    (h : ∀ D ws ms h', Fr h₀ L h' m → News h₀ L h' ((D, listOf (List.toArray ws) 0) :: news) → (∀ p ∈ news, p.1 < D) → IntsAre ws ms → Q (.ref D) { s with heap := h' })
    (hs : subscripted slice false (.ref l) (.ref s.heap.objs.size) = operate ops (getItem (.ref l) (.ref s.heap.objs.size))) (ht : ∀ r, letTemporaryGo value (.ref l) r = pure ()) (hz : vs.toArray.size ≤ sizeLine) :
    wpAny (model prog w) A (subscriptTail value slice (.ref l) (.ref s.heap.objs.size)) Q E { s with heap := s.heap.push { cls := .type "slice", data := .fields #[vl, vu, vk] } } := by
  obtain ⟨ms, hm⟩ := pick_ints hi' lo hi st
  refine slice_list3 F N hl pl pu pk h0 (fun h' F' N' => h _ (slicePick vs.toArray lo hi st).toList ms h' F' ?_ (fun p hp => Nat.lt_succ_of_lt (Heap.lt_size (N p hp).1)) hm) hs ht hz
  rw [Array.toArray_toList]
  exact N'
theorem mod_cap {a b : Int} {t u : Tok} (e : b = 4096) (h : ∀ (x : Nat) t' tk', x < 4096 → Q (.int (x : Int) t') { s with toks := tk' }) : wpAny (model prog w) A (binaryOp .Mod (.int a t) (.int b u)) Q E s := by
  subst e
  refine mod_int (by decide) ?_
  have e : a.fmod 4096 = ((a.emod 4096).toNat : Int) := by
    rw [Int.fmod_eq_emod_of_nonneg _ (by decide)]
    exact (Int.toNat_of_nonneg (Int.emod_nonneg _ (by decide))).symm
  rw [e]
  refine h _ _ _ ?_
  have := Int.emod_lt_of_pos a (show (0 : Int) < 4096 by decide)
  have h2 : a.emod 4096 < 4096 := this
  omega
end

end
section
section
local macro_rules | `(tactic| walk_at $k:str) => tabl [("call ref", "ST"), ("newList", "ST"), ("newTuple", "ST"), ("compareOp NotEq ref ref", "ST"), ("compareOp Eq ref ref", "ST"), ("subscriptTail", "SB"), ("call builtin:chr", "ST"), ("call builtin:sorted", "ST"), ("call builtin:sum", "ST"), ("call builtin:len", "LN"), ("eval ListComp", "ST"), ("exec Assign cons ListComp", "ST"), ("compareOp In", "ST"), ("compareOp In int ref", "ST"), ("binaryOp Sub int int", "ST"), ("binaryOp Pow int int", "ST"), ("binaryOp Mult int int", "ST")] k
local macro_rules | `(tactic| walk_at "for_line") => `(tactic| (k_here; k_dflt (refine' For_D ?_ ?hs; (case hs => (intro _; rfl)))))
local macro_rules | `(tactic| walk_at "pyIter ref") => `(tactic| refine stop_ ?_)
set_option maxHeartbeats 20000000 in
theorem c_holds (w : World) (rest : List (Addr × Obj)) (p1 p2 p3 : Array Value) (x : Nat) (tx : Tok) (wl tl : Addr) (wvs tvs : List Value) (wn tn : Nat) (T : List Nat) (hx : x < 4096)
   (hw : (wl, listOf wvs.toArray wn) ∈ rest) (ht : (tl, listOf tvs.toArray tn) ∈ rest) (hW : IntsAre wvs (nats (dg8 x))) (hT : IntsAre tvs (nats T)) (hTl : T.length ≤ 4)
   (hr1 : ∀ p ∈ rest, p.1 ≠ 98) (hr2 : ∀ p ∈ rest, p.1 ≠ 105) (hr3 : ∀ p ∈ rest, p.1 ≠ 84) (s1 : St1 p1 rest) (s2 : St2 p2 rest) (s3 : St3 p3 rest) :
   ConD w 40 500 (call (.ref 296) [.int (x : Int) tx, .ref wl, .ref tl]) (T3 p1 p2 p3 rest) (fun r news' => r = .bool true ∧ ∃ p1' p2' p3' rest', news' = T3 p1' p2' p3' rest' ∧ (∀ p ∈ rest, p ∈ rest') ∧ (∀ p ∈ rest', p.1 ≠ 98) ∧ (∀ p ∈ rest', p.1 ≠ 105) ∧ (∀ p ∈ rest', p.1 ≠ 84) ∧ St1 p1' rest' ∧ St2 p2' rest' ∧ St3 p3' rest') := by
  intro p loose mean mg mb dp un gd cn cs a ccd cl outer A₀ base h₀ L m s Q E B F X N T' hkf hdd hu ret
  have hWv : wvs.length = (dg8 x).length := by rw [hW.length]; simp
  have hTv : tvs.length = T.length := by rw [hT.length]; simp
  have hWl := dg8_len 4 x hx
  refine wpAny_call ?_
  refine' code_defC ?k1 ?k2 ?k3 ?k4 ?k5 ?kA ?kF ?kK ?k6 ?k7 ?k8 ?k9 ?kB ?kD ?_ ?c2 ?c3 ?c4
  case kA => exact rfl
  case kF => exact rfl
  case kK => assumption
  case k1 => k_asm
  case k2 => k_asm
  case k3 => k_asm
  case k4 => k_asm
  case k5 => k_asm
  case k6 => k_is
  case k7 => k_is
  case k8 => first | k_room | ktr_room
  case k9 => exact BindsTo.of_eq rfl
  case kB => exact rfl
  case kD => decide +kernel
  case c2 => exact rfl
  case c3 => exact rfl
  case c4 => exact rfl
  k_whole
  intro g' L' h' tk' cells' FG' F' N' Y' B' X' T2 l1
  obtain ⟨oWa, oTu, hE, d1, d2⟩ := PyProof.Rows.CellsAre.two Y'
  subst hE
  clear Y'
  replace d1 : oWa.data = .cell none := by with_unfolding_all exact d1
  replace d2 : oTu.data = .cell none := by with_unfolding_all exact d2
  replace F' : Fr g' L' h' (fun z => if z = Str.ofString "takes" then some (.ref tl) else if z = Str.ofString "wants" then some (.ref wl) else if z = Str.ofString "number" then some (.int (x : Int) tx) else none) := by with_unfolding_all exact F'
  simp only [List.cons_append, List.nil_append] at N'
  try dsimp only
  try k_lift B'
  try k_fold
  (k_steps; repeat' ((unfold Stop; first | (refine wpAny_Assign_Name ?_)); k_steps))
  unfold Stop
  have l1' : ∀ p ∈ T3 p1 p2 p3 rest, @LT.lt Nat _ p.1 L' := l1
  k_dflt (refine Con.use (c_serve w _ wl tl wvs tvs wn tn (dg8 x) T ?_ ?_ hW hT hWl hTl) (by k_asm) (by k_asm) (by k_asm) (by exact N') (by k_asm) (by (first | exact rfl | assumption)) (by ((try dsimp only [ktrTop]); omega)) (by ((try simp only [units_in1, units_deeper, Around.mark_units, units_caller]); (try dsimp only [ktrTop]); omega)) ?_)
  · exact .tail _ (.tail _ (.tail _ (.tail _ (.tail _ hw))))
  · exact .tail _ (.tail _ (.tail _ (.tail _ (.tail _ ht))))
  rintro _ h1 tk1 n1 F1 N1 ⟨r0, row, xt, d, hl, tkx, vs, n, hvs, hn, rfl, hsub1, hm0, hmr, hmx, hmd, hml, hD, hH⟩
  (k_steps; repeat' ((unfold Stop; first | (refine wpAny_Assign_Name ?_)); k_steps))
  unfold Stop
  k_dflt (refine Con.use (c_plain w n1 wl tl wvs tvs wn tn (dg8 x) T (hsub1 _ (.tail _ (.tail _ (.tail _ (.tail _ (.tail _ hw)))))) (hsub1 _ (.tail _ (.tail _ (.tail _ (.tail _ (.tail _ ht)))))) hW hT hWl hTl) (by k_asm) (by k_asm) (by k_asm) (by k_asm) (by k_asm) (by (first | exact rfl | assumption)) (by ((try dsimp only [ktrTop]); omega)) (by ((try simp only [units_in1, units_deeper, Around.mark_units, units_caller]); (try dsimp only [ktrTop]); omega)) ?_)
  rintro _ h2 tk2 n2 F2 N2 ⟨r1, row2, pl, vs2, c2, pvs, pn, rfl, hsub2, hm1, hmr2, hmp, hD2, hH2⟩
  have hmr' := hsub2 _ hmr
  have hmx' := hsub2 _ hmx
  have hmd' := hsub2 _ hmd
  have hml' := hsub2 _ hml
  have hD' := hD.mono hsub2
  have hH' := hH.mono hsub2
  have hsub : ∀ p ∈ (L' + 1 + 1, oWa) :: (L' + 1, oTu) :: T3 p1 p2 p3 rest, p ∈ n2 := fun p hp => hsub2 p (hsub1 p hp)
  have hwn := hsub _ (.tail _ (.tail _ (.tail _ (.tail _ (.tail _ hw)))))
  have htn := hsub _ (.tail _ (.tail _ (.tail _ (.tail _ (.tail _ ht)))))
  have hpl : (servePairs (dg8 x) T T.length).length ≤ 16 := by
    have h0 := given_sum (dg8 x) T hWl
    have h1 : ∀ l : List Nat, ((l.map (givenN (dg8 x) T)).sum) ≤ 4 * l.length := by
      intro l
      induction l with
      | nil => exact Nat.le_refl _
      | cons g l ih =>
        have h2 : givenN (dg8 x) T g ≤ 4 := by
          exact Nat.le_trans (trn_len _ _ _ _) hTl
        rw [List.map_cons, List.sum_cons, List.length_cons]
        omega
    have h2 := h1 (List.range (dg8 x).length)
    rw [List.length_range] at h2
    omega
  have hhl : hvs.length = (servePairs (dg8 x) T T.length).length := DatAll.len2 hH'
  have hpvl : pvs.length = (servePairs (dg8 x) T T.length).length := DatAll.len2 hH2
  clear hsub1 hsub2 hmr hmx hmd hml hD hH hm0
  (k_steps; repeat' ((unfold Stop; first | (refine wpAny_Assign_Name ?_)); k_steps))
  unfold Stop
  k_dflt (refine Con.use (c_items w n2 xt d hl tkx hvs hn hmx' hmd' hml' (by omega)) (by k_asm) (by k_asm) (by k_asm) (by k_asm) (by k_asm) (by (first | exact rfl | assumption)) (by ((try dsimp only [ktrTop]); omega)) (by ((try simp only [units_in1, units_deeper, Around.mark_units, units_caller]); (try dsimp only [ktrTop]); omega)) ?_)
  rintro _ h3 tk3 _ F3 N3 ⟨D3, rfl, rfl, l3⟩
  (k_steps; repeat' ((unfold Stop; first | (refine wpAny_Assign_Name ?_)); k_steps))
  unfold Stop
  k_dflt (refine Con.use (c_leastCut w _ wl tl wvs tvs wn tn (dg8 x) T (.tail _ hwn) (.tail _ htn) hW hT hWl hTl) (by k_asm) (by k_asm) (by k_asm) (by exact N3) (by k_asm) (by (first | exact rfl | assumption)) (by ((try dsimp only [ktrTop]); omega)) (by ((try simp only [units_in1, units_deeper, Around.mark_units, units_caller]); (try dsimp only [ktrTop]); omega)) ?_)
  rintro _ h4 tk4 n4 F4 N4 ⟨hsub4, cc, tc, rfl, hc1, hc2⟩
  replace N4 : News g' L' h4 n2 := nsub N4 fun p hp => hsub4 _ (.tail _ hp)
  obtain rfl := least_cut hc1 hc2
  clear hc1 hc2 hsub4
  (k_steps; repeat' ((unfold Stop; first | (refine wpAny_Assign_Name ?_)); k_steps))
  · exfalso; omega
  unfold Stop
  refine ne_same (by k_asm) hmr' hD' (fun p hp => hp) hmr2 hD2 (fun p hp => hp) (pdats_ok _) (by ((try simp only [units_in1, units_deeper, Around.mark_units, units_caller]); (try dsimp only [ktrTop]); omega)) ?_
  (k_steps; repeat' ((unfold Stop; first | (refine wpAny_Assign_Name ?_)); k_steps))
  unfold Stop
  k_dflt (refine Con.use (c_items w n2 xt d hl tkx hvs hn hmx' hmd' hml' (by omega)) (by k_asm) (by k_asm) (by k_asm) (by k_asm) (by k_asm) (by (first | exact rfl | assumption)) (by ((try dsimp only [ktrTop]); omega)) (by ((try simp only [units_in1, units_deeper, Around.mark_units, units_caller]); (try dsimp only [ktrTop]); omega)) ?_)
  rintro _ h5 tk5 _ F5 N5 ⟨D5, rfl, rfl, l5⟩
  (k_steps; repeat' ((unfold Stop; first | (refine wpAny_Assign_Name ?_)); k_steps))
  unfold Stop
  refine ne_same N5 (.head _) hH' (fun p hp => .tail _ hp) (.tail _ hmp) hH2 (fun p hp => .tail _ hp) (hdats_ok hWl hTl) (by ((try simp only [units_in1, units_deeper, Around.mark_units, units_caller]); (try dsimp only [ktrTop]); omega)) ?_
  (k_steps; repeat' ((unfold Stop; first | (refine wpAny_Assign_Name ?_)); k_steps))
  unfold Stop
  have hX : BadAt [L' + 1, L' + 1 + 1, 98, 105, 84] n2 := by
    intro y hy
    have hb1 : badO oTu = true := by unfold badO; rw [d2]
    have hb2 : badO oWa = true := by unfold badO; rw [d1]
    rcases List.mem_cons.mp hy with rfl | hy
    · exact ⟨oTu, hsub _ (.tail _ (.head _)), hb1⟩
    rcases List.mem_cons.mp hy with rfl | hy
    · exact ⟨oWa, hsub _ (.head _), hb2⟩
    rcases List.mem_cons.mp hy with rfl | hy
    · exact ⟨_, hsub _ (.tail _ (.tail _ (.head _))), rfl⟩
    rcases List.mem_cons.mp hy with rfl | hy
    · exact ⟨_, hsub _ (.tail _ (.tail _ (.tail _ (.head _)))), rfl⟩
    rcases List.mem_cons.mp hy with rfl | hy
    · exact ⟨_, hsub _ (.tail _ (.tail _ (.tail _ (.tail _ (.head _))))), rfl⟩
    · cases hy
  have N2b : News g' L' h5 n2 := nsub N5 fun p hp => .tail _ hp
  obtain ⟨R, hR, hrest, hmr, hmx, hmd, hml, hmpl, hDr, hDh, N6⟩ : ∃ R : List (Addr × Obj), (∀ y ∈ [L' + 1, L' + 1 + 1, 98, 105, 84], ∀ p ∈ R, p.1 ≠ y) ∧ (∀ p ∈ rest, p ∈ R) ∧ (row, listOf vs.toArray n) ∈ R ∧ (xt, instObj 254 d) ∈ R ∧ (d, hdict w hl tkx) ∈ R ∧ (hl, listOf hvs.toArray hn) ∈ R ∧ (pl, listOf pvs.toArray pn) ∈ R ∧
      DatAll R vs ((serveRow (dg8 x) T T.length).map pdat) ∧ DatAll R hvs ((servePairs (dg8 x) T T.length).map hdat) ∧ News g' L' h5 ((L' + 1 + 1, oWa) :: (L' + 1, oTu) :: T3 p1 p2 p3 R) := by
    refine ⟨offs [L' + 1, L' + 1 + 1, 98, 105, 84] n2, fun y hy => offs_ne hy, fun p hp => offs_mem (hsub _ (.tail _ (.tail _ (.tail _ (.tail _ (.tail _ hp)))))) ?_, offs_good N2b hX hmr' rfl, offs_good N2b hX hmx' rfl, offs_good N2b hX hmd' rfl, offs_good N2b hX hml' rfl, offs_good N2b hX hmp rfl, offs_pairs N2b hX hD', offs_hpairs N2b hX hH', nsub N2b ?_⟩
    · have hlt : @LT.lt Nat _ p.1 L' := l1' p (.tail _ (.tail _ (.tail _ hp)))
      intro y hy
      rcases List.mem_cons.mp hy with rfl | hy
      · exact Nat.ne_of_lt (Nat.lt_succ_of_lt hlt)
      rcases List.mem_cons.mp hy with rfl | hy
      · exact Nat.ne_of_lt (Nat.lt_succ_of_lt (Nat.lt_succ_of_lt hlt))
      rcases List.mem_cons.mp hy with rfl | hy
      · exact hr1 p hp
      rcases List.mem_cons.mp hy with rfl | hy
      · exact hr2 p hp
      rcases List.mem_cons.mp hy with rfl | hy
      · exact hr3 p hp
      · cases hy
    · exact List.forall_mem_cons.mpr ⟨hsub _ (.head _), List.forall_mem_cons.mpr ⟨hsub _ (.tail _ (.head _)), List.forall_mem_cons.mpr ⟨hsub _ (.tail _ (.tail _ (.head _))), List.forall_mem_cons.mpr ⟨hsub _ (.tail _ (.tail _ (.tail _ (.head _)))), List.forall_mem_cons.mpr ⟨hsub _ (.tail _ (.tail _ (.tail _ (.tail _ (.head _))))), fun p hp => offs_sub p hp⟩⟩⟩⟩⟩
  have b1 : @LT.lt Nat _ 98 L' := l1' (98, _) (.head _)
  have b2 : @LT.lt Nat _ 105 L' := l1' (105, _) (.tail _ (.head _))
  have b3 : @LT.lt Nat _ 84 L' := l1' (84, _) (.tail _ (.tail _ (.head _)))
  have hwR := hrest _ hw
  have htR := hrest _ ht
  have s1R := s1.mono hrest
  have s2R := s2.mono hrest
  have s3R := s3.mono hrest
  clear hsub hX hmr' hmx' hmd' hml' hmp hD' hH' hwn htn hm1 hmr2 hD2 hH2 N5 N2b l3 l5 hw ht s1 s2 s3
  refine newList_K (by k_asm) N6 ?_
  intro gl h7 F7 N7 l7
  have lg : @LT.lt Nat _ (L' + 1 + 1) gl := l7 (L' + 1 + 1, _) (.head _)
  have lgR : ∀ p ∈ R, p.1 ≠ gl := fun p hp => Nat.ne_of_lt (l7 p (.tail _ (.tail _ (.tail _ (.tail _ (.tail _ hp))))))
  (k_steps; repeat' ((unfold Stop; first | (refine wpAny_Assign_Name ?_)); k_steps))
  unfold Stop
  refine for_rangeDM (n := (dg8 x).length) (fun m₀ i m' nw => ∃ gvs gn oT vT p3' R', IsOv ["good"] m₀ m' ∧ nw = (gl, listOf gvs.toArray gn) :: (L' + 1 + 1, oWa) :: (L' + 1, oT) :: T3 p1 p2 p3' R' ∧ oT.data = .cell vT ∧ (∀ p ∈ R, p ∈ R') ∧ OffX [gl, L' + 1, L' + 1 + 1, 98, 105, 84] R' ∧ St3 p3' R' ∧ IntsAre gvs (nats ((List.range i).map (givenN (dg8 x) T))))
    ?hE rfl ‹IsRange _ _ _ _ _ _ _ _› (by omega) (by omega) (by k_asm) (by k_asm) ?h0 ?turn ?done
  case hE => passes_own
  case h0 =>
    refine ⟨[], 0, oTu, none, p3, R, IsOv.refl _ _, rfl, d2, fun p hp => hp, ?_, s3R, .nil⟩
    exact List.forall_mem_cons.mpr ⟨lgR, hR⟩
  case turn =>
    rintro I i t m1 nw h8 tk8 dr8 it hi ⟨gvs, gn, oT, vT, p3', R', ⟨u, rfl⟩, rfl, dT, hRR, hOff, s3', hG⟩ off F8 N8
    have hgvl : gvs.length = i := by rw [hG.length]; simp
    have hI : ∀ y ∈ [gl, L' + 1 + 1, L' + 1, 98, 105, 84], @Ne Nat y I := by
      intro y hy
      rcases List.mem_cons.mp hy with rfl | hy
      · exact off _ (.head _)
      rcases List.mem_cons.mp hy with rfl | hy
      · exact off _ (.tail _ (.head _))
      rcases List.mem_cons.mp hy with rfl | hy
      · exact off _ (.tail _ (.tail _ (.head _)))
      rcases List.mem_cons.mp hy with rfl | hy
      · exact off (98, _) (.tail _ (.tail _ (.tail _ (.head _))))
      rcases List.mem_cons.mp hy with rfl | hy
      · exact off (105, _) (.tail _ (.tail _ (.tail _ (.tail _ (.head _)))))
      rcases List.mem_cons.mp hy with rfl | hy
      · exact off (84, _) (.tail _ (.tail _ (.tail _ (.tail _ (.tail _ (.head _))))))
      · cases hy
    have hIR : ∀ p ∈ R', p.1 ≠ I := fun p hp => off p (.tail _ (.tail _ (.tail _ (.tail _ (.tail _ (.tail _ hp))))))
    (k_steps; repeat' ((unfold Stop; first | (refine wpAny_Assign_Name ?_)); k_steps))
    have hxF : (xt, instObj 254 d) ∈ (I, it) :: (gl, listOf gvs.toArray gn) :: (L' + 1 + 1, oWa) :: (L' + 1, oT) :: T3 p1 p2 p3' R' := .tail _ (.tail _ (.tail _ (.tail _ (.tail _ (.tail _ (.tail _ (hRR _ hmx)))))))
    have hdF : (d, hdict w hl tkx) ∈ (I, it) :: (gl, listOf gvs.toArray gn) :: (L' + 1 + 1, oWa) :: (L' + 1, oT) :: T3 p1 p2 p3' R' := .tail _ (.tail _ (.tail _ (.tail _ (.tail _ (.tail _ (.tail _ (hRR _ hmd)))))))
    unfold Stop
    k_dflt (refine ListComp_D (by k_asm) (by with_unfolding_all rfl) (by decide) (by rfl) (by decide) (by rfl) ?_)
    (k_steps; repeat' ((unfold Stop; first | (refine wpAny_Assign_Name ?_)); k_steps))
    unfold Stop
    refine chr_nat (c := 65 + i) (by omega) (by omega) ?_
    (k_steps; repeat' ((unfold Stop; first | (refine wpAny_Assign_Name ?_)); k_steps))
    unfold Stop
    k_dflt (refine Con.use (c_getAll w _ R' xt d hl tkx hvs hn i _ (servePairs (dg8 x) T T.length) (by omega) hxF (.tail _ (.tail _ (.tail _ (.tail _ (.tail _ (.tail _ (.tail _ (hRR _ hmd))))))))  (.tail _ (.tail _ (.tail _ (.tail _ (.tail _ (.tail _ (.tail _ (hRR _ hml)))))))) (fun p hp => .tail _ (.tail _ (.tail _ (.tail _ (.tail _ (.tail _ (.tail _ hp))))))) (hDh.mono hRR) (fun p hp => (pairs_ok _ T hWl _ p hp).1) (by omega)) (by k_asm) (by k_asm) (by k_asm) (by k_asm) (by k_asm) (by (first | exact rfl | assumption)) (by ((try dsimp only [ktrTop]); omega)) (by ((try simp only [units_in1, units_deeper, Around.mark_units, units_caller]); (try dsimp only [ktrTop]); omega)) ?_)
    rintro _ h9 tk9 _ F9 N9 ⟨D, us, uc, rfl, rfl, hDne, hDu⟩
    rw [trn_texts _ T hWl] at hDu
    have hul : us.length = (trn (dg8 x) T T.length i).length := by rw [hDu.length, List.length_map]
    (k_steps; repeat' ((unfold Stop; first | (refine wpAny_Assign_Name ?_)); k_steps))
    have htl := trn_len (dg8 x) T i T.length
    have m84 : ∀ q R2, ((84 : Addr), tabObj q) ∈ (D, listOf us.toArray uc) :: (I, it) :: (gl, listOf gvs.toArray gn) :: (L' + 1 + 1, oWa) :: (L' + 1, oT) :: T3 p1 p2 q R2 := fun q R2 => .tail _ (.tail _ (.tail _ (.tail _ (.tail _ (.tail _ (.tail _ (.head _)))))))
    have hD98 : @Ne Nat 98 D := hDne (98, tabObj p1) (.tail _ (.tail _ (.tail _ (.tail _ (.head _)))))
    have hD105 : @Ne Nat 105 D := hDne (105, tabObj p2) (.tail _ (.tail _ (.tail _ (.tail _ (.tail _ (.head _))))))
    have hD84 : @Ne Nat 84 D := hDne (84, tabObj p3') (.tail _ (.tail _ (.tail _ (.tail _ (.tail _ (.tail _ (.head _)))))))
    have hDI : @Ne Nat I D := hDne (I, it) (.head _)
    have hDg : @Ne Nat gl D := hDne (gl, _) (.tail _ (.head _))
    have hDL2 : @Ne Nat (L' + 1 + 1) D := hDne (L' + 1 + 1, _) (.tail _ (.tail _ (.head _)))
    have hDL1 : @Ne Nat (L' + 1) D := hDne (L' + 1, _) (.tail _ (.tail _ (.tail _ (.head _))))
    have hDR : ∀ p ∈ R', p.1 ≠ D := fun p hp => hDne p (.tail _ (.tail _ (.tail _ (.tail _ (.tail _ (.tail _ (.tail _ hp)))))))
    have hI1 : @Ne Nat gl I := hI _ (.head _)
    have hI2 : @Ne Nat (L' + 1 + 1) I := hI _ (.tail _ (.head _))
    have hI3 : @Ne Nat (L' + 1) I := hI _ (.tail _ (.tail _ (.head _)))
    have hI4 : @Ne Nat 98 I := hI _ (.tail _ (.tail _ (.tail _ (.head _))))
    have hI5 : @Ne Nat 105 I := hI _ (.tail _ (.tail _ (.tail _ (.tail _ (.head _)))))
    have hI6 : @Ne Nat 84 I := hI _ (.tail _ (.tail _ (.tail _ (.tail _ (.tail _ (.head _))))))
    refine ⟨D, us, uc, (D, listOf us.toArray uc) :: (I, it) :: (gl, listOf gvs.toArray gn) :: (L' + 1 + 1, oWa) :: (L' + 1, oT) :: T3 p1 p2 p3' R',
      fun j ys nw => ∃ q R2, nw = (D, listOf us.toArray uc) :: (I, it) :: (gl, listOf gvs.toArray gn) :: (L' + 1 + 1, oWa) :: (L' + 1, oT) :: T3 p1 p2 q R2 ∧ (∀ p ∈ R', p ∈ R2) ∧ OffX [D, I, gl, L' + 1, L' + 1 + 1, 98, 105, 84] R2 ∧ St3 q R2 ∧ IntsAre ys (nats ((trn (dg8 x) T T.length i).take j)),
      rfl, rfl, by k_asm, by k_asm, by omega, ⟨p3', R', rfl, fun p hp => hp, ?o0, s3', .nil⟩, ?mem, ?turnC, ?finC⟩
    case o0 => exact List.forall_mem_cons.mpr ⟨hDR, List.forall_mem_cons.mpr ⟨hIR, hOff⟩⟩
    case mem =>
      rintro j ys nw ⟨q, R2, rfl, -⟩
      exact .head _
    case turnC =>
      rintro j v Ic oI C oC D' m₂ ys nw h tk dr E' hv ⟨q, R2, rfl, hRR2, hOff2, sq, hys⟩ hC hx2 F10 N10 off3 hne
      obtain ⟨hj, hdv⟩ := DatAll.at hDu hv
      obtain ⟨tv, rfl⟩ := datIn_str hdv
      have hk4 := trn_lt (dg8 x) T i T.length _ (List.getElem_mem hj)
      have off4 := off3.mem
      (k_steps; repeat' ((unfold Stop; first | (refine wpAny_Assign_Name ?_)); k_steps))
      unfold Stop
      have hj4 : (trn (dg8 x) T T.length i)[j] < 4 := by omega
      k_dflt (refine ConD.use (c_intFromStr w _ R2 (48 + (trn (dg8 x) T T.length i)[j]) _ q (by first | exact memU (by omega) | exact memL (by omega) | exact memD (by omega)) ?hr84 ?hndR sq) (by k_asm) (by k_asm) (by k_asm) (npick (D := 84) N10 (.tail (.tail (.tail (.tail (.tail (.tail (.tail (.tail (.tail (.tail .head))))))))))) (by k_asm) (by (first | exact rfl | assumption)) (by ((try dsimp only [ktrTop]); omega)) (by ((try simp only [units_in1, units_deeper, Around.mark_units, units_caller]); (try dsimp only [ktrTop]); omega)) ?retC)
      case hr84 =>
        have h1 := off4 _ (m84 q R2)
        exact List.forall_mem_cons.mpr ⟨Ne.symm h1.1, List.forall_mem_cons.mpr ⟨Ne.symm h1.2.1, List.forall_mem_cons.mpr ⟨Ne.symm h1.2.2, List.forall_mem_cons.mpr ⟨Ne.symm hD84, List.forall_mem_cons.mpr ⟨Ne.symm hI6, List.forall_mem_cons.mpr ⟨by show @Ne Nat gl 84; omega, List.forall_mem_cons.mpr ⟨by show @Ne Nat (L' + 1 + 1) 84; omega, List.forall_mem_cons.mpr ⟨by show @Ne Nat (L' + 1) 84; omega, List.forall_mem_cons.mpr ⟨by show @Ne Nat 98 84; decide, List.forall_mem_cons.mpr ⟨by show @Ne Nat 105 84; decide, hOff2 84 (by simp)⟩⟩⟩⟩⟩⟩⟩⟩⟩⟩
      case hndR => exact fun p hp => .tail _ (.tail _ (.tail _ (.tail _ (.tail _ (.tail _ (.tail _ (.tail _ (.tail _ (.tail _ hp)))))))))
      case retC =>
        rintro _ h11 tk11 dr11 n11 F11 N11 ⟨t11, q', rest', nd', rfl, rfl, hg, h84, st11⟩
        obtain ⟨R3, hR3, hOff3, st3, off12, N12⟩ : ∃ R3, (∀ p ∈ R2, p ∈ R3) ∧ OffX [D, I, gl, L' + 1, L' + 1 + 1, 98, 105, 84] R3 ∧ St3 q' R3 ∧ (∀ p ∈ R3, p.1 ≠ Ic ∧ p.1 ≠ C ∧ p.1 ≠ D') ∧ News g' L' h11 ((Ic, oI) :: (C, oC) :: (D', LCg.lst ys) :: (D, listOf us.toArray uc) :: (I, it) :: (gl, listOf gvs.toArray gn) :: (L' + 1 + 1, oWa) :: (L' + 1, oT) :: T3 p1 p2 q' R3) := by
          have offR2 : ∀ p ∈ R2, p.1 ≠ Ic ∧ p.1 ≠ C ∧ p.1 ≠ D' := fun p hp => off4 p (.tail _ (.tail _ (.tail _ (.tail _ (.tail _ (.tail _ (.tail _ (.tail _ hp))))))))
          rcases hg with ⟨rfl, hnd'⟩ | ⟨e, rfl, hnd', hlt⟩ <;> rw [hnd'] at st11
          · refine ⟨R2, fun p hp => hp, hOff2, st11, offR2, nsub N11 ?_⟩
            exact List.forall_mem_cons.mpr ⟨.tail _ (.head _), List.forall_mem_cons.mpr ⟨.tail _ (.tail _ (.head _)), List.forall_mem_cons.mpr ⟨.tail _ (.tail _ (.tail _ (.head _))), List.forall_mem_cons.mpr ⟨.tail _ (.tail _ (.tail _ (.tail _ (.head _)))), List.forall_mem_cons.mpr ⟨.tail _ (.tail _ (.tail _ (.tail _ (.tail _ (.head _))))), List.forall_mem_cons.mpr ⟨.tail _ (.tail _ (.tail _ (.tail _ (.tail _ (.tail _ (.head _)))))), List.forall_mem_cons.mpr ⟨.tail _ (.tail _ (.tail _ (.tail _ (.tail _ (.tail _ (.tail _ (.head _))))))), List.forall_mem_cons.mpr ⟨.tail _ (.tail _ (.tail _ (.tail _ (.tail _ (.tail _ (.tail _ (.tail _ (.head _)))))))), List.forall_mem_cons.mpr ⟨.tail _ (.tail _ (.tail _ (.tail _ (.tail _ (.tail _ (.tail _ (.tail _ (.tail _ (.head _))))))))), List.forall_mem_cons.mpr ⟨.tail _ (.tail _ (.tail _ (.tail _ (.tail _ (.tail _ (.tail _ (.tail _ (.tail _ (.tail _ (.head _)))))))))), List.forall_mem_cons.mpr ⟨.head _, fun p hp => .tail _ (.tail _ (.tail _ (.tail _ (.tail _ (.tail _ (.tail _ (.tail _ (.tail _ (.tail _ (.tail _ hp))))))))))⟩⟩⟩⟩⟩⟩⟩⟩⟩⟩⟩
          · refine ⟨e :: R2, fun p hp => .tail _ hp, hOff2.cons ?_, st11.mono (fun p hp => by rcases List.mem_cons.mp hp with rfl | hp; exact .head _; exact absurd hp List.not_mem_nil), List.forall_mem_cons.mpr ⟨⟨Nat.ne_of_gt (hlt (Ic, _) (.head _)), Nat.ne_of_gt (hlt (C, _) (.tail _ (.head _))), Nat.ne_of_gt (hlt (D', _) (.tail _ (.tail _ (.head _))))⟩, offR2⟩, nsub N11 ?_⟩
            · intro y hy
              rcases List.mem_cons.mp hy with rfl | hy
              · exact Nat.ne_of_gt (hlt (y, _) (.tail _ (.tail _ (.tail _ (.head _)))))
              rcases List.mem_cons.mp hy with rfl | hy
              · exact Nat.ne_of_gt (hlt (y, _) (.tail _ (.tail _ (.tail _ (.tail _ (.head _))))))
              rcases List.mem_cons.mp hy with rfl | hy
              · exact Nat.ne_of_gt (hlt (y, _) (.tail _ (.tail _ (.tail _ (.tail _ (.tail _ (.head _)))))))
              rcases List.mem_cons.mp hy with rfl | hy
              · exact Nat.ne_of_gt (hlt (L' + 1, _) (.tail _ (.tail _ (.tail _ (.tail _ (.tail _ (.tail _ (.tail _ (.head _)))))))))
              rcases List.mem_cons.mp hy with rfl | hy
              · exact Nat.ne_of_gt (hlt (L' + 1 + 1, _) (.tail _ (.tail _ (.tail _ (.tail _ (.tail _ (.tail _ (.head _))))))))
              rcases List.mem_cons.mp hy with rfl | hy
              · exact Nat.ne_of_gt (hlt (98, _) (.tail _ (.tail _ (.tail _ (.tail _ (.tail _ (.tail _ (.tail _ (.tail _ (.head _))))))))))
              rcases List.mem_cons.mp hy with rfl | hy
              · exact Nat.ne_of_gt (hlt (105, _) (.tail _ (.tail _ (.tail _ (.tail _ (.tail _ (.tail _ (.tail _ (.tail _ (.tail _ (.head _)))))))))))
              rcases List.mem_cons.mp hy with rfl | hy
              · exact h84 e (.head _)
              · cases hy
            · exact List.forall_mem_cons.mpr ⟨.tail _ (.tail _ (.head _)), List.forall_mem_cons.mpr ⟨.tail _ (.tail _ (.tail _ (.head _))), List.forall_mem_cons.mpr ⟨.tail _ (.tail _ (.tail _ (.tail _ (.head _)))), List.forall_mem_cons.mpr ⟨.tail _ (.tail _ (.tail _ (.tail _ (.tail _ (.head _))))), List.forall_mem_cons.mpr ⟨.tail _ (.tail _ (.tail _ (.tail _ (.tail _ (.tail _ (.head _)))))), List.forall_mem_cons.mpr ⟨.tail _ (.tail _ (.tail _ (.tail _ (.tail _ (.tail _ (.tail _ (.head _))))))), List.forall_mem_cons.mpr ⟨.tail _ (.tail _ (.tail _ (.tail _ (.tail _ (.tail _ (.tail _ (.tail _ (.head _)))))))), List.forall_mem_cons.mpr ⟨.tail _ (.tail _ (.tail _ (.tail _ (.tail _ (.tail _ (.tail _ (.tail _ (.tail _ (.head _))))))))), List.forall_mem_cons.mpr ⟨.tail _ (.tail _ (.tail _ (.tail _ (.tail _ (.tail _ (.tail _ (.tail _ (.tail _ (.tail _ (.head _)))))))))), List.forall_mem_cons.mpr ⟨.tail _ (.tail _ (.tail _ (.tail _ (.tail _ (.tail _ (.tail _ (.tail _ (.tail _ (.tail _ (.tail _ (.head _))))))))))), List.forall_mem_cons.mpr ⟨.head _, List.forall_mem_cons.mpr ⟨.tail _ (.head _), fun p hp => .tail _ (.tail _ (.tail _ (.tail _ (.tail _ (.tail _ (.tail _ (.tail _ (.tail _ (.tail _ (.tail _ (.tail _ hp)))))))))))⟩⟩⟩⟩⟩⟩⟩⟩⟩⟩⟩⟩
        clear N11
        (k_steps; repeat' ((unfold Stop; first | (refine wpAny_Assign_Name ?_)); k_steps))
        refine ⟨_, _, _, _, rfl, F11, N12, LCg.Off3.of ?_, q', R3, rfl, fun p hp => hR3 p (hRR2 p hp), hOff3, st3, ?_⟩
        · refine List.forall_mem_cons.mpr ⟨off4 (D, _) (.head _), List.forall_mem_cons.mpr ⟨off4 (I, _) (.tail _ (.head _)), List.forall_mem_cons.mpr ⟨off4 (gl, _) (.tail _ (.tail _ (.head _))), List.forall_mem_cons.mpr ⟨off4 (L' + 1 + 1, _) (.tail _ (.tail _ (.tail _ (.head _)))), List.forall_mem_cons.mpr ⟨off4 (L' + 1, _) (.tail _ (.tail _ (.tail _ (.tail _ (.head _))))), List.forall_mem_cons.mpr ⟨off4 (98, _) (.tail _ (.tail _ (.tail _ (.tail _ (.tail _ (.head _)))))), List.forall_mem_cons.mpr ⟨off4 (105, _) (.tail _ (.tail _ (.tail _ (.tail _ (.tail _ (.tail _ (.head _))))))), List.forall_mem_cons.mpr ⟨off4 (84, tabObj q) (m84 q R2), off12⟩⟩⟩⟩⟩⟩⟩⟩
        · rw [nats_take_succ hj]
          have e1 : (((48 + (trn (dg8 x) T T.length i)[j] : Nat) : Int) - 48) = (((trn (dg8 x) T T.length i)[j] : Nat) : Int) := by omega
          rw [e1]
          exact hys.append (.cons _ _ .nil)
    case finC =>
      rintro ys nw D' h tk dr ⟨q, R2, rfl, hRR2, hOff2, sq, hys⟩ F10 N10 o1
      rw [hul, List.take_length] at hys
      have o1' := off1_mem o1
      have e1 : @Ne Nat (L' + 1) D' := o1' (L' + 1, _) (.tail _ (.tail _ (.tail _ (.tail _ (.head _)))))
      have e2 : @Ne Nat gl D' := o1' (gl, _) (.tail _ (.tail _ (.head _)))
      have e3 : @Ne Nat I D' := o1' (I, _) (.tail _ (.head _))
      have e4 : @Ne Nat D D' := o1' (D, _) (.head _)
      have r2L1 : ∀ p ∈ R2, p.1 ≠ L' + 1 := hOff2 _ (by simp)
      have r2gl : ∀ p ∈ R2, p.1 ≠ gl := hOff2 _ (by simp)
      have r2I : ∀ p ∈ R2, p.1 ≠ I := hOff2 _ (by simp)
      clear N8 N9 hDne hDR hIR
      (k_steps; repeat' ((unfold Stop; first | (refine wpAny_Assign_Name ?_)); k_steps))
      rename_i h12 oU F12 N12 dU
      have htR2 := hRR2 _ (hRR _ htR)
      unfold Stop
      k_dflt (refine LCt.ListComp_T (F₀ := by k_asm) (by with_unfolding_all rfl) (by decide) (by rfl) (by decide) (by rfl) ?_)
      (k_steps; repeat' ((unfold Stop; first | (refine wpAny_Assign_Name ?_)); k_steps))
      unfold Stop
      have hR2 := ‹IsRange _ _ 0 (T.length : Int) _ _ _ _›
      refine LCt.CompSrcT.range (n := T.length) (by rfl) (by k_asm) (by k_asm) (by exact hR2) (small_one (by omega) (by omega) (by omega) (by omega)) (rangeSize_nat _ _) (by rw [PySem.sizeLine_eq]; omega) ?_
      intro g1
      refine rest_T (fun j ys2 nw => nw = (D', LCg.lst ys) :: (D, listOf us.toArray uc) :: (I, it) :: (gl, listOf gvs.toArray gn) :: (L' + 1 + 1, oWa) :: (L' + 1, oU) :: T3 p1 p2 q R2 ∧ IntsAre ys2 (nats ((List.range j).filter (fun k => (trn (dg8 x) T T.length i).contains k)))) ⟨rfl, .nil⟩ ?turnT ?finT
      case turnT =>
        rintro j v I2 oI C oC D2 m₂ ys2 _ h tk E' ⟨t9, rfl⟩ hj ⟨rfl, hy2⟩ hC hx3 F13 N13 off5 ne5
        have ez : (0 : Int) + (j : Int) = (j : Int) := by omega
        rw [ez] at hx3
        (k_steps; repeat' ((unfold Stop; first | (refine wpAny_Assign_Name ?_)); k_steps))
        unfold Stop
        refine in_nats (by k_asm) (.tail _ (.tail _ (.tail _ (.head _)))) hys (by ((try simp only [units_in1, units_deeper, Around.mark_units, units_caller]); (try dsimp only [ktrTop]); omega)) ?_
        (k_steps; repeat' ((unfold Stop; first | (refine wpAny_Assign_Name ?_)); k_steps))
        · rename_i hq
          unfold Stop
          refine LCg.CompEnd.intro (by k_asm) (by k_asm) _ (fun p hp => hp) off5 trivial ⟨rfl, ?_⟩
          rw [range_filter, if_pos (by simpa using hq)]
          exact hy2.append (.cons _ _ .nil)
        · rename_i hq
          unfold Stop
          refine LCg.CompEnd.intro (by k_asm) (by k_asm) _ (fun p hp => hp) off5 trivial ⟨rfl, ?_⟩
          rw [range_filter, if_neg (by simpa using hq), List.append_nil]
          exact hy2
      case finT =>
        rintro ys2 _ ⟨rfl, hy2⟩ D2 h tk F13 N13 o2
        rw [trn_filter] at hy2
        have hyl : ys.length = (trn (dg8 x) T T.length i).length := by rw [hys.length]; simp
        have o2' := off1_mem o2
        have e5 : @Ne Nat gl D2 := o2' (gl, _) (.tail _ (.tail _ (.tail _ (.head _))))
        have e6 : @Ne Nat I D2 := o2' (I, _) (.tail _ (.tail _ (.head _)))
        (k_steps; repeat' ((unfold Stop; first | (refine wpAny_Assign_Name ?_)); k_steps))
        unfold Stop
        refine ne_ints_same N13 (.tail _ (.head _)) hys (.head _) hy2 (by ((try simp only [units_in1, units_deeper, Around.mark_units, units_caller]); (try dsimp only [ktrTop]); omega)) ?_
        (k_steps; repeat' ((unfold Stop; first | (refine wpAny_Assign_Name ?_)); k_steps))
        rename_i h14 F14 N14
        obtain ⟨tg, N15⟩ : ∃ tg, News g' L' h14 ((D2, LCg.lst ys2) :: (D', LCg.lst ys) :: (D, listOf us.toArray uc) :: (I, it) :: (gl, listOf (gvs ++ [Value.int (↑(nats (trn (dg8 x) T T.length i)).length) tg]).toArray (gn + 1)) :: (L' + 1 + 1, oWa) :: (L' + 1, oU) :: T3 p1 p2 q R2) := ⟨_, N14⟩
        refine fEndD_intro (by k_asm) (nsub N15 (news' := (I, it) :: (gl, listOf (gvs ++ [Value.int (↑(nats (trn (dg8 x) T T.length i)).length) tg]).toArray (gn + 1)) :: (L' + 1 + 1, oWa) :: (L' + 1, oU) :: T3 p1 p2 q R2) ?_) ?_ ⟨gvs ++ [Value.int (↑(nats (trn (dg8 x) T T.length i)).length) tg], gn + 1, oU, _, q, R2, IsOv.up (IsOv.mk _ _ _) rfl, rfl, dU, fun p hp => hRR2 p (hRR p hp), fun y hy => hOff2 y (.tail _ (.tail _ hy)), sq, ?_⟩
        · exact List.forall_mem_cons.mpr ⟨.tail _ (.tail _ (.tail _ (.head _))), List.forall_mem_cons.mpr ⟨.tail _ (.tail _ (.tail _ (.tail _ (.head _)))), fun p hp => .tail _ (.tail _ (.tail _ (.tail _ (.tail _ hp))))⟩⟩
        · exact List.forall_mem_cons.mpr ⟨hI1, List.forall_mem_cons.mpr ⟨hI2, List.forall_mem_cons.mpr ⟨hI3, List.forall_mem_cons.mpr ⟨hI4, List.forall_mem_cons.mpr ⟨hI5, List.forall_mem_cons.mpr ⟨hI6, r2I⟩⟩⟩⟩⟩⟩
        · rw [List.range_succ, List.map_append, nats_append]
          refine hG.append ?_
          have e : nats ([i].map (givenN (dg8 x) T)) = [((nats (trn (dg8 x) T T.length i)).length : Int)] := by simp [nats, givenN]
          rw [e]
          exact .cons _ _ .nil
  case done =>
    rintro m1 nw h tk dr ⟨gvs, gn, oT, vT, q3, R', ⟨u, rfl⟩, rfl, dT, hRR, hOff, s3', hG⟩ F8 N8
    have hgs : (nats ((List.range (dg8 x).length).map (givenN (dg8 x) T))).sum = ((servePairs (dg8 x) T T.length).length : Int) := by rw [nats_sum, given_sum (dg8 x) T hWl]
    have hplR := hRR _ hmpl
    (k_steps; repeat' ((unfold Stop; first | (refine wpAny_Assign_Name ?_)); k_steps))
    unfold Stop
    refine sum_nats rfl (by k_asm) (by k_asm) (.head _) hG ?_
    intro h9 tk9 t9 F9 N9
    rw [hgs]
    (k_steps; repeat' ((unfold Stop; first | (refine wpAny_Assign_Name ?_)); k_steps))
    · exfalso; omega
    unfold Stop
    k_dflt (refine Con.use (c_digits2int w ((gl, listOf gvs.toArray gn) :: (L' + 1 + 1, oWa) :: (L' + 1, oT) :: (98, tabObj p1) :: (84, tabObj q3) :: R') R' gl gvs gn ((List.range (dg8 x).length).map (givenN (dg8 x) T)) _ p2 ?hr105 (fun p hp => .tail _ (.tail _ (.tail _ (.tail _ (.tail _ hp))))) (s2R.mono hRR) (.head _) hG (by simpa using hWl) (givens_lt8 x T)) (by k_asm) (by k_asm) (by k_asm) (npick (D := 105) N9 (.tail (.tail (.tail (.tail .head))))) (by k_asm) (by (first | exact rfl | assumption)) (by ((try dsimp only [ktrTop]); omega)) (by ((try simp only [units_in1, units_deeper, Around.mark_units, units_caller]); (try dsimp only [ktrTop]); omega)) ?ret105)
    case hr105 => exact List.forall_mem_cons.mpr ⟨by show @Ne Nat gl 105; omega, List.forall_mem_cons.mpr ⟨by show @Ne Nat (L' + 1 + 1) 105; omega, List.forall_mem_cons.mpr ⟨by show @Ne Nat (L' + 1) 105; omega, List.forall_mem_cons.mpr ⟨by show @Ne Nat 98 105; decide, List.forall_mem_cons.mpr ⟨by show @Ne Nat 84 105; decide, hOff 105 (by simp)⟩⟩⟩⟩⟩
    rintro _ h10 tk10 n10 F10 N10 ⟨t10, q2, rest', nd', rfl, rfl, hg, h105, st10⟩
    obtain ⟨R5, hR5, hOff5, st5, N11⟩ : ∃ R5, (∀ p ∈ R', p ∈ R5) ∧ OffX [gl, L' + 1, L' + 1 + 1, 98, 105, 84] R5 ∧ St2 q2 R5 ∧ News g' L' h10 ((gl, listOf gvs.toArray gn) :: (L' + 1 + 1, oWa) :: (L' + 1, oT) :: T3 p1 q2 q3 R5) := by
      rcases hg with ⟨rfl, hnd'⟩ | ⟨e, rfl, hnd', hlt⟩ <;> rw [hnd'] at st10
      · exact ⟨R', fun p hp => hp, hOff, st10, nsub N10 (List.forall_mem_cons.mpr ⟨.tail _ (.head _), List.forall_mem_cons.mpr ⟨.tail _ (.tail _ (.head _)), List.forall_mem_cons.mpr ⟨.tail _ (.tail _ (.tail _ (.head _))), List.forall_mem_cons.mpr ⟨.tail _ (.tail _ (.tail _ (.tail _ (.head _)))), List.forall_mem_cons.mpr ⟨.head _, List.forall_mem_cons.mpr ⟨.tail _ (.tail _ (.tail _ (.tail _ (.tail _ (.head _))))), fun p hp => .tail _ (.tail _ (.tail _ (.tail _ (.tail _ (.tail _ hp)))))⟩⟩⟩⟩⟩⟩)⟩
      · refine ⟨e :: R', fun p hp => .tail _ hp, hOff.cons ?_, st10.mono (fun p hp => by rcases List.mem_cons.mp hp with rfl | hp; exact .head _; exact absurd hp List.not_mem_nil), nsub N10 (List.forall_mem_cons.mpr ⟨.tail _ (.tail _ (.head _)), List.forall_mem_cons.mpr ⟨.tail _ (.tail _ (.tail _ (.head _))), List.forall_mem_cons.mpr ⟨.tail _ (.tail _ (.tail _ (.tail _ (.head _)))), List.forall_mem_cons.mpr ⟨.tail _ (.tail _ (.tail _ (.tail _ (.tail _ (.head _))))), List.forall_mem_cons.mpr ⟨.head _, List.forall_mem_cons.mpr ⟨.tail _ (.tail _ (.tail _ (.tail _ (.tail _ (.tail _ (.head _)))))), List.forall_mem_cons.mpr ⟨.tail _ (.head _), fun p hp => .tail _ (.tail _ (.tail _ (.tail _ (.tail _ (.tail _ (.tail _ hp))))))⟩⟩⟩⟩⟩⟩⟩)⟩
        intro y hy
        rcases List.mem_cons.mp hy with rfl | hy
        · exact Nat.ne_of_gt (hlt (y, _) (.head _))
        rcases List.mem_cons.mp hy with rfl | hy
        · exact Nat.ne_of_gt (hlt (L' + 1, _) (.tail _ (.tail _ (.head _))))
        rcases List.mem_cons.mp hy with rfl | hy
        · exact Nat.ne_of_gt (hlt (L' + 1 + 1, _) (.tail _ (.head _)))
        rcases List.mem_cons.mp hy with rfl | hy
        · exact Nat.ne_of_gt (hlt (98, _) (.tail _ (.tail _ (.tail _ (.head _)))))
        rcases List.mem_cons.mp hy with rfl | hy
        · exact h105 e (.head _)
        rcases List.mem_cons.mp hy with rfl | hy
        · exact Nat.ne_of_gt (hlt (84, _) (.tail _ (.tail _ (.tail _ (.tail _ (.head _))))))
        · cases hy
    clear N10 N9 N8
    (k_steps; repeat' ((unfold Stop; first | (refine wpAny_Assign_Name ?_)); k_steps))
    unfold Stop
    refine sub_to (c := ((und ((List.range (dg8 x).length).map (stillN (dg8 x) T)) : Nat) : Int)) (by have := left_und x T; omega) ?_
    intro t12
    have hrowF : (row, listOf vs.toArray n) ∈ R5 := hR5 _ (hRR _ hmr)
    have hDF := (hDr.mono hRR).mono hR5
    have hok := serveRow_ok (dg8 x) T T.length
    have hvl : vs.length = (dg8 x).length := by rw [DatAll.len2 hDF, hok.len]
    walk1
    walk1
    walk1
    refine wpAny_Assign_Name ?_
    (k_steps; repeat' ((unfold Stop; first | (refine wpAny_Assign_Name ?_)); k_steps))
    unfold Stop
    k_dflt (refine LCp.ListComp_P (F₀ := by k_asm) (by with_unfolding_all rfl) (by decide) (by rfl) (by decide) (by rfl) (by rfl) (by decide) ?_)
    (k_steps; repeat' ((unfold Stop; first | (refine wpAny_Assign_Name ?_)); k_steps))
    unfold Stop
    k_dflt (refine LCp.ListComp_P (F₀ := by k_asm) (by with_unfolding_all rfl) (by decide) (by rfl) (by decide) (by rfl) (by rfl) (by decide) ?_)
    (k_steps; repeat' ((unfold Stop; first | (refine wpAny_Assign_Name ?_)); k_steps))
    unfold Stop
    refine LCp.SrcLP.ledger (its := vs.toArray) (k := n) (by rfl) (by k_asm) (by k_asm) (.tail _ (.tail _ (.tail _ (.tail _ (.tail _ (.tail _ hrowF)))))) (by rw [PySem.sizeLine_eq, List.size_toArray]; omega) ?_
    intro g1
    refine rest_P (fun j ys nw => ∃ r, nw = (gl, listOf gvs.toArray gn) :: (L' + 1 + 1, oWa) :: (L' + 1, oT) :: T3 p1 q2 q3 r ∧ (∀ p ∈ R5, p ∈ r) ∧ OffX [gl, L' + 1, L' + 1 + 1, 98, 105, 84] r ∧ DatAll r ys ((((serveRow (dg8 x) T T.length).take j).map fun p => (p.2, p.1)).map pdat)) ⟨R5, rfl, fun p hp => hp, hOff5, .nil⟩ ?turnQ ?finQ
    case turnQ =>
      rintro j v ys _ hv hj ⟨r, rfl, hrs, hro, hq⟩
      obtain ⟨hj2, hdv⟩ := DatAll.at hDF (j := j) (v := v) (by simpa using hv)
      obtain ⟨av, t1, t2, na, rfl, hav⟩ := datIn_pair hdv
      refine ⟨av, _, _, _, na, rfl, .tail _ (.tail _ (.tail _ (.tail _ (.tail _ (.tail _ (hrs _ hav)))))), rfl, rfl, ?_⟩
      intro I oI C oC D m₂ h tk E' hC hx1 hx2 F10 N10 off ne
      have off3 := off.mem
      (k_steps; repeat' ((unfold Stop; first | (refine wpAny_Assign_Name ?_)); k_steps))
      unfold Stop
      refine kup_newTuple (by k_asm) (by k_asm) ?_ (by kmk_size)
      intro a1 h2 F11 N12 l2
      (k_steps; repeat' ((unfold Stop; first | (refine wpAny_Assign_Name ?_)); k_steps))
      unfold Stop
      have hI : @LT.lt Nat _ I a1 := l2 (I, _) (.head _)
      have hCC : @LT.lt Nat _ C a1 := l2 (C, _) (.tail _ (.head _))
      have hDD : @LT.lt Nat _ D a1 := l2 (D, _) (.tail _ (.tail _ (.head _)))
      refine LCg.CompEnd.intro (by k_asm) (by k_asm) ((gl, listOf gvs.toArray gn) :: (L' + 1 + 1, oWa) :: (L' + 1, oT) :: T3 p1 q2 q3 ((a1, tupOf [.int ((serveRow (dg8 x) T T.length)[j]).2 t2, .int ((serveRow (dg8 x) T T.length)[j]).1 t1] 0) :: r)) ?_ (LCg.Off3.of ?_) (.inr ⟨_, .tail _ (.tail _ (.tail _ (.tail _ (.tail _ (.tail _ (.tail _ (hrs _ hrowF))))))), rfl, _, rfl⟩) ⟨_, rfl, fun p hp => .tail _ (hrs p hp), hro.cons ?_, ?_⟩
      · exact List.forall_mem_cons.mpr ⟨.tail _ (.head _), List.forall_mem_cons.mpr ⟨.tail _ (.tail _ (.head _)), List.forall_mem_cons.mpr ⟨.tail _ (.tail _ (.tail _ (.head _))), List.forall_mem_cons.mpr ⟨.tail _ (.tail _ (.tail _ (.tail _ (.head _)))), List.forall_mem_cons.mpr ⟨.tail _ (.tail _ (.tail _ (.tail _ (.tail _ (.head _))))), List.forall_mem_cons.mpr ⟨.tail _ (.tail _ (.tail _ (.tail _ (.tail _ (.tail _ (.head _)))))), List.forall_mem_cons.mpr ⟨.tail _ (.tail _ (.tail _ (.tail _ (.tail _ (.tail _ (.tail _ (.head _))))))), List.forall_mem_cons.mpr ⟨.tail _ (.tail _ (.tail _ (.tail _ (.tail _ (.tail _ (.tail _ (.tail _ (.head _)))))))), List.forall_mem_cons.mpr ⟨.tail _ (.tail _ (.tail _ (.tail _ (.tail _ (.tail _ (.tail _ (.tail _ (.tail _ (.head _))))))))), List.forall_mem_cons.mpr ⟨.head _, fun p hp => .tail _ (.tail _ (.tail _ (.tail _ (.tail _ (.tail _ (.tail _ (.tail _ (.tail _ (.tail _ hp)))))))))⟩⟩⟩⟩⟩⟩⟩⟩⟩⟩
      · exact List.forall_mem_cons.mpr ⟨off3 (gl, _) (.head _), List.forall_mem_cons.mpr ⟨off3 (L' + 1 + 1, _) (.tail _ (.head _)), List.forall_mem_cons.mpr ⟨off3 (L' + 1, _) (.tail _ (.tail _ (.head _))), List.forall_mem_cons.mpr ⟨off3 (98, tabObj p1) (.tail _ (.tail _ (.tail _ (.head _)))), List.forall_mem_cons.mpr ⟨off3 (105, tabObj q2) (.tail _ (.tail _ (.tail _ (.tail _ (.head _))))), List.forall_mem_cons.mpr ⟨off3 (84, tabObj q3) (.tail _ (.tail _ (.tail _ (.tail _ (.tail _ (.head _)))))), List.forall_mem_cons.mpr ⟨⟨Nat.ne_of_gt hI, Nat.ne_of_gt hCC, Nat.ne_of_gt hDD⟩, fun p hp => off3 p (.tail _ (.tail _ (.tail _ (.tail _ (.tail _ (.tail _ hp))))))⟩⟩⟩⟩⟩⟩⟩
      · intro y hy
        rcases List.mem_cons.mp hy with rfl | hy
        · exact Nat.ne_of_gt (l2 (y, _) (.tail _ (.tail _ (.tail _ (.head _)))))
        rcases List.mem_cons.mp hy with rfl | hy
        · exact Nat.ne_of_gt (l2 (L' + 1, _) (.tail _ (.tail _ (.tail _ (.tail _ (.tail _ (.head _)))))))
        rcases List.mem_cons.mp hy with rfl | hy
        · exact Nat.ne_of_gt (l2 (L' + 1 + 1, _) (.tail _ (.tail _ (.tail _ (.tail _ (.head _))))))
        rcases List.mem_cons.mp hy with rfl | hy
        · exact Nat.ne_of_gt (l2 (98, tabObj p1) (.tail _ (.tail _ (.tail _ (.tail _ (.tail _ (.tail _ (.head _))))))))
        rcases List.mem_cons.mp hy with rfl | hy
        · exact Nat.ne_of_gt (l2 (105, tabObj q2) (.tail _ (.tail _ (.tail _ (.tail _ (.tail _ (.tail _ (.tail _ (.head _)))))))))
        rcases List.mem_cons.mp hy with rfl | hy
        · exact Nat.ne_of_gt (l2 (84, tabObj q3) (.tail _ (.tail _ (.tail _ (.tail _ (.tail _ (.tail _ (.tail _ (.tail _ (.head _))))))))))
        · cases hy
      · rw [List.take_succ_eq_append_getElem hj2, List.map_append, List.map_append]
        exact (hq.mono fun p hp => .tail _ hp).append (.cons (.tuple (.head _) (.cons (.int _ _) (.cons (.int _ _) .nil))) .nil)
    case finQ =>
      rintro ys _ ⟨r, rfl, hrs, hro, hq⟩ D h tk F10 N10 o1
      have hvs : vs.toArray.size = (serveRow (dg8 x) T T.length).length := by rw [List.size_toArray, hvl, hok.len]
      rw [hvs, List.take_length] at hq
      (k_steps; repeat' ((unfold Stop; first | (refine wpAny_Assign_Name ?_)); k_steps))
      unfold Stop
      refine sort_pairs (nd := r) (ps := (serveRow (dg8 x) T T.length).map fun p => (p.2, p.1)) (by k_asm) (by k_asm) (.head _) (fun p hp => .tail _ (.tail _ (.tail _ (.tail _ (.tail _ (.tail _ (.tail _ hp))))))) hq (swap_nodup _ _ _) (by rw [List.length_map, hok.len]; exact hWl) ?_
      intro so vs2 ps2 c2 h2 F11 N12 l2 hD2 hp hso
      obtain rfl := still_sorted _ _ hp hso
      have hv2 : vs2.length = (dg8 x).length := by rw [DatAll.len2 hD2, List.length_map, List.length_range]
      have o1' := off1_mem o1
      (k_steps; repeat' ((unfold Stop; first | (refine wpAny_Assign_Name ?_)); k_steps))
      unfold Stop
      refine LCp.SrcLP.ledger (its := vs2.toArray) (k := c2) (by rfl) (by k_asm) (by k_asm) (.head _) (by rw [PySem.sizeLine_eq, List.size_toArray]; omega) ?_
      intro g2
      refine rest_P (fun j ys3 nw => nw = (so, listOf vs2.toArray c2) :: (D, LCg.lst ys) :: (gl, listOf gvs.toArray gn) :: (L' + 1 + 1, oWa) :: (L' + 1, oT) :: T3 p1 q2 q3 r ∧ IntsAre ys3 (nats (((List.range (dg8 x).length).map (stillN (dg8 x) T)).take j))) ⟨rfl, .nil⟩ ?turnW ?finW
      case turnW =>
        rintro j v ys3 _ hv hj ⟨rfl, hy3⟩
        obtain ⟨hj2, hdv⟩ := DatAll.at hD2 (j := j) (v := v) (by simpa using hv)
        obtain ⟨av, t1, t2, na, rfl, hav⟩ := datIn_pair hdv
        have hj3 : j < ((List.range (dg8 x).length).map (stillN (dg8 x) T)).length := by simpa using hj2
        have e : (((List.range (dg8 x).length).map fun (g : Nat) => ((g : Int), ((stillN (dg8 x) T g : Nat) : Int)))[j]).2 = ((((List.range (dg8 x).length).map (stillN (dg8 x) T))[j] : Nat) : Int) := by simp
        refine ⟨av, _, _, _, na, rfl, .tail _ (.tail _ (.tail _ (.tail _ (.tail _ (.tail _ (.tail _ (.tail _ hav))))))), rfl, rfl, ?_⟩
        intro I oI C oC D3 m₂ h tk E' hC hx1 hx2 F13 N13 off ne
        (k_steps; repeat' ((unfold Stop; first | (refine wpAny_Assign_Name ?_)); k_steps))
        unfold Stop
        refine LCg.CompEnd.intro (by k_asm) (by k_asm) _ (fun p hp => hp) off (.inr ⟨_, .head _, rfl, _, rfl⟩) ⟨rfl, ?_⟩
        rw [nats_take_succ hj3, ← e]
        exact hy3.append (.cons _ _ .nil)
      case finW =>
        rintro ys3 _ ⟨rfl, hy3⟩ D3 h tk F13 N13 o3
        have hvs2 : vs2.toArray.size = ((List.range (dg8 x).length).map (stillN (dg8 x) T)).length := by rw [List.size_toArray, hv2, List.length_map, List.length_range]
        rw [hvs2, List.take_length] at hy3
        have hy3l : ys3.length = (dg8 x).length := by rw [hy3.length]; simp
        have o3' := off1_mem o3
        have e1 : @Ne Nat (L' + 1 + 1) D3 := o3' (L' + 1 + 1, _) (.tail _ (.tail _ (.tail _ (.head _))))
        have e98 : @Ne Nat 98 D3 := o3' (98, tabObj p1) (.tail _ (.tail _ (.tail _ (.tail _ (.tail _ (.head _))))))
        have e105 : @Ne Nat 105 D3 := o3' (105, tabObj q2) (.tail _ (.tail _ (.tail _ (.tail _ (.tail _ (.tail _ (.head _)))))))
        have e84 : @Ne Nat 84 D3 := o3' (84, tabObj q3) (.tail _ (.tail _ (.tail _ (.tail _ (.tail _ (.tail _ (.tail _ (.head _))))))))
        have e2 : @Ne Nat (L' + 1 + 1) so := Nat.ne_of_lt (l2 (L' + 1 + 1, _) (.tail _ (.tail _ (.head _))))
        have e3 : @Ne Nat (L' + 1 + 1) D := o1' (L' + 1 + 1, _) (.tail _ (.head _))
        have r2L2 : ∀ p ∈ r, p.1 ≠ L' + 1 + 1 := hro _ (by simp)
        (k_steps; repeat' ((unfold Stop; first | (refine wpAny_Assign_Name ?_)); k_steps))
        rename_i h20 oWa' F20 N20 dWa'
        unfold Stop
        have hlx : und ((List.range (dg8 x).length).map (stillN (dg8 x) T)) < 4096 := by have := left_und x T; omega
        have ho3 : OffX [98, 105, 84] ((L' + 1 + 1, oWa') :: (D3, LCg.lst ys3) :: r) := by
          refine OffX.cons (OffX.cons (fun y hy => hro y (.tail _ (.tail _ (.tail _ hy)))) ?_) ?_
          · intro y hy
            rcases List.mem_cons.mp hy with rfl | hy
            · exact Ne.symm e98
            rcases List.mem_cons.mp hy with rfl | hy
            · exact Ne.symm e105
            rcases List.mem_cons.mp hy with rfl | hy
            · exact Ne.symm e84
            · cases hy
          · intro y hy
            rcases List.mem_cons.mp hy with rfl | hy
            · exact Nat.ne_of_gt (Nat.lt_succ_of_lt (Nat.lt_succ_of_lt b1))
            rcases List.mem_cons.mp hy with rfl | hy
            · exact Nat.ne_of_gt (Nat.lt_succ_of_lt (Nat.lt_succ_of_lt b2))
            rcases List.mem_cons.mp hy with rfl | hy
            · exact Nat.ne_of_gt (Nat.lt_succ_of_lt (Nat.lt_succ_of_lt b3))
            · cases hy
        k_dflt (refine Con.use (c_i2d3 w ((L' + 1 + 1, oWa') :: (D3, LCg.lst ys3) :: r) p1 q2 q3 _ _ _ hlx ho3 (s1R.mono fun p hp => .tail _ (.tail _ (hrs _ (hR5 _ (hRR _ hp)))))) (by k_asm) (by k_asm) (by k_asm) (nsub N20 ?n103) (by k_asm) (by (first | exact rfl | assumption)) (by ((try dsimp only [ktrTop]); omega)) (by ((try simp only [units_in1, units_deeper, Around.mark_units, units_caller]); (try dsimp only [ktrTop]); omega)) ?ret103)
        case n103 => exact List.forall_mem_cons.mpr ⟨.tail _ (.tail _ (.tail _ (.tail _ (.tail _ (.tail _ (.head _)))))), List.forall_mem_cons.mpr ⟨.tail _ (.tail _ (.tail _ (.tail _ (.tail _ (.tail _ (.tail _ (.head _))))))), List.forall_mem_cons.mpr ⟨.tail _ (.tail _ (.tail _ (.tail _ (.tail _ (.tail _ (.tail _ (.tail _ (.head _)))))))), List.forall_mem_cons.mpr ⟨.tail _ (.tail _ (.tail _ (.tail _ (.head _)))), List.forall_mem_cons.mpr ⟨.head _, fun p hp => .tail _ (.tail _ (.tail _ (.tail _ (.tail _ (.tail _ (.tail _ (.tail _ (.tail _ (hp)))))))))⟩⟩⟩⟩⟩
        rintro _ h21 tk21 _ F21 N21 ⟨D4, vs4, n4, p1', r6, rfl, rfl, hr6, ho6, hD4, s16, hi4⟩
        replace N21 : News g' L' h21 ((L' + 1 + 1, oWa') :: (D3, LCg.lst ys3) :: (D4, listOf vs4.toArray n4) :: T3 p1' q2 q3 r6) := nsub N21 (List.forall_mem_cons.mpr ⟨.tail _ (.tail _ (.tail _ (.tail _ (hr6 _ (.head _))))), List.forall_mem_cons.mpr ⟨.tail _ (.tail _ (.tail _ (.tail _ (hr6 _ (.tail _ (.head _)))))), fun p hp => hp⟩⟩)
        (k_steps; repeat' ((unfold Stop; first | (refine wpAny_Assign_Name ?_)); k_steps))
        unfold Stop
        k_dflt (refine Con.use (c_eights w _ _ _ hlx) (by k_asm) (by k_asm) (by k_asm) (by exact N21) (by k_asm) (by (first | exact rfl | assumption)) (by ((try dsimp only [ktrTop]); omega)) (by ((try simp only [units_in1, units_deeper, Around.mark_units, units_caller]); (try dsimp only [ktrTop]); omega)) ?ret272)
        rintro _ h22 tk22 _ F22 N22 ⟨D5, vs5, c5, rfl, rfl, l5, hi5⟩
        (k_steps; repeat' ((unfold Stop; first | (refine wpAny_Assign_Name ?_)); k_steps))
        unfold Stop
        refine eq_ints_same N22 (.tail _ (.tail _ (.tail _ (.head _)))) hi4 (.head _) hi5 (by ((try simp only [units_in1, units_deeper, Around.mark_units, units_caller]); (try dsimp only [ktrTop]); omega)) ?_
        (k_steps; repeat' ((unfold Stop; first | (refine wpAny_Assign_Name ?_)); k_steps))
        unfold Stop
        k_dflt (refine LCg.ListComp_U (F₀ := by k_asm) (by with_unfolding_all rfl) (by decide) (by rfl) (by decide) (by rfl) ?_)
        (k_steps; repeat' ((unfold Stop; first | (refine wpAny_Assign_Name ?_)); k_steps))
        unfold Stop
        refine LCg.CompSrc.range (n := (dg8 x).length) (by rfl) (by k_asm) (by k_asm) (by assumption) (small_one (by omega) (by omega) (by omega) (by omega)) (rangeSize_nat _ _) (by rw [PySem.sizeLine_eq]; omega) ?_
        intro g3
        refine rest_U (fun j ys6 nw => nw = (D5, listOf vs5.toArray c5) :: (L' + 1 + 1, oWa') :: (D3, LCg.lst ys3) :: (D4, listOf vs4.toArray n4) :: T3 p1' q2 q3 r6 ∧ IntsAre ys6 (nats ((List.range j).map fun k => ((List.range (dg8 x).length).map (stillN (dg8 x) T)).getD k 0 * 8 ^ k))) ⟨rfl, .nil⟩ ?turnK ?finK
        case turnK =>
          rintro j v I oI C oC D6 m₂ ys6 _ h tk E' ⟨t9, rfl⟩ hj ⟨rfl, hy6⟩ hC hx3 F23 N23 off ne
          have ez : (0 : Int) + (j : Int) = (j : Int) := by omega
          rw [ez] at hx3
          have hjl : j < ((List.range (dg8 x).length).map (stillN (dg8 x) T)).length := by simpa using hj
          (k_steps; repeat' ((unfold Stop; first | (refine wpAny_Assign_Name ?_)); k_steps))
          unfold Stop
          refine pow8_nat (k := j) (by omega) ?_
          intro tz
          (k_steps; repeat' ((unfold Stop; first | (refine wpAny_Assign_Name ?_)); k_steps))
          unfold Stop
          have e8 : (nats ((List.range (dg8 x).length).map (stillN (dg8 x) T))).getD ((j : Int)).toNat 0 * ((8 ^ j : Nat) : Int) = ((((List.range (dg8 x).length).map (stillN (dg8 x) T)).getD j 0 * 8 ^ j : Nat) : Int) := by
            have e9 : (nats ((List.range (dg8 x).length).map (stillN (dg8 x) T))).getD ((j : Int)).toNat 0 = ((((List.range (dg8 x).length).map (stillN (dg8 x) T)).getD j 0 : Nat) : Int) := by
              rw [Int.toNat_natCast]
              simp [nats, List.getD_eq_getElem?_getD, hj]
            rw [e9, ← Int.natCast_mul]
          refine mul_to e8 (Int.natCast_nonneg _) (by have := pow8_le4 (k := j) (by omega); omega) ?_
          intro t26
          (k_steps; repeat' ((unfold Stop; first | (refine wpAny_Assign_Name ?_)); k_steps))
          unfold Stop
          refine LCg.CompEnd.intro (by k_asm) (by k_asm) _ (fun p hp => hp) off trivial ⟨rfl, ?_⟩
          rw [List.range_succ, List.map_append, nats_append]
          exact hy6.append (.cons _ _ .nil)
        case finK =>
          rintro ys6 _ ⟨rfl, hy6⟩ D6 h tk F23 N23 o6
          have hsum : (nats ((List.range (dg8 x).length).map fun k => ((List.range (dg8 x).length).map (stillN (dg8 x) T)).getD k 0 * 8 ^ k)).sum = ((und ((List.range (dg8 x).length).map (stillN (dg8 x) T)) : Nat) : Int) := by
            rw [nats_sum, und_pow _ _ (by simp), List.take_of_length_le (by simp)]
          (k_steps; repeat' ((unfold Stop; first | (refine wpAny_Assign_Name ?_)); k_steps))
          unfold Stop
          refine sum_nats rfl (by k_asm) (by k_asm) (.head _) hy6 ?_
          intro h24 tk24 t24 F24 N24
          rw [hsum]
          (k_steps; repeat' ((unfold Stop; first | (refine wpAny_Assign_Name ?_)); k_steps))
          rw [beq_self_eq_true]
          refine ret _ _ _ _ _ (by k_asm) (nsub (by k_asm) ?_) ⟨rfl, p1', q2, q3, r6, rfl, fun p hp => hr6 _ (.tail _ (.tail _ (hrs _ (hR5 _ (hRR _ (hrest _ hp)))))), ho6 98 (by simp), ho6 105 (by simp), ho6 84 (by simp), s16, st5.mono fun p hp => hr6 _ (.tail _ (.tail _ (hrs _ hp))), s3'.mono fun p hp => hr6 _ (.tail _ (.tail _ (hrs _ (hR5 _ hp))))⟩
          exact fun p hp => .tail _ (.tail _ (.tail _ (.tail _ (.tail _ hp))))
end

end
section
theorem wp_post {α : Type} {M : Model} {A : Around} {t : Sem α} {Q : α → Shared → Prop} {E : Value → Shared → Prop} {s : Shared} (R : α → Shared → Prop) (hq : ∀ a s', R a s' → Q a s')
   (h : ∀ (Q : α → Shared → Prop) (E : Value → Shared → Prop), (∀ a s', R a s' → Q a s') → wpAny M A t Q E s) : wpAny M A t Q E s := h Q E hq
theorem dg8_len4 {x : Nat} (h : x < 4096) : (dg8 x).length ≤ 4 := dg8_len 4 x h
section
local macro_rules | `(tactic| walk_at $k:str) => tabl [("call ref", "ST"), ("call builtin:sum", "ST"), ("compareOp NotEq ref ref", "ST"), ("binaryOp Mod int int", "ST"), ("subscriptTail Name Slice ref ref", "ST")] k
set_option maxHeartbeats 20000000 in
theorem law_proved : PySem.Challenge.rw_ph0177_01.Holds := hd (by
  k_go0
  all_goals try k_fold
  rename Shared => s1
  rename World => w
  rename CodeHd _ _ _ => cd1
  clear cd1
  rename CodeHd _ _ _ => cd1
  clear cd1
  rename CodeHd _ _ _ => cd1
  clear cd1
  refine wp_post (fun a s' => a = Flow.ret (.bool true) ∧ ∃ h' tk dr m' q1 q2 q3 r, s' = { heap := h', gens := s1.gens, drawn := dr, toks := tk, os := s1.os } ∧ Fr (ghostOf s1.heap [(109, 105), (88, 84), (102, 98)]) s1.heap.objs.size h' m' ∧ News (ghostOf s1.heap [(109, 105), (88, 84), (102, 98)]) s1.heap.objs.size h' (T3 q1 q2 q3 r)) ?hq ?main
  case hq =>
    rintro a s' ⟨rfl, h', tk, dr, m', q1, q2, q3, r, rfl, F', N'⟩
    dsimp only
    refine ⟨?_, GrownAt.of N' (.tail _ (.head _)), GrownAt.of N' (.tail _ (.tail _ (.head _))), GrownAt.of N' (.head _), True.intro⟩
    refine goodW_bool F' (by assumption) (raisesW_false ?_) ?_
    · wrow_none_raised
    · wrow_post
  case main =>
    intro Q9 E9 hQ9
    have hroom : callerA.depth + 1 + 100 < recursionLimit := by decide +kernel
    have hunit : callerA.units + 3 + 700 < cLine := by decide +kernel
    k_steps
    unfold Stop
    k_dflt (refine slice_step (by k_asm) (by k_asm) (Fr.lst (by k_asm) (by assumption)) (IsPart.int _ _) (IsPart.int _ _) (IsPart.int _ _) (by decide) (by assumption) ?_ (by with_unfolding_all rfl) (by kmk_pure) (by kmk_size))
    intro D1 ws1 ms1 hs1 Fs1 Ns1 ls1 hI1
    k_steps
    unfold Stop
    refine sumK rfl (by k_asm) (by k_asm) (News.isList (by k_asm) (.head _)) (by assumption) ?_
    intro h1 tk1 t1 F1 N1
    k_steps
    unfold Stop
    refine mod_cap (by decide) ?_
    intro x tx tkx hx
    k_steps
    unfold Stop
    k_dflt (refine slice_step (by k_asm) (by k_asm) (Fr.lst (by k_asm) (by assumption)) (IsPart.int _ _) (IsPart.int _ _) (IsPart.int _ _) (by decide) (by assumption) ?_ (by with_unfolding_all rfl) (by kmk_pure) (by kmk_size))
    intro D2 ws2 ms2 hs2 Fs2 Ns2 ls2 hI2
    k_steps
    unfold Stop
    refine sumK rfl (by k_asm) (by k_asm) (News.isList (by k_asm) (.head _)) (by assumption) ?_
    intro h2 tk2 t2 F2 N2
    k_steps
    unfold Stop
    refine mod_cap (by decide) ?_
    intro y ty tky hy
    k_steps
    unfold Stop
    k_dflt (refine Con.use (c_i2d3 w [] #[] #[] #[] x _ _ hx (fun _ _ _ h => nomatch h) (.inl rfl)) (by k_asm) (by k_asm) (by k_asm) (nsub (by k_asm) ?n1) (by k_asm) (by (first | exact rfl | assumption)) ?room ?units ?r1)
    case room => omega
    case units => omega
    case n1 => exact List.forall_mem_cons.mpr ⟨.tail _ (.tail _ (.tail _ (.tail _ (.head _)))), List.forall_mem_cons.mpr ⟨.tail _ (.tail _ (.head _)), List.forall_mem_cons.mpr ⟨.tail _ (.tail _ (.tail _ (.head _))), fun p hp => nomatch hp⟩⟩⟩
    rintro _ h3 tk3 _ F3 N3 ⟨Dw, wvs, wn, p1, r1, rfl, rfl, _, ho1, hD1, s11, hiw⟩
    k_steps
    unfold Stop
    have ho2 : OffX [98, 105, 84] ((Dw, listOf wvs.toArray wn) :: r1) := off3t (List.forall_mem_cons.mpr ⟨Ne.symm (hD1 (98, _) (.head _)), ho1 98 (by simp)⟩) (List.forall_mem_cons.mpr ⟨Ne.symm (hD1 (105, _) (.tail _ (.head _))), ho1 105 (by simp)⟩) (List.forall_mem_cons.mpr ⟨Ne.symm (hD1 (84, _) (.tail _ (.tail _ (.head _)))), ho1 84 (by simp)⟩)
    k_dflt (refine Con.use (c_i2d3 w ((Dw, listOf wvs.toArray wn) :: r1) p1 #[] #[] y _ _ hy ho2 (s11.mono fun p hp => .tail _ hp)) (by k_asm) (by k_asm) (by k_asm) (nsub (by k_asm) ?n2) (by k_asm) (by (first | exact rfl | assumption)) ?room ?units ?r2)
    case room => omega
    case units => omega
    case n2 => exact List.forall_mem_cons.mpr ⟨.tail _ (.head _), List.forall_mem_cons.mpr ⟨.tail _ (.tail _ (.head _)), List.forall_mem_cons.mpr ⟨.tail _ (.tail _ (.tail _ (.head _))), List.forall_mem_cons.mpr ⟨.head _, fun p hp => .tail _ (.tail _ (.tail _ (.tail _ hp)))⟩⟩⟩⟩
    rintro _ h4 tk4 _ F4 N4 ⟨Dt, tvs, tn, p2, r2, rfl, rfl, hr2, ho3, hD2, s12, hit⟩
    k_steps
    unfold Stop
    k_dflt (refine Con.use (c_eights w _ x _ hx) (by k_asm) (by k_asm) (by k_asm) (by k_asm) (by k_asm) (by (first | exact rfl | assumption)) ?room ?units ?r3)
    case room => omega
    case units => omega
    rintro _ h5 tk5 _ F5 N5 ⟨De, evs, ec, rfl, rfl, l5, hie⟩
    k_steps
    unfold Stop
    refine ne_ints_same N5 (.tail _ (.tail _ (.tail _ (.tail _ (.tail _ (hr2 _ (.head _))))))) hiw (.head _) hie (by show callerA.units + 3 + 64 < cLine; omega) ?_
    k_steps
    unfold Stop
    k_dflt (refine Con.use (c_eights w _ y _ hy) (by k_asm) (by k_asm) (by k_asm) (by exact N5) (by k_asm) (by (first | exact rfl | assumption)) ?room ?units ?r4)
    case room => omega
    case units => omega
    rintro _ h6 tk6 _ F6 N6 ⟨Df, fvs, fc, rfl, rfl, l6, hif⟩
    k_steps
    unfold Stop
    refine ne_ints_same N6 (.tail _ (.tail _ (.head _))) hit (.head _) hif (by show callerA.units + 3 + 64 < cLine; omega) ?_
    k_steps
    unfold Stop
    have ho4 : OffX [98, 105, 84] ((Dt, listOf tvs.toArray tn) :: r2) := off3t (List.forall_mem_cons.mpr ⟨Ne.symm (hD2 (98, _) (.head _)), ho3 98 (by simp)⟩) (List.forall_mem_cons.mpr ⟨Ne.symm (hD2 (105, _) (.tail _ (.head _))), ho3 105 (by simp)⟩) (List.forall_mem_cons.mpr ⟨Ne.symm (hD2 (84, _) (.tail _ (.tail _ (.head _)))), ho3 84 (by simp)⟩)
    k_dflt (refine ConD.use (c_holds w ((Dt, listOf tvs.toArray tn) :: r2) p2 #[] #[] x _ Dw Dt wvs tvs wn tn (dg8 y) hx (.tail _ (hr2 _ (.head _))) (.head _) hiw hit (dg8_len4 hy) (ho4 98 (by simp)) (ho4 105 (by simp)) (ho4 84 (by simp)) (s12.mono fun p hp => .tail _ hp) (.inl rfl) (.inl rfl)) (by k_asm) (by k_asm) (by k_asm) (nsub N6 ?n5) (by k_asm) (by (first | exact rfl | assumption)) ?room ?units ?r5)
    case room => omega
    case units => omega
    case n5 => exact List.forall_mem_cons.mpr ⟨.tail _ (.tail _ (.tail _ (.head _))), List.forall_mem_cons.mpr ⟨.tail _ (.tail _ (.tail _ (.tail _ (.head _)))), List.forall_mem_cons.mpr ⟨.tail _ (.tail _ (.tail _ (.tail _ (.tail _ (.head _))))), List.forall_mem_cons.mpr ⟨.tail _ (.tail _ (.head _)), fun p hp => .tail _ (.tail _ (.tail _ (.tail _ (.tail _ (.tail _ hp)))))⟩⟩⟩⟩
    rintro _ h7 tk7 dr7 _ F7 N7 ⟨rfl, p3, p4, p5, r3, rfl, hr3, o98, o105, o84, u1, u2, u3⟩
    k_steps
    unfold Stop
    k_dflt (refine krv_ints (by k_asm) (by k_asm) (News.isList N7 (.tail _ (.tail _ (.tail _ (hr3 _ (.head _)))))) (IsPart.int _ _) hit ?_ (by with_unfolding_all rfl) (by kmk_pure) ?z6)
    case z6 => rw [PySem.sizeLine_eq, List.size_toArray, hit.length, List.length_map]; have := dg8_len4 hy; omega
    intro D8 ws8 h8 F8 N8 l8 hi8 _
    k_steps
    unfold Stop
    have hrv : nats (dg8 y).reverse = (nats (dg8 y)).reverse := by simp [nats]
    k_dflt (refine ConD.use (c_holds w ((D8, listOf ws8.toArray 0) :: r3) p3 p4 p5 x _ Dw D8 wvs ws8 wn 0 (dg8 y).reverse hx (.tail _ (hr3 _ (.tail _ (hr2 _ (.head _))))) (.head _) hiw (by rw [hrv]; exact hi8) (by rw [List.length_reverse]; exact dg8_len4 hy) (List.forall_mem_cons.mpr ⟨Nat.ne_of_gt (l8 (98, _) (.head _)), o98⟩) (List.forall_mem_cons.mpr ⟨Nat.ne_of_gt (l8 (105, _) (.tail _ (.head _))), o105⟩) (List.forall_mem_cons.mpr ⟨Nat.ne_of_gt (l8 (84, _) (.tail _ (.tail _ (.head _)))), o84⟩) (u1.mono fun p hp => .tail _ hp) (u2.mono fun p hp => .tail _ hp) (u3.mono fun p hp => .tail _ hp)) (by k_asm) (by k_asm) (by k_asm) (nsub N8 ?n7) (by k_asm) (by (first | exact rfl | assumption)) ?room ?units ?r7)
    case room => omega
    case units => omega
    case n7 => exact List.forall_mem_cons.mpr ⟨.tail _ (.head _), List.forall_mem_cons.mpr ⟨.tail _ (.tail _ (.head _)), List.forall_mem_cons.mpr ⟨.tail _ (.tail _ (.tail _ (.head _))), List.forall_mem_cons.mpr ⟨.head _, fun p hp => .tail _ (.tail _ (.tail _ (.tail _ hp)))⟩⟩⟩⟩
    rintro _ h9 tk9 dr9 _ F9 N9 ⟨rfl, q3, q4, q5, r4, rfl, _⟩
    k_steps
    exact hQ9 _ _ ⟨rfl, _, _, _, _, _, _, _, _, rfl, F9, N9⟩)
end

end
end Mine
theorem PySem.Challenge.cw_ph0177_01_holds : PySem.Challenge.rw_ph0177_01.Holds := by
  exact Mine.law_proved
