import PyProof.Rows.All
import Wide.All
import OpenK.AllK
import Wide.FinOn
import Lean
import PySem.Challenge.RW_xi0002_01
open PySem PySem.W PyProof.Rows PySem.Calls
set_option Elab.async false
set_option maxRecDepth 100000
set_option linter.unusedVariables false

-- HD
namespace Mine
set_option maxRecDepth 100000 in
set_option maxHeartbeats 8000000 in
open_top hd for PySem.Challenge.rw_xi0002_01
end Mine

-- MB
namespace Mine

abbrev PG : Program := PySem.Challenge.rw_xi0002_01.row.prog

/-- fills the tactics' own table of the written part -/
theorem fill0 (w : World) (h : Heap) : ((hd.heap_39 w.params).In h ∧ PySem.Challenge.rw_xi0002_01.row.prog = PySem.Challenge.rw_xi0002_01.row.prog) → True := by
  k_fill
  intros; trivial

/-- what every function of the text needs of the heap that it is called in -/
structure Cx (w : World) (h : Heap) : Prop where
  X : (hd.heap_39 w.params).In h
  T : ∃ (p : Program) (loose : List Str) (mean : ExcName → Option Value) (mg mb : Str → Option Value), Top p loose mean mg mb h

abbrev Kp (h h' : Heap) : Prop := ∀ b o, h.get? b = some o → h'.get? b = some o

theorem Cx.keeps {w : World} {h h' : Heap} (C : Cx w h) (k : Kp h h') : Cx w h' :=
  ⟨C.X.keeps k, let ⟨p, l, e, g, b, T⟩ := C.T; ⟨p, l, e, g, b, T.keeps k⟩⟩

/-- room for d more frames -/
structure Room (A : Around) (d : Nat) : Prop where
  hd : A.handled = none
  dp : A.depth + d < recursionLimit
  un : A.units + 8 * d + 100 < cLine

theorem Room.deeper {A : Around} {d : Nat} (R : Room A (d + 1)) (env : Env) : Room (A.deeper env) d :=
  ⟨R.hd, by have := R.dp; show A.depth + 1 + d < _; omega, by have := R.un; show A.units + 3 + 8 * d + 100 < _; omega⟩
theorem Room.in1 {A : Around} {d : Nat} (R : Room A (d + 1)) : Room A.in1 d :=
  ⟨R.hd, by have := R.dp; show A.depth + d < _; omega, by have := R.un; show A.units + 1 + 8 * d + 100 < _; omega⟩
theorem Room.u64 {A : Around} {d : Nat} (R : Room A d) : A.units + 64 < cLine := by have := R.un; omega
theorem Room.less {A : Around} {d e : Nat} (R : Room A d) (h : e ≤ d) : Room A e :=
  ⟨R.hd, by have := R.dp; omega, by have := R.un; omega⟩

section
variable {w : World} {A : Around} {s : Shared} {Q E : Value → Shared → Prop}

theorem enter {name qual : Str} {params : Arguments} {body : List Stmt} {scope : Scope} {dV kV doc pm cdv ct oc : Value} {an od : Option Addr} {osl : Array (Option Value)} {f : Addr} {vs : List Value} {d : Nat}
    (binds : List (Str × Value)) (C : Cx w s.heap) (R : Room A (d + 1))
    (ho : (hd.heap_39 w.params).lookup f = some ⟨oc, od, .func (fnOf name qual params body scope dV kV doc pm an cdv ct), osl⟩) (hcd : codeIn (hd.heap_39 w.params) cdv qual = true)
    (hbind : bindArgs (fnOf name qual params body scope dV kV doc pm an cdv ct) ⟨vs, []⟩ = pure binds) (hloc : (binds.all fun x => decide (scope.names.lookup x.1 = some .local)) = true)
    (h : ∀ h₁, Fr s.heap s.heap.objs.size h₁ (fun y => binds.reverse.lookup y) →
      wpAny (model PG w) (A.deeper (envOf qual scope s.heap.objs.size f cdv)) (execs body (envOf qual scope s.heap.objs.size f cdv))
        (fun fl s' => Q (match fl with | .ret v => v | _ => .none) s') (fun _ _ => False) { s with heap := h₁, toks := s.toks + binds.length })
    (hco : scope.isCoroutine = false) (hgen : scope.isGenerator = false) (hk : scope.kind = .function)
    (hcell : (scope.names.all fun x => decide (x.2 ≠ .cell)) = true) : wpAny (model PG w) A (call (.ref f) vs) Q E s := by
  obtain ⟨p, loose, mean, mg, mb, T⟩ := C.T
  refine wpAny_call (codeAny_call_def (fd := fnOf name qual params body scope dV kV doc pm an cdv ct) (body := body) (binds := binds) (by have := R.dp; omega) (C.X _ _ ho) rfl T.nolimit (codeRec_of C.X hcd) rfl (BindsTo.of_eq hbind)
    (fun x hx => of_decide_eq_true (List.all_eq_true.mp hcell x hx)) (fun x hx => of_decide_eq_true (List.all_eq_true.mp hloc x hx)) (fun h₁ hns hk₁ => ?_) hco hgen hk)
  exact wpAny_mono (h h₁ ⟨hns, hk₁, Nat.le_refl _⟩) (fun fl s' q => q) fun _ _ e => e.elim
end
end Mine

-- MB2
namespace Mine

abbrev FF : Value → Shared → Prop := fun _ _ => False
theorem lt3 : ∀ {i : Nat}, i < 3 → i = 0 ∨ i = 1 ∨ i = 2 := fun {i} h => (by decide : ∀ i : Nat, i < 3 → i = 0 ∨ i = 1 ∨ i = 2) i h
theorem lt4 : ∀ {i : Nat}, i < 4 → i = 0 ∨ i = 1 ∨ i = 2 ∨ i = 3 := fun {i} h => (by decide : ∀ i : Nat, i < 4 → i = 0 ∨ i = 1 ∨ i = 2 ∨ i = 3) i h
theorem lt5 : ∀ {i : Nat}, i < 5 → i = 0 ∨ i = 1 ∨ i = 2 ∨ i = 3 ∨ i = 4 := fun {i} h => (by decide : ∀ i : Nat, i < 5 → i = 0 ∨ i = 1 ∨ i = 2 ∨ i = 3 ∨ i = 4) i h
theorem lt8 : ∀ {i : Nat}, i < 8 → i = 0 ∨ i = 1 ∨ i = 2 ∨ i = 3 ∨ i = 4 ∨ i = 5 ∨ i = 6 ∨ i = 7 := fun {i} h => (by decide : ∀ i : Nat, i < 8 → i = 0 ∨ i = 1 ∨ i = 2 ∨ i = 3 ∨ i = 4 ∨ i = 5 ∨ i = 6 ∨ i = 7) i h
theorem z01 (i : Nat) : (0 + (i : Nat) * 1 : Int) = (i : Int) := by rw [Int.zero_add, Int.mul_one]
theorem neL {L k : Nat} (h : 0 < k) : L ≠ L + k := Nat.ne_of_lt (Nat.lt_add_of_pos_right h)
theorem neG {L k : Nat} (h : 0 < k) : L + k ≠ L := Nat.ne_of_gt (Nat.lt_add_of_pos_right h)
theorem neLL {L i j : Nat} (h : i ≠ j) : L + i ≠ L + j := fun q => h (Nat.add_left_cancel q)
theorem off9k {L b k : Nat} (h : @LE.le Nat _ (L + 9) b) (hk : k < 9) : b ≠ L + k := Nat.ne_of_gt (Nat.lt_of_lt_of_le (Nat.add_lt_add_left hk _) h)
theorem ltk {L b : Nat} (h : @LT.lt Nat _ b L) (k : Nat) : b ≠ L + k := Nat.ne_of_lt (Nat.lt_of_lt_of_le h (Nat.le_add_right _ _))
theorem toN {x : Int} (h : 0 ≤ x) : x = (x.toNat : Int) := (Int.toNat_of_nonneg h).symm
theorem meas {i n : Nat} (h : i < n) : n + 1 - (i + 1) < n + 1 - i := Nat.sub_lt_sub_left (Nat.lt_succ_of_lt h) (Nat.lt_succ_self i)
theorem i63 {i n : Nat} (h : i < n) (hn : n ≤ 2 ^ 60) : (i : Int) < 2 ^ 63 := by omega
theorem pred_toNat (i : Nat) : ((i : Int) - 1).toNat = i - 1 := by omega
theorem pred0 {i : Nat} (h : ¬ i = 0) : (0 : Int) ≤ (i : Int) - 1 := by omega
theorem pred63 {i : Nat} (h : (i : Int) < 2 ^ 63) : (i : Int) - 1 < 2 ^ 63 := by omega
theorem six {t : Nat} (h : (t : Int) < 6) : ∃ f, 6 - t = f + 1 ∧ 6 - (t + 1) = f ∧ 6 - (t + 1) < 6 - t ∧ t + 1 < 7 := ⟨5 - t, (by decide : ∀ t : Nat, t < 6 → 6 - t = 5 - t + 1 ∧ 6 - (t + 1) = 5 - t ∧ 6 - (t + 1) < 6 - t ∧ t + 1 < 7) t (Int.ofNat_lt.mp h)⟩
theorem off3 {L k : Nat} (h1 : 0 < k) (h2 : k < 4) : L + k ≠ L ∧ ¬ (L + 4 ≤ L + k ∧ L + k ≤ L + 8) := by omega
theorem off9 {L b : Nat} (h : @LE.le Nat _ (L + 9) b) : b ≠ L ∧ ¬ (L + 4 ≤ b ∧ b ≤ L + 8) := by omega
theorem off0 {L b : Nat} (h : @LT.lt Nat _ b L) : ¬ (L + 4 ≤ b ∧ b ≤ L + 8) := by omega
theorem ne51 {L b : Nat} (h : 51 < L) (h' : L ≤ b) : b ≠ 51 := by omega
/-- a post that the walk need not see -/
theorem hideQ {α : Type} {M : Model} {A : Around} {t : Sem α} {Q : α → Shared → Prop} {E : Value → Shared → Prop} {s : Shared} (h : ∀ Q' : α → Shared → Prop, (∀ {a s'}, Q a s' → Q' a s') → wpAny M A t Q' E s) : wpAny M A t Q E s := h Q fun x => x
/-- the same, and the parts of the state that no step turns -/
theorem hideS {α : Type} {M : Model} {A : Around} {t : Sem α} {Q : α → Shared → Prop} {E : Value → Shared → Prop} {hp : Heap} {g0 d0 tk o0} (k : ∀ g d o (Q' : α → Shared → Prop), (∀ {a h' tk'}, Q a ⟨h', g0, d0, tk', o0⟩ → Q' a ⟨h', g, d, tk', o⟩) → wpAny M A t Q' E ⟨hp, g, d, tk, o⟩) : wpAny M A t Q E ⟨hp, g0, d0, tk, o0⟩ := k g0 d0 o0 Q fun x => x
theorem and5 {a b c d e G : Prop} (h : a ∧ b ∧ c ∧ d ∧ e) (k : a → b → c → d → e → G) : G := k h.1 h.2.1 h.2.2.1 h.2.2.2.1 h.2.2.2.2
theorem and4 {a b c d G : Prop} (h : a ∧ b ∧ c ∧ d) (k : a → b → c → d → G) : G := k h.1 h.2.1 h.2.2.1 h.2.2.2
theorem and6 {a b c d e f G : Prop} (h : a ∧ b ∧ c ∧ d ∧ e ∧ f) (k : a → b → c → d → e → f → G) : G := k h.1 h.2.1 h.2.2.1 h.2.2.2.1 h.2.2.2.2.1 h.2.2.2.2.2
theorem and7 {a b c d e f g G : Prop} (h : a ∧ b ∧ c ∧ d ∧ e ∧ f ∧ g) (k : a → b → c → d → e → f → g → G) : G := k h.1 h.2.1 h.2.2.1 h.2.2.2.1 h.2.2.2.2.1 h.2.2.2.2.2.1 h.2.2.2.2.2.2
theorem and9 {a b c d e f g i j G : Prop} (h : a ∧ b ∧ c ∧ d ∧ e ∧ f ∧ g ∧ i ∧ j) (k : a → b → c → d → e → f → g → i → j → G) : G := k h.1 h.2.1 h.2.2.1 h.2.2.2.1 h.2.2.2.2.1 h.2.2.2.2.2.1 h.2.2.2.2.2.2.1 h.2.2.2.2.2.2.2.1 h.2.2.2.2.2.2.2.2
theorem mono_ff {α : Type} {M : Model} {A : Around} {t : Sem α} {Q : α → Shared → Prop} {E : Value → Shared → Prop} {s : Shared} (h : wpAny M A t Q FF s) : wpAny M A t Q E s :=
  wpAny_mono h (fun _ _ x => x) fun _ _ x => x.elim

/-- an iterator at I: n items, P of the i-th, the tokens ahead of it and behind it; fp: what it reads, wr: what it turns -/
structure Wk (w : World) (A : Around) (I : Addr) (fp wr : List Addr) (n : Nat) (P : Nat → Value → Nat → Nat → Prop) (St : Nat → Heap → Prop) : Prop where
  sub : ∀ b ∈ wr, b ∈ fp
  live : ∀ i h, St i h → ∀ b ∈ fp, ∃ o, h.get? b = some o
  frame : ∀ i h h', St i h → (∀ b ∈ fp, ∀ o, h.get? b = some o → h'.get? b = some o) → St i h'
  item : ∀ i (s : Shared) (Q : Option Value → Shared → Prop), i < n → St i s.heap →
    (∀ v h' tk, s.toks ≤ tk → P i v s.toks tk → St (i + 1) h' → (∀ b o, b ∉ wr → s.heap.get? b = some o → h'.get? b = some o) → Q (some v) { s with heap := h', toks := tk }) → wpAny (model PG w) A (pyNext (.ref I)) Q FF s
  done : ∀ (s : Shared) (Q : Option Value → Shared → Prop), St n s.heap →
    (∀ h' tk, s.toks ≤ tk → (∀ b o, b ∉ wr → s.heap.get? b = some o → h'.get? b = some o) → Q none { s with heap := h', toks := tk }) → wpAny (model PG w) A (pyNext (.ref I)) Q FF s
  self : ∀ i (s : Shared) (Q : Value → Shared → Prop), St i s.heap → Q (.ref I) s → wpAny (model PG w) A (pyIter (.ref I)) Q FF s

theorem Wk.of {w : World} {A : Around} {I : Addr} {fp wr : List Addr} {n : Nat} {P : Nat → Value → Prop} {St : Nat → Heap → Prop} (W : Walks PG w A I fp wr n P St)
    (live : ∀ i h, St i h → ∀ b ∈ fp, ∃ o, h.get? b = some o) : Wk w A I fp wr n (fun i v _ _ => P i v) St where
  sub := W.sub
  live := live
  frame := W.frame
  item := fun i s Q hi st hQ => wpAny_with_toks (Nat.le_refl s.toks) (W.item i s _ _ hi st fun v h' tk hP st' hk htk => hQ v h' tk htk hP st' hk)
  done := fun s Q st hQ => wpAny_with_toks (Nat.le_refl s.toks) (W.done s _ _ st fun h' tk hk htk => hQ h' tk htk hk)
  self := fun i s Q st hQ => W.self i s Q _ st hQ

theorem Wk.list {w : World} {A : Around} (hh : A.handled = none) (I ax : Addr) (hne : ax ≠ I) (items : Array Value) :
    Wk w A I [I, ax] [I] items.size (fun i v _ _ => items[i]? = some v) (fun i h => h.IsListIter I ax i ∧ h.IsList ax items) :=
  Wk.of (Walks.list hh I ax hne items) fun i h st b hb => by
    rcases List.mem_cons.mp hb with rfl | hb
    · obtain ⟨o, ho, _⟩ := st.1; exact ⟨o, ho⟩
    · rw [List.mem_singleton.mp hb]; obtain ⟨o, ho, _⟩ := st.2; exact ⟨o, ho⟩

theorem Wk.range {w : World} {A : Around} (hh : A.handled = none) (I : Addr) (a c : Int) (n : Nat) :
    Wk w A I [I] [I] n (fun i v lo hi => ∃ t, v = .int (a + i * c) t ∧ lo ≤ t ∧ t < hi) (fun i h => IsRangeIter h I (a + (i : Nat) * c) ((n : Int) - (i : Nat)) c) where
  sub := fun _ hb => hb
  live := fun i h st b hb => by rw [List.mem_singleton.mp hb]; exact ⟨_, st⟩
  frame := fun _ _ _ st hk => hk I (by simp) _ st
  item := fun i s Q hi st hQ => by
    refine wpAny_pyNext_range_item st (by omega) fun h' hit' hs' => ?_
    refine hQ _ h' _ (Nat.le_succ _) ⟨_, rfl, Nat.le_refl _, Nat.lt_succ_self _⟩ ?_ fun b o hb e => hs'.extBut b o (fun h => hb (by simp [h])) e
    have e1 : a + ((i + 1 : Nat) : Int) * c = a + (i : Int) * c + c := by push_cast; rw [Int.add_mul, Int.one_mul, Int.add_assoc]
    have e2 : (n : Int) - ((i + 1 : Nat) : Int) = (n : Int) - (i : Int) - 1 := by push_cast; omega
    rw [e1, e2]; exact hit'
  done := fun s Q st hQ => wpAny_pyNext_range_end hh st (by omega) fun h' he' => hQ h' s.toks (Nat.le_refl _) fun b o hb e => he' b o (fun h => hb (by simp [h])) e
  self := fun _ _ _ st hQ => wpAny_pyIter_rangeiter st hQ

section
variable {w : World} {A : Around} {s : Shared} {env : Env} {h₀ : Heap}

/-- what a turn of a for leaves -/
def Turned (h₀ : Heap) (L : Addr) (fp wr : List Addr) (J : Nat → (Str → Option Value) → List (Addr × Obj) → Prop) (s₁ : Shared) (R : Flow → Shared → Prop) (f : Flow) (s₂ : Shared) : Prop :=
  match f with
  | .ret v => R (.ret v) s₂
  | .brk => R .next s₂
  | _ => ∃ h' tk m' news', s₂ = { s₁ with heap := h', toks := tk } ∧ (∀ b ∈ fp, ∀ o, s₁.heap.get? b = some o → h'.get? b = some o) ∧ Fr h₀ L h' m' ∧ News h₀ L h' news' ∧ (∀ p ∈ news', p.1 ∉ wr) ∧ J tk m' news'

theorem forLoop_my {R : Result → Shared → Prop} {x : Str} {px : Pos} {body : List Stmt} {I : Addr} {fp wr : List Addr} {n : Nat} {P : Nat → Value → Nat → Nat → Prop} {St : Nat → Heap → Prop} {m : Str → Option Value} {news : List (Addr × Obj)}
    (W : Wk w A I fp wr n P St) (hx : env.kindOf x = some .local) (hp : (env.scope.kind == .class || (env.scope.kind == .module && env.locals != env.globals)) = false)
    (hLf : env.locals ∉ fp) (hwr : ∀ b ∈ wr, h₀.get? b = none) (hnw : ∀ p ∈ news, p.1 ∉ wr) (hst : St 0 s.heap) (F : Fr h₀ env.locals s.heap m) (N : News h₀ env.locals s.heap news)
    (J : Nat → Nat → (Str → Option Value) → List (Addr × Obj) → Prop) (hm : ∀ i tk tk' m n, tk ≤ tk' → J i tk m n → J i tk' m n) (h0 : J 0 s.toks m news)
    (step : ∀ i v m₁ news₁ h tk, i < n → (∃ lo hi, s.toks ≤ lo ∧ hi ≤ tk ∧ P i v lo hi) → s.toks ≤ tk → J i tk m₁ news₁ → (∀ p ∈ news₁, p.1 ∉ wr) → St (i + 1) h → Fr h₀ env.locals h (fun y => if y = x then some v else m₁ y) → News h₀ env.locals h news₁ →
      wpAny (model PG w) A (execs body env) (Turned h₀ env.locals fp wr (J (i + 1)) { s with heap := h, toks := tk } fun f s' => R (.ok f) s') FF { s with heap := h, toks := tk })
    (hR : ∀ h' tk m' news', s.toks ≤ tk → Fr h₀ env.locals h' m' → News h₀ env.locals h' news' → (∀ p ∈ news', p.1 ∉ wr) → J n tk m' news' → R (.ok .next) { s with heap := h', toks := tk }) :
    codeAny (model PG w) A (.forLoop (.Name x px) (.ref I) body [] env) R s := by
  have hLw : env.locals ∉ wr := fun h => hLf (W.sub _ h)
  have old : ∀ b o, h₀.get? b = some o → b ∉ wr := fun b o e hb => by rw [hwr b hb] at e; cases e
  refine codeAny_forLoop
    (fun k s' => ∃ h' tk m' news' i, s' = { s with heap := h', toks := tk } ∧ s.toks ≤ tk ∧ St i h' ∧ Fr h₀ env.locals h' m' ∧ News h₀ env.locals h' news' ∧ (∀ p ∈ news', p.1 ∉ wr) ∧ J i tk m' news' ∧ i ≤ n ∧ k = n + 1 - i) ?_ (n + 1)
    ⟨s.heap, s.toks, m, news, 0, rfl, Nat.le_refl _, hst, F, N, hnw, h0, Nat.zero_le _, rfl⟩
  rintro k s' ⟨h', tk, m', news', i, rfl, htk, hst', F', N', hnw', hJ, hi, rfl⟩
  have next : ∀ h₁ : Heap, (∀ b o, b ∉ wr → h'.get? b = some o → h₁.get? b = some o) → Fr h₀ env.locals h₁ m' ∧ News h₀ env.locals h₁ news' := fun h₁ hk₁ =>
    ⟨⟨F'.ns.at' fun o e => hk₁ _ o hLw e, fun b o e => hk₁ b o (old b o e) (F'.keep b o e), F'.above⟩, fun p hp => ⟨hk₁ _ _ (hnw' p hp) (N' p hp).1, (N' p hp).2⟩⟩
  by_cases hlt : i < n
  · refine mono_ff (W.item i _ _ hlt hst' fun v h₁ tk₁ htk₁ hP hst₁ hk₁ => ?_)
    obtain ⟨F₁, N₁⟩ := next h₁ hk₁
    refine wpAny_assign_Name (wpAny_storeName_local hx F₁.ns (fun h₂ hn₂ hs₂ => ?_) hp)
    have F₂ := F₁.set hn₂ hs₂
    have hst₂ : St (i + 1) h₂ := W.frame _ _ _ hst₁ fun b hb o e => (hs₂.2 b fun q => hLf (q ▸ hb)).trans e
    have htk' : tk ≤ tk₁ := htk₁
    refine mono_ff (wpAny_mono (wpAny_toks_of (n := tk₁ + 1) (Nat.le_refl _) (step i v m' news' h₂ (tk₁ + 1) hlt ⟨tk, tk₁, htk, Nat.le_succ _, hP⟩ (by omega) (hm _ _ _ _ _ (by omega) hJ) hnw' hst₂ F₂ (N₁.set hs₂))) (fun f s₃ h₃ => ?_) fun _ _ e => e.2)
    obtain ⟨htk₃, h₃⟩ := h₃
    have fin : (∃ h' tk m' news', s₃ = { s with heap := h', toks := tk } ∧ (∀ b ∈ fp, ∀ o, h₂.get? b = some o → h'.get? b = some o) ∧ Fr h₀ env.locals h' m' ∧ News h₀ env.locals h' news' ∧ (∀ p ∈ news', p.1 ∉ wr) ∧ J (i + 1) tk m' news') →
        ∃ m, m < n + 1 - i ∧ ∃ h' tk m' news' i, s₃ = { s with heap := h', toks := tk } ∧ s.toks ≤ tk ∧ St i h' ∧ Fr h₀ env.locals h' m' ∧ News h₀ env.locals h' news' ∧ (∀ p ∈ news', p.1 ∉ wr) ∧ J i tk m' news' ∧ i ≤ n ∧ m = n + 1 - i := by
      rintro ⟨h₃', tk₃, m₂, news₂, rfl, hk₃, F₃, N₃, ha₃, hJ₃⟩
      refine ⟨n + 1 - (i + 1), meas hlt, h₃', tk₃, m₂, news₂, i + 1, rfl, ?_, W.frame _ _ _ hst₂ hk₃, F₃, N₃, ha₃, hJ₃, hlt, rfl⟩
      have : tk₁ + 1 ≤ tk₃ := htk₃
      omega
    cases f with
    | ret v => exact h₃
    | brk => exact h₃
    | cont => exact fin h₃
    | next => exact fin h₃
  · have hin : i = n := by omega
    subst hin
    refine mono_ff (W.done _ _ hst' fun h₁ tk₁ htk₁ hk₁ => wpAny_execs_nil ?_)
    obtain ⟨F₁, N₁⟩ := next h₁ hk₁
    have htk' : tk ≤ tk₁ := htk₁
    exact hR h₁ tk₁ m' news' (by omega) F₁ N₁ hnw' (hm _ _ _ _ _ htk' hJ)

theorem stS {M : Model} {A : Around} {E : Value → Shared → Prop} {name : Str} {scope : Scope} {L a : Addr} {cd : Value} {m : Str → Option Value} {x : Str} {v : Value} {Q : Unit → Shared → Prop} (F : Fr h₀ L s.heap m)
    (h : ∀ h', Fr h₀ L h' (fun y => if y = x then some v else m y) → Heap.SameBut L s.heap h' → Q () { s with heap := h', toks := s.toks + 1 })
    (hk : scope.kind = .function := by rfl) (hl : (envOf name scope L a cd).kindOf x = some .local := by rfl) :
    wpAny M A (storeName (envOf name scope L a cd) x v) Q E s :=
  wpAny_storeName_local hl F.ns (fun h' hn hs => h h' (F.set hn hs) hs)
    (by show (scope.kind == .class || (scope.kind == .module && L != mainGlobals)) = false; rw [hk]; rfl)

/-- for x in xv -/
theorem for_my {x : Str} {px pos : Pos} {iter : Expr} {body : List Stmt} {Q : Flow → Shared → Prop} (h₀ : Heap) (hx : env.kindOf x = some .local) (hp : (env.scope.kind == .class || (env.scope.kind == .module && env.locals != env.globals)) = false)
    (h : wpAny (model PG w) A (eval iter env) (fun xv s₁ => wpAny (model PG w) A (pyIter xv) (fun it s₂ => codeAny (model PG w) A (.forLoop (.Name x px) it body [] env) (fun r s' => match r with | .ok f => Q f s' | .error _ => False) s₂) FF s₁) FF s)
    (hs : ∀ x, foldedSetIterable iter env x = pure x := by intro _; rfl) :
    wpAny (model PG w) A (exec (.For (.Name x px) iter body [] pos) env) Q FF s := by
  refine wpAny_For (wpAny_mono h (fun xv s₁ h₁ => wpAny_mono h₁ (fun it s₂ h₂ => ?_) fun _ _ e => e) fun _ _ e => e) hs
  exact codeAny_mono h₂ fun r s' q => by
    cases r with
    | ok f => exact q
    | error e => exact q.elim

/-- for x in a list (of the ledger, of the base, or of neither) -/
theorem iter_list {R : Result → Shared → Prop} {x : Str} {px : Pos} {body : List Stmt} {l : Addr} {vs : List Value} {m : Str → Option Value} {news : List (Addr × Obj)}
    (hh : A.handled = none) (hx : env.kindOf x = some .local) (hp : (env.scope.kind == .class || (env.scope.kind == .module && env.locals != env.globals)) = false)
    (hl : s.heap.IsList l vs.toArray) (hlL : l ≠ env.locals) (F : Fr h₀ env.locals s.heap m) (N : News h₀ env.locals s.heap news)
    (J : Nat → Nat → (Str → Option Value) → List (Addr × Obj) → Prop) (hm : ∀ i tk tk' m n, tk ≤ tk' → J i tk m n → J i tk' m n) (h0 : J 0 s.toks m news)
    (step : ∀ I i v m₁ news₁ h tk, vs[i]? = some v → s.toks ≤ tk → J i tk m₁ news₁ → (∀ p ∈ news₁, p.1 ≠ I) → (∃ o, h.get? I = some o) → s.heap.get? I = none → I ≠ env.locals → h.IsList l vs.toArray → Fr h₀ env.locals h (fun y => if y = x then some v else m₁ y) → News h₀ env.locals h news₁ →
      wpAny (model PG w) A (execs body env) (Turned h₀ env.locals [I, l] [I] (J (i + 1)) { s with heap := h, toks := tk } fun f s' => R (.ok f) s') FF { s with heap := h, toks := tk })
    (hR : ∀ h' tk m' news', s.toks ≤ tk → Fr h₀ env.locals h' m' → News h₀ env.locals h' news' → J vs.length tk m' news' → R (.ok .next) { s with heap := h', toks := tk }) :
    wpAny (model PG w) A (pyIter (.ref l)) (fun it s₂ => codeAny (model PG w) A (.forLoop (.Name x px) it body [] env) R s₂) FF s := by
  obtain ⟨ol, hol, _⟩ := id hl
  have hlt : l < s.heap.objs.size := Heap.lt_size hol
  have hne : l ≠ s.heap.objs.size := Nat.ne_of_lt hlt
  have hfr : s.heap.get? s.heap.objs.size = none := Heap.get?_none_of_le (Nat.le_refl _)
  refine wpAny_pyIter_list hl ?_
  have W := Wk.list (w := w) hh s.heap.objs.size l hne vs.toArray
  rw [List.size_toArray] at W
  refine forLoop_my W hx hp ?_ ?_ ?_ ⟨⟨_, Heap.get?_push_size _ rfl, rfl, rfl⟩, hl.at fun o e => Heap.get?_push_of_some _ e⟩ (F.push _) (fun p hp => ⟨Heap.get?_push_of_some _ (N p hp).1, (N p hp).2⟩) J hm h0 ?_ ?_
  · intro hm
    rcases List.mem_cons.mp hm with e | hm
    · exact absurd F.ns.lt (e ▸ Nat.lt_irrefl _)
    · exact hlL (List.mem_singleton.mp hm).symm
  · intro b hb
    rw [List.mem_singleton.mp hb]
    exact next_is_new F
  · intro p hp hI
    exact absurd (Heap.lt_size (N p hp).1) ((List.mem_singleton.mp hI) ▸ Nat.lt_irrefl _)
  · rintro i v m₁ news₁ h tk hi ⟨lo, hi', _, _, hP⟩ htk hJ hnw st F₁ N₁
    have hv : vs[i]? = some v := by simpa using hP
    refine step s.heap.objs.size i v m₁ news₁ h tk hv htk hJ (fun p hp e => hnw p hp (by rw [e]; exact List.mem_singleton.mpr rfl)) ?_ hfr (Nat.ne_of_gt F.ns.lt) st.2 F₁ N₁
    obtain ⟨o, ho, _⟩ := st.1
    exact ⟨o, ho⟩
  · intro h' tk m' news' htk F' N' _ hJ
    exact hR h' tk m' news' htk F' N' hJ

/-- for x in range(a, b, c) -/
theorem iter_range {R : Result → Shared → Prop} {x : Str} {px : Pos} {body : List Stmt} {r : Addr} {a b c : Int} {t u v : Tok} {n : Nat} {m : Str → Option Value} {news : List (Addr × Obj)}
    (hh : A.handled = none) (hx : env.kindOf x = some .local) (hp : (env.scope.kind == .class || (env.scope.kind == .module && env.locals != env.globals)) = false)
    (hr : IsRange s.heap r a b c t u v) (hsmall : Builtin.Range.small a b c = true) (hn : Builtin.Range.rangeSize a b c = (n : Int)) (F : Fr h₀ env.locals s.heap m) (N : News h₀ env.locals s.heap news)
    (J : Nat → Nat → (Str → Option Value) → List (Addr × Obj) → Prop) (hm : ∀ i tk tk' m n, tk ≤ tk' → J i tk m n → J i tk' m n) (h0 : J 0 s.toks m news)
    (step : ∀ I i t m₁ news₁ h tk, i < n → s.toks ≤ tk → J i tk m₁ news₁ → (∀ p ∈ news₁, p.1 ≠ I) → (∃ o, h.get? I = some o) → s.heap.get? I = none → I ≠ env.locals → Fr h₀ env.locals h (fun y => if y = x then some (.int (a + i * c) t) else m₁ y) → News h₀ env.locals h news₁ →
      wpAny (model PG w) A (execs body env) (Turned h₀ env.locals [I] [I] (J (i + 1)) { s with heap := h, toks := tk } fun f s' => R (.ok f) s') FF { s with heap := h, toks := tk })
    (hR : ∀ h' tk m' news', s.toks ≤ tk → Fr h₀ env.locals h' m' → News h₀ env.locals h' news' → J n tk m' news' → R (.ok .next) { s with heap := h', toks := tk }) :
    wpAny (model PG w) A (pyIter (.ref r)) (fun it s₂ => codeAny (model PG w) A (.forLoop (.Name x px) it body [] env) R s₂) FF s := by
  have hfr : s.heap.get? s.heap.objs.size = none := Heap.get?_none_of_le (Nat.le_refl _)
  refine wpAny_pyIter_range hr hsmall ?_
  refine forLoop_my (Wk.range (w := w) hh s.heap.objs.size a c n) hx hp ?_ ?_ ?_ (by show IsRangeIter _ _ _ _ _; rw [hn]; simpa using Heap.get?_push_size _ rfl) (F.push _) (fun p hp => ⟨Heap.get?_push_of_some _ (N p hp).1, (N p hp).2⟩) J hm h0 ?_ ?_
  · intro hm
    exact absurd F.ns.lt ((List.mem_singleton.mp hm) ▸ Nat.lt_irrefl _)
  · intro b hb
    rw [List.mem_singleton.mp hb]
    exact next_is_new F
  · intro p hp hI
    exact absurd (Heap.lt_size (N p hp).1) ((List.mem_singleton.mp hI) ▸ Nat.lt_irrefl _)
  · rintro i v m₁ news₁ h tk hi ⟨lo, hi', _, _, t, rfl, _, _⟩ htk hJ hnw st F₁ N₁
    exact step s.heap.objs.size i t m₁ news₁ h tk hi htk hJ (fun p hp e => hnw p hp (by rw [e]; exact List.mem_singleton.mpr rfl)) ⟨_, st⟩ hfr (Nat.ne_of_gt F.ns.lt) F₁ N₁
  · intro h' tk m' news' htk F' N' _ hJ
    exact hR h' tk m' news' htk F' N' hJ
end
end Mine

-- MB3
namespace Mine

section
variable {w : World} {A : Around} {s : Shared} {env : Env}

/-- the loop of a comprehension with one clause and no test. S: what a turn may change of the old; J may speak of what is none of C, D, wr -/
theorem compLoop_my {R : Result → Shared → Prop} {elt iter : Expr} {x : Str} {px pos : Pos} {scope : Scope} {I D : Addr} {fp wr : List Addr} {n : Nat} {P : Nat → Value → Nat → Nat → Prop} {St : Nat → Heap → Prop} {cenv : Env} {m : Str → Option Value} (S : List Addr)
    (W : Wk w A I fp wr n P St) (hx : cenv.kindOf x = some .local) (hp : (cenv.scope.kind == .class || (cenv.scope.kind == .module && cenv.locals != cenv.globals)) = false)
    (hDC : D ≠ cenv.locals) (hDf : D ∉ fp) (hCf : cenv.locals ∉ fp) (hS : ∀ b ∈ S, b ≠ D ∧ b ≠ cenv.locals ∧ b ∉ fp)
    (J : Nat → List Value → Nat → Heap → Prop)
    (hJ : ∀ i ys tk tk' h h', tk ≤ tk' → (∀ b o, b ≠ cenv.locals → b ≠ D → b ∉ wr → h.get? b = some o → h'.get? b = some o) → J i ys tk h → J i ys tk' h')
    (hst : St 0 s.heap) (hacc : s.heap.PlainList D #[]) (hn : s.heap.Ns cenv.locals m) (h0 : J 0 [] s.toks s.heap)
    (turn : ∀ i v ys h tk m, i < n → ys.length = i → (∃ lo hi, s.toks ≤ lo ∧ hi ≤ tk ∧ P i v lo hi ∧ J i ys lo h) → s.toks ≤ tk → J i ys tk h → (∀ b o, b ≠ cenv.locals → b ≠ D → b ∉ wr → b ∉ S → s.heap.get? b = some o → h.get? b = some o) →
      h.Ns cenv.locals m → m x = some v → h.PlainList D ys.toArray → St (i + 1) h →
      wpAny (model PG w) A (eval elt cenv) (fun y s₄ => ∃ h' tk', s₄ = { s with heap := h', toks := tk' } ∧ (∀ b o, b ∉ S → h.get? b = some o → h'.get? b = some o) ∧ J (i + 1) (ys ++ [y]) tk' h') FF { s with heap := h, toks := tk })
    (hR : ∀ h' tk m' ys, s.toks ≤ tk → h'.Ns cenv.locals m' → h'.PlainList D ys → ys.size = n → J n ys.toList tk h' → (∀ b o, b ≠ cenv.locals → b ≠ D → b ∉ wr → b ∉ S → s.heap.get? b = some o → h'.get? b = some o) → R (.ok .next) { s with heap := h', toks := tk })
    (hsz : n ≤ sizeLine) :
    codeAny (model PG w) A (.compLoop (.ListComp elt [⟨.Name x px, iter, [], 0⟩] scope pos) 0 (.ref I) (.ref D) cenv) R s := by
  have hCw : cenv.locals ∉ wr := fun h => hCf (W.sub _ h)
  have hDw : D ∉ wr := fun h => hDf (W.sub _ h)
  refine codeAny_compLoop_tests
    (fun k s' => ∃ h' tk m' ys, s' = { s with heap := h', toks := tk } ∧ s.toks ≤ tk ∧ St ys.size h' ∧ h'.PlainList D ys ∧ h'.Ns cenv.locals m' ∧ J ys.size ys.toList tk h' ∧ ys.size ≤ n ∧ k = n + 1 - ys.size ∧
      (∀ b o, b ≠ cenv.locals → b ≠ D → b ∉ wr → b ∉ S → s.heap.get? b = some o → h'.get? b = some o)) ?_ (n + 1)
    ⟨s.heap, s.toks, m, #[], rfl, Nat.le_refl _, hst, hacc, hn, h0, Nat.zero_le _, rfl, fun _ _ _ _ _ _ e => e⟩
  rintro k s' ⟨H, tk, m', ys, rfl, htk, hst', hacc', hn', hJ', hi, rfl, hk⟩
  by_cases hlt : ys.size < n
  · refine mono_ff (W.item ys.size _ _ hlt hst' fun v h₁ tk₁ htk₁ hPv hst₁ hk₁ => ?_)
    refine wpAny_assign_Name (wpAny_storeName_local hx (hn'.at' fun o e => hk₁ _ o hCw e) (fun h₂ hn₂ hs₂ => ?_) hp)
    have up₂ : ∀ b o, b ≠ cenv.locals → b ∉ wr → H.get? b = some o → h₂.get? b = some o := fun b o hbC hbf e => hs₂.extBut b o hbC (hk₁ b o hbf e)
    have hst₂ : St (ys.size + 1) h₂ := W.frame _ _ _ hst₁ fun b hb o e => hs₂.extBut b o (fun h => hCf (h ▸ hb)) e
    have htk' : tk ≤ tk₁ := htk₁
    have hJ₂ : J ys.size ys.toList (tk₁ + 1) h₂ := hJ _ _ _ _ _ _ (by omega) (fun b o hbC _ hbw e => up₂ b o hbC hbw e) hJ'
    have hacc₂ : h₂.PlainList D ys := hacc'.at fun o e => up₂ D o hDC hDw e
    refine wpAny_pure ?_
    simp only [if_true]
    refine mono_ff (wpAny_mono (wpAny_toks_of (n := tk₁ + 1) (Nat.le_refl _) (turn ys.size v ys.toList h₂ (tk₁ + 1) _ hlt (by simp) ⟨tk, tk₁, htk, Nat.le_succ _, hPv, hJ _ _ _ _ _ _ (Nat.le_refl _) (fun b o hbC _ hbw e => up₂ b o hbC hbw e) hJ'⟩ (by omega) hJ₂
      (fun b o hbC hbD hbw hbS e => up₂ b o hbC hbw (hk b o hbC hbD hbw hbS e)) hn₂ (by simp) (by simpa using hacc₂) hst₂)) (fun y s₄ h₄ => ?_) fun _ _ e => e.2)
    obtain ⟨htk₄, h₄, tk₄, rfl, hk₄, hJ₄⟩ := h₄
    have htk₄' : tk₁ + 1 ≤ tk₄ := htk₄
    have hDS : D ∉ S := fun h => (hS _ h).1 rfl
    have hCS : cenv.locals ∉ S := fun h => (hS _ h).2.1 rfl
    refine wpAny_list_append_plain (hsz := by omega) (hacc₂.at fun o e => hk₄ _ o hDS e) fun h₅ hl₅ hs₅ => ?_
    refine ⟨n + 1 - (ys.size + 1), meas hlt, h₅, tk₄, _, ys.push y, rfl, by omega, ?_, hl₅, (hn₂.at' fun o e => hk₄ _ o hCS e).sameBut hs₅ (Ne.symm hDC), ?_, by rw [Array.size_push]; omega, by simp, ?_⟩
    · rw [Array.size_push]
      exact W.frame _ _ h₅ hst₂ fun b hb o e => hs₅.extBut b o (fun h => hDf (h ▸ hb)) (hk₄ b o (fun h => (hS b h).2.2 hb) e)
    · rw [Array.size_push, Array.toList_push]
      exact hJ _ _ _ _ _ _ (Nat.le_refl _) (fun b o _ hbD _ e => hs₅.extBut b o hbD e) hJ₄
    · intro b o hbC hbD hbw hbS e
      exact hs₅.extBut b o hbD (hk₄ b o hbS (up₂ b o hbC hbw (hk b o hbC hbD hbw hbS e)))
  · have hin : ys.size = n := by omega
    refine mono_ff (W.done _ _ (hin ▸ hst') fun h₁ tk₁ htk₁ hk₁ => ?_)
    have htk' : tk ≤ tk₁ := htk₁
    exact hR h₁ tk₁ m' ys (by omega) (hn'.at' fun o e => hk₁ _ o hCw e) (hacc'.at fun o e => hk₁ _ o hDw e) hin (hin ▸ hJ _ _ _ _ _ _ htk' (fun b o _ _ hbw e => hk₁ b o hbw e) hJ')
      fun b o hbC hbD hbw hbS e => hk₁ b o hbw (hk b o hbC hbD hbw hbS e)

/-- what is told of a comprehension's turns: the iterator I, what a turn keeps (J), S: what of the old it may change -/
def CompAt (w : World) (A : Around) (env : Env) (scope : Scope) (cl : List (Str × Addr)) (x : Str) (elt : Expr) (S : List Addr) (it : Value) (s₂ : Shared)
    (done : Addr → Addr → Heap → Nat → Array Value → Prop) : Prop :=
  ∃ (I : Addr) (fp wr : List Addr) (n : Nat) (P : Nat → Value → Nat → Nat → Prop) (St : Nat → Heap → Prop) (J : List Addr → Nat → List Value → Nat → Heap → Prop),
    it = .ref I ∧ Wk w A I fp wr n P St ∧ n ≤ sizeLine ∧ St 0 s₂.heap ∧ (∀ b ∈ S, b ∉ fp ∧ b < s₂.heap.objs.size) ∧
    (∀ X i ys tk tk' h h', tk ≤ tk' → (∀ b o, b ∉ X → h.get? b = some o → h'.get? b = some o) → J X i ys tk h → J X i ys tk' h') ∧ (∀ X, J X 0 [] s₂.toks s₂.heap) ∧
    (∀ C D i v ys h tk m, i < n → ys.length = i → (∃ lo hi, s₂.toks ≤ lo ∧ hi ≤ tk ∧ P i v lo hi ∧ J (C :: D :: wr) i ys lo h) → s₂.toks ≤ tk → J (C :: D :: wr) i ys tk h → s₂.heap.objs.size ≤ C → s₂.heap.objs.size ≤ D → (∀ b ∈ C :: D :: wr, ∃ o, h.get? b = some o) →
      (∀ b o, b ∉ wr → b ∉ S → s₂.heap.get? b = some o → h.get? b = some o) → h.Ns C m → m x = some v →
      wpAny (model PG w) A (eval elt (compEnvC scope cl C env)) (fun y s₄ => ∃ h' tk', s₄ = { s₂ with heap := h', toks := tk' } ∧ (∀ b o, b ∉ S → h.get? b = some o → h'.get? b = some o) ∧ J (C :: D :: wr) (i + 1) (ys ++ [y]) tk' h') FF { s₂ with heap := h, toks := tk }) ∧
    (∀ C D h' tk ys, s₂.toks ≤ tk → s₂.heap.objs.size ≤ C → s₂.heap.objs.size ≤ D → C ≠ D → h'.PlainList D ys → ys.size = n → J (C :: D :: wr) n ys.toList tk h' → (∀ b o, b ∉ wr → b ∉ S → s₂.heap.get? b = some o → h'.get? b = some o) → (∃ o, h'.get? C = some o) →
      (∀ h'', Heap.SameBut C h' h'' → done C D h'' tk ys) )

theorem comp_core {elt iter : Expr} {x : Str} {px pos : Pos} {scope : Scope} {cl : List (Str × Addr)} {s₂ : Shared} {it : Value} {RR : Value → Addr → Result → Shared → Prop} {done : Addr → Addr → Heap → Nat → Array Value → Prop} (S : List Addr)
    (hcell : ∀ y ∈ scope.names, y.2 ≠ .cell) (hkind : scope.kind = .function) (hx : scope.names.lookup x = some .local)
    (h : CompAt w A env scope cl x elt S it s₂ done)
    (hRR : ∀ C D h' tk m' ys, h'.Ns C m' → s₂.heap.objs.size ≤ C → s₂.heap.objs.size ≤ D → (∀ h'', Heap.SameBut C h' h'' → done C D h'' tk ys) → RR (.ref D) C (.ok .next) { s₂ with heap := h', toks := tk }) :
    wpAny (model PG w) A (newList []) (fun acc s₃ => wpAny (model PG w) A (newFunctionEnv scope env.globals cl [] env.qual none .none (some env)) (fun cenv s₄ =>
      codeAny (model PG w) A (.compStart (.ListComp elt [⟨.Name x px, iter, [], 0⟩] scope pos) 0 it acc { cenv with scope := relabel scope env }) (RR acc cenv.locals) s₄) FF s₃) FF s₂ := by
  obtain ⟨I, fp, wr, n, P, St, J, rfl, W, hsz, hst, hSf, hJ, hJ0, turn, hQ⟩ := h
  refine wpAny_newObj_type (wpAny_newFunctionEnv hcell (by intro y hy; simp at hy) (fun h₁ hns₁ hsb₁ => ?_) hkind)
  dsimp only at hns₁ hsb₁ ⊢
  generalize hH2 : s₂.heap.push { cls := .type "list", dict := none, data := .seq ([] : List Value).toArray } = H2 at hns₁ hsb₁ ⊢
  have hC : H2.objs.size = s₂.heap.objs.size + 1 := by rw [← hH2, Heap.size_push]
  have hDC : s₂.heap.objs.size ≠ H2.objs.size := by rw [hC]; exact Nat.ne_of_lt (Nat.lt_succ_self _)
  have below : ∀ b, b < s₂.heap.objs.size → b ≠ H2.objs.size ∧ b ≠ s₂.heap.objs.size := fun b hb => ⟨by rw [hC]; exact Nat.ne_of_lt (Nat.lt_succ_of_lt hb), Nat.ne_of_lt hb⟩
  have hlive0 := W.live 0 _ hst
  have hfp : ∀ b ∈ fp, b < s₂.heap.objs.size := fun b hb => by obtain ⟨o, ho⟩ := hlive0 b hb; exact Heap.lt_size ho
  have hDf : s₂.heap.objs.size ∉ fp := fun hm => Nat.lt_irrefl _ (hfp _ hm)
  have hCf : H2.objs.size ∉ fp := fun hm => by have := hfp _ hm; rw [hC] at this; exact Nat.lt_irrefl _ (Nat.lt_of_succ_lt this)
  have old : ∀ b o, s₂.heap.get? b = some o → h₁.get? b = some o := fun b o e => hsb₁.extBut b o (below b (Heap.lt_size e)).1 (Heap.get?_push_of_some _ (hH2 ▸ Heap.get?_push_of_some _ e))
  have hacc : h₁.PlainList s₂.heap.objs.size #[] := ⟨_, hsb₁.extBut _ _ hDC (Heap.get?_push_of_some _ (hH2 ▸ Heap.get?_push_size _ rfl))⟩
  have hst₁ : St 0 h₁ := W.frame _ _ _ hst fun b _ o e => old b o e
  have loop : ∀ s₃ : Shared, s₃ = { s₂ with heap := h₁, toks := s₂.toks + ([] : List (Str × Value)).length } →
      codeAny (model PG w) A (.compLoop (.ListComp elt [⟨.Name x px, iter, [], 0⟩] scope pos) 0 (.ref I) (.ref s₂.heap.objs.size) (compEnvC scope cl H2.objs.size env))
        (RR (.ref s₂.heap.objs.size) H2.objs.size) s₃ := by
    rintro s₃ rfl
    refine compLoop_my (cenv := compEnvC scope cl H2.objs.size env) S W (lookup_relabel_local hx) (by simp [compEnvC, relabel, hkind]) hDC hDf hCf (fun b hb => ⟨(below b (hSf b hb).2).2, (below b (hSf b hb).2).1, (hSf b hb).1⟩)
      (J (H2.objs.size :: s₂.heap.objs.size :: wr)) (fun i ys tk tk' h h' htk hk hj => hJ _ _ _ _ _ _ _ htk (fun b o hb e => hk b o (fun q => hb (by rw [q]; exact .head _)) (fun q => hb (by rw [q]; exact .tail _ (.head _))) (fun q => hb (.tail _ (.tail _ q))) e) hj)
      hst₁ hacc hns₁ (hJ _ _ _ _ _ _ _ (Nat.le_refl _) (fun b o _ e => old b o e) (hJ0 _)) ?_ ?_ hsz
    · intro i v ys h tk m hi hl hP htk hj hk hn hm hpl hst'
      refine turn H2.objs.size s₂.heap.objs.size i v ys h tk m hi hl hP htk hj (by rw [hC]; exact Nat.le_succ _) (Nat.le_refl _) (fun b hb => ?_)
        (fun b o hbw hbS e => hk b o (below b (Heap.lt_size e)).1 (below b (Heap.lt_size e)).2 hbw hbS (old b o e)) hn hm
      rcases List.mem_cons.mp hb with rfl | hb
      · obtain ⟨o, _, _, ho, _⟩ := hn; exact ⟨o, ho⟩
      · rcases List.mem_cons.mp hb with rfl | hb
        · obtain ⟨o, ho⟩ := hpl; exact ⟨_, ho⟩
        · exact W.live _ _ hst' b (W.sub b hb)
    · intro h' tk m' ys htk hn hpl hsz' hj hk
      refine hRR H2.objs.size s₂.heap.objs.size h' tk m' ys hn (by rw [hC]; exact Nat.le_succ _) (Nat.le_refl _)
        (hQ H2.objs.size s₂.heap.objs.size h' tk ys htk (by rw [hC]; exact Nat.le_succ _) (Nat.le_refl _) hDC.symm hpl hsz' hj
        (fun b o hbw hbS e => hk b o (below b (Heap.lt_size e)).1 (below b (Heap.lt_size e)).2 hbw hbS (old b o e)) ?_)
      obtain ⟨o, _, _, ho, _⟩ := hn; exact ⟨o, ho⟩
  exact codeAny_compStart_list (loop _ rfl) (mono_ff (W.self 0 _ _ hst₁ (loop _ rfl)))

/-- [elt for x in iter], of free names as well -/
theorem comp_my {elt iter : Expr} {x : Str} {px pos : Pos} {scope : Scope} {cl : List (Str × Addr)} {Q : Value → Shared → Prop} (S : List Addr)
    (hclos : closureFor scope env = pure cl) (hcell : ∀ y ∈ scope.names, y.2 ≠ .cell) (hkind : scope.kind = .function)
    (hnames : ∀ y ∈ scope.names, y.2 = .local → scope.names.lookup y.1 = some .local) (hx : scope.names.lookup x = some .local)
    (h : wpAny (model PG w) A (eval iter env) (fun xv s₁ => wpAny (model PG w) A (pyIter xv) (fun it s₂ => CompAt w A env scope cl x elt S it s₂ fun C D h'' tk ys => Q (.ref D) { s₂ with heap := h'', toks := tk }) FF s₁) FF s)
    (hs : ∀ x, foldedSetIterable iter env x = pure x := by intro _; rfl) :
    wpAny (model PG w) A (eval (.ListComp elt [⟨.Name x px, iter, [], 0⟩] scope pos) env) Q FF s := by
  rw [eval_ListComp]
  refine wpAny_comprehension_free (use := none) rfl hs hclos hkind hnames (wpAny_mono h (fun xv s₁ h₁ => wpAny_mono h₁ (fun it s₂ h₂ => ?_) fun _ _ e => e) fun _ _ e => e)
  exact comp_core (RR := compPost (model PG w) A FF none Q) S hcell hkind hx h₂ fun C D h' tk m' ys hn _ _ hd => ⟨m', hn, fun h'' hs'' => hd h'' hs''⟩

/-- y = [elt for x in iter], y a local name -/
theorem comp_assign {elt iter : Expr} {x y : Str} {px py pos spos : Pos} {scope : Scope} {cl : List (Str × Addr)} {Q : Flow → Shared → Prop} (S : List Addr)
    (hsw : swapsWith (.ListComp elt [⟨.Name x px, iter, [], 0⟩] scope pos) (some (.Name y py)) spos.line env = pure true)
    (hclos : closureFor scope env = pure cl) (hcell : ∀ y ∈ scope.names, y.2 ≠ .cell) (hkind : scope.kind = .function)
    (hnames : ∀ y ∈ scope.names, y.2 = .local → scope.names.lookup y.1 = some .local) (hx : scope.names.lookup x = some .local)
    (hy : env.kindOf y = some .local) (hp : (env.scope.kind == .class || (env.scope.kind == .module && env.locals != env.globals)) = false)
    (h : wpAny (model PG w) A (eval iter env) (fun xv s₁ => wpAny (model PG w) A (pyIter xv) (fun it s₂ => CompAt w A env scope cl x elt S it s₂ fun C D h'' tk ys =>
      env.locals ≠ C ∧ ∃ m, h''.Ns env.locals m ∧ ∀ h₃ tk₃, tk ≤ tk₃ → h₃.Ns env.locals (fun z => if z = y then some (.ref D) else m z) → (∀ b o, b ≠ env.locals → b ≠ C → h''.get? b = some o → h₃.get? b = some o) → Q .next { s₂ with heap := h₃, toks := tk₃ }) FF s₁) FF s)
    (hs : ∀ x, foldedSetIterable iter env x = pure x := by intro _; rfl) :
    wpAny (model PG w) A (exec (.Assign [.Name y py] (.ListComp elt [⟨.Name x px, iter, [], 0⟩] scope pos) spos) env) Q FF s := by
  rw [exec_Assign_Name_used _ _ _ _ hsw]
  refine wpAny_bind (wpAny_standAt (wpAny_bind ?_))
  show wpAny _ A (do let _ ← comprehension (.ListComp elt [⟨.Name x px, iter, [], 0⟩] scope pos) scope env _ (newList []) false (eval iter env) (some (assign (.Name y py) env))) _ _ s
  refine wpAny_bind (wpAny_mono (wpAny_comprehension_free (use := some (assign (.Name y py) env)) (Q := fun _ s' => Q .next s') rfl hs hclos hkind hnames
    (wpAny_mono h (fun xv s₁ h₁ => wpAny_mono h₁ (fun it s₂ h₂ => ?_) fun _ _ e => e) fun _ _ e => e)) (fun _ s' hq => wpAny_pure (wpAny_pure hq)) fun _ _ e => e)
  refine comp_core (RR := compPost (model PG w) A FF (some (assign (.Name y py) env)) (fun _ s' => Q .next s')) S hcell hkind hx h₂ fun C D h' tk m' ys hnC hCs _ hd => ?_
  obtain ⟨hLC, m, hn, hd⟩ := hd h' (.refl ..)
  show wpAny _ A (assign (.Name y py) env (.ref D)) _ _ _
  refine wpAny_assign_Name (wpAny_storeName_local hy hn (fun h₂ hn₂ hs₂ => ?_) hp)
  refine ⟨m', hnC.sameBut hs₂ (Ne.symm hLC), fun h₃ hs₃ => hd h₃ _ (Nat.le_succ _) (hn₂.sameBut hs₃ hLC) fun b o hbL hbC e => (hs₃.2 b hbC).trans ((hs₂.2 b hbL).trans e)⟩
end
end Mine

-- M1
namespace Mine
theorem fillM1 (w : World) (h : Heap) : ((hd.heap_39 w.params).In h ∧ PySem.Challenge.rw_xi0002_01.row.prog = PySem.Challenge.rw_xi0002_01.row.prog) → True := by
  k_fill
  intros; trivial

theorem Cx.noneBooked {w : World} {h : Heap} (C : Cx w h) : NoneBooked h :=
  ⟨fun _ => none, ⟨{ cls := Value.none, data := Data.dict #[] }, #[], 0, C.X 2 _ (by k_is), rfl, (fun e he => by simp at he), (fun n => rfl)⟩, rfl⟩

theorem is_int {M : Model} {A : Around} {E : Value → Shared → Prop} {s : Shared} {a b : Int} {t u : Tok} {Q : Value → Shared → Prop} (h0 : t ≠ 0) (h1 : u ≠ 0) (h2 : t = u → a = b) (hb : NoneBooked s.heap)
    (hQ : ∀ r, (r = true → a = b) → Q (.bool r) s) : wpAny M A (compareOp .Is (.int a t) (.int b u)) Q E s := by
  show wpAny M A (isSame (.int a t) (.int b u) >>= fun r => pure (.bool r)) Q E s
  have hz : ((t == 0) || (u == 0)) = false := by simp [h0, h1]
  have key : ∀ Q' : Bool → Shared → Prop, (∀ r, (r = true → a = b) → Q' r s) → wpAny M A (isSame (.int a t) (.int b u)) Q' E s := by
    intro Q' hq
    show wpAny M A (if (a == b && smallInt a) = true then isSame.cachedInt t u else isSame.created (a == b) t u) Q' E s
    refine wpAny_ite ?_
    split
    · rename_i h
      rw [Bool.and_eq_true] at h
      unfold isSame.cachedInt
      refine wpAny_ite ?_
      rw [hz]
      simp only [Bool.false_eq_true, if_false]
      exact wpAny_bind (wpAny_rule (wpAny_pure (hq _ fun _ => eq_of_beq h.1)))
    · unfold isSame.created
      refine wpAny_ite ?_
      rw [hz]
      simp only [Bool.false_eq_true, if_false]
      refine wpAny_ite ?_
      split
      · rename_i h
        exact wpAny_pure (hq _ fun _ => h2 (eq_of_beq h))
      refine wpAny_ite ?_
      split
      · exact wpAny_pure (hq _ fun h => absurd h Bool.false_ne_true)
      rename_i hab
      have hab : a = b := by simpa using hab
      refine wpAny_bind (wpAny_sharingNotTold_none hb ?_)
      simp only [Bool.false_eq_true, if_false]
      refine wpAny_bind (wpAny_sharingNotTold_none hb ?_)
      simp only [Bool.false_eq_true, if_false]
      exact wpAny_bind (wpAny_rule (wpAny_bind (wpAny_askSetting (wpAny_pure (hq _ fun _ => hab)))))
  exact wpAny_bind (key _ fun r hr => wpAny_pure (hQ r hr))

section
variable {w : World} {A : Around} {s : Shared} {Q E : Value → Shared → Prop}

theorem or2 {M : Model} {env : Env} {x y : Expr} {pos : Pos} {whole : Sem Value} {r : Bool} {P : Bool → Shared → Prop} (h1 : ∀ Q' : Bool → Shared → Prop, (∀ b, (b = true → r = true) → Q' b s) → wpAny M A (isTrue x env (eval x env)) Q' FF s)
    (h2 : ∀ Q' : Bool → Shared → Prop, Q' r s → wpAny M A (isTrue y env (eval y env)) Q' FF s) (h : P r s) : wpAny M A (isTrue (.BoolOp .Or [x, y] pos) env whole) P FF s := by
  refine wpAny_isTrue_BoolOp (wpAny_allTrue_Or_cons (h1 _ fun b hb => ?_))
  cases b with
  | true => rw [if_pos rfl]; rw [hb rfl] at h; exact h
  | false =>
    rw [if_neg Bool.false_ne_true]
    refine wpAny_allTrue_Or_cons (h2 _ ?_)
    cases r with
    | true => rw [if_pos rfl]; exact h
    | false => rw [if_neg Bool.false_ne_true]; exact wpAny_allTrue_Or_nil h

set_option maxHeartbeats 4000000 in
theorem countOf_gen {l : Addr} {b : Value} {vs : List Value} {d : Nat} (tr : Value → Bool) (C : Cx w s.heap) (R : Room A (d + 1)) (hl : s.heap.IsList l vs.toArray)
    (His : ∀ v ∈ vs, ∀ (A' : Around) (s' : Shared) (Q' : Value → Shared → Prop), Room A' d → Kp s.heap s'.heap → (∀ r, (r = true → tr v = true) → Q' (.bool r) s') → wpAny (model PG w) A' (compareOp .Is v b) Q' FF s')
    (Heq : ∀ v ∈ vs, ∀ (A' : Around) (s' : Shared) (Q' : Value → Shared → Prop), Room A' d → Kp s.heap s'.heap → Q' (.bool (tr v)) s' → wpAny (model PG w) A' (compareOp .Eq v b) Q' FF s')
    (hQ : ∀ t h' tk', Kp s.heap h' → s.toks ≤ t → t < tk' → Q (.int (vs.countP tr) t) { s with heap := h', toks := tk' }) :
    wpAny (model PG w) A (call (.ref 28) [.ref l, b]) Q E s := by
  refine enter (d := d) [(Str.ofString "a", .ref l), (Str.ofString "b", b)] C R (by k_is) (by k_is) rfl rfl (fun h₁ F => ?_) rfl rfl rfl rfl
  have R' := R.deeper
  have hlL : l ≠ s.heap.objs.size := by obtain ⟨o, ho, _⟩ := hl; exact Nat.ne_of_lt (Heap.lt_size ho)
  refine wpAny_execs_cons (wpAny_Assign_Name (wpAny_Constant_int (st F fun h₂ F₂ => ?_)))
  dsimp only
  refine wpAny_execs_cons (for_my s.heap rfl rfl (ld F₂ rfl (iter_list (R' _).hd rfl rfl (hl.at fun o e => F₂.keep _ o e) ?hne F₂ News.nil
    (fun i tk m news => news = [] ∧ (∃ t, m (Str.ofString "count") = some (.int ((vs.take i).countP tr) t) ∧ s.toks ≤ t ∧ t < tk) ∧ m (Str.ofString "b") = some b) ?hm ?h0 ?step ?hR)))
  case hne => exact hlL
  case hm => rintro i tk tk' m n htk ⟨a1, ⟨t, a2, a3, a4⟩, a5⟩; exact ⟨a1, ⟨t, a2, a3, Nat.lt_of_lt_of_le a4 htk⟩, a5⟩
  case h0 => exact ⟨rfl, ⟨_, rfl, by show s.toks ≤ s.toks + 2; omega, by show s.toks + 2 < s.toks + 2 + 1 + 1; omega⟩, rfl⟩
  case step =>
    rintro I i v m₁ news₁ h tk hv htk ⟨rfl, ⟨t, hc, ht1, ht2⟩, hb⟩ - - - hIL hl₃ F₃ -
    have hmem : v ∈ vs := List.mem_of_getElem? hv
    have hb' : (fun y => if y = Str.ofString "i" then some v else m₁ y) (Str.ofString "b") = some b := hb
    have hc' : (fun y => if y = Str.ofString "i" then some v else m₁ y) (Str.ofString "count") = some (.int ((vs.take i).countP tr) t) := hc
    have htake : vs.take (i + 1) = vs.take i ++ [v] := by rw [List.take_add_one, hv]; rfl
    refine wpAny_execs_cons (wpAny_If (or2 (r := tr v) (fun Q' hq => wpAny_isTrue_Compare1 (ld F₃ rfl (ld F₃ hb' (His v hmem _ _ _ (R' _) F₃.keep fun r hr => wpAny_truthy_bool (hq r hr)))))
      (fun Q' hq => wpAny_isTrue_Compare1 (ld F₃ rfl (ld F₃ hb' (Heq v hmem _ _ _ (R' _) F₃.keep (wpAny_truthy_bool hq))))) ?_))
    cases htr : tr v with
    | true =>
      rw [if_pos rfl]
      refine wpAny_execs_cons (wpAny_AugAssign_Name (ldn F₃ hc' (wpAny_Constant_int (wpAny_iadd_int (stS F₃ fun h₄ F₄ S₄ => ?_)))))
      dsimp only
      refine wpAny_execs_nil (wpAny_execs_nil ⟨h₄, _, _, [], rfl, ?_, F₄, News.nil, by simp, rfl, ⟨_, congrArg (fun x => some (Value.int x _)) ?_, ?_, ?_⟩, hb⟩)
      · intro b hb o e
        refine (S₄.2 b ?_).trans e
        rcases List.mem_cons.mp hb with rfl | hb
        · exact hIL
        · rw [List.mem_singleton.mp hb]; exact hlL
      · rw [htake, List.countP_append]
        simp [htr]
      · have htk' : s.toks + 2 + 1 + 1 ≤ tk := htk
        show s.toks ≤ tk + 1
        omega
      · show tk + 1 < tk + 1 + 1 + 1
        omega
    | false =>
      rw [if_neg Bool.false_ne_true]
      refine wpAny_execs_nil (wpAny_execs_nil ⟨h, tk, _, [], rfl, fun _ _ _ e => e, F₃, News.nil, by simp, rfl, ⟨t, ?_, ht1, ht2⟩, hb⟩)
      rw [htake, List.countP_append]
      simpa [htr] using hc'
  case hR =>
    rintro h' tk m' news' htk F₃ - ⟨rfl, ⟨t, hc, ht1, ht2⟩, -⟩
    rw [List.take_length] at hc
    dsimp only
    refine wpAny_execs_cons (wpAny_Return_some (ld F₃ hc ?_))
    exact hQ t h' tk F₃.keep ht1 ht2
end
end Mine

-- MB4
namespace Mine
section
variable {w : World} {A : Around} {s : Shared} {env : Env}

theorem nm_global {x : Str} {pos : Pos} {v : Value} {Q : Value → Shared → Prop} (C : Cx w s.heap) (e : nsIn (hd.heap_39 w.params) mainGlobals x = some (some v)) (h : Q v s)
    (hk : env.scope.kind = .function := by rfl) (hg : env.globals = mainGlobals := by rfl) (hx : env.kindOf x = some .globalImplicit := by rfl) (hd : (x == ("__debug__" : Str)) = false := by decide) :
    wpAny (model PG w) A (eval (.Name x pos) env) Q FF s := by
  obtain ⟨p, loose, mean, mg, mb, T⟩ := C.T
  exact Name_function_global hk hx (loadGlobal_global (env := env) (by rw [hg]; exact T.g) (mg_of C.X T.g e) h) hd

theorem nm_builtin {x : Str} {pos : Pos} {v : Value} {Q : Value → Shared → Prop} (C : Cx w s.heap) (e : nsIn (hd.heap_39 w.params) mainGlobals x = some none) (hv : bootBuiltins x = some v) (h : Q v s)
    (hn : x ≠ "__name__" := by decide)
    (hk : env.scope.kind = .function := by rfl) (hg : env.globals = mainGlobals := by rfl) (hb : env.builtins = builtinsNs := by rfl) (hx : env.kindOf x = some .globalImplicit := by rfl) (hd : (x == ("__debug__" : Str)) = false := by decide) :
    wpAny (model PG w) A (eval (.Name x pos) env) Q FF s := by
  obtain ⟨p, loose, mean, mg, mb, T⟩ := C.T
  refine Name_function_global hk hx (loadGlobal_builtin (env := env) (by rw [hg]; exact T.g) (mg_none_of C.X T.g e) (by rw [hb]; exact T.b) ?_ h) hd
  rw [T.builtins x hn]; exact hv

theorem spl1 {M : Model} {E : Value → Shared → Prop} {e : Expr} {pos : Pos} {P : List Value → Shared → Prop} (h : wpAny M A (eval e env) (fun v s₁ => P [v] s₁) E s)
    (he : starEach [e] env = [(false, eval e env)] := by rfl) : wpAny M A (spliced (backTo pos (starEach [e] env))) P E s := by
  rw [he]
  exact spliced_cons (wpAny_mono h (fun v s₁ h₁ => spliced_nil h₁) fun _ _ e => e)
theorem spl2 {M : Model} {E : Value → Shared → Prop} {e f : Expr} {pos : Pos} {P : List Value → Shared → Prop} (h : wpAny M A (eval e env) (fun v s₁ => wpAny M A (eval f env) (fun u s₂ => P [v, u] s₂) E s₁) E s)
    (he : starEach [e, f] env = [(false, eval e env), (false, eval f env)] := by rfl) : wpAny M A (spliced (backTo pos (starEach [e, f] env))) P E s := by
  rw [he]
  exact spliced_cons (wpAny_mono h (fun v s₁ h₁ => spliced_cons (wpAny_mono h₁ (fun u s₂ h₂ => spliced_nil h₂) fun _ _ e => e)) fun _ _ e => e)
theorem spl3 {M : Model} {E : Value → Shared → Prop} {e f g : Expr} {pos : Pos} {P : List Value → Shared → Prop}
    (h : wpAny M A (eval e env) (fun v s₁ => wpAny M A (eval f env) (fun u s₂ => wpAny M A (eval g env) (fun t s₃ => P [v, u, t] s₃) E s₂) E s₁) E s)
    (he : starEach [e, f, g] env = [(false, eval e env), (false, eval f env), (false, eval g env)] := by rfl) : wpAny M A (spliced (backTo pos (starEach [e, f, g] env))) P E s := by
  rw [he]
  exact spliced_cons (wpAny_mono h (fun v s₁ h₁ => spliced_cons (wpAny_mono h₁ (fun u s₂ h₂ => spliced_cons (wpAny_mono h₂ (fun t s₃ h₃ => spliced_nil h₃) fun _ _ e => e)) fun _ _ e => e)) fun _ _ e => e)

/-- a call of a def of the text by its name -/
theorem callF {x : Str} {np pos : Pos} {f : Addr} {e : Expr} {rest : List Expr} {Q : Value → Shared → Prop} (C : Cx w s.heap) (hx : nsIn (hd.heap_39 w.params) mainGlobals x = some (some (.ref f))) (hkp : keepIn (hd.heap_39 w.params) (.ref f) = true)
    (h : wpAny (model PG w) A (spliced (backTo pos (starEach (e :: rest) env))) (fun vs s₁ => Cx w s₁.heap ∧ wpAny (model PG w) A (call (.ref f) vs) Q FF s₁) FF s)
    (hk : env.scope.kind = .function := by rfl) (hg : env.globals = mainGlobals := by rfl) (hn : env.kindOf x = some .globalImplicit := by rfl) (hd : (x == ("__debug__" : Str)) = false := by decide)
    (he : starEach (e :: rest) env = (false, eval e env) :: starEach rest env := by rfl) (hplain : (backTo pos (starEach rest env)).any (·.1) = false := by rfl) :
    wpAny (model PG w) A (eval (.Call (.Name x np) (e :: rest) [] pos) env) Q FF s :=
  wpAny_Call_ofName (nm_global C hx (callWith_K C.X hkp (wpAny_mono h (fun vs s₁ h₁ => ⟨h₁.1.X, h₁.2⟩) fun _ _ e => e) he hplain) hk hg hn hd)

/-- a call of a built-in by its name -/
theorem callB {x : Str} {np pos : Pos} {id : String} {e : Expr} {rest : List Expr} {Q : Value → Shared → Prop} (C : Cx w s.heap) (hx : nsIn (hd.heap_39 w.params) mainGlobals x = some none) (hv : bootBuiltins x = some (.builtin id))
    (h : wpAny (model PG w) A (spliced (backTo pos (starEach (e :: rest) env))) (fun vs s₁ => wpAny (model PG w) A (call (.builtin id) vs) Q FF s₁) FF s)
    (hne : x ≠ "__name__" := by decide)
    (hk : env.scope.kind = .function := by rfl) (hg : env.globals = mainGlobals := by rfl) (hb : env.builtins = builtinsNs := by rfl) (hn : env.kindOf x = some .globalImplicit := by rfl) (hd : (x == ("__debug__" : Str)) = false := by decide)
    (he : starEach (e :: rest) env = (false, eval e env) :: starEach rest env := by rfl) (hplain : (backTo pos (starEach rest env)).any (·.1) = false := by rfl) :
    wpAny (model PG w) A (eval (.Call (.Name x np) (e :: rest) [] pos) env) Q FF s := by
  refine wpAny_Call_ofName (nm_builtin C hx hv ?_ hne hk hg hb hn hd)
  rw [he] at h ⊢
  exact callWith_builtin (by show (false || (backTo pos (starEach rest env)).any (·.1)) = false; rw [hplain]; rfl) (evalArgs_plain h)

/-- a call of a built-in class by its name -/
theorem callT {x : Str} {np pos : Pos} {T : String} {e : Expr} {rest : List Expr} {Q : Value → Shared → Prop} (C : Cx w s.heap) (hx : nsIn (hd.heap_39 w.params) mainGlobals x = some none) (hv : bootBuiltins x = some (.type T))
    (h : wpAny (model PG w) A (spliced (backTo pos (starEach (e :: rest) env))) (fun vs s₁ => wpAny (model PG w) A (call (.type T) vs) Q FF s₁) FF s)
    (hne : x ≠ "__name__" := by decide)
    (hk : env.scope.kind = .function := by rfl) (hg : env.globals = mainGlobals := by rfl) (hb : env.builtins = builtinsNs := by rfl) (hn : env.kindOf x = some .globalImplicit := by rfl) (hd : (x == ("__debug__" : Str)) = false := by decide)
    (he : starEach (e :: rest) env = (false, eval e env) :: starEach rest env := by rfl) (hplain : (backTo pos (starEach rest env)).any (·.1) = false := by rfl) :
    wpAny (model PG w) A (eval (.Call (.Name x np) (e :: rest) [] pos) env) Q FF s := by
  refine wpAny_Call_ofName (nm_builtin C hx hv ?_ hne hk hg hb hn hd)
  rw [he] at h ⊢
  exact PySem.callWith_type (by show (false || (backTo pos (starEach rest env)).any (·.1)) = false; rw [hplain]; rfl) (evalArgs_plain h)
end
end Mine

-- MB5
namespace Mine

theorem PL_get {h : Heap} {a : Addr} {vs : Array Value} {n : Nat} (e : h.get? a = some { cls := .type "list", data := .seq vs n }) : h.PlainList a vs := ⟨n, e⟩

section
variable {w : World} {A : Around} {s : Shared} {env : Env} {E : Value → Shared → Prop}

theorem tail_list {value slice : Expr} {l : Addr} {vs : List Value} {k : Int} {u : Tok} {v : Value} {Q : Value → Shared → Prop} (hl : s.heap.IsList l vs.toArray) (h0 : 0 ≤ k) (hhi : k < 2 ^ 63) (hx : vs[k.toNat]? = some v) (h : Q v s)
    (hs : subscripted slice false (.ref l) (.int k u) = operate [.ref l, .int k u] (getItem (.ref l) (.int k u)) := by with_unfolding_all rfl) :
    wpAny (model PG w) A (subscriptTail value slice (.ref l) (.int k u)) Q E s :=
  tail_any hl.typeIs slot_list_getitem.lookup (wpAny_getItem_list hl h0 hhi (by simpa using hx) h) hs

theorem new_list {vs : List Value} {Q : Value → Shared → Prop} (hsz : vs.length ≤ sizeLine)
    (h : ∀ D h', s.heap.get? D = none → h'.PlainList D vs.toArray → Kp s.heap h' → s.heap.objs.size ≤ D → Q (.ref D) { s with heap := h' }) : wpAny (model PG w) A (newList vs) Q E s :=
  wpAny_newList (h _ _ (Heap.get?_none_of_le (Nat.le_refl _)) ⟨0, Heap.get?_push_size _ rfl⟩ (fun b o e => Heap.get?_push_of_some _ e) (Nat.le_refl _)) hsz

theorem setItem_plain {l : Addr} {items : Array Value} {k : Int} {t : Tok} {v : Value} {Q : Unit → Shared → Prop} (hl : s.heap.PlainList l items) (h0 : 0 ≤ k) (hfit : k < 2 ^ 63) (hn : k < items.size)
    (h : ∀ h', h'.PlainList l (items.setIfInBounds k.toNat v) → Heap.SameBut l s.heap h' → Q () { s with heap := h' }) : wpAny (model PG w) A (setItem (.ref l) (.int k t) v) Q E s := by
  obtain ⟨n, ho⟩ := hl
  refine ki_setAt (n := n) ho h0 hfit hn (h _ ?_ (Heap.SameBut.update ..))
  have hd : ({ cls := .type "list", data := .seq items n } : Obj).data = .seq items n := rfl
  obtain ⟨n', hd'⟩ := Obj.data_mapSeq hd (·.setIfInBounds k.toNat v)
  refine ⟨n', ?_⟩
  rw [Heap.get?_update_self _ ho (Obj.isFreed_of_seq hd')]
  have e1 : (Obj.mapSeq (·.setIfInBounds k.toNat v) { cls := .type "list", data := .seq items n }).cls = .type "list" := Obj.cls_mapSeq ..
  unfold Obj.mapSeq at hd' ⊢
  dsimp only at hd' ⊢
  first | rw [hd'] | (simp only [Option.some.injEq, Obj.mk.injEq]; simpa using hd')

theorem index_strs {l : Addr} {vs : List Value} {ps : List Str} {k : Str} {t : Tok} {Q : Value → Shared → Prop} (hl : s.heap.IsList l vs.toArray) (hi : StrsAre vs ps) (hk : ps.idxOf k < ps.length) (hsm : ps.length < 2 ^ 62)
    (h : Q (.int (ps.idxOf k : Nat) s.toks) { s with toks := s.toks + 1 }) :
    wpAny (model PG w) A (call (.builtin "list.index") [.ref l, .str k t]) Q E s := by
  obtain ⟨⟨cls, dd, data, sl⟩, ho, hc, n, hd⟩ := id hl
  simp only at hc hd
  subst hc hd
  have hlen : vs.length = ps.length := hi.length
  have key : ∀ (vs : List Value) (ps : List Str), StrsAre vs ps → ∀ j (h1 : j < vs.length) (h2 : j < ps.length), isStrOf k vs[j] = (ps[j] == k) := by
    intro vs ps h
    induction h with
    | nil => intro j h1 h2; exact absurd h1 (Nat.not_lt_zero _)
    | cons n t h ih =>
      intro j h1 h2
      cases j with
      | zero => rfl
      | succ j => exact ih j (Nat.lt_of_succ_lt_succ h1) (Nat.lt_of_succ_lt_succ h2)
  refine call_meets PySem.F.slot_list_index ⟨_, ho, rfl⟩ PySem.F.entry_list_index (PySem.F.args_list_index_2 _ _)
    (PySem.SeqAt.list_indexAt l vs.toArray n dd sl (.str k t) (isStrOf k) (ps.idxOf k) (by simpa [hlen] using hk) (by omega) ?_ ?_) ⟨ho, fun y hy => (eq_isStrOf k t hi y (by simpa using hy)).at _ _, h⟩
  · show isStrOf k vs[ps.idxOf k] = true
    rw [key vs ps hi _ (by omega) hk]
    simpa using List.getElem_idxOf hk
  · intro j hjs hlt
    show isStrOf k vs[j] = false
    rw [key vs ps hi j (by simpa using hjs) (by omega)]
    have : j < ps.length := by omega
    have hne : ∀ (ps : List Str) (j : Nat), j < ps.idxOf k → ∀ (h2 : j < ps.length), (ps[j] == k) = false := by
      intro ps
      induction ps with
      | nil => intro j _ h2; exact absurd h2 (Nat.not_lt_zero _)
      | cons n r ih =>
        intro j h h2
        by_cases e : n = k
        · subst e; simp at h
        · have hb : (n == k) = false := by simpa using e
          cases j with
          | zero => simpa using e
          | succ j =>
            have h' : j < r.idxOf k := by
              rw [List.idxOf_cons, hb] at h
              exact Nat.lt_of_succ_lt_succ h
            exact ih j h' (Nat.lt_of_succ_lt_succ h2)
    exact hne ps j hlt this

/-- o.name(args), o a list -/
theorem meth_list {o : Expr} {name : Str} {apos pos : Pos} {e : Expr} {rest : List Expr} {id : String} {Q : Value → Shared → Prop} (slot : Slot "list" name id) (hty : typeOf (.builtin id) = pure (.type "method_descriptor"))
    (h : wpAny (model PG w) A (eval o env) (fun ov s₁ => ∃ a vs, ov = .ref a ∧ s₁.heap.PlainList a vs ∧ wpAny (model PG w) A (spliced (backTo pos (starEach (e :: rest) env))) (fun us s₂ => wpAny (model PG w) A (call (.builtin id) (.ref a :: us)) Q FF s₂) FF s₁) FF s)
    (hbase : attributeBase o name env (eval o env) = eval o env := by rfl)
    (hfew : ((backTo pos (starEach (e :: rest) env)).all (fun x => !x.1) && (backToKw pos (keywordEach [] env)).all (fun x => x.1.isSome)
      && decide ((e :: rest).length + ([] : List Keyword).length + (if ([] : List Keyword).isEmpty then 0 else 1) < 30)) = true := by rfl)
    (hline : (apos.endLine == pos.line) = true := by rfl)
    (he : starEach (e :: rest) env = (false, eval e env) :: starEach rest env := by rfl) (hplain : (backTo pos (starEach rest env)).any (·.1) = false := by rfl) :
    wpAny (model PG w) A (eval (.Call (.Attribute o name apos) (e :: rest) [] pos) env) Q FF s := by
  refine wpAny_Call_method hbase hfew hline PySem.F.plainAttrs_list slot hty (wpAny_mono h (fun ov s₁ h₁ => ?_) fun _ _ e => e)
  obtain ⟨a, vs, rfl, hl, hc⟩ := h₁
  obtain ⟨n, ho⟩ := hl
  refine ⟨⟨_, ho, rfl⟩, fun b hb => ?_, ?_⟩
  · cases hb; exact ⟨_, ho, rfl⟩
  · rw [he] at hc ⊢
    exact callWith_builtin (by show (false || (backTo pos (starEach rest env)).any (·.1)) = false; rw [hplain]; rfl) (evalArgs_plain hc)
end
end Mine

-- MB6
namespace Mine
section
variable {w : World} {A : Around} {s : Shared}

theorem enterC {Q E : Value → Shared → Prop} {name qual : Str} {params : Arguments} {body : List Stmt} {scope : Scope} {dV kV doc pm cdv ct oc : Value} {an od : Option Addr} {osl : Array (Option Value)} {f : Addr} {vs : List Value} {d : Nat}
    (binds : List (Str × Value)) (C : Cx w s.heap) (R : Room A (d + 1))
    (ho : (hd.heap_39 w.params).lookup f = some ⟨oc, od, .func (fnOf name qual params body scope dV kV doc pm an cdv ct), osl⟩) (hcd : codeIn (hd.heap_39 w.params) cdv qual = true)
    (hbind : bindArgs (fnOf name qual params body scope dV kV doc pm an cdv ct) ⟨vs, []⟩ = pure binds) (hkind : (binds.all fun y => scope.names.lookup y.1 == some .local || scope.names.lookup y.1 == some .cell) = true)
    (h : ∀ h₁ tk, s.toks ≤ tk → Fr s.heap s.heap.objs.size h₁ (bindL (envOfC qual scope s.heap.objs.size f cdv).kindOf binds fun _ => none) →
      (∀ n c, (cellsFrom (s.heap.objs.size + 1) scope.names []).lookup n = some c → h₁.IsCell c (bindC (envOfC qual scope s.heap.objs.size f cdv).kindOf binds (fun _ => none) n)) →
      wpAny (model PG w) (A.deeper (envOfC qual scope s.heap.objs.size f cdv)) (execs body (envOfC qual scope s.heap.objs.size f cdv))
        (fun fl s' => Q (match fl with | .ret v => v | _ => .none) s') (fun _ _ => False) { s with heap := h₁, toks := tk })
    (hco : scope.isCoroutine = false) (hgen : scope.isGenerator = false) (hk : scope.kind = .function) : wpAny (model PG w) A (call (.ref f) vs) Q E s := by
  obtain ⟨p, loose, mean, mg, mb, T⟩ := C.T
  refine wpAny_call (codeAny_call_function (fd := fnOf name qual params body scope dV kV doc pm an cdv ct) (by have := R.dp; omega) (C.X _ _ ho) rfl hco hgen rfl (codeRec_of C.X hcd) (BindsTo.of_eq hbind _ _ _ _ ?_))
  refine wpAny_with_toks (n := s.toks) (Nat.le_refl _) (wpAny_newFunctionEnv_cells hk (kindsX hkind _) fun env' he s' x => ?_)
  intro htk
  subst he
  refine ⟨T.nolimit.keeps x.toInCall.keep, codeAny_func ?_⟩
  obtain ⟨h₁, tk, rfl, _⟩ := x.done
  exact wpAny_mono (h h₁ tk htk ⟨x.toInCall.ns, x.toInCall.keep, Nat.le_refl _⟩ x.cell) (fun fl s' q => q) fun _ _ e => e.elim

variable {env : Env} {Q : Value → Shared → Prop} {E : Value → Shared → Prop} {M : Model}
/-- a local name, whatever the frame -/
theorem ldL {x : Str} {pos : Pos} {m : Str → Option Value} {v : Value} (hn : s.heap.Ns env.locals m) (hv : m x = some v) (h : Q v s)
    (hk : env.scope.kind = .function := by rfl) (hl : env.kindOf x = some .local := by rfl) (hd : (x == ("__debug__" : Str)) = false := by decide) :
    wpAny M A (eval (.Name x pos) env) Q E s := wpAny_Name (wpAny_loadName_local hk hl hn hv h) hd
/-- a name in a cell -/
theorem ldC {x : Str} {pos : Pos} {c : Addr} {v : Value} (hc : env.cells.lookup x = some c) (hv : s.heap.IsCell c (some v)) (h : Q v s)
    (hk : env.scope.kind = .function := by rfl) (hl : env.kindOf x = some .cell := by rfl) (hd : (x == ("__debug__" : Str)) = false := by decide) :
    wpAny M A (eval (.Name x pos) env) Q E s := wpAny_Name (wpAny_loadName_cell hk hl hc hv h) hd
end
end Mine

-- MB7
namespace Mine
section
variable {w : World} {A : Around} {s : Shared} {env : Env} {scope : Scope} {cl : List (Str × Addr)} {x : Str} {elt : Expr}

theorem compAt_list {l : Addr} {vs : List Value} {done : Addr → Addr → Shared → Heap → Nat → Array Value → Prop} (S : List Addr) (hh : A.handled = none) (hl : s.heap.IsList l vs.toArray) (hsz : vs.length ≤ sizeLine)
    (hS : ∀ b ∈ S, b ≠ l ∧ b < s.heap.objs.size) (J : List Addr → Nat → List Value → Nat → Heap → Prop)
    (hJ : ∀ X i ys tk tk' h h', tk ≤ tk' → (∀ b o, b ∉ X → h.get? b = some o → h'.get? b = some o) → J X i ys tk h → J X i ys tk' h')
    (hJ0 : ∀ X, (∀ b ∈ X, s.heap.objs.size ≤ b) → J X 0 [] s.toks s.heap)
    (turn : ∀ C D I i v ys h tk m, vs[i]? = some v → ys.length = i → s.toks ≤ tk → J [C, D, I] i ys tk h → s.heap.objs.size ≤ C → s.heap.objs.size ≤ D → s.heap.objs.size ≤ I → (∀ b ∈ [C, D, I], ∃ o, h.get? b = some o) →
      (∀ b o, b ∉ S → s.heap.get? b = some o → h.get? b = some o) → h.Ns C m → m x = some v →
      wpAny (model PG w) A (eval elt (compEnvC scope cl C env)) (fun y s₄ => ∃ h' tk', s₄ = { s with heap := h', toks := tk' } ∧ (∀ b o, b ∉ S → h.get? b = some o → h'.get? b = some o) ∧ J [C, D, I] (i + 1) (ys ++ [y]) tk' h') FF { s with heap := h, toks := tk })
    (fin : ∀ C D I h' tk ys, s.toks ≤ tk → s.heap.objs.size ≤ C → s.heap.objs.size ≤ D → s.heap.objs.size ≤ I → C ≠ D → h'.PlainList D ys → ys.size = vs.length → J [C, D, I] vs.length ys.toList tk h' → (∀ b o, b ∉ S → s.heap.get? b = some o → h'.get? b = some o) → ∀ s₂ : Shared, (∃ h tk, s₂ = { s with heap := h, toks := tk }) → done C D s₂ h' tk ys) :
    wpAny (model PG w) A (pyIter (.ref l)) (fun it s₂ => CompAt w A env scope cl x elt S it s₂ fun C D h tk ys => done C D s₂ h tk ys) FF s := by
  obtain ⟨ol, hol, _⟩ := id hl
  have hlt : l < s.heap.objs.size := Heap.lt_size hol
  have hne : l ≠ s.heap.objs.size := Nat.ne_of_lt hlt
  refine wpAny_pyIter_list hl ?_
  have W := Wk.list (w := w) hh s.heap.objs.size l hne vs.toArray
  rw [List.size_toArray] at W
  have hsize : ∀ o, (s.heap.push o).objs.size = s.heap.objs.size + 1 := fun o => Heap.size_push ..
  refine ⟨s.heap.objs.size, [s.heap.objs.size, l], [s.heap.objs.size], vs.length, _, _, fun X i ys tk h => (∀ b ∈ X, s.heap.objs.size ≤ b) → J X i ys tk h, rfl, W, hsz, ⟨⟨_, Heap.get?_push_size _ rfl, rfl, rfl⟩, hl.at fun o e => Heap.get?_push_of_some _ e⟩, ?_, ?_, ?_, ?_, ?_⟩
  · intro b hb
    refine ⟨fun hm => ?_, by rw [hsize]; exact Nat.lt_succ_of_lt (hS b hb).2⟩
    rcases List.mem_cons.mp hm with rfl | hm
    · exact Nat.lt_irrefl _ (hS _ hb).2
    · exact (hS b hb).1 (List.mem_singleton.mp hm)
  · intro X i ys tk tk' h h' htk hk hj hX
    exact hJ X i ys tk tk' h h' htk hk (hj hX)
  · intro X hX
    exact hJ X _ _ _ _ _ _ (Nat.le_refl _) (fun b o _ e => Heap.get?_push_of_some _ e) (hJ0 X hX)
  · rintro C D i v ys h tk m hi hlen ⟨lo, hi', _, _, hP, _⟩ htk hj hC hD hlive hk hn hm
    rw [hsize] at hC hD
    have hX : ∀ b ∈ [C, D, s.heap.objs.size], s.heap.objs.size ≤ b := by
      intro b hb
      rcases List.mem_cons.mp hb with rfl | hb
      · omega
      rcases List.mem_cons.mp hb with rfl | hb
      · omega
      rw [List.mem_singleton.mp hb]; exact Nat.le_refl _
    refine mono_ff (wpAny_mono (turn C D s.heap.objs.size i v ys h tk m (by simpa using hP) hlen htk (hj hX) (by omega) (by omega) (Nat.le_refl _) hlive (fun b o hbS e => hk b o (fun q => ?_) hbS (Heap.get?_push_of_some _ e)) hn hm) (fun y s₄ h₄ => ?_) fun _ _ e => e)
    · rw [List.mem_singleton.mp q] at e
      exact absurd (Heap.lt_size e) (Nat.lt_irrefl _)
    · obtain ⟨h', tk', rfl, a, b⟩ := h₄
      exact ⟨h', tk', rfl, a, fun _ => b⟩
  · intro C D h' tk ys htk hC hD hCD hpl hys hj hk hCl h'' hs
    rw [hsize] at hC hD
    have hX : ∀ b ∈ [C, D, s.heap.objs.size], s.heap.objs.size ≤ b := by
      intro b hb
      rcases List.mem_cons.mp hb with rfl | hb
      · omega
      rcases List.mem_cons.mp hb with rfl | hb
      · omega
      rw [List.mem_singleton.mp hb]; exact Nat.le_refl _
    refine fin C D s.heap.objs.size h'' tk ys htk (by omega) (by omega) (Nat.le_refl _) hCD (hpl.extBut hs.extBut hCD.symm) hys (hJ _ _ _ _ _ _ _ (Nat.le_refl _) (fun b o hb e => (hs.2 b (fun q => hb (by rw [q]; exact .head _))).trans e) (hj hX)) (fun b o hbS e => ?_) _ ⟨_, _, rfl⟩
    have hb := Heap.lt_size e
    exact (hs.2 b (Nat.ne_of_lt (Nat.lt_of_lt_of_le hb (by omega)))).trans (hk b o (fun q => by rw [List.mem_singleton.mp q] at hb; exact Nat.lt_irrefl _ hb) hbS (Heap.get?_push_of_some _ e))

theorem compAt_range {r : Addr} {a b c : Int} {t u v : Tok} {n : Nat} {done : Addr → Addr → Shared → Heap → Nat → Array Value → Prop} (S : List Addr) (hh : A.handled = none)
    (hr : IsRange s.heap r a b c t u v) (hsmall : Builtin.Range.small a b c = true) (hn : Builtin.Range.rangeSize a b c = (n : Int)) (hsz : n ≤ sizeLine)
    (hS : ∀ b ∈ S, b < s.heap.objs.size) (J : List Addr → Nat → List Value → Nat → Heap → Prop)
    (hJ : ∀ X i ys tk tk' h h', tk ≤ tk' → (∀ b o, b ∉ X → h.get? b = some o → h'.get? b = some o) → J X i ys tk h → J X i ys tk' h')
    (hJ0 : ∀ X, (∀ b ∈ X, s.heap.objs.size ≤ b) → J X 0 [] s.toks s.heap)
    (turn : ∀ C D I i t ys h tk m, i < n → ys.length = i → s.toks ≤ t → t < tk → J [C, D, I] i ys tk h → (∃ tkJ, tkJ ≤ t ∧ J [C, D, I] i ys tkJ h) → s.heap.objs.size ≤ C → s.heap.objs.size ≤ D → s.heap.objs.size ≤ I → (∀ b ∈ [C, D, I], ∃ o, h.get? b = some o) →
      (∀ b o, b ∉ S → s.heap.get? b = some o → h.get? b = some o) → h.Ns C m → m x = some (.int (a + i * c) t) →
      wpAny (model PG w) A (eval elt (compEnvC scope cl C env)) (fun y s₄ => ∃ h' tk', s₄ = { s with heap := h', toks := tk' } ∧ (∀ b o, b ∉ S → h.get? b = some o → h'.get? b = some o) ∧ J [C, D, I] (i + 1) (ys ++ [y]) tk' h') FF { s with heap := h, toks := tk })
    (fin : ∀ C D I h' tk ys, s.toks ≤ tk → s.heap.objs.size ≤ C → s.heap.objs.size ≤ D → s.heap.objs.size ≤ I → C ≠ D → h'.PlainList D ys → ys.size = n → J [C, D, I] n ys.toList tk h' → (∀ b o, b ∉ S → s.heap.get? b = some o → h'.get? b = some o) → ∀ s₂ : Shared, (∃ h tk, s₂ = { s with heap := h, toks := tk }) → done C D s₂ h' tk ys) :
    wpAny (model PG w) A (pyIter (.ref r)) (fun it s₂ => CompAt w A env scope cl x elt S it s₂ fun C D h tk ys => done C D s₂ h tk ys) FF s := by
  refine wpAny_pyIter_range hr hsmall ?_
  have W := Wk.range (w := w) hh s.heap.objs.size a c n
  have hsize : ∀ o, (s.heap.push o).objs.size = s.heap.objs.size + 1 := fun o => Heap.size_push ..
  refine ⟨s.heap.objs.size, [s.heap.objs.size], [s.heap.objs.size], n, _, _, fun X i ys tk h => (∀ b ∈ X, s.heap.objs.size ≤ b) → J X i ys tk h, rfl, W, hsz, (by show IsRangeIter _ _ _ _ _; rw [hn]; simpa using Heap.get?_push_size _ rfl), ?_, ?_, ?_, ?_, ?_⟩
  · intro b hb
    refine ⟨fun hm => ?_, by rw [hsize]; exact Nat.lt_succ_of_lt (hS b hb)⟩
    rw [List.mem_singleton.mp hm] at hb
    exact Nat.lt_irrefl _ (hS _ hb)
  · intro X i ys tk tk' h h' htk hk hj hX
    exact hJ X i ys tk tk' h h' htk hk (hj hX)
  · intro X hX
    exact hJ X _ _ _ _ _ _ (Nat.le_refl _) (fun b o _ e => Heap.get?_push_of_some _ e) (hJ0 X hX)
  · rintro C D i v ys h tk m hi hlen ⟨lo, hi', hlo, hhi, ⟨t, rfl, ht1, ht2⟩, hjl⟩ htk hj hC hD hlive hk hn hm
    rw [hsize] at hC hD
    have hX : ∀ b ∈ [C, D, s.heap.objs.size], s.heap.objs.size ≤ b := by
      intro b hb
      rcases List.mem_cons.mp hb with rfl | hb
      · omega
      rcases List.mem_cons.mp hb with rfl | hb
      · omega
      rw [List.mem_singleton.mp hb]; exact Nat.le_refl _
    refine mono_ff (wpAny_mono (turn C D s.heap.objs.size i t ys h tk m hi hlen (Nat.le_trans hlo ht1) (Nat.lt_of_lt_of_le ht2 hhi) (hj hX) ⟨lo, ht1, hjl hX⟩ (by omega) (by omega) (Nat.le_refl _) hlive (fun b o hbS e => hk b o (fun q => ?_) hbS (Heap.get?_push_of_some _ e)) hn hm) (fun y s₄ h₄ => ?_) fun _ _ e => e)
    · rw [List.mem_singleton.mp q] at e
      exact absurd (Heap.lt_size e) (Nat.lt_irrefl _)
    · obtain ⟨h', tk', rfl, a, b⟩ := h₄
      exact ⟨h', tk', rfl, a, fun _ => b⟩
  · intro C D h' tk ys htk hC hD hCD hpl hys hj hk hCl h'' hs
    rw [hsize] at hC hD
    have hX : ∀ b ∈ [C, D, s.heap.objs.size], s.heap.objs.size ≤ b := by
      intro b hb
      rcases List.mem_cons.mp hb with rfl | hb
      · omega
      rcases List.mem_cons.mp hb with rfl | hb
      · omega
      rw [List.mem_singleton.mp hb]; exact Nat.le_refl _
    refine fin C D s.heap.objs.size h'' tk ys htk (by omega) (by omega) (Nat.le_refl _) hCD (hpl.extBut hs.extBut hCD.symm) hys (hJ _ _ _ _ _ _ _ (Nat.le_refl _) (fun b o hb e => (hs.2 b (fun q => hb (by rw [q]; exact .head _))).trans e) (hj hX)) (fun b o hbS e => ?_) _ ⟨_, _, rfl⟩
    have hb := Heap.lt_size e
    exact (hs.2 b (Nat.ne_of_lt (Nat.lt_of_lt_of_le hb (by omega)))).trans (hk b o (fun q => by rw [List.mem_singleton.mp q] at hb; exact Nat.lt_irrefl _ hb) hbS (Heap.get?_push_of_some _ e))
end
end Mine

-- MB8
namespace Mine
theorem kp_push {h₀ : Heap} : KeptH (fun h => Kp h₀ h) := fun h ob k b o e => Heap.get?_push_of_some _ (k b o e)
section
variable {w : World} {A : Around} {s : Shared} {env : Env} {E : Value → Shared → Prop}

theorem tail_str_item {value slice : Expr} {x : Str} {t u : Tok} {i : Int} {Q : Value → Shared → Prop} (h1 : 0 ≤ i) (h2 : i < x.length) (h3 : i < 2 ^ 62) (h : Q (.str (Txt.item x i) s.toks) { s with toks := s.toks + 1 })
    (hs : subscripted slice false (.str x t) (.int i u) = operate [.str x t, .int i u] (getItem (.str x t) (.int i u)) := by with_unfolding_all rfl)
    (ht : ∀ r, letTemporaryGo value (.str x t) r = pure () := by intro _; with_unfolding_all rfl) :
    wpAny (model PG w) A (subscriptTail value slice (.str x t) (.int i u)) Q E s :=
  item_str (by unfold fitsSsize; simp; omega) (by omega) h2 (fun _ => h) hs ht

theorem sub_str_ns {value u : Expr} {p pos : Pos} {Q : Value → Shared → Prop}
    (h : wpAny (model PG w) A (eval value env) (fun o s₁ => ∃ x t, o = .str x t ∧ wpAny (model PG w) A (eval u env) (fun i s₂ => ∃ j uj, i = .int j uj ∧ x.length ≤ sizeLine ∧
      ∀ h' t' k, Kp s₂.heap h' → Q (.str (Txt.slice x none (some j)) t') { s₂ with heap := h', toks := k }) E s₁) E s)
    (ht : ∀ x t r, letTemporaryGo value (.str x t) r = pure () := by intro _ _ _; with_unfolding_all rfl) :
    wpAny (model PG w) A (eval (.Subscript value (.Slice none (some u) none p) pos) env) Q E s := by
  refine Subscript_ (wpAny_mono h (fun o s₁ h₁ => ?_) fun _ _ e => e)
  obtain ⟨x, t, rfl, h₁⟩ := h₁
  refine wpAny_Slice (wpAny_evalPart_none (wpAny_evalPart_some (wpAny_mono h₁ (fun i s₂ h₂ => ?_) fun _ _ e => e)))
  obtain ⟨j, uj, rfl, hsz, h₂⟩ := h₂
  exact wpAny_evalPart_none (tail_of_ItemOn (SBH.sliceItem_ns (kp_push (h₀ := s₂.heap)) (fun _ _ e => e) (fun h' t' k q => h₂ h' t' k q) hsz) (by with_unfolding_all rfl) (ht _ _))

theorem sub_str_sn {value l : Expr} {p pos : Pos} {Q : Value → Shared → Prop}
    (h : wpAny (model PG w) A (eval value env) (fun o s₁ => ∃ x t, o = .str x t ∧ wpAny (model PG w) A (eval l env) (fun i s₂ => ∃ j uj, i = .int j uj ∧ x.length ≤ sizeLine ∧
      ∀ h' t' k, Kp s₂.heap h' → Q (.str (Txt.slice x (some j) none) t') { s₂ with heap := h', toks := k }) E s₁) E s)
    (ht : ∀ x t r, letTemporaryGo value (.str x t) r = pure () := by intro _ _ _; with_unfolding_all rfl) :
    wpAny (model PG w) A (eval (.Subscript value (.Slice (some l) none none p) pos) env) Q E s := by
  refine Subscript_ (wpAny_mono h (fun o s₁ h₁ => ?_) fun _ _ e => e)
  obtain ⟨x, t, rfl, h₁⟩ := h₁
  refine wpAny_Slice (wpAny_evalPart_some (wpAny_mono h₁ (fun i s₂ h₂ => ?_) fun _ _ e => e))
  obtain ⟨j, uj, rfl, hsz, h₂⟩ := h₂
  exact wpAny_evalPart_none (wpAny_evalPart_none (tail_of_ItemOn (SBH.sliceItem_sn (kp_push (h₀ := s₂.heap)) (fun _ _ e => e) (fun h' t' k q => h₂ h' t' k q) hsz) (by with_unfolding_all rfl) (ht _ _)))

theorem sub_str_ss {value l u : Expr} {p pos : Pos} {Q : Value → Shared → Prop}
    (h : wpAny (model PG w) A (eval value env) (fun o s₁ => ∃ x t, o = .str x t ∧ wpAny (model PG w) A (eval l env) (fun i s₂ => wpAny (model PG w) A (eval u env) (fun i' s₃ => ∃ j uj j' uj', i = .int j uj ∧ i' = .int j' uj' ∧ x.length ≤ sizeLine ∧
      ∀ h' t' k, Kp s₃.heap h' → Q (.str (Txt.slice x (some j) (some j')) t') { s₃ with heap := h', toks := k }) E s₂) E s₁) E s)
    (ht : ∀ x t r, letTemporaryGo value (.str x t) r = pure () := by intro _ _ _; with_unfolding_all rfl) :
    wpAny (model PG w) A (eval (.Subscript value (.Slice (some l) (some u) none p) pos) env) Q E s := by
  refine Subscript_ (wpAny_mono h (fun o s₁ h₁ => ?_) fun _ _ e => e)
  obtain ⟨x, t, rfl, h₁⟩ := h₁
  refine wpAny_Slice (wpAny_evalPart_some (wpAny_mono h₁ (fun i s₂ h₂ => wpAny_evalPart_some (wpAny_mono h₂ (fun i' s₃ h₃ => ?_) fun _ _ e => e)) fun _ _ e => e))
  obtain ⟨j, uj, j', uj', rfl, rfl, hsz, h₃⟩ := h₃
  exact wpAny_evalPart_none (tail_of_ItemOn (SBH.sliceItem_ss (kp_push (h₀ := s₃.heap)) (fun _ _ e => e) (fun h' t' k q => h₃ h' t' k q) hsz) (by with_unfolding_all rfl) (ht _ _))

/-- a text and another, neither empty -/
theorem add_strs {x y : Str} {t u : Tok} {Q : Value → Shared → Prop} (hsz : x.length + y.length ≤ sizeLine) (h : ∀ t' tk, Q (.str (x ++ y) t') { s with toks := tk }) : wpAny (model PG w) A (binaryOp .Add (.str x t) (.str y u)) Q E s :=
  PyProof.Rows.add_str h hsz
end
end Mine

-- MB9
namespace Mine
section
variable {w : World} {A : Around} {s : Shared} {env : Env} {scope : Scope} {cl : List (Str × Addr)} {x y : Str} {elt iter : Expr} {px py pos spos : Pos} {Q : Flow → Shared → Prop}

/-- y = [elt for x in l], y a local name, l a list -/
theorem asg_list (S : List Addr) (hh : A.handled = none)
    (hsw : swapsWith (.ListComp elt [⟨.Name x px, iter, [], 0⟩] scope pos) (some (.Name y py)) spos.line env = pure true)
    (hclos : closureFor scope env = pure cl) (hcell : ∀ y ∈ scope.names, y.2 ≠ .cell) (hkind : scope.kind = .function)
    (hnames : ∀ y ∈ scope.names, y.2 = .local → scope.names.lookup y.1 = some .local) (hx : scope.names.lookup x = some .local)
    (hy : env.kindOf y = some .local) (hp : (env.scope.kind == .class || (env.scope.kind == .module && env.locals != env.globals)) = false)
    (h : wpAny (model PG w) A (eval iter env) (fun xv s₁ => ∃ (l : Addr) (vs : List Value) (m₀ : Str → Option Value) (J : List Addr → Nat → List Value → Nat → Heap → Prop),
      xv = .ref l ∧ s₁.heap.IsList l vs.toArray ∧ vs.length ≤ sizeLine ∧ s₁.heap.Ns env.locals m₀ ∧ (∀ b ∈ S, b ≠ l ∧ b < s₁.heap.objs.size ∧ b ≠ env.locals) ∧
      (∀ X i ys tk tk' h h', tk ≤ tk' → (∀ b o, b ∉ X → h.get? b = some o → h'.get? b = some o) → J X i ys tk h → J X i ys tk' h') ∧
      (∀ X, (∀ b ∈ X, s₁.heap.objs.size ≤ b ∨ b = env.locals) → J X 0 [] s₁.toks s₁.heap) ∧
      (∀ C D I i v ys h tk m, vs[i]? = some v → ys.length = i → s₁.toks ≤ tk → J [env.locals, C, D, I] i ys tk h → s₁.heap.objs.size ≤ C → s₁.heap.objs.size ≤ D → s₁.heap.objs.size ≤ I → (∀ b ∈ [env.locals, C, D, I], ∃ o, h.get? b = some o) →
        (∀ b o, b ∉ S → s₁.heap.get? b = some o → h.get? b = some o) → h.Ns C m → m x = some v →
        wpAny (model PG w) A (eval elt (compEnvC scope cl C env)) (fun u s₄ => ∃ h' tk', s₄ = { s₁ with heap := h', toks := tk' } ∧ (∀ b o, b ∉ S → h.get? b = some o → h'.get? b = some o) ∧ J [env.locals, C, D, I] (i + 1) (ys ++ [u]) tk' h') FF { s₁ with heap := h, toks := tk }) ∧
      (∀ C D I h₃ tk₃ ys, s₁.toks ≤ tk₃ → s₁.heap.objs.size ≤ C → s₁.heap.objs.size ≤ D → s₁.heap.objs.size ≤ I → h₃.PlainList D ys → ys.size = vs.length → J [env.locals, C, D, I] vs.length ys.toList tk₃ h₃ → h₃.Ns env.locals (fun z => if z = y then some (.ref D) else m₀ z) →
        (∀ b o, b ∉ S → b ≠ env.locals → s₁.heap.get? b = some o → h₃.get? b = some o) → Q .next { s₁ with heap := h₃, toks := tk₃ })) FF s)
    (hs : ∀ x, foldedSetIterable iter env x = pure x := by intro _; rfl) :
    wpAny (model PG w) A (exec (.Assign [.Name y py] (.ListComp elt [⟨.Name x px, iter, [], 0⟩] scope pos) spos) env) Q FF s := by
  refine comp_assign S hsw hclos hcell hkind hnames hx hy hp (wpAny_mono h (fun xv s₁ h₁ => ?_) fun _ _ e => e) hs
  obtain ⟨l, vs, m₀, J, rfl, hl, hsz, hn, hS, hJ, hJ0, turn, fin⟩ := h₁
  obtain ⟨oL, _, _, hoL, _⟩ := id hn
  refine (compAt_list (done := fun C D s₂ h'' tk ys => env.locals ≠ C ∧ ∃ m, h''.Ns env.locals m ∧ ∀ h₃ tk₃, tk ≤ tk₃ → h₃.Ns env.locals (fun z => if z = y then some (.ref D) else m z) → (∀ b o, b ≠ env.locals → b ≠ C → h''.get? b = some o → h₃.get? b = some o) → Q .next { s₂ with heap := h₃, toks := tk₃ })
    S hh hl hsz (fun b hb => ⟨(hS b hb).1, (hS b hb).2.1⟩) (fun X => J (env.locals :: X)) (fun X i ys tk tk' h h' htk hk hj => hJ _ _ _ _ _ _ _ htk (fun b o hb e => hk b o (fun q => hb (.tail _ q)) e) hj)
    (fun X hX => hJ0 _ fun b hb => by
      rcases List.mem_cons.mp hb with rfl | hb
      · exact .inr rfl
      · exact .inl (hX b hb))
    (fun C D I i v ys h tk m hv hlen htk hj hC hD hI hlive hk hn' hm => turn C D I i v ys h tk m hv hlen htk hj hC hD hI (fun b hb => by
      rcases List.mem_cons.mp hb with rfl | hb
      · exact ⟨_, hk _ _ (fun q => (hS _ q).2.2 rfl) hoL⟩
      · exact hlive b hb) hk hn' hm) ?_)
  · intro C D I h' tk ys htk hC hD hI hCD hpl hys hj hk s₂ hs₂
    obtain ⟨g₂, k₂, rfl⟩ := hs₂
    have hLlt : (env.locals : Nat) < s₁.heap.objs.size := Heap.lt_size hoL
    refine ⟨Nat.ne_of_lt (Nat.lt_of_lt_of_le hLlt hC), m₀, hn.at' fun o e => hk _ o (fun q => (hS _ q).2.2 rfl) e, fun h₃ tk₃ htk₃ hn₃ hk₃ => ?_⟩
    refine fin C D I h₃ tk₃ ys (by omega) hC hD hI (hpl.at fun o e => hk₃ D o (Nat.ne_of_gt (Nat.lt_of_lt_of_le hLlt hD)) hCD.symm e) hys (hJ _ _ _ _ _ _ _ htk₃ (fun b o hb e => hk₃ b o (fun q => hb (by rw [q]; exact .head _)) (fun q => hb (by rw [q]; exact .tail _ (.head _))) e) hj) hn₃ fun b o hbS hbL e => ?_
    have hb : (b : Nat) < s₁.heap.objs.size := Heap.lt_size e
    exact hk₃ b o hbL (Nat.ne_of_lt (Nat.lt_of_lt_of_le hb hC)) (hk b o hbS e)

variable {QV : Value → Shared → Prop}
/-- [elt for x in l], l a list -/
theorem comp_list (S : List Addr) (hh : A.handled = none)
    (hclos : closureFor scope env = pure cl) (hcell : ∀ y ∈ scope.names, y.2 ≠ .cell) (hkind : scope.kind = .function)
    (hnames : ∀ y ∈ scope.names, y.2 = .local → scope.names.lookup y.1 = some .local) (hx : scope.names.lookup x = some .local)
    (h : wpAny (model PG w) A (eval iter env) (fun xv s₁ => ∃ (l : Addr) (vs : List Value) (J : List Addr → Nat → List Value → Nat → Heap → Prop),
      xv = .ref l ∧ s₁.heap.IsList l vs.toArray ∧ vs.length ≤ sizeLine ∧ (∀ b ∈ S, b ≠ l ∧ b < s₁.heap.objs.size) ∧
      (∀ X i ys tk tk' h h', tk ≤ tk' → (∀ b o, b ∉ X → h.get? b = some o → h'.get? b = some o) → J X i ys tk h → J X i ys tk' h') ∧
      (∀ X, (∀ b ∈ X, s₁.heap.objs.size ≤ b) → J X 0 [] s₁.toks s₁.heap) ∧
      (∀ C D I i v ys h tk m, vs[i]? = some v → ys.length = i → s₁.toks ≤ tk → J [C, D, I] i ys tk h → s₁.heap.objs.size ≤ C → s₁.heap.objs.size ≤ D → s₁.heap.objs.size ≤ I → (∀ b ∈ [C, D, I], ∃ o, h.get? b = some o) →
        (∀ b o, b ∉ S → s₁.heap.get? b = some o → h.get? b = some o) → h.Ns C m → m x = some v →
        wpAny (model PG w) A (eval elt (compEnvC scope cl C env)) (fun u s₄ => ∃ h' tk', s₄ = { s₁ with heap := h', toks := tk' } ∧ (∀ b o, b ∉ S → h.get? b = some o → h'.get? b = some o) ∧ J [C, D, I] (i + 1) (ys ++ [u]) tk' h') FF { s₁ with heap := h, toks := tk }) ∧
      (∀ C D I h₃ tk₃ ys, s₁.toks ≤ tk₃ → s₁.heap.objs.size ≤ C → s₁.heap.objs.size ≤ D → s₁.heap.objs.size ≤ I → h₃.PlainList D ys → ys.size = vs.length → J [C, D, I] vs.length ys.toList tk₃ h₃ →
        (∀ b o, b ∉ S → s₁.heap.get? b = some o → h₃.get? b = some o) → QV (.ref D) { s₁ with heap := h₃, toks := tk₃ })) FF s)
    (hs : ∀ x, foldedSetIterable iter env x = pure x := by intro _; rfl) :
    wpAny (model PG w) A (eval (.ListComp elt [⟨.Name x px, iter, [], 0⟩] scope pos) env) QV FF s := by
  refine comp_my S hclos hcell hkind hnames hx (wpAny_mono h (fun xv s₁ h₁ => ?_) fun _ _ e => e) hs
  obtain ⟨l, vs, J, rfl, hl, hsz, hS, hJ, hJ0, turn, fin⟩ := h₁
  refine compAt_list (done := fun C D s₂ h'' tk ys => QV (.ref D) { s₂ with heap := h'', toks := tk }) S hh hl hsz hS J hJ hJ0 turn ?_
  rintro C D I h' tk ys htk hC hD hI hCD hpl hys hj hk s₂ ⟨g₂, k₂, rfl⟩
  exact fin C D I h' tk ys htk hC hD hI hpl hys hj hk

/-- [elt for x in range(a, b, c)] -/
theorem comp_range (S : List Addr) (hh : A.handled = none)
    (hclos : closureFor scope env = pure cl) (hcell : ∀ y ∈ scope.names, y.2 ≠ .cell) (hkind : scope.kind = .function)
    (hnames : ∀ y ∈ scope.names, y.2 = .local → scope.names.lookup y.1 = some .local) (hx : scope.names.lookup x = some .local)
    (h : wpAny (model PG w) A (eval iter env) (fun xv s₁ => ∃ (r : Addr) (a b c : Int) (t u v : Tok) (n : Nat) (J : List Addr → Nat → List Value → Nat → Heap → Prop),
      xv = .ref r ∧ IsRange s₁.heap r a b c t u v ∧ Builtin.Range.small a b c = true ∧ Builtin.Range.rangeSize a b c = (n : Int) ∧ n ≤ sizeLine ∧ (∀ b ∈ S, b < s₁.heap.objs.size) ∧
      (∀ X i ys tk tk' h h', tk ≤ tk' → (∀ b o, b ∉ X → h.get? b = some o → h'.get? b = some o) → J X i ys tk h → J X i ys tk' h') ∧
      (∀ X, (∀ b ∈ X, s₁.heap.objs.size ≤ b) → J X 0 [] s₁.toks s₁.heap) ∧
      (∀ C D I i t ys h tk m, i < n → ys.length = i → s₁.toks ≤ t → t < tk → J [C, D, I] i ys tk h → (∃ tkJ, tkJ ≤ t ∧ J [C, D, I] i ys tkJ h) → s₁.heap.objs.size ≤ C → s₁.heap.objs.size ≤ D → s₁.heap.objs.size ≤ I → (∀ b ∈ [C, D, I], ∃ o, h.get? b = some o) →
        (∀ b o, b ∉ S → s₁.heap.get? b = some o → h.get? b = some o) → h.Ns C m → m x = some (.int (a + i * c) t) →
        wpAny (model PG w) A (eval elt (compEnvC scope cl C env)) (fun u s₄ => ∃ h' tk', s₄ = { s₁ with heap := h', toks := tk' } ∧ (∀ b o, b ∉ S → h.get? b = some o → h'.get? b = some o) ∧ J [C, D, I] (i + 1) (ys ++ [u]) tk' h') FF { s₁ with heap := h, toks := tk }) ∧
      (∀ C D I h₃ tk₃ ys, s₁.toks ≤ tk₃ → s₁.heap.objs.size ≤ C → s₁.heap.objs.size ≤ D → s₁.heap.objs.size ≤ I → h₃.PlainList D ys → ys.size = n → J [C, D, I] n ys.toList tk₃ h₃ →
        (∀ b o, b ∉ S → s₁.heap.get? b = some o → h₃.get? b = some o) → QV (.ref D) { s₁ with heap := h₃, toks := tk₃ })) FF s)
    (hs : ∀ x, foldedSetIterable iter env x = pure x := by intro _; rfl) :
    wpAny (model PG w) A (eval (.ListComp elt [⟨.Name x px, iter, [], 0⟩] scope pos) env) QV FF s := by
  refine comp_my S hclos hcell hkind hnames hx (wpAny_mono h (fun xv s₁ h₁ => ?_) fun _ _ e => e) hs
  obtain ⟨r, a, b, c, t, u, v, n, J, rfl, hr, hsm, hn, hsz, hS, hJ, hJ0, turn, fin⟩ := h₁
  refine compAt_range (done := fun C D s₂ h'' tk ys => QV (.ref D) { s₂ with heap := h'', toks := tk }) S hh hr hsm hn hsz hS J hJ hJ0 turn ?_
  rintro C D I h' tk ys htk hC hD hI hCD hpl hys hj hk s₂ ⟨g₂, k₂, rfl⟩
  exact fin C D I h' tk ys htk hC hD hI hpl hys hj hk
end
end Mine

-- M2
namespace Mine
theorem fillM2 (w : World) (h : Heap) : ((hd.heap_39 w.params).In h ∧ PySem.Challenge.rw_xi0002_01.row.prog = PySem.Challenge.rw_xi0002_01.row.prog) → True := by
  k_fill
  intros; trivial

section
variable {w : World} {A : Around} {s : Shared} {Q E : Value → Shared → Prop}

theorem add_int {x y : Int} {tx ty : Tok} {d : Nat} (C : Cx w s.heap) (R : Room A (d + 1))
    (hQ : ∀ t h' tk', Kp s.heap h' → s.toks ≤ t → t < tk' → Q (.int (x + y) t) { s with heap := h', toks := tk' }) :
    wpAny (model PG w) A (call (.ref 21) [.int x tx, .int y ty]) Q E s := by
  refine enter (d := d) [(Str.ofString "a", .int x tx), (Str.ofString "b", .int y ty)] C R (by k_is) (by k_is) rfl rfl (fun h₁ F => ?_) rfl rfl rfl rfl
  refine wpAny_execs_cons (wpAny_Return_some (wpAny_BinOp (ld F rfl (ld F rfl (wpAny_add_int (hQ _ _ _ F.keep ?_ ?_))))))
  · show s.toks ≤ s.toks + 2
    omega
  · show s.toks + 2 < s.toks + 2 + 1
    omega

theorem isub_int {x y : Int} {tx ty : Tok} {d : Nat} (C : Cx w s.heap) (R : Room A (d + 1))
    (hQ : ∀ t h' tk', Kp s.heap h' → s.toks ≤ t → t < tk' → Q (.int (x - y) t) { s with heap := h', toks := tk' }) :
    wpAny (model PG w) A (call (.ref 49) [.int x tx, .int y ty]) Q E s := by
  refine enter (d := d) [(Str.ofString "a", .int x tx), (Str.ofString "b", .int y ty)] C R (by k_is) (by k_is) rfl rfl (fun h₁ F => ?_) rfl rfl rfl rfl
  refine wpAny_execs_cons (wpAny_AugAssign_Name (ldn F rfl (ld F rfl (AutoIntOps.isub_0 (st F fun h₂ F₂ => ?_)))))
  dsimp only
  refine wpAny_execs_cons (wpAny_Return_some (ld F₂ rfl (hQ _ _ _ F₂.keep ?_ ?_)))
  · show s.toks ≤ s.toks + 2
    omega
  · show s.toks + 2 < s.toks + 2 + 1 + 1
    omega

/-- a power that fits, its base two or more -/
theorem ipow_big {A : Around} {E : Value → Shared → Prop} {s : Shared} {a b : Int} {t u : Tok} {Q : Value → Shared → Prop} (ha : 2 ≤ a) (hb : 0 ≤ b) (hfit : ((Builtin.Int.intBits a : Nat) : Int) * b ≤ 2 ^ 27)
    (h : Q (.int (a ^ b.toNat) s.toks) { s with toks := s.toks + 1 }) : wpAny (model PG w) A (inplaceOp .Pow (.int a t) (.int b u)) Q E s := by
  by_cases h0 : b = 0
  · subst h0
    have e : a ^ Int.toNat 0 = 1 := by simp
    rw [e] at h
    exact AutoIntOps.ipow_0 (by omega) (by decide) h
  · refine AutoIntOps.ipow_4 (by omega) (by simpa using h0) (by simp; omega) (by simp; omega) ?_ h
    unfold Builtin.Int.intTooBig
    simp only [decide_eq_true_eq, Int.not_lt, gt_iff_lt, bitsLine]
    simpa using hfit

theorem ipow_int {x y : Int} {tx ty : Tok} {d : Nat} (C : Cx w s.heap) (R : Room A (d + 1)) (ha : 2 ≤ x) (hb : 0 ≤ y) (hfit : ((Builtin.Int.intBits x : Nat) : Int) * y ≤ 2 ^ 27)
    (hQ : ∀ t h' tk', Kp s.heap h' → Q (.int (x ^ y.toNat) t) { s with heap := h', toks := tk' }) :
    wpAny (model PG w) A (call (.ref 42) [.int x tx, .int y ty]) Q E s := by
  refine enter (d := d) [(Str.ofString "a", .int x tx), (Str.ofString "b", .int y ty)] C R (by k_is) (by k_is) rfl rfl (fun h₁ F => ?_) rfl rfl rfl rfl
  refine wpAny_execs_cons (wpAny_AugAssign_Name (ldn F rfl (ld F rfl (ipow_big ha hb hfit (st F fun h₂ F₂ => ?_)))))
  dsimp only
  exact wpAny_execs_cons (wpAny_Return_some (ld F₂ rfl (hQ _ _ _ F₂.keep)))

theorem setitem_list {l : Addr} {items : Array Value} {k : Int} {tk : Tok} {v : Value} {d : Nat} (C : Cx w s.heap) (R : Room A (d + 1)) (hl : s.heap.IsList l items) (h0 : 0 ≤ k) (hk : k < items.size) (hfit : k < 2 ^ 63)
    (hQ : ∀ h' tk', (∀ b o, b ≠ l → s.heap.get? b = some o → h'.get? b = some o) → h'.IsList l (items.setIfInBounds k.toNat v) → Q .none { s with heap := h', toks := tk' }) :
    wpAny (model PG w) A (call (.ref 35) [.ref l, .int k tk, v]) Q E s := by
  refine enter (d := d) [(Str.ofString "a", .ref l), (Str.ofString "b", .int k tk), (Str.ofString "c", v)] C R (by k_is) (by k_is) rfl rfl (fun h₁ F => ?_) rfl rfl rfl rfl
  refine wpAny_execs_cons (wpAny_Assign_Subscript (ld F rfl (ld F rfl (ld F rfl (wpAny_setItem_list (hl.at fun o e => F.keep _ o e) h0 hfit hk fun h' hl' hs => ?_)))))
  dsimp only
  exact wpAny_execs_nil (hQ _ _ (fun b o hb e => (hs.2 b hb).trans (F.keep b o e)) hl')

theorem strxfrm_str {x : Value} {d : Nat} (C : Cx w s.heap) (R : Room A (d + 1)) (hQ : ∀ h' tk', Kp s.heap h' → Q x { s with heap := h', toks := tk' }) :
    wpAny (model PG w) A (call (.ref 70) [x]) Q E s := by
  refine enter (d := d) [(Str.ofString "s", x)] C R (by k_is) (by k_is) rfl rfl (fun h₁ F => ?_) rfl rfl rfl rfl
  exact wpAny_execs_cons (wpAny_Return_some (ld F rfl (hQ _ _ F.keep)))

/-- what _strcoll tells -/
def coll (a b : Str) : Int := b2i (decide (b.cps.toList < a.cps.toList)) - b2i (decide (a.cps.toList < b.cps.toList))

theorem strcoll_str {x y : Str} {tx ty : Tok} {d : Nat} (C : Cx w s.heap) (R : Room A (d + 1))
    (hQ : ∀ t h' tk', Kp s.heap h' → s.toks ≤ t → t < tk' → Q (.int (coll x y) t) { s with heap := h', toks := tk' }) :
    wpAny (model PG w) A (call (.ref 63) [.str x tx, .str y ty]) Q E s := by
  refine enter (d := d) [(Str.ofString "a", .str x tx), (Str.ofString "b", .str y ty)] C R (by k_is) (by k_is) rfl rfl (fun h₁ F => ?_) rfl rfl rfl rfl
  refine wpAny_execs_cons (wpAny_Return_some (wpAny_BinOp (wpAny_Compare1 (ld F rfl (ld F rfl (PySem.P.gt_str (wpAny_Compare1 (ld F rfl (ld F rfl (PySem.P.lt_str (sub_bool (hQ _ _ _ F.keep ?_ ?_))))))))))))
  · show s.toks ≤ s.toks + 2
    omega
  · show s.toks + 2 < s.toks + 2 + 1
    omega

theorem told_str {x y : Str} {tx ty : Tok} {d : Nat} (C : Cx w s.heap) (R : Room A (d + 2))
    (hQ : ∀ t h' tk', Kp s.heap h' → s.toks ≤ t → t < tk' → Q (.int (coll x y) t) { s with heap := h', toks := tk' }) :
    wpAny (model PG w) A (call (.ref 89) [.str x tx, .str y ty]) Q E s := by
  refine enter (d := d + 1) [(Str.ofString "text", .str x tx), (Str.ofString "other", .str y ty)] C R (by k_is) (by k_is) rfl rfl (fun h₁ F => ?_) rfl rfl rfl rfl
  have R' := R.deeper
  have C₁ := C.keeps F.keep
  refine wpAny_execs_cons (wpAny_Assign_Name (callF C₁ (by k_is) (by k_is) (spl2 (ld F rfl (ld F rfl ⟨C₁, strcoll_str (d := d) C₁ (R' _) fun t h' tk' k ht1 ht2 => ?_⟩)))))
  refine st (F.keeps k) fun h₂ F₂ => ?_
  dsimp only
  have C₂ := C.keeps F₂.keep
  refine wpAny_execs_cons (wpAny_Return_some (wpAny_IfExp (wpAny_isTrue_BoolOp (wpAny_allTrue_And_cons (wpAny_isTrue_value ?_)))))
  refine callB C₂ (by k_is) boot_isinstance (spl2 (ld F₂ rfl (nm_builtin C₂ (by k_is) PyProof.Rows.boot_int ?_)))
  refine PySem.IsiPair.int_int (wpAny_truthy_bool ?_)
  rw [if_pos rfl]
  refine wpAny_allTrue_And_cons (wpAny_isTrue_Not (wpAny_isTrue_value (callB C₂ (by k_is) boot_isinstance (spl2 (ld F₂ rfl (nm_builtin C₂ (by k_is) PyProof.Rows.boot_bool ?_))))))
  refine PySem.IsiPair.int_bool (wpAny_truthy_bool ?_)
  simp only [Bool.not_false, if_true]
  refine wpAny_allTrue_And_nil ?_
  simp only [if_true]
  refine ld F₂ rfl (hQ _ _ _ F₂.keep ?_ ?_)
  · exact Nat.le_trans (by show s.toks ≤ s.toks + 2; omega) ht1
  · show t < tk' + 1 + 1
    omega
end
end Mine

-- M3
namespace Mine
theorem fillM3 (w : World) (h : Heap) : ((hd.heap_39 w.params).In h ∧ PySem.Challenge.rw_xi0002_01.row.prog = PySem.Challenge.rw_xi0002_01.row.prog) → True := by
  k_fill
  intros; trivial

/-- the values are these ints, their tokens from lo on and below hi -/
def Toks (lo hi : Nat) (vs : List Value) (ns : List Int) : Prop := vs.length = ns.length ∧ ∀ (i : Nat) (n : Int), ns[i]? = some n → ∃ t, vs[i]? = some (.int n t) ∧ lo ≤ t ∧ t < hi
theorem Toks.mono {lo hi hi' : Nat} {vs : List Value} {ns : List Int} (T : Toks lo hi vs ns) (h : hi ≤ hi') : Toks lo hi' vs ns :=
  ⟨T.1, fun i n e => let ⟨t, a, b, c⟩ := T.2 i n e; ⟨t, a, b, Nat.lt_of_lt_of_le c h⟩⟩
theorem Toks.set {lo hi hi' t i : Nat} {vs : List Value} {ns : List Int} {n : Int} (T : Toks lo hi vs ns) (h : hi ≤ hi') (h1 : lo ≤ t) (h2 : t < hi') : Toks lo hi' (vs.set i (.int n t)) (ns.set i n) := by
  refine ⟨by simp [T.1], fun j m e => ?_⟩
  rw [List.getElem?_set] at e ⊢
  by_cases hij : i = j
  · subst hij
    simp only [if_true] at e ⊢
    split at e
    · rename_i hl
      rw [if_pos (by rw [T.1]; exact hl)]
      cases e
      exact ⟨t, rfl, h1, h2⟩
    · cases e
  · rw [if_neg hij] at e ⊢
    exact (T.mono h).2 j m e
theorem Toks.ints {lo hi : Nat} : ∀ {vs : List Value} {ns : List Int}, Toks lo hi vs ns → IntsAre vs ns
  | [], [], _ => .nil
  | [], _ :: _, T => by have := T.1; simp at this
  | _ :: _, [], T => by have := T.1; simp at this
  | v :: vs, n :: ns, T => by
    obtain ⟨t, e, _⟩ := T.2 0 n rfl
    have : v = .int n t := by simpa using e
    subst this
    exact .cons n t (Toks.ints (lo := lo) (hi := hi) ⟨by have := T.1; simpa using this, fun i m e => T.2 (i + 1) m (by simpa using e)⟩)

theorem isCell_at {h h' : Heap} {c : Addr} {v : Option Value} (H : h.IsCell c v) (k : ∀ o, h.get? c = some o → h'.get? c = some o) : h'.IsCell c v := by
  obtain ⟨o, ho, hd⟩ := H
  exact ⟨o, k o ho, hd⟩
theorem ints_snoc : ∀ {vs : List Value} {ns : List Int} {n : Int} {t : Tok}, IntsAre vs ns → IntsAre (vs ++ [.int n t]) (ns ++ [n])
  | _, _, _, _, .nil => .cons _ _ .nil
  | _, _, _, _, .cons n t h => .cons n t (ints_snoc h)

theorem ints_at : ∀ {vs : List Value} {ns : List Int} {i : Nat} {v : Value} {n : Int}, IntsAre vs ns → vs[i]? = some v → ns[i]? = some n → ∃ t, v = .int n t
  | _, _, 0, _, _, .cons _ t _, hv, hn => by cases hv; cases hn; exact ⟨t, rfl⟩
  | _, _, i + 1, _, _, .cons _ _ h, hv, hn => ints_at h hv hn

def bump (i : Nat) (ns : List Int) : List Int := ns.set i (ns.getD i 0 + 1)

theorem foldl_bump_len : ∀ (l : List Nat) (ns : List Int), (l.foldl (fun l j => bump j l) ns).length = ns.length
  | [], _ => rfl
  | j :: l, ns => by rw [List.foldl_cons, foldl_bump_len l]; simp [bump]
theorem sl_ab (a b c : Nat) : Txt.slice ⟨#[a, b, c]⟩ none (some 2) = ⟨#[a, b]⟩ := rfl
theorem sl_bc (a b c : Nat) : Txt.slice ⟨#[a, b, c]⟩ (some 1) none = ⟨#[b, c]⟩ := by with_unfolding_all rfl
theorem it_0 (a b c : Nat) : Txt.item ⟨#[a, b, c]⟩ 0 = ⟨#[a]⟩ := rfl
theorem it_2 (a b c : Nat) : Txt.item ⟨#[a, b, c]⟩ 2 = ⟨#[c]⟩ := rfl
theorem ap_ac (a c : Nat) : (⟨#[a]⟩ : Str) ++ ⟨#[c]⟩ = ⟨#[a, c]⟩ := rfl

section
variable {w : World} {A : Around} {s : Shared} {Q E : Value → Shared → Prop}
theorem setitem_plain {l : Addr} {items : Array Value} {k : Int} {tk : Tok} {v : Value} {d : Nat} (C : Cx w s.heap) (R : Room A (d + 1)) (hl : s.heap.PlainList l items) (h0 : 0 ≤ k) (hk : k < items.size) (hfit : k < 2 ^ 63)
    (hQ : ∀ h' tk', s.toks ≤ tk' → (∀ b o, b ≠ l → s.heap.get? b = some o → h'.get? b = some o) → h'.PlainList l (items.setIfInBounds k.toNat v) → Q .none { s with heap := h', toks := tk' }) :
    wpAny (model PG w) A (call (.ref 35) [.ref l, .int k tk, v]) Q E s := by
  refine enter (d := d) [(Str.ofString "a", .ref l), (Str.ofString "b", .int k tk), (Str.ofString "c", v)] C R (by k_is) (by k_is) rfl rfl (fun h₁ F => ?_) rfl rfl rfl rfl
  refine wpAny_execs_cons (wpAny_Assign_Subscript (ld F rfl (ld F rfl (ld F rfl (setItem_plain (hl.at fun o e => F.keep _ o e) h0 hfit hk fun h' hl' hs => ?_)))))
  dsimp only
  exact wpAny_execs_nil (hQ _ _ (by show s.toks ≤ s.toks + 3; omega) (fun b o hb e => (hs.2 b hb).trans (F.keep b o e)) hl')

set_option maxHeartbeats 4000000 in
theorem mark_spec {B : Heap} {lm lp : Addr} {ms pv : List Value} {ps : List Str} {a b c : Nat} {t : Tok} {i1 i2 i3 : Nat} {ns : List Int} {d : Nat}
    (C : Cx w B) (hB : Kp B s.heap) (hm0 : B.get? lm = none) (R : Room A (d + 3)) (hm : s.heap.PlainList lm ms.toArray) (hns : Toks 1 s.toks ms ns) (hp : s.heap.PlainList lp pv.toArray) (hpv : StrsAre pv ps) (hne : lm ≠ lp)
    (hlen : ns.length = 15) (hps : ps.length = 15) (e1 : ps.idxOf ⟨#[a, b]⟩ = i1) (e2 : ps.idxOf ⟨#[a, c]⟩ = i2) (e3 : ps.idxOf ⟨#[b, c]⟩ = i3) (l1 : i1 < 15) (l2 : i2 < 15) (l3 : i3 < 15)
    (hQ : ∀ D h' tk' ms', s.toks ≤ tk' → (∀ b o, b ≠ lm → s.heap.get? b = some o → h'.get? b = some o) → h'.PlainList lm ms'.toArray → Toks 1 tk' ms' (bump i3 (bump i2 (bump i1 ns))) → s.heap.objs.size ≤ D → h'.PlainList D #[.none, .none, .none] →
      Q (.ref D) { s with heap := h', toks := tk' }) :
    wpAny (model PG w) A (call (.ref 106) [.ref lm, .str ⟨#[a, b, c]⟩ t, .ref lp]) Q E s := by
  have h1s : 1 ≤ s.toks := by
    obtain ⟨t', _, h1, h2⟩ := hns.2 0 (ns.getD 0 0) (by rw [List.getD_eq_getElem?_getD, List.getElem?_eq_getElem (by omega)]; rfl)
    exact Nat.le_of_lt (Nat.lt_of_le_of_lt h1 h2)
  refine enterC (d := d + 2) [(Str.ofString "marks", .ref lm), (Str.ofString "text", .str ⟨#[a, b, c]⟩ t), (Str.ofString "pairs", .ref lp)] (C.keeps hB) R (by k_is) (by k_is) rfl rfl (fun h₁ tk htk F cells => ?_) rfl rfl rfl
  have R' := R.deeper
  have hcm := cells (Str.ofString "marks") _ rfl
  have hcp := cells (Str.ofString "pairs") _ rfl
  have hmL : lm < s.heap.objs.size := by obtain ⟨n, e⟩ := hm; exact Heap.lt_size e
  have hLp : lp < s.heap.objs.size := by obtain ⟨n, e⟩ := hp; exact Heap.lt_size e
  refine wpAny_execs_cons (asg_list [] (R' _).hd rfl rfl (by decide) rfl (by decide) rfl rfl rfl (wpAny_with_toks (n := s.toks) htk (List_ (spl3 ?_))))
  have hsz3 : (⟨#[a, b, c]⟩ : Str).length ≤ sizeLine := Nat.le_of_ble_eq_true rfl
  refine sub_str_ns (ldL F.ns rfl ⟨_, _, rfl, wpAny_Constant_int ⟨_, _, rfl, hsz3, fun h₂ t₂ k₂ K₂ => ?_⟩⟩)
  rw [sl_ab]
  dsimp only at K₂ ⊢
  have n₂ := F.ns.keeps K₂
  refine wpAny_BinOp (Subscript_ (ldL n₂ rfl (wpAny_Constant_int (tail_str_item (by decide) (by show (0 : Int) < 3; decide) (by decide) (Subscript_ (ldL n₂ rfl (wpAny_Constant_int (tail_str_item (by decide) (by show (2 : Int) < 3; decide) (by decide) ?_))))))))
  rw [it_0, it_2]
  refine add_strs (Nat.le_of_ble_eq_true rfl) fun t₃ k₃ => ?_
  rw [ap_ac]
  dsimp only
  refine sub_str_sn (ldL n₂ rfl ⟨_, _, rfl, wpAny_Constant_int ⟨_, _, rfl, hsz3, fun h₄ t₄ k₄ K₄ => ?_⟩⟩)
  rw [sl_bc]
  dsimp only at K₄ ⊢
  refine new_list (Nat.le_of_ble_eq_true rfl) fun D h₅ hD0 hD K₅ hDs => ?_
  dsimp only at hD0 hD K₅ hDs ⊢
  intro hk4
  have hk4 : s.toks ≤ k₄ := hk4
  have K : Kp h₁ h₅ := fun b o e => K₅ b o (K₄ b o (K₂ b o e))
  have n₅ := F.ns.keeps K
  have C₅ : Cx w h₅ := (C.keeps hB).keeps (fun b o e => K b o (F.keep b o e))
  have hp₅ := (hp.at fun o e => K _ o (F.keep _ o e))
  have hcp₅ := isCell_at hcp fun o e => K _ o e
  refine ⟨D, [.str ⟨#[a, b]⟩ t₂, .str ⟨#[a, c]⟩ t₃, .str ⟨#[b, c]⟩ t₄], _, fun X i ys tk h => IntsAre ys (([i1, i2, i3].take i).map Int.ofNat), rfl, hD.isList, Nat.le_of_ble_eq_true rfl, n₅, by simp, fun X i ys tk tk' h h' _ _ hj => hj, fun _ _ => .nil, ?_, ?_⟩
  · intro C D' I i v ys h tk₁ m hv hlen htk₁ hj hC hD' hI hlive hk hn hm
    have hlt : i < 3 := by
      rcases Nat.lt_or_ge i 3 with h | h
      · exact h
      · rw [List.getElem?_eq_none (by simpa using h)] at hv; cases hv
    have C₆ : Cx w h := C₅.keeps (fun b o e => hk b o (by simp) e)
    have hcp₆ := isCell_at hcp₅ fun o e => hk _ o (by simp) e
    have hp₆ := hp₅.at fun o e => hk _ o (by simp) e
    have key : ∃ (p : Str) (tp : Tok) (n : Nat), v = .str p tp ∧ ps.idxOf p = n ∧ n < 15 ∧ ([i1, i2, i3].take (i + 1)).map Int.ofNat = ([i1, i2, i3].take i).map Int.ofNat ++ [(n : Int)] := by
      have h3 := lt3 hlt
      rcases h3 with rfl | rfl | rfl
      · exact ⟨_, _, _, (Option.some.inj hv).symm, e1, l1, rfl⟩
      · exact ⟨_, _, _, (Option.some.inj hv).symm, e2, l2, rfl⟩
      · exact ⟨_, _, _, (Option.some.inj hv).symm, e3, l3, rfl⟩
    obtain ⟨p, tp, n, rfl, hn', hlt', hap⟩ := key
    refine hideS fun gg drw oo Q1 hQ1 => ?_
    refine meth_list PySem.F.slot_list_index PySem.F.type_list_index (ldC rfl hcp₆ ⟨lp, _, rfl, hp₆, spl1 (ldL hn hm ?_)⟩)
    refine index_strs hp₆.isList hpv (by omega) (by omega) (hQ1 ⟨h, _, rfl, fun _ _ _ e => e, ?_⟩)
    show IntsAre _ (([i1, i2, i3].take (i + 1)).map Int.ofNat)
    rw [hap, hn']
    exact ints_snoc hj
  · intro C' D' I h₆ tk₆ ys htk₆ hC' hD' hI' hD'l hys hj n₆ hk
    have hj : IntsAre ys.toList (([i1, i2, i3].take 3).map Int.ofNat) := hj
    have hk : ∀ b o, b ∉ ([] : List Addr) → b ≠ s.heap.objs.size → h₅.get? b = some o → h₆.get? b = some o := hk
    have htk' : s.toks ≤ tk₆ := Nat.le_trans hk4 htk₆
    have hL₅ : s.heap.objs.size < h₅.objs.size := n₅.lt
    have K₆ : ∀ b o, b < s.heap.objs.size → s.heap.get? b = some o → h₆.get? b = some o := fun b o hb e => hk b o (by simp) (Nat.ne_of_lt hb) (K b o (F.keep b o e))
    have C₆ : Cx w h₆ := C.keeps fun b o e => K₆ b o (Heap.lt_size (hB b o e)) (hB b o e)
    have hm₆ := hm.at fun o e => K₆ _ o hmL e
    have hcmL : (s.heap.objs.size + 1 : Nat) ≠ s.heap.objs.size := Nat.succ_ne_self _
    have hcm₆ := isCell_at hcm fun o e => hk _ o (by simp) hcmL (K _ o e)
    refine wpAny_execs_cons (wpAny_Return_some (comp_list [lm] (R' _).hd rfl (by decide) rfl (by decide) rfl (ldL n₆ rfl ⟨D', ys.toList,
      fun X i ys tk h => 1 ≤ tk ∧ ((∀ b ∈ X, b ≠ lm) → ys = List.replicate i .none ∧ ∃ ms', h.PlainList lm ms'.toArray ∧ Toks 1 tk ms' (([i1, i2, i3].take i).foldl (fun l j => bump j l) ns)), rfl, ?_, ?_, ?_, ?_, ?_, ?_, ?_⟩)))
    · simpa using hD'l.isList
    · have : ys.toList.length = 3 := by simpa using hys
      rw [this]
      exact Nat.le_of_ble_eq_true rfl
    · intro b hb
      rw [List.mem_singleton.mp hb]
      have hlt₆ : s.heap.objs.size < h₆.objs.size := n₆.lt
      exact ⟨Nat.ne_of_lt (Nat.lt_of_lt_of_le (Nat.lt_trans hmL hL₅) hD'), Nat.lt_trans hmL hlt₆⟩
    · rintro X i ys tk tk' h h' htk hkX ⟨a0, a1⟩
      refine ⟨Nat.le_trans a0 htk, fun hX => ?_⟩
      obtain ⟨a2, ms', a3, a4⟩ := a1 hX
      exact ⟨a2, ms', a3.at fun o e => hkX _ o (fun q => hX _ q rfl) e, a4.mono htk⟩
    · intro X _
      refine ⟨?_, fun _ => ⟨rfl, ms, hm₆, hns.mono ?_⟩⟩
      · have : s.toks ≤ tk₆ := htk'
        exact Nat.le_trans h1s this
      · exact htk'
    · intro C₇ D₇ I₇ i v ys₇ h₇ tk₇ m₇ hv hlen₇ htk₇ hj₇ hC₇ hD₇ hI₇ hlive₇ hk₇ hn₇ hm₇
      refine hideS fun gg drw oo Q1 hQ1 => ?_
      have hlt₆ : s.heap.objs.size < h₆.objs.size := n₆.lt
      have hnX : ∀ b ∈ [C₇, D₇, I₇], b ≠ lm := by
        intro b hb
        have : h₆.objs.size ≤ b := by
          rcases List.mem_cons.mp hb with rfl | hb
          · exact hC₇
          rcases List.mem_cons.mp hb with rfl | hb
          · exact hD₇
          rw [List.mem_singleton.mp hb]; exact hI₇
        exact Nat.ne_of_gt (Nat.lt_of_lt_of_le (Nat.lt_trans hmL hlt₆) this)
      obtain ⟨htk1, hj₇⟩ := hj₇
      obtain ⟨hys₇, ms', hm₈, hT⟩ := hj₇ hnX
      have K₇ : ∀ b o, b ≠ lm → h₆.get? b = some o → h₇.get? b = some o := fun b o hb e => hk₇ b o (fun q => hb (List.mem_singleton.mp q)) e
      have C₈ : Cx w h₇ := C.keeps fun b o e => K₇ b o (fun q => by rw [q, hm0] at e; cases e) (K₆ b o (Heap.lt_size (hB b o e)) (hB b o e))
      have hcm₈ := isCell_at hcm₆ fun o e => K₇ _ o (Nat.ne_of_gt (Nat.lt_succ_of_lt hmL)) e
      have hi3 : i < 3 := by
        have h1 := (List.getElem?_eq_some_iff.mp hv).1
        have : ys.toList.length = 3 := by simpa using hys
        omega
      obtain ⟨j, tj, rfl, hj15, hfold⟩ : ∃ (j : Nat) (tj : Tok), v = .int j tj ∧ j < 15 ∧ ([i1, i2, i3].take (i + 1)) = ([i1, i2, i3].take i) ++ [j] := by
        have hg : ∀ (n : Int), (([i1, i2, i3].take 3).map Int.ofNat)[i]? = some n → ∃ tj, v = .int n tj := fun n hn => ints_at hj hv hn
        have h3 := lt3 hi3
        rcases h3 with rfl | rfl | rfl
        · obtain ⟨tj, e⟩ := hg i1 rfl; exact ⟨i1, tj, e, l1, rfl⟩
        · obtain ⟨tj, e⟩ := hg i2 rfl; exact ⟨i2, tj, e, l2, rfl⟩
        · obtain ⟨tj, e⟩ := hg i3 rfl; exact ⟨i3, tj, e, l3, rfl⟩
      have hlenm : ∀ l : List Nat, (l.foldl (fun l j => bump j l) ns).length = 15 := fun l => by rw [foldl_bump_len, hlen]
      generalize hns' : ([i1, i2, i3].take i).foldl (fun l j => bump j l) ns = ns' at hT
      have hl15 : ns'.length = 15 := by rw [← hns']; exact hlenm _
      obtain ⟨tv, hmj, _, _⟩ := hT.2 j (ns'.getD j 0) (by rw [List.getD_eq_getElem?_getD, List.getElem?_eq_getElem (by omega)]; rfl)
      have hj63 := i63 hj15 (by decide)
      refine callF C₈ (by k_is) (by k_is) (spl3 (ldC rfl hcm₈ (ldL hn₇ hm₇ (callF C₈ (by k_is) (by k_is) (spl2 (Subscript_ (ldC rfl hcm₈ (ldL hn₇ hm₇ (tail_list hm₈.isList (Int.natCast_nonneg j) hj63 hmj (wpAny_Constant_int ⟨C₈, add_int (d := d) C₈ ((R' _).less (Nat.le_succ _)) fun t₉ h₉ tk₉ K₉ ht9 ht9' => ⟨C₈.keeps K₉, ?_⟩⟩))))))))))
      refine setitem_plain (d := d) (C₈.keeps K₉) ((R' _).less (Nat.le_succ _)) (hm₈.at fun o e => K₉ _ o e) (by omega) (by simp [hT.1, hl15]; omega) (by omega) fun h₁₀ tk₁₀ htk₁₀ hk₁₀ hm₁₀ => ?_
      have hle : tk₇ ≤ t₉ := Nat.le_trans (Nat.le_succ _) ht9
      have hle2 : tk₉ ≤ tk₁₀ := htk₁₀
      refine hQ1 ⟨h₁₀, tk₁₀, rfl, fun b o hb e => hk₁₀ b o (fun q => hb (List.mem_singleton.mpr q)) (K₉ b o e), Nat.le_trans htk1 (Nat.le_trans hle (Nat.le_trans (Nat.le_of_lt ht9') hle2)), fun _ => ⟨?_, ms'.set j (.int (ns'.getD j 0 + 1) t₉), ?_, ?_⟩⟩
      · rw [hys₇, List.replicate_succ']
      · simpa using hm₁₀
      · rw [hfold, List.foldl_append, hns']
        exact hT.set (Nat.le_trans hle (Nat.le_trans (Nat.le_of_lt ht9') hle2)) (Nat.le_trans htk1 hle) (Nat.lt_of_lt_of_le ht9' hle2)
    · intro C₇ D₇ I₇ h₇ tk₇ ys₇ htk₇ hC₇ hD₇ hI₇ hpl₇ hsz₇ hj₇ hk₇
      have hlt₆ : s.heap.objs.size < h₆.objs.size := n₆.lt
      have hlen3 : ys.toList.length = 3 := by simpa using hys
      have hnX : ∀ b ∈ [C₇, D₇, I₇], b ≠ lm := by
        intro b hb
        have : h₆.objs.size ≤ b := by
          rcases List.mem_cons.mp hb with rfl | hb
          · exact hC₇
          rcases List.mem_cons.mp hb with rfl | hb
          · exact hD₇
          rw [List.mem_singleton.mp hb]; exact hI₇
        exact Nat.ne_of_gt (Nat.lt_of_lt_of_le (Nat.lt_trans hmL hlt₆) this)
      obtain ⟨_, hj₇⟩ := hj₇
      obtain ⟨hys₇, ms', hm₈, hT⟩ := hj₇ hnX
      rw [hlen3] at hys₇ hT
      have hys₈ : ys₇ = #[.none, .none, .none] := by rw [← Array.toArray_toList (xs := ys₇), hys₇]; rfl
      rw [hys₈] at hpl₇
      exact hQ D₇ h₇ tk₇ ms' (Nat.le_trans htk' htk₇) (fun b o hb e => hk₇ b o (fun q => hb (List.mem_singleton.mp q)) (K₆ b o (Heap.lt_size e) e)) hm₈ hT (Nat.le_trans (Nat.le_of_lt hlt₆) hD₇) hpl₇
end
end Mine

-- M4
namespace Mine
theorem fillM4 (w : World) (h : Heap) : ((hd.heap_39 w.params).In h ∧ PySem.Challenge.rw_xi0002_01.row.prog = PySem.Challenge.rw_xi0002_01.row.prog) → True := by
  k_fill
  intros; trivial

def rowsT : List (List Int) := [[1, 0, 0, 0], [1, 1, 0, 0, 0], [1, 2, 1, 0, 0, 0], [1, 3, 3, 1, 0, 0, 0], [1, 4, 6, 4, 1, 0, 0, 0], [1, 5, 10, 10, 5, 1, 0, 0, 0], [1, 6, 15, 20, 15, 6, 1, 0, 0, 0]]
def bin (r k : Nat) : Int := (rowsT.getD r []).getD k 0

theorem bin_at {r k : Nat} (hk : k < (rowsT.getD r []).length) : (rowsT.getD r [])[k]? = some (bin r k) := by
  have : ∀ (l : List Int) (k : Nat), k < l.length → l[k]? = some (l.getD k 0) := by
    intro l k hk
    rw [List.getD_eq_getElem?_getD, List.getElem?_eq_getElem hk]; rfl
  exact this _ _ hk

/-- l: the seven rows of choices -/
def Chs (h : Heap) (l : Addr) : Prop := ∃ rs : List Addr, rs.length = 7 ∧ h.IsList l (rs.map Value.ref).toArray ∧
  ∀ (i : Nat) (r : Addr), rs[i]? = some r → ∃ vs, h.IsList r vs.toArray ∧ IntsAre vs (rowsT.getD i [])
theorem Chs.keeps {h h' : Heap} {l : Addr} (H : Chs h l) (k : Kp h h') : Chs h' l := by
  obtain ⟨rs, h1, h2, h3⟩ := H
  refine ⟨rs, h1, h2.at fun o e => k _ o e, fun i r e => ?_⟩
  obtain ⟨vs, a, b⟩ := h3 i r e
  exact ⟨vs, a.at fun o e => k _ o e, b⟩

section
variable {w : World} {A : Around} {s : Shared} {env : Env} {Q E : Value → Shared → Prop}

theorem sub_ch {e i j : Expr} {p q : Pos}
    (h : wpAny (model PG w) A (eval e env) (fun v s₁ => ∃ l, v = .ref l ∧ wpAny (model PG w) A (eval i env) (fun iv s₂ => ∃ (r : Nat) (u : Tok), iv = .int r u ∧ Chs s₂.heap l ∧ r < 7 ∧
      wpAny (model PG w) A (eval j env) (fun jv s₃ => ∃ (k : Nat) (u : Tok), jv = .int k u ∧ Kp s₂.heap s₃.heap ∧ k < (rowsT.getD r []).length ∧ ∀ t, Q (.int (bin r k) t) s₃) E s₂) E s₁) E s)
    (hs1 : ∀ l r u, subscripted i false (.ref l) (.int r u) = operate [.ref l, .int r u] (getItem (.ref l) (.int r u)) := by intro _ _ _; with_unfolding_all rfl)
    (hs2 : ∀ l r u, subscripted j false (.ref l) (.int r u) = operate [.ref l, .int r u] (getItem (.ref l) (.int r u)) := by intro _ _ _; with_unfolding_all rfl) :
    wpAny (model PG w) A (eval (.Subscript (.Subscript e i p) j q) env) Q E s := by
  refine Subscript_ (Subscript_ (wpAny_mono h (fun v s₁ h₁ => ?_) fun _ _ e => e))
  obtain ⟨l, rfl, h₁⟩ := h₁
  refine wpAny_mono h₁ (fun iv s₂ h₂ => ?_) fun _ _ e => e
  obtain ⟨r, u, rfl, ⟨rs, h7, hl, hr⟩, hr7, h₂⟩ := h₂
  obtain ⟨ra, hra⟩ : ∃ ra, rs[r]? = some ra := ⟨_, List.getElem?_eq_getElem (by omega)⟩
  refine tail_list hl (Int.natCast_nonneg r) (by omega) (by simp [hra]; rfl) (wpAny_mono h₂ (fun jv s₃ h₃ => ?_) fun _ _ e => e) (hs1 _ _ _)
  obtain ⟨k, u', rfl, K, hk, hQ⟩ := h₃
  obtain ⟨vs, hv, hi⟩ := hr r ra hra
  have hlen : vs.length = (rowsT.getD r []).length := hi.length
  have h10 : (rowsT.getD r []).length ≤ 10 := by
    have : ∀ r : Nat, r < 7 → (rowsT.getD r []).length ≤ 10 := by decide
    exact this r hr7
  obtain ⟨x, hx⟩ : ∃ x, vs[k]? = some x := ⟨_, List.getElem?_eq_getElem (by omega)⟩
  obtain ⟨t, rfl⟩ := ints_at (n := bin r k) hi hx (bin_at hk)
  exact tail_list (hv.at fun o e => K _ o e) (Int.natCast_nonneg k) (by omega) hx (hQ t) (hs2 _ _ _)

def climb (m : Int) (k : Nat) : Nat → Nat → Nat
  | 0, top => top
  | f + 1, top => if bin (top + 1) k ≤ m then climb m k f (top + 1) else top
def lstep (p : Int × Int) (size : Nat) : Int × Int :=
  if 0 < p.1 then (p.1 - bin (climb p.1 size (6 - size) size) size, p.2 + bin (climb p.1 size (6 - size) size) (size - 1)) else p
def leastF (many : Int) : Int := ([3, 2, 1].foldl lstep (many, 0)).2

theorem row_len : ∀ r : Nat, r < 7 → (rowsT.getD r []).length = r + 4 := by decide

/-- what a turn leaves: the whole of the old heap but L -/
abbrev KL (L : Addr) (h h' : Heap) : Prop := ∀ b o, b ≠ L → h.get? b = some o → h'.get? b = some o

theorem while_my {test : Expr} {body : List Stmt} {pos : Pos} {Q : Flow → Shared → Prop} (I : Nat → Shared → Prop) (Done : Shared → Prop)
    (turn : ∀ n s, I n s → wpAny (model PG w) A (isTrue test env (eval test env)) (fun b s₂ =>
        if b then wpAny (model PG w) A (execs body env) (fun f s₃ => match f with
            | .next | .cont => ∃ m, m < n ∧ I m s₃
            | .brk => Q .next s₃
            | .ret v => Q (.ret v) s₃) FF s₂ else Done s₂) FF s)
    (n : Nat) (h : I n s) (hd : ∀ s, Done s → Q .next s) : wpAny (model PG w) A (exec (.While test body [] pos) env) Q FF s := by
  refine wpAny_While (codeAny_whileLoop I (fun n s hI => mono_ff (wpAny_mono (turn n s hI) (fun b s₂ h₂ => ?_) fun _ _ e => e)) n h)
  cases b with
  | true => exact mono_ff h₂
  | false => exact wpAny_execs_nil (hd _ h₂)

theorem least_spec {many : Int} {tm : Tok} {l : Addr} {d : Nat} (C : Cx w s.heap) (R : Room A (d + 2)) (hc : Chs s.heap l)
    (hQ : ∀ t h' tk', Kp s.heap h' → s.toks ≤ tk' → Q (.int (leastF many) t) { s with heap := h', toks := tk' }) :
    wpAny (model PG w) A (call (.ref 101) [.int many tm, .ref l]) Q E s := by
  refine enter (d := d + 1) [(Str.ofString "many", .int many tm), (Str.ofString "choices", .ref l)] C R (by k_is) (by k_is) rfl rfl (fun h₁ F => ?_) rfl rfl rfl rfl
  have R' := R.deeper
  refine wpAny_execs_cons (wpAny_Assign_Name (wpAny_Constant_int (st F fun h₂ F₂ => ?_)))
  dsimp only
  refine wpAny_execs_cons (for_my s.heap rfl rfl (List_ (spl3 (wpAny_Constant_int (wpAny_Constant_int (wpAny_Constant_int (new_list (Nat.le_of_ble_eq_true rfl) fun D h₃ hD0 hD K₃ hDs => ?_)))))))
  have F₃ := F₂.keeps K₃
  have hlL : D ≠ s.heap.objs.size := Nat.ne_of_gt (Nat.lt_of_lt_of_le F₂.ns.lt hDs)
  refine iter_list (R' _).hd rfl rfl hD.isList hlL F₃ News.nil
    (fun i tk m news => news = [] ∧ (∃ t, m (Str.ofString "many") = some (.int (([3, 2, 1].take i).foldl lstep (many, 0)).1 t)) ∧ (∃ t, m (Str.ofString "least") = some (.int (([3, 2, 1].take i).foldl lstep (many, 0)).2 t)) ∧ m (Str.ofString "choices") = some (.ref l)) ?hm ⟨rfl, ⟨_, rfl⟩, ⟨_, rfl⟩, rfl⟩ ?step ?hR
  case hm => exact fun i tk tk' m n _ h => h
  case step =>
    rintro I i v m₁ news₁ h tk hv htk ⟨rfl, ⟨t1, e1⟩, ⟨t2, e2⟩, e3⟩ - hI - hIL hl₃ F₄ -
    generalize hp : ([3, 2, 1].take i).foldl lstep (many, 0) = p at e1 e2
    obtain ⟨size, ts, rfl, hs1, hs3, htake⟩ : ∃ (size : Nat) (ts : Tok), v = .int size ts ∧ 1 ≤ size ∧ size ≤ 3 ∧ [3, 2, 1].take (i + 1) = [3, 2, 1].take i ++ [size] := by
      have hi3 : i < 3 := (List.getElem?_eq_some_iff.mp hv).1
      have h3 := lt3 hi3
      rcases h3 with rfl | rfl | rfl
      · exact ⟨3, _, (Option.some.inj hv).symm, by decide, by decide, rfl⟩
      · exact ⟨2, _, (Option.some.inj hv).symm, by decide, by decide, rfl⟩
      · exact ⟨1, _, (Option.some.inj hv).symm, by decide, by decide, rfl⟩
    have hfold : ([3, 2, 1].take (i + 1)).foldl lstep (many, 0) = lstep p size := by rw [htake, List.foldl_append, hp]; rfl
    have C₄ := C.keeps F₄.keep
    have hc₄ := hc.keeps F₄.keep
    refine hideQ fun Q' hQ' => ?_
    refine wpAny_execs_cons (wpAny_If (wpAny_isTrue_Compare1 (ld F₄ e1 (wpAny_Constant_int (PyProof.Rows.gt_int (wpAny_truthy_bool ?_))))))
    by_cases hpos : 0 < p.1
    · simp only [hpos, decide_true, if_true]
      refine wpAny_execs_cons (wpAny_Assign_Name (ld F₄ rfl (stS F₄ fun h₅ F₅ S₅ => ?_)))
      dsimp only
      have e1' : (fun y => if y = Str.ofString "size" then some (Value.int size ts) else m₁ y) (Str.ofString "many") = some (.int p.1 t1) := e1
      refine wpAny_execs_cons (while_my
        (fun n s' => ∃ h' tk' top t m', s' = { s with heap := h', toks := tk' } ∧ Fr s.heap s.heap.objs.size h' m' ∧ KL s.heap.objs.size h h' ∧
          m' (Str.ofString "many") = some (.int p.1 t1) ∧ m' (Str.ofString "least") = some (.int p.2 t2) ∧ m' (Str.ofString "choices") = some (.ref l) ∧ m' (Str.ofString "size") = some (.int size ts) ∧ m' (Str.ofString "top") = some (.int (top : Nat) t) ∧
          size ≤ top ∧ top ≤ 6 ∧ n = 6 - top ∧ climb p.1 size (6 - top) top = climb p.1 size (6 - size) size)
        (fun s' => ∃ h' tk' top t m', s' = { s with heap := h', toks := tk' } ∧ Fr s.heap s.heap.objs.size h' m' ∧ KL s.heap.objs.size h h' ∧
          m' (Str.ofString "many") = some (.int p.1 t1) ∧ m' (Str.ofString "least") = some (.int p.2 t2) ∧ m' (Str.ofString "choices") = some (.ref l) ∧ m' (Str.ofString "size") = some (.int size ts) ∧ m' (Str.ofString "top") = some (.int (top : Nat) t) ∧
          size ≤ top ∧ top ≤ 6 ∧ top = climb p.1 size (6 - size) size)
        ?turn (6 - size) ⟨h₅, _, size, ts, _, rfl, F₅, fun b o hb e => (S₅.2 b hb).trans e, e1, e2, e3, rfl, rfl, Nat.le_refl _, by omega, rfl, rfl⟩ ?done)
      case turn =>
        rintro n s' ⟨h', tk', top, t, m', rfl, F', KL', a1, a2, a3, a4, a5, b1, b2, rfl, b4⟩
        have C' := C.keeps F'.keep
        have hc' := hc.keeps F'.keep
        refine hideQ fun Q1 hQ1 => ?_
        refine wpAny_isTrue_BoolOp (wpAny_allTrue_And_cons (wpAny_isTrue_Compare1 (ld F' a5 (wpAny_Constant_int (wpAny_lt_int (wpAny_truthy_bool ?_))))))
        by_cases h6 : (top : Int) < 6
        · simp only [h6, decide_true, if_true]
          have hcl : climb p.1 size (6 - top) top = if bin (top + 1) size ≤ p.1 then climb p.1 size (6 - (top + 1)) (top + 1) else top := by
            obtain ⟨f, hf, hf', _⟩ := six h6
            rw [hf, climb, hf']
          obtain ⟨_, _, _, g1, g2⟩ := six h6
          have hrl := row_len (top + 1) g2
          refine wpAny_allTrue_And_cons (wpAny_isTrue_Compare1 (sub_ch (ld F' a3 ⟨l, rfl, wpAny_BinOp (ld F' a5 (wpAny_Constant_int (wpAny_add_int ⟨top + 1, _, by push_cast; rfl, hc', by omega, ld F' a4 ⟨size, _, rfl, fun _ _ e => e, by omega, fun t8 => ?_⟩⟩)))⟩)))
          refine ld F' a1 (PySem.P.le_int (wpAny_truthy_bool ?_))
          by_cases hle : bin (top + 1) size ≤ p.1
          · simp only [hle, decide_true, if_true]
            refine wpAny_allTrue_And_nil (hQ1 ?_)
            simp only [if_true]
            refine hideQ fun Q2 hQ2 => ?_
            refine wpAny_execs_cons (wpAny_Assign_Name (wpAny_BinOp (ld F' a5 (wpAny_Constant_int (wpAny_add_int (stS F' fun h₆ F₆ S₆ => ?_))))))
            dsimp only
            refine wpAny_execs_nil (hQ2 ⟨6 - (top + 1), g1, h₆, _, top + 1, _, _, rfl, F₆, fun b o hb e => (S₆.2 b hb).trans (KL' b o hb e), a1, a2, a3, a4, rfl, by omega, by omega, rfl, ?_⟩)
            rw [← b4, hcl, if_pos hle]
          · simp only [hle, decide_false, Bool.false_eq_true, if_false]
            refine hQ1 ?_
            simp only [Bool.false_eq_true, if_false]
            exact ⟨h', _, top, t, m', rfl, F', KL', a1, a2, a3, a4, a5, b1, b2, by rw [← b4, hcl, if_neg hle]⟩
        · simp only [h6, decide_false, Bool.false_eq_true, if_false]
          refine hQ1 ?_
          simp only [Bool.false_eq_true, if_false]
          refine ⟨h', _, top, t, m', rfl, F', KL', a1, a2, a3, a4, a5, b1, b2, ?_⟩
          have : top = 6 := by omega
          subst this
          rw [← b4]; rfl
      case done =>
        rintro s' ⟨h', tk', top, t, m', rfl, F', KL', a1, a2, a3, a4, a5, b1, b2, b4⟩
        dsimp only
        have C' := C.keeps F'.keep
        have hc' := hc.keeps F'.keep
        have hrl := row_len top (by omega)
        refine wpAny_execs_cons (wpAny_Assign_Name (callF C' (by k_is) (by k_is) (spl2 (ld F' a1 (sub_ch (ld F' a3 ⟨l, rfl, ld F' a5 ⟨top, _, rfl, hc', by omega, ld F' a4 ⟨size, _, rfl, fun _ _ e => e, by omega, fun t8 => ⟨C', isub_int (d := d) C' (R' _) fun t9 h9 tk9 K9 _ _ => ?_⟩⟩⟩⟩))))))
        have F9 := F'.keeps K9
        refine stS F9 fun h₆ F₆ S₆ => ?_
        dsimp only
        have C₆ := C.keeps F₆.keep
        have hc₆ := hc.keeps F₆.keep
        have hsub : (size : Int) - 1 = ((size - 1 : Nat) : Int) := by omega
        have a2' : (fun y => if y = Str.ofString "many" then some (Value.int (p.1 - bin top size) t9) else m' y) (Str.ofString "least") = some (.int p.2 t2) := a2
        have a3' : (fun y => if y = Str.ofString "many" then some (Value.int (p.1 - bin top size) t9) else m' y) (Str.ofString "choices") = some (.ref l) := a3
        have a4' : (fun y => if y = Str.ofString "many" then some (Value.int (p.1 - bin top size) t9) else m' y) (Str.ofString "size") = some (.int size ts) := a4
        have a5' : (fun y => if y = Str.ofString "many" then some (Value.int (p.1 - bin top size) t9) else m' y) (Str.ofString "top") = some (.int (top : Nat) t) := a5
        refine wpAny_execs_cons (wpAny_Assign_Name (callF C₆ (by k_is) (by k_is) (spl2 (ld F₆ a2' (sub_ch (ld F₆ a3' ⟨l, rfl, ld F₆ a5' ⟨top, _, rfl, hc₆, by omega, wpAny_BinOp (ld F₆ a4' (wpAny_Constant_int (AutoIntOps.sub_0 ⟨size - 1, _, congrArg (fun x => Value.int x _) hsub, fun _ _ e => e, by omega, fun t8 => ⟨C₆, add_int (d := d) C₆ (R' _) fun t10 h10 tk10 K10 _ _ => ?_⟩⟩)))⟩⟩))))))
        have F10 := F₆.keeps K10
        refine stS F10 fun h₇ F₇ S₇ => ?_
        dsimp only
        refine wpAny_execs_nil (wpAny_execs_nil (hQ' ⟨h₇, _, _, [], rfl, ?_, F₇, News.nil, by simp, rfl, ?_⟩))
        · intro b hb o e
          have hbL : b ≠ s.heap.objs.size := by
            rcases List.mem_cons.mp hb with rfl | hb
            · exact hIL
            · rw [List.mem_singleton.mp hb]; exact hlL
          exact (S₇.2 b hbL).trans (K10 b o ((S₆.2 b hbL).trans (K9 b o (KL' b o hbL e))))
        · rw [hfold, lstep, if_pos hpos, ← b4]
          exact ⟨⟨_, rfl⟩, ⟨_, rfl⟩, a3⟩
    · simp only [hpos, decide_false, Bool.false_eq_true, if_false]
      refine wpAny_execs_nil (wpAny_execs_nil (hQ' ⟨h, _, _, [], rfl, fun _ _ _ e => e, F₄, News.nil, by simp, rfl, ?_⟩))
      dsimp only
      rw [hfold, lstep, if_neg hpos]
      exact ⟨⟨_, e1⟩, ⟨_, e2⟩, e3⟩
  case hR =>
    rintro h' tk m' news' htk F₅ - ⟨rfl, -, ⟨t, e⟩, -⟩
    dsimp only
    refine wpAny_execs_cons (wpAny_Return_some (ld F₅ e (hQ _ _ _ F₅.keep ?_)))
    dsimp only at htk
    omega
end
end Mine

-- MB10
namespace Mine
section
variable {w : World} {A : Around} {s : Shared} {env : Env} {scope : Scope} {cl : List (Str × Addr)} {x : Str} {elt : Expr}

theorem compAt_str {p : Str} {tp : Tok} {done : Addr → Addr → Shared → Heap → Nat → Array Value → Prop} (S : List Addr) (hh : A.handled = none)
    (hsz : p.cps.size ≤ sizeLine)
    (hS : ∀ b ∈ S, b < s.heap.objs.size) (J : List Addr → Nat → List Value → Nat → Heap → Prop)
    (hJ : ∀ X i ys tk tk' h h', tk ≤ tk' → (∀ b o, b ∉ X → h.get? b = some o → h'.get? b = some o) → J X i ys tk h → J X i ys tk' h')
    (hJ0 : ∀ X, (∀ b ∈ X, s.heap.objs.size ≤ b) → J X 0 [] s.toks s.heap)
    (turn : ∀ C D I i c u ys h tk m, p.cps[i]? = some c → ys.length = i → s.toks ≤ tk → J [C, D, I] i ys tk h → s.heap.objs.size ≤ C → s.heap.objs.size ≤ D → s.heap.objs.size ≤ I → (∀ b ∈ [C, D, I], ∃ o, h.get? b = some o) →
      (∀ b o, b ∉ S → s.heap.get? b = some o → h.get? b = some o) → h.Ns C m → m x = some (.str ⟨#[c]⟩ u) →
      wpAny (model PG w) A (eval elt (compEnvC scope cl C env)) (fun y s₄ => ∃ h' tk', s₄ = { s with heap := h', toks := tk' } ∧ (∀ b o, b ∉ S → h.get? b = some o → h'.get? b = some o) ∧ J [C, D, I] (i + 1) (ys ++ [y]) tk' h') FF { s with heap := h, toks := tk })
    (fin : ∀ C D I h' tk ys, s.toks ≤ tk → s.heap.objs.size ≤ C → s.heap.objs.size ≤ D → s.heap.objs.size ≤ I → C ≠ D → h'.PlainList D ys → ys.size = p.cps.size → J [C, D, I] p.cps.size ys.toList tk h' → (∀ b o, b ∉ S → s.heap.get? b = some o → h'.get? b = some o) → ∀ s₂ : Shared, (∃ h tk, s₂ = { s with heap := h, toks := tk }) → done C D s₂ h' tk ys) :
    wpAny (model PG w) A (pyIter (.str p tp)) (fun it s₂ => CompAt w A env scope cl x elt S it s₂ fun C D h tk ys => done C D s₂ h tk ys) FF s := by
  have go : ∀ (ty : String) (W : Wk w A s.heap.objs.size [s.heap.objs.size] [s.heap.objs.size] p.cps.size (fun i v _ _ => SignAt p i v) (fun i h => h.IsStrIter s.heap.objs.size ty p tp i)),
      CompAt w A env scope cl x elt S (.ref s.heap.objs.size) { s with heap := s.heap.push { cls := .type ty, data := .fields #[.str p tp, .int 0 0] } } fun C D h tk ys => done C D { s with heap := s.heap.push { cls := .type ty, data := .fields #[.str p tp, .int 0 0] } } h tk ys := by
    intro ty W
    have hsize : ∀ o, (s.heap.push o).objs.size = s.heap.objs.size + 1 := fun o => Heap.size_push ..
    refine ⟨s.heap.objs.size, [s.heap.objs.size], [s.heap.objs.size], p.cps.size, _, _, fun X i ys tk h => (∀ b ∈ X, s.heap.objs.size ≤ b) → J X i ys tk h, rfl, W, hsz, ⟨_, Heap.get?_push_size _ rfl, rfl, rfl⟩, ?_, ?_, ?_, ?_, ?_⟩
    · intro b hb
      refine ⟨fun hm => ?_, by rw [hsize]; exact Nat.lt_succ_of_lt (hS b hb)⟩
      rw [List.mem_singleton.mp hm] at hb
      exact Nat.lt_irrefl _ (hS _ hb)
    · intro X i ys tk tk' h h' htk hk hj hX
      exact hJ X i ys tk tk' h h' htk hk (hj hX)
    · intro X hX
      exact hJ X _ _ _ _ _ _ (Nat.le_refl _) (fun b o _ e => Heap.get?_push_of_some _ e) (hJ0 X hX)
    · rintro C D i v ys h tk m hi hlen ⟨lo, hi', hlo, hhi, ⟨c, u, hc, rfl⟩, hjl⟩ htk hj hC hD hlive hk hn hm
      rw [hsize] at hC hD
      have hX : ∀ b ∈ [C, D, s.heap.objs.size], s.heap.objs.size ≤ b := by
        intro b hb
        rcases List.mem_cons.mp hb with rfl | hb
        · omega
        rcases List.mem_cons.mp hb with rfl | hb
        · omega
        rw [List.mem_singleton.mp hb]; exact Nat.le_refl _
      refine mono_ff (wpAny_mono (turn C D s.heap.objs.size i c u ys h tk m hc hlen htk (hj hX) (by omega) (by omega) (Nat.le_refl _) hlive (fun b o hbS e => hk b o (fun q => ?_) hbS (Heap.get?_push_of_some _ e)) hn hm) (fun y s₄ h₄ => ?_) fun _ _ e => e)
      · rw [List.mem_singleton.mp q] at e
        exact absurd (Heap.lt_size e) (Nat.lt_irrefl _)
      · obtain ⟨h', tk', rfl, a, b⟩ := h₄
        exact ⟨h', tk', rfl, a, fun _ => b⟩
    · intro C D h' tk ys htk hC hD hCD hpl hys hj hk hCl h'' hs
      rw [hsize] at hC hD
      have hX : ∀ b ∈ [C, D, s.heap.objs.size], s.heap.objs.size ≤ b := by
        intro b hb
        rcases List.mem_cons.mp hb with rfl | hb
        · omega
        rcases List.mem_cons.mp hb with rfl | hb
        · omega
        rw [List.mem_singleton.mp hb]; exact Nat.le_refl _
      refine fin C D s.heap.objs.size h'' tk ys htk (by omega) (by omega) (Nat.le_refl _) hCD (hpl.extBut hs.extBut hCD.symm) hys (hJ _ _ _ _ _ _ _ (Nat.le_refl _) (fun b o hb e => (hs.2 b (fun q => hb (by rw [q]; exact .head _))).trans e) (hj hX)) (fun b o hbS e => ?_) _ ⟨_, _, rfl⟩
      have hb := Heap.lt_size e
      exact (hs.2 b (Nat.ne_of_lt (Nat.lt_of_lt_of_le hb (by omega)))).trans (hk b o (fun q => by rw [List.mem_singleton.mp q] at hb; exact Nat.lt_irrefl _ hb) hbS (Heap.get?_push_of_some _ e))
  have lv : ∀ (ty : String) (i : Nat) (h : Heap), h.IsStrIter s.heap.objs.size ty p tp i → ∀ b ∈ [s.heap.objs.size], ∃ o, h.get? b = some o := fun ty i h st b hb => by
    rw [List.mem_singleton.mp hb]
    obtain ⟨o, ho, _⟩ := st
    exact ⟨o, ho⟩
  cases ha : p.cps.all (· < 128)
  · exact wpAny_pyIter_wide ha (go _ (Wk.of (Walks.strWide hh _ p tp) (lv _)))
  · exact wpAny_pyIter_ascii ha (go _ (Wk.of (Walks.strAscii hh _ p tp) (lv _)))
end

section
variable {w : World} {A : Around} {s : Shared} {env : Env} {scope : Scope} {cl : List (Str × Addr)} {x y : Str} {elt iter : Expr} {px py pos spos : Pos} {Q : Flow → Shared → Prop}
variable {QV : Value → Shared → Prop}

/-- [elt for x in a text] -/
theorem comp_str (S : List Addr) (hh : A.handled = none)
    (hclos : closureFor scope env = pure cl) (hcell : ∀ y ∈ scope.names, y.2 ≠ .cell) (hkind : scope.kind = .function)
    (hnames : ∀ y ∈ scope.names, y.2 = .local → scope.names.lookup y.1 = some .local) (hx : scope.names.lookup x = some .local)
    (h : wpAny (model PG w) A (eval iter env) (fun xv s₁ => ∃ (p : Str) (tp : Tok) (J : List Addr → Nat → List Value → Nat → Heap → Prop),
      xv = .str p tp ∧ p.cps.size ≤ sizeLine ∧ (∀ b ∈ S, b < s₁.heap.objs.size) ∧
      (∀ X i ys tk tk' h h', tk ≤ tk' → (∀ b o, b ∉ X → h.get? b = some o → h'.get? b = some o) → J X i ys tk h → J X i ys tk' h') ∧
      (∀ X, (∀ b ∈ X, s₁.heap.objs.size ≤ b) → J X 0 [] s₁.toks s₁.heap) ∧
      (∀ C D I i c u ys h tk m, p.cps[i]? = some c → ys.length = i → s₁.toks ≤ tk → J [C, D, I] i ys tk h → s₁.heap.objs.size ≤ C → s₁.heap.objs.size ≤ D → s₁.heap.objs.size ≤ I → (∀ b ∈ [C, D, I], ∃ o, h.get? b = some o) →
        (∀ b o, b ∉ S → s₁.heap.get? b = some o → h.get? b = some o) → h.Ns C m → m x = some (.str ⟨#[c]⟩ u) →
        wpAny (model PG w) A (eval elt (compEnvC scope cl C env)) (fun u s₄ => ∃ h' tk', s₄ = { s₁ with heap := h', toks := tk' } ∧ (∀ b o, b ∉ S → h.get? b = some o → h'.get? b = some o) ∧ J [C, D, I] (i + 1) (ys ++ [u]) tk' h') FF { s₁ with heap := h, toks := tk }) ∧
      (∀ C D I h₃ tk₃ ys, s₁.toks ≤ tk₃ → s₁.heap.objs.size ≤ C → s₁.heap.objs.size ≤ D → s₁.heap.objs.size ≤ I → h₃.PlainList D ys → ys.size = p.cps.size → J [C, D, I] p.cps.size ys.toList tk₃ h₃ →
        (∀ b o, b ∉ S → s₁.heap.get? b = some o → h₃.get? b = some o) → QV (.ref D) { s₁ with heap := h₃, toks := tk₃ })) FF s)
    (hs : ∀ x, foldedSetIterable iter env x = pure x := by intro _; rfl) :
    wpAny (model PG w) A (eval (.ListComp elt [⟨.Name x px, iter, [], 0⟩] scope pos) env) QV FF s := by
  refine comp_my S hclos hcell hkind hnames hx (wpAny_mono h (fun xv s₁ h₁ => ?_) fun _ _ e => e) hs
  obtain ⟨p, tp, J, rfl, hsz, hS, hJ, hJ0, turn, fin⟩ := h₁
  refine compAt_str (done := fun C D s₂ h'' tk ys => QV (.ref D) { s₂ with heap := h'', toks := tk }) S hh hsz hS J hJ hJ0 turn ?_
  rintro C D I h' tk ys htk hC hD hI hCD hpl hys hj hk s₂ ⟨g₂, k₂, rfl⟩
  exact fin C D I h' tk ys htk hC hD hI hpl hys hj hk
end
end Mine

-- MB11
namespace Mine
theorem fillB11 (w : World) (h : Heap) : ((hd.heap_39 w.params).In h ∧ PySem.Challenge.rw_xi0002_01.row.prog = PySem.Challenge.rw_xi0002_01.row.prog) → True := by
  k_fill
  intros; trivial

theorem rs_nat (n : Nat) : Builtin.Range.rangeSize 0 (n : Int) 1 = (n : Int) := by
  have := PyProof.Rows.rangeSize_nat 0 n
  simpa using this
theorem sm_nat {n : Nat} (h : n < 2 ^ 40) : Builtin.Range.small 0 (n : Int) 1 = true := by
  unfold Builtin.Range.small
  rw [rs_nat]
  simp [Builtin.Range.rangeFitsLong]
  omega

section
variable {w : World} {A : Around} {s : Shared} {env : Env}

theorem stE {M : Model} {E : Value → Shared → Prop} {h₀ : Heap} {m : Str → Option Value} {x : Str} {v : Value} {Q : Unit → Shared → Prop} (F : Fr h₀ env.locals s.heap m)
    (h : ∀ h', Fr h₀ env.locals h' (fun y => if y = x then some v else m y) → Heap.SameBut env.locals s.heap h' → Q () { s with heap := h', toks := s.toks + 1 })
    (hl : env.kindOf x = some .local := by rfl) (hp : (env.scope.kind == .class || (env.scope.kind == .module && env.locals != env.globals)) = false := by rfl) :
    wpAny M A (storeName env x v) Q E s :=
  wpAny_storeName_local hl F.ns (fun h' hn hs => h h' (F.set hn hs) hs) hp

theorem toksF {α : Type} {M : Model} {t : Sem α} {Q : α → Shared → Prop} {E : Value → Shared → Prop} {n : Nat} (hn : n ≤ s.toks)
    (h : wpAny M A t (fun a s' => n ≤ s'.toks → Q a s') FF s) : wpAny M A t Q E s :=
  wpAny_with_toks hn (wpAny_mono h (fun _ _ x => x) fun _ _ e => e.elim)

/-- x, y = a, b -/
theorem assign2 {E : Value → Shared → Prop} {elts : List Expr} {k} {tpos : Pos} {v1 v2 : Value} {t1 t2 : Value → Sem Unit} {Q : Unit → Shared → Prop} (hh : A.handled = none)
    (hn : assignEach elts env = [(false, t1), (false, t2)])
    (h : ∀ h', Kp s.heap h' → wpAny (model PG w) A (t1 v1) (fun _ s₁ => wpAny (model PG w) A (t2 v2) Q E s₁) E { s with heap := h' }) :
    wpAny (model PG w) A (newTuple [v1, v2]) (fun v s₁ => wpAny (model PG w) A (assign (.Tuple elts k tpos) env v) Q E s₁) E s := by
  refine wpAny_newTuple ?_ (Nat.le_of_ble_eq_true rfl)
  have K0 : Kp s.heap (s.heap.push { cls := .type "tuple", data := .seq [v1, v2].toArray }) := fun b o e => Heap.get?_push_of_some _ e
  generalize hH : s.heap.push { cls := .type "tuple", data := .seq [v1, v2].toArray } = H at K0
  refine assign_Tuple_tuple (items := #[v1, v2]) hh ⟨_, by rw [← hH]; exact Heap.get?_push_size _ rfl, rfl, _, rfl⟩ (by rw [hn]; rfl) (by rw [hn]; rfl) fun h' he => ?_
  rw [hn]
  have K : Kp s.heap h' := fun b o e => he b o (Nat.ne_of_lt (Heap.lt_size (K0 b o e))) (K0 b o e)
  exact assignInOrder_cons (wpAny_mono (h h' K) (fun _ s₁ h₁ => assignInOrder_cons (wpAny_mono h₁ (fun _ s₂ h₂ => assignInOrder_nil h₂) fun _ _ e => e)) fun _ _ e => e)

/-- x, y = a, b, swapped -/
theorem assign2s {E : Value → Shared → Prop} {n1 n2 : Str} {v1 v2 : Value} {Q : Unit → Shared → Prop} (hh : A.handled = none)
    (h : ∀ h', Kp s.heap h' → wpAny (model PG w) A (storeName env n2 v2) (fun _ s₁ => wpAny (model PG w) A (storeName env n1 v1) Q E s₁) E { s with heap := h' }) :
    wpAny (model PG w) A (newTuple [v1, v2]) (fun v s₁ => wpAny (model PG w) A (unpackItems v [n1, n2].length none) (fun items s₂ =>
      wpAny (model PG w) A (assignInOrder ([n1, n2].reverse.map fun n => bindName env n) items.reverse) Q E s₂) E s₁) E s := by
  refine wpAny_newTuple ?_ (Nat.le_of_ble_eq_true rfl)
  have K0 : Kp s.heap (s.heap.push { cls := .type "tuple", data := .seq [v1, v2].toArray }) := fun b o e => Heap.get?_push_of_some _ e
  generalize hH : s.heap.push { cls := .type "tuple", data := .seq [v1, v2].toArray } = H at K0
  refine PyProof.Rows.unpackItems_tuple (items := #[v1, v2]) hh ⟨_, by rw [← hH]; exact Heap.get?_push_size _ rfl, rfl, _, rfl⟩ fun h' he => ?_
  have K : Kp s.heap h' := fun b o e => he b o (Nat.ne_of_lt (Heap.lt_size (K0 b o e))) (K0 b o e)
  exact assignInOrder_cons (bindName_ (wpAny_mono (h h' K) (fun _ s₁ h₁ => assignInOrder_cons (bindName_ (wpAny_mono h₁ (fun _ s₂ h₂ => assignInOrder_nil h₂) fun _ _ e => e))) fun _ _ e => e))

/-- range(e) -/
theorem rng1 {np pos : Pos} {e : Expr} {Q : Value → Shared → Prop} (C : Cx w s.heap)
    (h : wpAny (model PG w) A (eval e env) (fun v s₁ => ∃ n t, v = .int n t ∧ ∀ r h' tk u₁ u₂ u₃, Kp s₁.heap h' → s₁.toks ≤ tk → s₁.heap.objs.size ≤ r → IsRange h' r 0 n 1 u₁ u₂ u₃ → Q (.ref r) { s₁ with heap := h', toks := tk }) FF s)
    (hk : env.scope.kind = .function := by rfl) (hg : env.globals = mainGlobals := by rfl) (hb : env.builtins = builtinsNs := by rfl) (hn : env.kindOf "range" = some .globalImplicit := by rfl)
    (he : starEach [e] env = (false, eval e env) :: starEach [] env := by rfl) (hplain : (backTo pos (starEach [] env)).any (·.1) = false := by rfl) :
    wpAny (model PG w) A (eval (.Call (.Name "range" np) [e] [] pos) env) Q FF s := by
  refine callT C (by k_is) boot_range (spl1 (wpAny_mono h (fun v s₁ h₁ => ?_) fun _ _ e => e) he) (by decide) hk hg hb hn (by decide) he hplain
  obtain ⟨n, t, rfl, hQ⟩ := h₁
  exact PySem.call_range_1 (hQ _ _ _ _ _ _ (fun b o e => Heap.get?_push_of_some _ e) (by show s₁.toks ≤ s₁.toks + 1 + 1; omega) (Nat.le_refl _) (IsRange.new ..))

/-- len(e), e a list -/
theorem len1 {np pos : Pos} {e : Expr} {Q : Value → Shared → Prop} (C : Cx w s.heap)
    (h : wpAny (model PG w) A (eval e env) (fun v s₁ => ∃ a vs, v = .ref a ∧ s₁.heap.IsList a (List.toArray vs) ∧ vs.length < 2 ^ 40 ∧ ∀ t tk, s₁.toks ≤ t → t < tk → Q (.int vs.length t) { s₁ with toks := tk }) FF s)
    (hk : env.scope.kind = .function := by rfl) (hg : env.globals = mainGlobals := by rfl) (hb : env.builtins = builtinsNs := by rfl) (hn : env.kindOf "len" = some .globalImplicit := by rfl)
    (he : starEach [e] env = (false, eval e env) :: starEach [] env := by rfl) (hplain : (backTo pos (starEach [] env)).any (·.1) = false := by rfl) :
    wpAny (model PG w) A (eval (.Call (.Name "len" np) [e] [] pos) env) Q FF s := by
  refine callB C (by k_is) PySem.boot_len (spl1 (wpAny_mono h (fun v s₁ h₁ => ?_) fun _ _ e => e) he) (by decide) hk hg hb hn (by decide) he hplain
  obtain ⟨a, vs, rfl, hl, hsz, hQ⟩ := h₁
  refine Calls.call_len_list hl (by simp; omega) ?_
  have : (vs.toArray.size : Int) = vs.length := by simp
  rw [this]
  exact hQ _ _ (by show s₁.toks ≤ s₁.toks + 1; omega) (by show s₁.toks + 1 < s₁.toks + 1 + 1; omega)

/-- s.index(e), both texts -/
theorem str_index {o e : Expr} {apos pos : Pos} {Q : Value → Shared → Prop}
    (h : wpAny (model PG w) A (eval o env) (fun ov s₁ => ∃ x t, ov = .str x t ∧ wpAny (model PG w) A (eval e env) (fun v s₂ => ∃ y u, v = .str y u ∧ ∃ i rest, Builtin.Str.occurrences x y 0 x.length 1 = i :: rest ∧ Q (.int i s₂.toks) { s₂ with toks := s₂.toks + 1 }) FF s₁) FF s)
    (hbase : attributeBase o "index" env (eval o env) = eval o env := by rfl)
    (htrees : backTo pos (starEach [e] env) = [(false, eval e env)] := by rfl)
    (hline : (apos.endLine == pos.line) = true := by rfl) :
    wpAny (model PG w) A (eval (.Call (.Attribute o "index" apos) [e] [] pos) env) Q FF s := by
  refine wpAny_Call_method_lateS hbase (by rw [htrees]; rfl) hline (wpAny_mono h (fun ov s₁ h₁ => ?_) fun _ _ e => e)
  obtain ⟨x, t, rfl, h₁⟩ := h₁
  rw [htrees]
  exact SB.index h₁
end
end Mine

-- M5
namespace Mine
theorem fillM5 (w : World) (h : Heap) : ((hd.heap_39 w.params).In h ∧ PySem.Challenge.rw_xi0002_01.row.prog = PySem.Challenge.rw_xi0002_01.row.prog) → True := by
  k_fill
  intros; trivial

theorem strs_at : ∀ {vs : List Value} {ps : List Str} {i : Nat} {p : Str}, StrsAre vs ps → ps[i]? = some p → ∃ t, vs[i]? = some (.str p t)
  | _, _, 0, _, .cons _ t _, hp => by cases hp; exact ⟨t, rfl⟩
  | _, _, i + 1, p, .cons _ _ h, hp => by
    have := strs_at (i := i) (p := p) h hp
    exact this
theorem coll_self (p : Str) : coll p p = 0 := by unfold coll; exact Int.sub_self _

/-- the place that the text has by its signs' places -/
def dueF (ix : Nat → Nat) (p : List Nat) : Int := (List.range p.length).foldl (fun acc k => acc + bin (ix (p.getD k 0)) (p.length - k)) 0

section
variable {w : World} {A : Around} {s : Shared} {Q E : Value → Shared → Prop}

theorem stands_spec {tl ch : Addr} {tv : List Value} {ps : List Str} {sg : Str} {tsg : Tok} {d : Nat} (ix : Nat → Nat) (C : Cx w s.heap) (R : Room A (d + 3)) (ht : s.heap.IsList tl tv.toArray) (hps : StrsAre tv ps) (hc : Chs s.heap ch)
    (hn : ps.length < 2 ^ 20) (hlen : ∀ p ∈ ps, p.cps.size ≤ 3) (hocc : ∀ p ∈ ps, ∀ c ∈ p.cps.toList, ix c < 7 ∧ ∃ rest, Builtin.Str.occurrences sg ⟨#[c]⟩ 0 sg.length 1 = ix c :: rest)
    (hdue : ∀ (i : Nat) (p : Str), ps[i]? = some p → dueF ix p.cps.toList = i) (hcoll : ∀ (i : Nat) (p q : Str), ps[i]? = some p → ps[i + 1]? = some q → coll p q = -1 ∧ coll q p = 1)
    (hQ : ∀ h' tk', Kp s.heap h' → s.toks ≤ tk' → Q (.bool true) { s with heap := h', toks := tk' }) :
    wpAny (model PG w) A (call (.ref 94) [.ref tl, .str sg tsg, .ref ch]) Q E s := by
  refine enterC (d := d + 2) [(Str.ofString "texts", .ref tl), (Str.ofString "signs", .str sg tsg), (Str.ofString "choices", .ref ch)] C R (by k_is) (by k_is) rfl rfl (fun h₁ tk htk F cells => ?_) rfl rfl rfl
  have R' := R.deeper
  obtain ⟨oc, hoc, hocd⟩ := cells (Str.ofString "signs") _ rfl
  have hoc : h₁.get? (s.heap.objs.size + 1) = some oc := hoc
  have hlen' : tv.length = ps.length := hps.length
  have C₁ := C.keeps F.keep
  refine wpAny_execs_cons (for_my s.heap rfl rfl (rng1 C₁ (len1 C₁ (ldL F.ns rfl ⟨tl, tv, rfl, ht.at fun o e => F.keep _ o e, by omega, fun t₂ tk₂ h2 h2' => ⟨_, _, rfl, fun r h₃ tk₃ u1 u2 u3 K₃ htk₃ hr hrr => ?_⟩⟩))))
  have F₃ := F.keeps K₃
  refine iter_range (n := ps.length) (R' _).hd rfl rfl hrr (by rw [hlen']; exact sm_nat (by omega)) (by rw [hlen']; exact rs_nat _) F₃ (news := [(s.heap.objs.size + 1, oc)])
    (fun p hp => by rw [List.mem_singleton.mp hp]; exact ⟨K₃ _ _ hoc, Nat.succ_ne_self _, Heap.get?_none_of_le (Nat.le_succ _)⟩)
    (fun i tk m news => s.toks ≤ tk ∧ news = [(s.heap.objs.size + 1, oc)] ∧ m (Str.ofString "texts") = some (.ref tl) ∧ m (Str.ofString "choices") = some (.ref ch)) ?hm ⟨?_, rfl, rfl, rfl⟩ ?step ?hR
  case hm => exact fun i tk tk' m n h1 h => ⟨Nat.le_trans h.1 h1, h.2⟩
  · have : s.toks ≤ tk := htk
    have : tk₂ ≤ tk₃ := htk₃
    have : t₂ < tk₂ := h2'
    have : tk ≤ t₂ := h2
    show s.toks ≤ tk₃
    omega
  case step =>
    rintro I i t m₁ news₁ h₄ tk₄ hi htk₄ ⟨htk₄', rfl, e1, e2⟩ hnI hIl hI0 hIL F₄ N₄
    have e0 := z01 i
    rw [e0] at F₄
    refine toksF (n := s.toks) htk₄' (hideQ fun Q' hQ' => ?_)
    have e1' : (fun y => if y = Str.ofString "place" then some (Value.int i t) else m₁ y) (Str.ofString "texts") = some (.ref tl) := e1
    have e2' : (fun y => if y = Str.ofString "place" then some (Value.int i t) else m₁ y) (Str.ofString "choices") = some (.ref ch) := e2
    obtain ⟨p, hp⟩ : ∃ p, ps[i]? = some p := ⟨_, List.getElem?_eq_getElem hi⟩
    have hpm : p ∈ ps := List.mem_of_getElem? hp
    obtain ⟨tp, hv⟩ := strs_at hps hp
    have C₄ := C.keeps F₄.keep
    have ht₄ := ht.at fun o e => F₄.keep _ o e
    have hoc₄ : h₄.get? (s.heap.objs.size + 1) = some oc := (N₄ _ (List.mem_singleton.mpr rfl)).1
    have hi63 := i63 hi (Nat.le_trans (Nat.le_of_lt hn) (Nat.pow_le_pow_right (by decide) (by decide)))
    have hp24 : p.cps.size ≤ sizeLine := Nat.le_trans (hlen p hpm) (Nat.le_of_ble_eq_true rfl)
    refine wpAny_execs_cons (Assign_Tuple_swapped (names := [Str.ofString "text", Str.ofString "spots"]) (Tuple_ (spl2 (Subscript_ (ldL F₄.ns e1' (ldL F₄.ns rfl (tail_list ht₄ (Int.natCast_nonneg i) hi63 hv
      (comp_str [] (R' _).hd rfl (by decide) rfl (by decide) rfl (Subscript_ (ldL F₄.ns e1' (ldL F₄.ns rfl (tail_list ht₄ (Int.natCast_nonneg i) hi63 hv
        ⟨p, tp, fun X i ys tk h => IntsAre ys ((p.cps.toList.take i).map fun c => (ix c : Int)), rfl, hp24, by simp, fun X i ys tk tk' h h' _ _ hj => hj, fun _ _ => .nil, ?_, ?_⟩))))))))))))
    · intro C₅ D₅ I₅ j c u ys h₅ tk₅ m₅ hc5 hlen5 htk5 hj hC5 hD5 hI5 hlive hk5 hn5 hm5
      have hmem : c ∈ p.cps.toList := by
        have : p.cps.toList[j]? = some c := by simpa using hc5
        exact List.mem_of_getElem? this
      obtain ⟨hlt, rest, hocc'⟩ := hocc p hpm c hmem
      refine str_index (ldC rfl ⟨oc, hk5 _ _ (by simp) hoc₄, hocd⟩ ⟨sg, tsg, rfl, ldL hn5 hm5 ⟨_, u, rfl, ix c, rest, hocc', h₅, _, rfl, fun _ _ _ e => e, ?_⟩⟩)
      have htake : p.cps.toList.take (j + 1) = p.cps.toList.take j ++ [c] := by
        have : p.cps.toList[j]? = some c := by simpa using hc5
        rw [List.take_add_one, this]; rfl
      show IntsAre _ ((p.cps.toList.take (j + 1)).map fun c => (ix c : Int))
      rw [htake, List.map_append]
      exact ints_snoc hj
    · intro C₅ D₅ I₅ h₅ tk₅ ys htk5 hC5 hD5 hI5 hpl5 hsz5 hj hk5
      have hj : IntsAre ys.toList (p.cps.toList.map fun c => (ix c : Int)) := by
        have : p.cps.toList.take p.cps.size = p.cps.toList := List.take_of_length_le (by simp)
        rw [this] at hj; exact hj
      refine assign2s (R' _).hd fun h₆ K₆ => ?_
      have K₄₆ : Kp h₄ h₆ := fun b o e => K₆ b o (hk5 b o (by simp) e)
      have F₆ := F₄.keeps K₄₆
      refine stE F₆ fun h₇ F₇ S₇ => stE F₇ fun h₈ F₈ S₈ => ?_
      dsimp only
      refine wpAny_execs_cons (wpAny_Assign_Name (wpAny_Constant_int (stE F₈ fun h₉ F₉ S₉ => ?_)))
      dsimp only
      have KL₉ : KL s.heap.objs.size h₆ h₉ := fun b o hb e => (S₉.2 b hb).trans ((S₈.2 b hb).trans ((S₇.2 b hb).trans e))
      have hD50 : s.heap.get? D₅ = none := Heap.get?_none_of_le (Nat.le_trans F₄.above (Nat.le_of_lt (Nat.lt_of_lt_of_le F₄.ns.lt hD5)))
      have hD5L : (D₅ : Nat) ≠ s.heap.objs.size := Nat.ne_of_gt (Nat.lt_of_lt_of_le F₄.ns.lt hD5)
      obtain ⟨nD, hoD⟩ := hpl5
      obtain ⟨oI, hoI⟩ := hIl
      have hoD₉ := KL₉ _ _ hD5L (K₆ _ _ hoD)
      have hoI₉ := KL₉ _ _ hIL (K₄₆ _ _ hoI)
      have hoc₉ := KL₉ _ _ (Nat.succ_ne_self _) (K₄₆ _ _ hoc₄)
      have C₉ := C.keeps F₉.keep
      have hlp : p.cps.toList.length ≤ 3 := by simpa using hlen p hpm
      have hlys : ys.toList.length = p.cps.toList.length := by simpa using hsz5
      have hI0' : s.heap.get? I = none := by
        cases e : s.heap.get? I with
        | none => rfl
        | some o => rw [show h₃.get? I = some o from F₃.keep _ _ e] at hI0; cases hI0
      refine wpAny_execs_cons (for_my s.heap rfl rfl (rng1 C₉ (len1 C₉ (ldL F₉.ns rfl ⟨D₅, ys.toList, rfl, ⟨_, hoD₉, rfl, nD, by simp⟩, Nat.lt_of_le_of_lt (Nat.le_trans (Nat.le_of_eq hlys) hlp) (by decide), fun t₁₀ tk₁₀ h10 h10' => ⟨_, _, rfl, fun r' h₁₁ tk₁₁ u1' u2' u3' K₁₁ htk₁₁ hr' hrr' => ?_⟩⟩))))
      have F₁₁ := F₉.keeps K₁₁
      refine iter_range (n := p.cps.toList.length) (R' _).hd rfl rfl hrr' (by rw [hlys]; exact sm_nat (Nat.lt_of_le_of_lt hlp (by decide))) (by rw [hlys]; exact rs_nat _) F₁₁ (news := [(s.heap.objs.size + 1, oc), (I, oI), (D₅, { cls := .type "list", data := .seq ys nD })])
        ?n0 (fun j tk m news => news = [(s.heap.objs.size + 1, oc), (I, oI), (D₅, { cls := .type "list", data := .seq ys nD })] ∧ m (Str.ofString "texts") = some (.ref tl) ∧ m (Str.ofString "choices") = some (.ref ch) ∧
          m (Str.ofString "place") = some (.int i t) ∧ m (Str.ofString "text") = some (.str p tp) ∧ m (Str.ofString "spots") = some (.ref D₅) ∧
          ∃ t, m (Str.ofString "due") = some (.int ((List.range j).foldl (fun acc k => acc + bin (ix (p.cps.toList.getD k 0)) (p.cps.toList.length - k)) 0) t)) (fun _ _ _ _ _ _ h => h) ⟨rfl, e1, e2, rfl, rfl, rfl, _, rfl⟩ ?istep ?iR
      case n0 =>
        intro q hq
        rcases List.mem_cons.mp hq with rfl | hq
        · exact ⟨K₁₁ _ _ hoc₉, Nat.succ_ne_self _, Heap.get?_none_of_le (Nat.le_succ _)⟩
        rcases List.mem_cons.mp hq with rfl | hq
        · exact ⟨K₁₁ _ _ hoI₉, hIL, hI0'⟩
        rw [List.mem_singleton.mp hq]
        exact ⟨K₁₁ _ _ hoD₉, hD5L, hD50⟩
      case istep =>
        rintro I' j t' m₂ news₂ h₁₂ tk₁₂ hj12 htk₁₂ ⟨rfl, a1, a2, a3, a4, a5, t₃, a6⟩ hnI' hIl' hI0' hIL' F₁₂ N₁₂
        have e0' := z01 j
        rw [e0'] at F₁₂
        have a1' : (fun y => if y = Str.ofString "k" then some (Value.int j t') else m₂ y) (Str.ofString "due") = _ := a6
        have a2' : (fun y => if y = Str.ofString "k" then some (Value.int j t') else m₂ y) (Str.ofString "choices") = some (.ref ch) := a2
        have a5' : (fun y => if y = Str.ofString "k" then some (Value.int j t') else m₂ y) (Str.ofString "spots") = some (.ref D₅) := a5
        have C₁₂ := C.keeps F₁₂.keep
        have hc₁₂ := hc.keeps F₁₂.keep
        have hoD₁₂ : h₁₂.get? D₅ = some { cls := .type "list", data := .seq ys nD } := (N₁₂ _ (List.mem_cons_of_mem _ (List.mem_cons_of_mem _ (List.mem_singleton.mpr rfl)))).1
        have hD₁₂ : h₁₂.IsList D₅ ys.toList.toArray := ⟨_, hoD₁₂, rfl, nD, by simp⟩
        obtain ⟨c, hcj⟩ : ∃ c, p.cps.toList[j]? = some c := ⟨_, List.getElem?_eq_getElem hj12⟩
        obtain ⟨v, hvj⟩ : ∃ v, ys.toList[j]? = some v := ⟨_, List.getElem?_eq_getElem (by omega)⟩
        obtain ⟨tv', rfl⟩ := ints_at (n := (ix c : Int)) hj hvj (by rw [List.getElem?_map, hcj]; rfl)
        obtain ⟨hix, _⟩ := hocc p hpm c (List.mem_of_getElem? hcj)
        have hrl := row_len (ix c) hix
        have hj63 := i63 (Nat.lt_of_lt_of_le hj12 hlp) (by decide)
        have hsub : (ys.toList.length : Int) - (j : Int) = ((p.cps.toList.length - j : Nat) : Int) := by rw [hlys]; exact (Int.ofNat_sub (Nat.le_of_lt hj12)).symm
        refine hideQ fun Q1 hQ1 => ?_
        refine wpAny_execs_cons (wpAny_Assign_Name (callF C₁₂ (by k_is) (by k_is) (spl2 (ldL F₁₂.ns a1' (sub_ch (ldL F₁₂.ns a2' ⟨ch, rfl, Subscript_ (ldL F₁₂.ns a5' (ldL F₁₂.ns rfl (tail_list hD₁₂ (Int.natCast_nonneg j) hj63 hvj
          ⟨ix c, _, rfl, hc₁₂, hix, wpAny_BinOp (len1 C₁₂ (ldL F₁₂.ns a5' ⟨D₅, ys.toList, rfl, hD₁₂, Nat.lt_of_le_of_lt (Nat.le_trans (Nat.le_of_eq hlys) hlp) (by decide), fun t15 tk15 g1 g2 => ldL F₁₂.ns rfl (AutoIntOps.sub_0
            ⟨p.cps.toList.length - j, _, congrArg (fun x => Value.int x _) hsub, fun _ _ e => e, by rw [hrl]; exact Nat.lt_of_le_of_lt (Nat.le_trans (Nat.sub_le _ _) hlp) (Nat.lt_of_lt_of_le (by decide) (Nat.le_add_left 4 _)), fun t16 => ⟨C₁₂, add_int (d := d + 1) C₁₂ (R' _) fun t17 h17 tk17 K17 _ _ => ?_⟩⟩)⟩))⟩)))⟩))))))
        refine stE (F₁₂.keeps K17) fun h18 F18 S18 => ?_
        dsimp only
        refine wpAny_execs_nil (hQ1 ⟨h18, _, _, [(s.heap.objs.size + 1, oc), (I, oI), (D₅, { cls := .type "list", data := .seq ys nD })], rfl, ?_, F18, (fun q hq => ⟨?_, (N₁₂ q hq).2⟩), ?_, rfl, a1, a2, a3, a4, a5, _, congrArg (fun x => some (Value.int x _)) ?_⟩)
        · intro b hb o e
          rw [List.mem_singleton.mp hb] at e ⊢
          exact (S18.2 _ hIL').trans (K17 _ _ e)
        · exact (S18.2 _ (N₁₂ q hq).2.1).trans (K17 _ _ (N₁₂ q hq).1)
        · intro q hq e
          exact hnI' q hq (List.mem_singleton.mp e)
        · rw [List.range_succ, List.foldl_append]
          simp only [List.foldl_cons, List.foldl_nil]
          rw [List.getD_eq_getElem?_getD, hcj]
          rfl
      case iR =>
        rintro h' tk₁₃ m' news' htk₁₃ F₁₃ N₁₃ ⟨rfl, a1, a2, a3, a4, a5, t₃, a6⟩
        dsimp only
        have hdue' : (List.range p.cps.toList.length).foldl (fun acc k => acc + bin (ix (p.cps.toList.getD k 0)) (p.cps.toList.length - k)) 0 = (i : Int) := hdue i p hp
        rw [hdue'] at a6
        have C₁₃ := C.keeps F₁₃.keep
        refine wpAny_execs_cons (wpAny_If (wpAny_isTrue_BoolOp (wpAny_allTrue_Or_cons (wpAny_isTrue_Compare1 (ldL F₁₃.ns a6 (ldL F₁₃.ns a3 (PyProof.Rows.ne_int (wpAny_truthy_bool ?_))))))))
        simp only [bne_self_eq_false, Bool.false_eq_true, if_false]
        refine wpAny_allTrue_Or_cons (wpAny_isTrue_Compare1 (callF C₁₃ (by k_is) (by k_is) (spl2 (callF C₁₃ (by k_is) (by k_is) (spl1 (ldL F₁₃.ns a4 ⟨C₁₃, strxfrm_str (d := d + 1) C₁₃ (R' _) fun h14 tk14 K14 => ?_⟩))))))
        have F14 := F₁₃.keeps K14
        have C14 := C.keeps F14.keep
        refine ldL F14.ns a4 ⟨C14, told_str (d := d) C14 (R' _) fun t15 h15 tk15 K15 g1 g2 => ?_⟩
        rw [coll_self]
        have F15 := F14.keeps K15
        have C15 := C.keeps F15.keep
        refine wpAny_Constant_int (PyProof.Rows.ne_int (wpAny_truthy_bool ?_))
        simp only [bne_self_eq_false, Bool.false_eq_true, if_false]
        refine wpAny_allTrue_Or_nil ?_
        simp only [Bool.false_eq_true, if_false]
        refine wpAny_execs_nil ?_
        dsimp only
        have K₁₃ : Kp h' h15 := fun b o e => K15 b o (K14 b o e)
        have hoI15 := K₁₃ _ _ (N₁₃ (I, oI) (List.mem_cons_of_mem _ (.head _))).1
        have hoc15 := K₁₃ _ _ (N₁₃ (s.heap.objs.size + 1, oc) (.head _)).1
        have fin : ∀ hx tkx, Kp h15 hx → s.toks ≤ tkx → Turned s.heap s.heap.objs.size [I] [I] (fun tk m news => s.toks ≤ tk ∧ news = [(s.heap.objs.size + 1, oc)] ∧ m (Str.ofString "texts") = some (.ref tl) ∧ m (Str.ofString "choices") = some (.ref ch))
            { s with heap := h₄, toks := tk₄ } (fun _ _ => False) .next { s with heap := hx, toks := tkx } := fun hx tkx K hle => ⟨hx, tkx, m', [(s.heap.objs.size + 1, oc)], rfl, (fun b hb o e => by
              rw [List.mem_singleton.mp hb] at e ⊢
              have e2 : h₄.get? I = some oI := hoI
              have e3 : h₄.get? I = some o := e
              rw [e2] at e3
              rw [← e3]
              exact K _ _ hoI15), F15.keeps K, (fun q hq => by rw [List.mem_singleton.mp hq]; exact ⟨K _ _ hoc15, Nat.succ_ne_self _, Heap.get?_none_of_le (Nat.le_succ _)⟩), (fun q hq e => hnI q hq (List.mem_singleton.mp e)), hle, rfl, a1, a2⟩
        refine wpAny_execs_cons (wpAny_If (wpAny_isTrue_BoolOp (wpAny_allTrue_And_cons (wpAny_isTrue_Compare1 (ldL F15.ns a3 (wpAny_Constant_int (PyProof.Rows.gt_int (wpAny_truthy_bool ?_))))))))
        by_cases hi0 : i = 0
        · subst hi0
          simp only [show decide ((0 : Int) < ((0 : Nat) : Int)) = false from rfl, Bool.false_eq_true, if_false]
          exact wpAny_execs_nil (wpAny_execs_nil (hQ' fun hle => fin _ _ (fun _ _ e => e) hle))
        · have hpos : decide ((0 : Int) < (i : Int)) = true := decide_eq_true (Int.natCast_pos.mpr (Nat.pos_of_ne_zero hi0))
          simp only [hpos, if_true]
          obtain ⟨q, hq⟩ : ∃ q, ps[i - 1]? = some q := ⟨_, List.getElem?_eq_getElem (Nat.lt_of_le_of_lt (Nat.sub_le _ _) hi)⟩
          obtain ⟨tq, hvq⟩ := strs_at hps hq
          obtain ⟨c1, c2⟩ := hcoll (i - 1) q p hq (by rw [Nat.sub_add_cancel (Nat.pos_of_ne_zero hi0)]; exact hp)
          have ht15 := ht.at fun o e => F15.keep _ o e
          have hi0' := pred0 hi0
          have hi63' := pred63 hi63
          have hvq' : tv[((i : Int) - 1).toNat]? = some (.str q tq) := by rw [pred_toNat]; exact hvq
          refine wpAny_allTrue_And_cons (wpAny_isTrue_BoolOp (wpAny_allTrue_Or_cons (wpAny_isTrue_Compare1 (callF C15 (by k_is) (by k_is) (spl2 (Subscript_ (ldL F15.ns a1 (wpAny_BinOp (ldL F15.ns a3 (wpAny_Constant_int (AutoIntOps.sub_0 (tail_list ht15 hi0' hi63' hvq' (ldL F15.ns a4 ⟨C15, strcoll_str (d := d + 1) C15 (R' _) fun t16 h16 tk16 K16 _ _ => ?_⟩)))))))))))))
          rw [c1]
          have F16 := F15.keeps K16
          have C16 := C.keeps F16.keep
          have ht16 := ht.at fun o e => F16.keep _ o e
          refine UnaryOp_ (wpAny_Constant_int (neg_int (PyProof.Rows.ne_int (wpAny_truthy_bool ?_))))
          simp only [bne_self_eq_false, Bool.false_eq_true, if_false]
          refine wpAny_allTrue_Or_cons (wpAny_isTrue_Compare1 (callF C16 (by k_is) (by k_is) (spl2 (ldL F16.ns a4 (Subscript_ (ldL F16.ns a1 (wpAny_BinOp (ldL F16.ns a3 (wpAny_Constant_int (AutoIntOps.sub_0 (tail_list ht16 hi0' hi63' hvq' ⟨C16, strcoll_str (d := d + 1) C16 (R' _) fun t17 h17 tk17 K17 _ _ => ?_⟩)))))))))))
          rw [c2]
          refine wpAny_Constant_int (PyProof.Rows.ne_int (wpAny_truthy_bool ?_))
          simp only [bne_self_eq_false, Bool.false_eq_true, if_false]
          refine wpAny_allTrue_Or_nil ?_
          simp only [Bool.false_eq_true, if_false]
          exact wpAny_execs_nil (wpAny_execs_nil (hQ' fun hle => fin _ _ (fun b o e => K17 b o (K16 b o e)) hle))
  case hR =>
    rintro h' tk₅ m' news' htk₅ F₅ - ⟨htk₅', -, -, -⟩
    dsimp only
    exact wpAny_execs_cons (wpAny_Return_some (wpAny_Constant_bool (hQ _ _ F₅.keep htk₅')))
end
end Mine

-- MB12
namespace Mine

theorem nat_low (x s : Nat) : x &&& (x / 2 ^ s * 2 ^ s) = x / 2 ^ s * 2 ^ s := by
  rw [← Nat.shiftRight_eq_div_pow, ← Nat.shiftLeft_eq]
  apply Nat.eq_of_testBit_eq
  intro i
  rw [Nat.testBit_and, Nat.testBit_shiftLeft, Nat.testBit_shiftRight]
  by_cases h : s ≤ i
  · rw [show s + (i - s) = i by omega]
    cases x.testBit i <;> simp [h]
  · simp [h]
theorem xor_low (x s : Nat) : Builtin.bitXor (x : Int) ((x / 2 ^ s * 2 ^ s : Nat) : Int) = ((x % 2 ^ s : Nat) : Int) := by
  rw [bitXor_and]
  have e : Builtin.bitAnd (x : Int) ((x / 2 ^ s * 2 ^ s : Nat) : Int) = ((x / 2 ^ s * 2 ^ s : Nat) : Int) := by
    unfold Builtin.bitAnd
    rw [decide_eq_true (Int.natCast_nonneg _), decide_eq_true (Int.natCast_nonneg _)]
    simp only [Int.toNat_natCast]
    rw [nat_low]
  rw [e]
  have := Nat.div_add_mod x (2 ^ s)
  have e2 : x / 2 ^ s * 2 ^ s + x % 2 ^ s = x := by rw [Nat.mul_comm]; exact this
  omega

section
variable {w : World} {A : Around} {s : Shared}
theorem nat_fdiv (x s : Nat) : (x : Int).fdiv (2 ^ s) = ((x / 2 ^ s : Nat) : Int) := by
  rw [Int.fdiv_eq_ediv_of_nonneg _ (Int.le_of_lt (kbt_pos s))]
  push_cast
  rfl
theorem bits_le {x n : Nat} (h : x < 2 ^ n) : Builtin.Int.intBits (x : Int) ≤ n := by
  unfold Builtin.Int.intBits
  split
  · omega
  · rename_i hx
    have hx : x ≠ 0 := by simpa using hx
    have : ((x : Int).natAbs).log2 < n := by
      rw [Int.natAbs_natCast]
      exact (Nat.log2_lt hx).mpr h
    omega
theorem bits_eq {x n : Nat} (h : 2 ^ n ≤ x) (h' : x < 2 ^ (n + 1)) : Builtin.Int.intBits (x : Int) = n + 1 := by
  unfold Builtin.Int.intBits
  have hp := Nat.pow_pos (n := n) (show 0 < 2 by decide)
  have hx : x ≠ 0 := by omega
  have e : ((x : Int) == 0) = false := by simpa using hx
  rw [e, Int.natAbs_natCast]
  have : x.log2 = n := by
    have h1 := (Nat.log2_lt hx).mpr h'
    have h2 := (Nat.le_log2 hx).mpr h
    omega
  simp [this]
theorem rshift_nat {E : Value → Shared → Prop} {x k : Nat} {t u : Tok} {Q : Value → Shared → Prop} (h : Q (.int (x / 2 ^ k : Nat) s.toks) { s with toks := s.toks + 1 }) : wpAny (model PG w) A (binaryOp .RShift (.int x t) (.int k u)) Q E s := by
  by_cases hb : (k : Int) ≥ ((Builtin.Int.intBits (x : Int) : Nat) : Int)
  · refine AutoIntOps.rshift_1 (by omega) hb ?_
    rw [if_neg (by omega)]
    have : x / 2 ^ k = 0 := by
      apply Nat.div_eq_of_lt
      unfold Builtin.Int.intBits at hb
      split at hb
      · rename_i h0
        have : x = 0 := by simpa using h0
        rw [this]; exact Nat.pow_pos (by decide)
      · rename_i hx
        have hx : x ≠ 0 := by simpa using hx
        rw [Int.natAbs_natCast] at hb
        exact (Nat.log2_lt hx).mp (by omega)
    rw [this] at h
    exact h
  · refine AutoIntOps.rshift_2 (by omega) hb ?_
    rw [show ((k : Int)).toNat = k from rfl, nat_fdiv]
    exact h
theorem lshift_nat {E : Value → Shared → Prop} {x k n : Nat} {t u : Tok} {Q : Value → Shared → Prop} (hx : x < 2 ^ n) (hsz : n + k ≤ 2 ^ 27) (h : Q (.int (x * 2 ^ k : Nat) s.toks) { s with toks := s.toks + 1 }) : wpAny (model PG w) A (binaryOp .LShift (.int x t) (.int k u)) Q E s := by
  refine PyProof.Rows.lshift_int (Int.natCast_nonneg k) ?_ ?_
  · have := bits_le hx
    omega
  · rw [show ((k : Int)).toNat = k from rfl]
    have e : (x : Int) * 2 ^ k = ((x * 2 ^ k : Nat) : Int) := by push_cast; rfl
    rw [e]; exact h
end
end Mine

-- MB13
namespace Mine

/-- all but the table that grows -/
abbrev K51 (h h' : Heap) : Prop := ∀ b o, b ≠ 51 → h.get? b = some o → h'.get? b = some o
/-- the table of the code that holds a def, with none made or with the one -/
def Tb (X : List Addr) (line col : Nat) (qual : Str) (h : Heap) : Prop := h.get? 51 = some (tabObj #[]) ∨ ∃ c', h.get? 51 = some (tabObj #[rawInt line, rawInt col, .ref c']) ∧ c' ≠ 51 ∧ h.CodeRec (.ref c') qual ∧ c' ∉ X
theorem codeRec_k51 {h h' : Heap} {c : Addr} {q : Str} (x : h.CodeRec (.ref c) q) (hc : c ≠ 51) (k : K51 h h') : h'.CodeRec (.ref c) q := by
  obtain ⟨c', o, vs, t, e, ho, hd, hv⟩ := x
  cases e
  exact ⟨c, o, vs, t, rfl, k c o hc ho, hd, hv⟩
theorem codeRec_kp {h h' : Heap} {c : Addr} {q : Str} (x : h.CodeRec (.ref c) q) (k : h.get? c = h.get? c → ∀ o, h.get? c = some o → h'.get? c = some o) : h'.CodeRec (.ref c) q := by
  obtain ⟨c', o, vs, t, e, ho, hd, hv⟩ := x
  cases e
  exact ⟨c, o, vs, t, rfl, k rfl o ho, hd, hv⟩
theorem Tb.keeps {X : List Addr} {line col : Nat} {qual : Str} {h h' : Heap} (T : Tb X line col qual h) (k : Kp h h') : Tb X line col qual h' := by
  rcases T with h1 | ⟨c', h1, hc, h2, hx⟩
  · exact .inl (k _ _ h1)
  · exact .inr ⟨c', k _ _ h1, hc, codeRec_kp h2 (fun _ o e => k _ o e), hx⟩

section
variable {w : World} {A : Around} {s : Shared} {env : Env}

theorem mul_gen {E : Value → Shared → Prop} {l : Addr} {items : Array Value} {k : Nat} {x : Int} {u : Tok} {Q : Value → Shared → Prop} (hl : s.heap.get? l = some { cls := .type "list", dict := none, data := .seq items k, slots := #[] })
    (hlo : -(2 ^ 63 : Int) ≤ x) (hhi : x < 2 ^ 63) (hsz : items.size * x.toNat ≤ 2 ^ 24)
    (h : Q (.ref s.heap.objs.size) { s with heap := s.heap.push { cls := .type "list", data := .seq (List.foldl (fun x1 x2 => x1 ++ x2) #[] (List.replicate (if items.isEmpty = true then 0 else x.toNat) items)) } }) :
    wpAny (model PG w) A (binaryOp .Mult (.ref l) (.int x u)) Q E s :=
  wpAny_binaryOp_repeat_ref (T := "list") (U := "int") (by decide) ⟨_, hl, rfl⟩ (fun s' => typeIs_int s' x u) noFill_list_mul F.fills_int_mul F.slot_int_rmul repeat_list F.slot_int_index.lookup
    (call_meets F.slot_int_rmul (typeIs_int s x u) F.entry_int_rmul (F.args_int_rmul_2 _ _) (int___rmul___int_list x u l items k)
      ⟨hl, rfl, ⟨_, hl, rfl⟩, call_meets F.slot_list_mul ⟨_, hl, rfl⟩ F.entry_list_mul (F.args_list_mul_2 _ _)
        (AutoListH.list___mul___list_int_3 l items k x u (by simp [Builtin.List.listFitsIndex]; omega) (by omega) (by simp [Builtin.List.listTooLong, sizeLine]; omega))
        ⟨hl, h⟩⟩)

theorem mul_list1 {E : Value → Shared → Prop} {l : Addr} {v : Value} {n : Nat} {u : Tok} {Q : Value → Shared → Prop} (hl : s.heap.PlainList l #[v]) (hn : n ≤ 2 ^ 20)
    (h : ∀ D h', s.heap.get? D = none → h'.PlainList D (List.replicate n v).toArray → Kp s.heap h' → s.heap.objs.size ≤ D → Q (.ref D) { s with heap := h' }) :
    wpAny (model PG w) A (binaryOp .Mult (.ref l) (.int n u)) Q E s := by
  obtain ⟨k, hl⟩ := hl
  have key : ∀ (n : Nat) (acc : List Value), List.foldl (fun x1 x2 => x1 ++ x2) acc.toArray (List.replicate n #[v]) = (acc ++ List.replicate n v).toArray := by
    intro n
    induction n with
    | zero => intro acc; simp
    | succ n ih => intro acc; rw [List.replicate_succ, List.foldl_cons, show acc.toArray ++ #[v] = (acc ++ [v]).toArray by simp, ih, List.replicate_succ]; simp
  have hs : (#[v] : Array Value).size = 1 := rfl
  have he : (#[v] : Array Value).isEmpty = false := rfl
  generalize hi : (#[v] : Array Value) = items at hl hs he key
  have e : List.foldl (fun x1 x2 => x1 ++ x2) #[] (List.replicate (if items.isEmpty = true then 0 else (n : Int).toNat) items) = (List.replicate n v).toArray := by
    have := key n []
    simp only [List.nil_append] at this
    rw [he, ← this]; rfl
  have hsz : items.size * (n : Int).toNat ≤ 2 ^ 24 := by rw [hs, Int.toNat_natCast]; omega
  refine mul_gen hl (by omega) (by omega) hsz ?_
  rw [e]
  exact h _ _ (Heap.get?_none_of_le (Nat.le_refl _)) ⟨0, Heap.get?_push_size _ rfl⟩ (fun b o e => Heap.get?_push_of_some _ e) (Nat.le_refl _)

theorem def_rule {B : Heap} {X : List Addr} {name qual : Str} {params : Arguments} {body : List Stmt} {scope : Scope} {pos : Pos} {clos : List (Str × Addr)} {Q : Flow → Shared → Prop} (C : Cx w B) (hB : Kp B s.heap) (hd : CodeHd B 55 51) (h51 : B.get? 51 = none)
    (T : Tb X pos.line pos.col qual s.heap) (hX : ∀ b ∈ X, ∃ o, s.heap.get? b = some o) (hcl : closureFor scope env = pure clos) (hg0 : env.globals = mainGlobals) (hcode : env.code = .ref 55)
    (hd0 : params.defaults = []) (hk0 : params.kw_defaults = []) (ha : annTrees params none env = []) (hq : qualnameIn env name name = qual)
    (h : ∀ f fo c' ctv doc pm h' tk, fo.data = .func (fnX name qual params body scope clos .none .none doc pm none (.ref c') ctv) → K51 s.heap h' → Tb X pos.line pos.col qual h' → c' ≠ 51 → h'.CodeRec (.ref c') qual → h'.get? f = some fo → s.heap.objs.size ≤ f →
      wpAny (model PG w) A (storeName env name (.ref f)) (fun _ => Q .next) FF { s with heap := h', toks := tk }) :
    wpAny (model PG w) A (exec (.FunctionDef name params body [] none [] scope none name pos) env) Q FF s := by
  obtain ⟨p, loose, mean, mg, mb, TT⟩ := C.T
  have hgs := TT.g.keeps hB
  obtain ⟨bm, ob, b1, b2, b3, b4, b5, b6⟩ := TT.bmain
  have hgP : mainGlobals ≠ 51 := fun q => by
    obtain ⟨o, es, ep, e, hd', _⟩ := TT.g
    rw [q, h51] at e; cases e
  have hbP : bm ≠ 51 := fun q => by
    rw [q, h51] at b3; cases b3
  have hbG : bm ≠ mainGlobals := fun q => by
    obtain ⟨o, es, ep, e, hd', _⟩ := TT.g
    rw [q, e] at b3; cases b3; rw [hd'] at b6; cases b6
  have hba : s.heap.BuiltinsAt mg 51 := ⟨bm, ob, b1, b2, hbG, hbP, hB _ _ b3, b4, b5, b6⟩
  have hcd := hd.keeps hB
  have h51s : 51 < s.heap.objs.size := by
    rcases T with h1 | ⟨c', h1, _⟩
    · exact Heap.lt_size h1
    · exact Heap.lt_size h1
  refine nestDef_K hd0 hk0 ha ?_
  rw [hq]
  rcases T with h1 | ⟨c', h1, hc', h2, hx⟩
  · refine makeFunction_K hcl hg0 hgs hcode hcd h1 trivial rfl hgP hba fun c' ctv doc h' tk hx hge hlt hrec htb => ?_
    have hne : (c' : Nat) ≠ 51 := by omega
    have hsz : s.heap.objs.size ≤ h'.objs.size := by omega
    refine h h'.objs.size _ c' ctv doc _ _ tk rfl (fun b o hb e => Heap.get?_push_of_some _ (hx b o hb e)) (.inr ⟨c', Heap.get?_push_of_some _ (by simpa using htb), hne, codeRec_kp hrec (fun _ o e => Heap.get?_push_of_some _ e), fun hm => ?_⟩) hne (codeRec_kp hrec fun _ o e => Heap.get?_push_of_some _ e) (Heap.get?_push_size _ rfl) hsz
    obtain ⟨o, ho⟩ := hX _ hm
    exact absurd (Heap.lt_size ho) (Nat.not_lt.mpr hge)
  · refine makeFunction_hit (cv := .ref c') hcl hg0 hgs hcode hcd h1 trivial (by simp [codeAmong, rawInt]) hba fun ctv doc h' tk hk hsz => ?_
    have K : Kp s.heap (h'.push { cls := .type "function", data := .func (fnX name qual params body scope clos .none .none doc ((mg "__name__").getD .none) none (.ref c') ctv) }) := fun b o e => Heap.get?_push_of_some _ (hk b o e)
    exact h h'.objs.size _ c' ctv doc _ _ tk rfl (fun b o _ e => K b o e) (.inr ⟨c', K _ _ h1, hc', codeRec_kp h2 (fun _ o e => K _ o e), hx⟩) hc' (codeRec_kp h2 fun _ o e => K _ o e) (Heap.get?_push_size _ rfl) hsz
end
end Mine

-- MB14
namespace Mine

theorem low_digit {x s j n : Nat} (h : j + n ≤ s) : x % 2 ^ s / 2 ^ j % 2 ^ n = x / 2 ^ j % 2 ^ n := by
  have e : 2 ^ s = 2 ^ j * 2 ^ (s - j) := by rw [← Nat.pow_add]; congr 1; omega
  rw [e, Nat.mod_mul_right_div_self]
  exact Nat.mod_mod_of_dvd _ (Nat.pow_dvd_pow 2 (by omega))
theorem high_digit {x s j n : Nat} : x / 2 ^ s / 2 ^ j % 2 ^ n = x / 2 ^ (s + j) % 2 ^ n := by
  rw [Nat.div_div_eq_div_mul, ← Nat.pow_add]

theorem frBut {G h h' : Heap} {L D : Addr} {m : Str → Option Value} (F : Fr G L h m) (hG : G.get? D = none) (hLD : L ≠ D) (k : ∀ b o, b ≠ D → h.get? b = some o → h'.get? b = some o) : Fr G L h' m :=
  ⟨F.ns.at' fun o e => k _ o hLD e, fun b o e => k b o (fun q => by rw [q, hG] at e; cases e) (F.keep b o e), F.above⟩

section
variable {w : World} {A : Around} {s : Shared} {env : Env}

theorem rshift_natE {E : Value → Shared → Prop} {a b : Int} {x k : Nat} {t u : Tok} {Q : Value → Shared → Prop} (ha : a = x) (hb : b = k) (h : Q (.int (x / 2 ^ k : Nat) s.toks) { s with toks := s.toks + 1 }) : wpAny (model PG w) A (binaryOp .RShift (.int a t) (.int b u)) Q E s := by
  subst ha hb; exact rshift_nat h
theorem lshift_natE {E : Value → Shared → Prop} {a b : Int} {x k n : Nat} {t u : Tok} {Q : Value → Shared → Prop} (ha : a = x) (hb : b = k) (hx : x < 2 ^ n) (hsz : n + k ≤ 2 ^ 27) (h : Q (.int (x * 2 ^ k : Nat) s.toks) { s with toks := s.toks + 1 }) : wpAny (model PG w) A (binaryOp .LShift (.int a t) (.int b u)) Q E s := by
  subst ha hb; exact lshift_nat hx hsz h
theorem xor_lowE {E : Value → Shared → Prop} {a b : Int} {x k : Nat} {t u : Tok} {Q : Value → Shared → Prop} (ha : a = x) (hb : b = (x / 2 ^ k * 2 ^ k : Nat)) (h : Q (.int (x % 2 ^ k : Nat) s.toks) { s with toks := s.toks + 1 }) : wpAny (model PG w) A (binaryOp .BitXor (.int a t) (.int b u)) Q E s := by
  subst ha hb
  refine PyProof.Rows.xor_int ?_
  rw [xor_low]; exact h
theorem mul_natE {E : Value → Shared → Prop} {a b : Int} {x y : Nat} {t u : Tok} {Q : Value → Shared → Prop} (ha : a = x) (hb : b = y) (hx : x < 2 ^ 64) (h : Q (.int (x * y : Nat) s.toks) { s with toks := s.toks + 1 }) : wpAny (model PG w) A (binaryOp .Mult (.int a t) (.int b u)) Q E s := by
  subst ha hb
  refine AutoIntOps.mul_0 ?_ (IntMulOk.of_left (bits_le hx))
  have e : (x : Int) * (y : Int) = ((x * y : Nat) : Int) := by push_cast; rfl
  rw [e]; exact h
theorem floordiv_natE {E : Value → Shared → Prop} {a b : Int} {x y : Nat} {t u : Tok} {Q : Value → Shared → Prop} (ha : a = x) (hb : b = y) (hy : 1 ≤ y) (hs : (y : Int).natAbs.log2 < 9000) (h : Q (.int (x / y : Nat) s.toks) { s with toks := s.toks + 1 }) : wpAny (model PG w) A (binaryOp .FloorDiv (.int a t) (.int b u)) Q E s := by
  subst ha hb
  refine AutoIntOps.floordiv_1 (by simp; omega) (by rw [PyProof.noPylong_of_log2 hs]; exact Bool.false_ne_true) ?_
  have e : (x : Int).fdiv (y : Int) = ((x / y : Nat) : Int) := by rw [Int.fdiv_eq_ediv_of_nonneg _ (Int.natCast_nonneg y)]; push_cast; rfl
  rw [e]; exact h
theorem mod_natE {E : Value → Shared → Prop} {a b : Int} {x y : Nat} {t u : Tok} {Q : Value → Shared → Prop} (ha : a = x) (hb : b = y) (hy : 1 ≤ y) (h : Q (.int (x % y : Nat) s.toks) { s with toks := s.toks + 1 }) : wpAny (model PG w) A (binaryOp .Mod (.int a t) (.int b u)) Q E s := by
  subst ha hb
  refine AutoIntOps.mod_1 (by simp; omega) ?_
  have e : (x : Int).fmod (y : Int) = ((x % y : Nat) : Int) := by rw [Int.fmod_eq_emod_of_nonneg _ (Int.natCast_nonneg y)]; push_cast; rfl
  rw [e]; exact h

/-- a.bit_length() -/
theorem bit_length0 {o : Expr} {apos pos : Pos} {Q : Value → Shared → Prop}
    (h : wpAny (model PG w) A (eval o env) (fun ov s₁ => ∃ a t, ov = .int a t ∧ Q (.int (Builtin.Int.intBits a) s₁.toks) { s₁ with toks := s₁.toks + 1 }) FF s)
    (hbase : attributeBase o "bit_length" env (eval o env) = eval o env := by rfl) (hline : (apos.endLine == pos.line) = true := by rfl) :
    wpAny (model PG w) A (eval (.Call (.Attribute o "bit_length" apos) [] [] pos) env) Q FF s := by
  refine wpAny_Call_method hbase rfl hline PySem.F.plainAttrs_int PySem.F.slot_int_bit_length PySem.F.type_int_bit_length (wpAny_mono h (fun ov s₁ h₁ => ?_) fun _ _ e => e)
  obtain ⟨a, t, rfl, hQ⟩ := h₁
  refine ⟨typeIs_int _ _ _, (fun _ e => nomatch e), ?_⟩
  exact callWith_builtin rfl (evalArgs_nil3 (PyProof.Rows.call_int_bit_length hQ))

/-- a call of a function object -/
theorem enterF {Q E : Value → Shared → Prop} {name qual : Str} {params : Arguments} {body : List Stmt} {scope : Scope} {cl : List (Str × Addr)} {doc pm cdv ct : Value} {f : Addr} {fo : Obj} {vs : List Value} {d : Nat}
    (binds : List (Str × Value)) (N : s.heap.NoLimit) (R : Room A (d + 1)) (ho : s.heap.get? f = some fo) (hfo : fo.data = .func (fnX name qual params body scope cl .none .none doc pm none cdv ct)) (hcd : s.heap.CodeRec cdv qual)
    (hbind : bindArgs (fnX name qual params body scope cl .none .none doc pm none cdv ct) ⟨vs, []⟩ = pure binds) (hloc : (binds.all fun x => decide (scope.names.lookup x.1 = some .local)) = true)
    (h : ∀ h₁, Fr s.heap s.heap.objs.size h₁ (fun y => binds.reverse.lookup y) →
      wpAny (model PG w) (A.deeper (envX qual scope s.heap.objs.size f cdv cl)) (execs body (envX qual scope s.heap.objs.size f cdv cl))
        (fun fl s' => Q (match fl with | .ret v => v | _ => .none) s') FF { s with heap := h₁, toks := s.toks + binds.length })
    (hco : scope.isCoroutine = false) (hgen : scope.isGenerator = false) (hk : scope.kind = .function)
    (hcell : (scope.names.all fun x => decide (x.2 ≠ .cell)) = true) : wpAny (model PG w) A (call (.ref f) vs) Q E s := by
  refine wpAny_call (codeAny_call_def (fd := fnX name qual params body scope cl .none .none doc pm none cdv ct) (body := body) (binds := binds) (by have := R.dp; omega) ho hfo N hcd rfl (BindsTo.of_eq hbind)
    (fun x hx => of_decide_eq_true (List.all_eq_true.mp hcell x hx)) (fun x hx => of_decide_eq_true (List.all_eq_true.mp hloc x hx)) (fun h₁ hns hk₁ => ?_) hco hgen hk)
  exact wpAny_mono (h h₁ ⟨hns, hk₁, Nat.le_refl _⟩) (fun fl s' q => q) fun _ _ e => e.elim
/-- a free name -/
theorem ldX {M : Model} {E : Value → Shared → Prop} {Q : Value → Shared → Prop} {x : Str} {pos : Pos} {c : Addr} {v : Value} (hc : env.cells.lookup x = some c) (hv : s.heap.IsCell c (some v)) (h : Q v s)
    (hk : env.scope.kind = .function := by rfl) (hl : env.kindOf x = some .free := by rfl) (hd : (x == ("__debug__" : Str)) = false := by decide) (hn : (x == ("__classdict__" : Str)) = false := by decide) :
    wpAny M A (eval (.Name x pos) env) Q E s := wpAny_Name (wpAny_loadName_free hk hl hc hv h hn) hd
/-- a call of a function that a name holds -/
theorem callN {x : Str} {np pos : Pos} {f : Addr} {e : Expr} {rest : List Expr} {Q : Value → Shared → Prop} (X : FnAt f s.heap)
    (hx : ∀ Q' : Value → Shared → Prop, Q' (.ref f) s → wpAny (model PG w) A (eval (.Name x np) env) Q' FF s)
    (h : wpAny (model PG w) A (spliced (backTo pos (starEach (e :: rest) env))) (fun vs s₁ => FnAt f s₁.heap ∧ wpAny (model PG w) A (call (.ref f) vs) Q FF s₁) FF s)
    (he : starEach (e :: rest) env = (false, eval e env) :: starEach rest env := by rfl) (hplain : (backTo pos (starEach rest env)).any (·.1) = false := by rfl) :
    wpAny (model PG w) A (eval (.Call (.Name x np) (e :: rest) [] pos) env) Q FF s :=
  wpAny_Call_ofName (hx _ (callWith_F (first := []) X h he hplain))
end
end Mine

-- M6
namespace Mine
theorem fillM6 (w : World) (h : Heap) : ((hd.heap_39 w.params).In h ∧ PySem.Challenge.rw_xi0002_01.row.prog = PySem.Challenge.rw_xi0002_01.row.prog) → True := by
  k_fill
  intros; trivial

theorem Tb.but {Z : List Addr} {l c : Nat} {q : Str} {h h' : Heap} {X : Addr} {vs : Array Value} (T : Tb Z l c q h) (hX : h.PlainList X vs) (k : ∀ b o, b ≠ X → h.get? b = some o → h'.get? b = some o) : Tb Z l c q h' := by
  obtain ⟨n, hX⟩ := hX
  have h51 : h.get? 51 = some (tabObj #[]) ∨ (∃ ps, h.get? 51 = some (tabObj ps)) → (51 : Nat) ≠ X := by
    intro hh q
    subst q
    rcases hh with e | ⟨ps, e⟩ <;> · rw [hX] at e; cases e
  rcases T with h1 | ⟨c', h1, hc, h2, hz⟩
  · exact .inl (k _ _ (h51 (.inl h1)) h1)
  · refine .inr ⟨c', k _ _ (h51 (.inr ⟨_, h1⟩)) h1, hc, codeRec_kp h2 (fun _ o e => k _ o (fun q => ?_) e), hz⟩
    obtain ⟨c'', o, vs', t, e, ho, hd', _⟩ := h2
    cases e
    rw [q, hX] at ho
    cases ho
    cases hd'
theorem ints_of_get : ∀ {vs : List Value} {ns : List Int}, vs.length = ns.length → (∀ (i : Nat) (n : Int), ns[i]? = some n → ∃ t, vs[i]? = some (.int n t)) → IntsAre vs ns
  | [], [], _, _ => .nil
  | [], _ :: _, h, _ => by simp at h
  | _ :: _, [], h, _ => by simp at h
  | v :: vs, n :: ns, h, T => by
    obtain ⟨t, e⟩ := T 0 n rfl
    have : v = .int n t := by simpa using e
    subst this
    exact .cons n t (ints_of_get (by simpa using h) fun i m e => T (i + 1) m (by simpa using e))

abbrev qIn : Str := Str.ofString "_int2digits.<locals>.inner"
def digs (a n D : Nat) : List Int := (List.range D).map fun i => ((a / 2 ^ (n * i) % 2 ^ n : Nat) : Int)

theorem f63 {a n : Nat} (h : a < n) (h' : n ≤ 32) : (a : Int) < 2 ^ 63 := by omega
theorem sub3 {a b c : Nat} (h1 : a ≤ b) (h2 : b ≤ c) : b - a + (c - b) = c - a := by rw [Nat.add_comm]; exact Nat.sub_add_sub_cancel h2 h1
theorem mid_0 {a b : Nat} (h : a < b) (hk : b - a ≤ 2 ^ 0) : b = a + 1 := by omega
theorem mid_facts {Lf Rt k : Nat} (hlt : Lf < Rt) (h1 : ¬ Rt = Lf + 1) (hk : Rt - Lf ≤ 2 ^ (k + 1)) : ∃ mid, (Lf + Rt) / 2 ^ 1 = mid ∧ Lf < mid ∧ mid < Rt ∧ mid - Lf ≤ 2 ^ k ∧ Rt - mid ≤ 2 ^ k := by
  obtain ⟨p, rfl⟩ : ∃ p, Rt = Lf + p := ⟨Rt - Lf, by omega⟩
  have hp2 : 2 ^ (k + 1) = 2 * 2 ^ k := by rw [Nat.pow_succ, Nat.mul_comm]
  have e : (Lf + (Lf + p)) / 2 ^ 1 = Lf + p / 2 := by omega
  refine ⟨Lf + p / 2, e, ?_⟩
  clear e
  generalize hz : 2 ^ k = z at *
  clear hz
  omega
theorem mid_more {Lf Rt mid D : Nat} (hm1 : Lf < mid) (hm2 : mid < Rt) (hD : Rt ≤ D) (hD' : D ≤ 32) : mid - Lf < 2 ^ 64 ∧ Rt - Lf ≤ 32 ∧ mid - Lf ≤ 32 ∧ mid - Lf + (Rt - mid) = Rt - Lf ∧ mid ≤ D := by
  have q : mid ≤ 32 := Nat.le_trans (Nat.le_of_lt hm2) (Nat.le_trans hD hD')
  exact ⟨Nat.lt_of_le_of_lt (Nat.le_trans (Nat.sub_le _ _) q) (by decide), Nat.le_trans (Nat.sub_le _ _) (Nat.le_trans hD hD'), Nat.le_trans (Nat.sub_le _ _) q, sub3 (Nat.le_of_lt hm1) (Nat.le_of_lt hm2), Nat.le_trans (Nat.le_of_lt hm2) hD⟩
theorem D_of {a n D : Nat} (ha : 2 ^ (n * (D - 1)) ≤ a) (ha' : a < 2 ^ (n * D)) (hn : 1 ≤ n) (hD : 1 ≤ D) : ∃ b : Nat, Builtin.Int.intBits (a : Int) = b ∧ (b + n - 1) / n = D ∧ 1 ≤ b := by
  refine ⟨_, rfl, ?_, ?_⟩
  all_goals
    have h1 := bits_le ha'
    have h2 : n * (D - 1) + 1 ≤ Builtin.Int.intBits (a : Int) := by
      unfold Builtin.Int.intBits
      have hp := Nat.pow_pos (n := n * (D - 1)) (show 0 < 2 by decide)
      have hx : a ≠ 0 := by omega
      have e : ((a : Int) == 0) = false := by simpa using hx
      rw [e, Int.natAbs_natCast]
      have := (Nat.le_log2 hx).mpr ha
      simp only [Bool.false_eq_true, if_false]
      omega
  · obtain ⟨k, rfl⟩ : ∃ k, D = k + 1 := ⟨D - 1, by omega⟩
    rw [Nat.add_sub_cancel] at h2
    rw [Nat.mul_succ] at h1
    apply Nat.div_eq_of_lt_le
    · rw [Nat.mul_comm, Nat.mul_succ]; omega
    · rw [Nat.mul_comm, Nat.mul_succ, Nat.mul_succ]; omega
  · omega

section
variable {w : World} {A : Around} {s : Shared} {Q E : Value → Shared → Prop}

set_option maxHeartbeats 4000000 in
theorem int2digits_spec {B : Heap} (X : List Addr) {a n D : Nat} {ta tn : Tok} {d : Nat} (C : Cx w B) (hB : Kp B s.heap) (hcd : CodeHd B 55 51) (h51 : B.get? 51 = none) (T : Tb X 22 4 qIn s.heap) (R : Room A (d + 8)) (hX : ∀ b ∈ X, ∃ o, s.heap.get? b = some o)
    (ha : 2 ^ (n * (D - 1)) ≤ a) (ha' : a < 2 ^ (n * D)) (hn : 1 ≤ n) (hn' : n ≤ 1000) (hD : 1 ≤ D) (hD' : D ≤ 32)
    (hQ : ∀ l h' tk' ys, K51 s.heap h' → Tb X 22 4 qIn h' → h'.PlainList l ys.toArray → s.heap.objs.size ≤ l → IntsAre ys (digs a n D) → s.toks ≤ tk' → Q (.ref l) { s with heap := h', toks := tk' }) :
    wpAny (model PG w) A (call (.ref 56) [.int a ta, .int n tn]) Q E s := by
  refine enterC (d := d + 7) [(Str.ofString "a", .int a ta), (Str.ofString "n", .int n tn)] (C.keeps hB) R (by k_is) (by k_is) rfl rfl (fun h₁ tk htk F cells => ?_) rfl rfl rfl
  refine toksF (n := s.toks) htk (hideS fun gg drw oo Q0 hQ0 => ?_)
  have R' := R.deeper
  have c1 := cells (Str.ofString "n") _ rfl
  have c2 := cells (Str.ofString "a_digits") _ rfl
  have c3 := cells (Str.ofString "inner") _ rfl
  obtain ⟨b, hb, hbD, hb1⟩ := D_of ha ha' hn hD
  have C₁ := (C.keeps hB).keeps F.keep
  refine wpAny_execs_cons (wpAny_Assign_Name (wpAny_BinOp (List_ (spl1 (wpAny_Constant_int (new_list (Nat.le_of_ble_eq_true rfl) fun l1 h₂ hl10 hl1 K₂ hl1s => ?_))))))
  have n₂ := F.ns.keeps K₂
  have c1₂ := isCell_at c1 fun o e => K₂ _ o e
  refine wpAny_BinOp (wpAny_BinOp (wpAny_BinOp (bit_length0 (ldL n₂ rfl ⟨a, ta, rfl, ?_⟩))))
  refine ldC rfl c1₂ (wpAny_add_int (wpAny_Constant_int (AutoIntOps.sub_0 (ldC rfl c1₂ (floordiv_natE (x := b + n - 1) (y := n) (by rw [hb]; omega) rfl hn ?_ ?_)))))
  · rw [Int.natAbs_natCast]
    rcases Nat.eq_zero_or_pos n with h | h
    · omega
    · have := (Nat.log2_lt (n := n) (k := 10) (by omega)).mpr (by omega)
      omega
  rw [hbD]
  refine mul_list1 hl1 (by clear hb hbD hb1; omega) fun Dl h₃ hDl0 hDl K₃ hDls => ?_
  clear hb hbD hb1
  have c2₃ := isCell_at c2 fun o e => K₃ _ o (K₂ _ o e)
  refine wpAny_storeName_cell rfl rfl rfl c2₃ fun h₄ c2₄ S₄ => ?_
  dsimp only at hDl0 hDl K₃ hDls S₄ ⊢
  have h51L : 51 < s.heap.objs.size := by
    rcases T with h | ⟨c', h, _⟩
    · exact Heap.lt_size h
    · exact Heap.lt_size h
  have hLD : @LT.lt Nat _ (s.heap.objs.size + 3) Dl := by
    obtain ⟨o, ho, _⟩ := c3
    have h1 : @LT.lt Nat _ (s.heap.objs.size + 3) h₁.objs.size := Heap.lt_size ho
    have h2 : @LE.le Nat _ h₁.objs.size l1 := hl1s
    have h3 : @LT.lt Nat _ l1 h₂.objs.size := by obtain ⟨k, e⟩ := hl1; exact Heap.lt_size e
    have h4 : @LE.le Nat _ h₂.objs.size Dl := hDls
    omega
  have K₁₃ : Kp h₁ h₃ := fun b o e => K₃ b o (K₂ b o e)
  have kS : ∀ (b : Nat) o, b ≠ s.heap.objs.size + 2 → h₃.get? b = some o → h₄.get? b = some o := fun b o hb e => (S₄.2 b hb).trans e
  have hB₄ : Kp B h₄ := fun (b : Nat) o e => by
    have hb : @LT.lt Nat _ b s.heap.objs.size := Heap.lt_size (hB b o e)
    exact kS b o (by omega) (K₁₃ b o (F.keep b o (hB b o e)))
  have K04 : Kp s.heap h₄ := fun (b : Nat) o e => by
    have hb : @LT.lt Nat _ b s.heap.objs.size := Heap.lt_size e
    exact kS b o (by omega) (K₁₃ b o (F.keep b o e))
  have hDl₄ : h₄.PlainList Dl (List.replicate D (Value.int 0 tk)).toArray := hDl.at fun o e => kS _ o (by omega) e
  have c1₄ := isCell_at c1 fun o e => kS _ o (by omega) (K₁₃ _ o e)
  have c3₄ := isCell_at c3 fun o e => kS _ o (by omega) (K₁₃ _ o e)
  have n₄ := F.ns.at' fun o e => kS _ o (Nat.ne_of_lt (Nat.lt_add_of_pos_right (by decide))) (K₁₃ _ o e)
  refine wpAny_execs_cons (def_rule (qual := qIn) (clos := _) C hB₄ hcd h51 (T.keeps K04) (fun b hb => let ⟨o, e⟩ := hX b hb; ⟨o, K04 b o e⟩) rfl rfl rfl rfl rfl rfl rfl fun f fo c' ctv doc pm h₅ tk₅ hfo k₅ T₅ hc51 hrec₅ hf₅ hfge => ?_)
  dsimp only at k₅ hfge ⊢
  have c1₅ := isCell_at c1₄ fun o e => k₅ _ o (by show (s.heap.objs.size + 1 : Nat) ≠ 51; omega) e
  have c2₅ := isCell_at c2₄ fun o e => k₅ _ o (by show (s.heap.objs.size + 2 : Nat) ≠ 51; omega) e
  have c3₅ := isCell_at c3₄ fun o e => k₅ _ o (by show (s.heap.objs.size + 3 : Nat) ≠ 51; omega) e
  have n₅ := n₄.at' fun o e => k₅ _ o (Nat.ne_of_gt h51L) e
  have hD51 : (51 : Nat) < Dl := Nat.lt_trans h51L (Nat.lt_of_le_of_lt (Nat.le_add_right _ 3) hLD)
  have hDl₅ := hDl₄.at fun o e => k₅ _ o (Nat.ne_of_gt hD51) e
  refine wpAny_storeName_cell rfl rfl rfl c3₅ fun h₆ c3₆ S₆ => ?_
  dsimp only at S₆ ⊢
  have hDf : @LT.lt Nat _ Dl f := by
    obtain ⟨k, e⟩ := hDl₄
    have h1 : @LT.lt Nat _ Dl h₄.objs.size := Heap.lt_size e
    have h2 : @LE.le Nat _ h₄.objs.size f := hfge
    omega
  have k₆ : ∀ (b : Nat) o, b ≠ s.heap.objs.size + 3 → h₅.get? b = some o → h₆.get? b = some o := fun b o hb e => (S₆.2 b hb).trans e
  have c1₆ := isCell_at c1₅ fun o e => k₆ _ o (by omega) e
  have c2₆ := isCell_at c2₅ fun o e => k₆ _ o (by omega) e
  have n₆ := n₅.at' fun o e => k₆ _ o (Nat.ne_of_lt (Nat.lt_add_of_pos_right (by decide))) e
  have hDl₆ := hDl₅.at fun o e => k₆ _ o (by omega) e
  have hf₆ := k₆ _ _ (by omega) hf₅
  have hc'D : (c' : Nat) ≠ Dl := by
    intro q
    obtain ⟨c'', o, vs, t, e, ho, hd', _⟩ := hrec₅
    cases e
    obtain ⟨k, e⟩ := hDl₅
    rw [q, e] at ho
    cases ho
    cases hd'
  have hc'3 : (c' : Nat) ≠ s.heap.objs.size + 3 := by
    intro q
    obtain ⟨c'', o, vs, t, e, ho, hd', _⟩ := hrec₅
    cases e
    obtain ⟨o', ho', hd''⟩ := c3₅
    rw [q, ho'] at ho
    cases ho
    rw [hd''] at hd'
    cases hd'
  have hrec₆ := codeRec_kp hrec₅ fun _ o e => k₆ _ o hc'3 e
  have hB₆ : Kp B h₆ := fun (b : Nat) o e => by
    have hb : @LT.lt Nat _ b s.heap.objs.size := Heap.lt_size (hB b o e)
    exact k₆ b o (by omega) (k₅ b o (fun q => by rw [q, h51] at e; cases e) (hB₄ b o e))
  have T₆ : Tb X 22 4 qIn h₆ := by
    rcases T₅ with h | ⟨c'', h, h2, h3, hz⟩
    · exact .inl (k₆ _ _ (by omega) h)
    · refine .inr ⟨c'', k₆ _ _ (by omega) h, h2, codeRec_kp h3 (fun _ o e => k₆ _ o (fun q => ?_) e), hz⟩
      obtain ⟨o', ho', hd''⟩ := c3₅
      obtain ⟨c3', o3, vs, t, e3, ho3, hd3, _⟩ := h3
      cases e3
      rw [q, ho'] at ho3
      cases ho3
      rw [hd''] at hd3
      cases hd3
  have nl : ∀ h, Kp B h → h.NoLimit := fun h k => by
    obtain ⟨p, loose, mean, mg, mb, TT⟩ := C.T
    exact TT.nolimit.keeps k
  have leaf : ∀ (A' : Around) (s' : Shared) (x Lf : Nat) (tx tl tr : Tok) (ys : List Value) (Q' : Value → Shared → Prop), Room A' 1 →
      (Kp B s'.heap ∧ s'.heap.get? f = some fo ∧ s'.heap.CodeRec (.ref c') qIn ∧ s'.heap.IsCell (s.heap.objs.size + 1) (some (.int n tn)) ∧ s'.heap.IsCell (s.heap.objs.size + 2) (some (.ref Dl)) ∧ s'.heap.IsCell (s.heap.objs.size + 3) (some (.ref f))) →
      s'.heap.PlainList Dl ys.toArray → ys.length = D → (Lf + 1) ≤ D → x < 2 ^ (n * ((Lf + 1) - Lf)) →
      (∀ (h' : Heap) (tk' : Nat) (ys' : List Value), (∀ b o, b ≠ Dl → s'.heap.get? b = some o → h'.get? b = some o) → h'.PlainList Dl ys'.toArray → ys'.length = D → (∀ i : Nat, i < Lf ∨ (Lf + 1) ≤ i → ys'[i]? = ys[i]?) →
        (∀ i : Nat, Lf ≤ i → i < (Lf + 1) → ∃ t, ys'[i]? = some (.int ((x / 2 ^ (n * (i - Lf)) % 2 ^ n : Nat) : Int) t)) → Q' .none { s' with heap := h', toks := tk' }) →
      wpAny (model PG w) A' (call (.ref f) [.int x tx, .int Lf tl, .int (Lf + 1 : Nat) tr]) Q' FF s' := by
    rintro A' s' x Lf tx tl tr ys Q' R₁ ⟨i1, i2, i3, i4, i5, i6⟩ hys hlen hRD hx hQ'
    refine enterF (d := 0) [(Str.ofString "x", .int x tx), (Str.ofString "L", .int Lf tl), (Str.ofString "R", .int (Lf + 1 : Nat) tr)] (nl _ i1) R₁ i2 hfo i3 rfl rfl (fun h₇ F₇ => hideS fun gg drw oo Q1 hQ1 => ?_) rfl rfl rfl rfl
    refine wpAny_execs_cons (wpAny_If (wpAny_isTrue_Compare1 (wpAny_BinOp (ldL F₇.ns rfl (wpAny_Constant_int (wpAny_add_int (ldL F₇.ns rfl (wpAny_eq_int (wpAny_truthy_bool ?_)))))))))
    have e1 : ((Lf : Int) + 1 == ((Lf + 1 : Nat) : Int)) = true := by rw [beq_iff_eq]; omega
    rw [e1]
    simp only [if_true]
    have hys₇ := hys.at fun o e => F₇.keep _ o e
    have hlt63 : (Lf : Int) < 2 ^ 63 := f63 (Nat.lt_of_lt_of_le (Nat.lt_succ_self _) hRD) hD'
    refine wpAny_execs_cons (wpAny_Assign_Subscript (ldL F₇.ns rfl (ldX rfl (isCell_at i5 fun o e => F₇.keep _ o e) (ldL F₇.ns rfl (setItem_plain hys₇ (Int.natCast_nonneg Lf) hlt63 (by simp only [List.size_toArray]; rw [hlen]; exact Int.ofNat_lt.mpr hRD) fun h₈ hys₈ S₈ => ?_)))))
    dsimp only
    refine wpAny_execs_cons (wpAny_Return_none ?_)
    dsimp only
    refine hQ1 (hQ' h₈ _ (ys.set Lf (.int x tx)) (fun b o hb e => (S₈.2 b hb).trans (F₇.keep b o e)) (by simpa using hys₈) (by simp [hlen]) (fun i hi => ?_) fun i hi1 hi2 => ?_)
    · rw [List.getElem?_set]
      rw [if_neg (by omega)]
    · have : i = Lf := by omega
      subst this
      refine ⟨tx, ?_⟩
      rw [List.getElem?_set]
      rw [if_pos rfl, if_pos (by omega)]
      have e2 : x / 2 ^ (n * (i - i)) % 2 ^ n = x := by
        rw [Nat.sub_self, Nat.mul_zero, Nat.pow_zero, Nat.div_one]
        apply Nat.mod_eq_of_lt
        rw [show i + 1 - i = 1 by omega, Nat.mul_one] at hx
        exact hx
      rw [e2]
  have inner : ∀ (k : Nat) (A' : Around) (s' : Shared) (x Lf Rt : Nat) (tx tl tr : Tok) (ys : List Value) (Q' : Value → Shared → Prop), Room A' (k + 1) →
      (Kp B s'.heap ∧ s'.heap.get? f = some fo ∧ s'.heap.CodeRec (.ref c') qIn ∧ s'.heap.IsCell (s.heap.objs.size + 1) (some (.int n tn)) ∧ s'.heap.IsCell (s.heap.objs.size + 2) (some (.ref Dl)) ∧ s'.heap.IsCell (s.heap.objs.size + 3) (some (.ref f))) →
      s'.heap.PlainList Dl ys.toArray → ys.length = D → Lf < Rt → Rt ≤ D → Rt - Lf ≤ 2 ^ k → x < 2 ^ (n * (Rt - Lf)) →
      (∀ (h' : Heap) (tk' : Nat) (ys' : List Value), (∀ b o, b ≠ Dl → s'.heap.get? b = some o → h'.get? b = some o) → h'.PlainList Dl ys'.toArray → ys'.length = D → (∀ i : Nat, i < Lf ∨ Rt ≤ i → ys'[i]? = ys[i]?) →
        (∀ i : Nat, Lf ≤ i → i < Rt → ∃ t, ys'[i]? = some (.int ((x / 2 ^ (n * (i - Lf)) % 2 ^ n : Nat) : Int) t)) → Q' .none { s' with heap := h', toks := tk' }) →
      wpAny (model PG w) A' (call (.ref f) [.int x tx, .int Lf tl, .int Rt tr]) Q' FF s' := by
    intro k
    induction k with
    | zero =>
      intro A' s' x Lf Rt tx tl tr ys Q' R₁ i hys hlen hlt hRD hk hx hQ'
      have hR1 : Rt = Lf + 1 := mid_0 hlt hk
      subst hR1
      exact leaf A' s' x Lf tx tl tr ys Q' R₁ i hys hlen hRD hx hQ'
    | succ k ih =>
      intro A' s' x Lf Rt tx tl tr ys Q' R₁ i hys hlen hlt hRD hk hx hQ'
      by_cases h1 : Rt = Lf + 1
      · subst h1
        exact leaf A' s' x Lf tx tl tr ys Q' (R₁.less (Nat.le_add_left _ _)) i hys hlen hRD hx hQ'
      obtain ⟨i1, i2, i3, i4, i5, i6⟩ := i
      refine enterF (d := k + 1) [(Str.ofString "x", .int x tx), (Str.ofString "L", .int Lf tl), (Str.ofString "R", .int Rt tr)] (nl _ i1) R₁ i2 hfo i3 rfl rfl (fun h₇ F₇ => hideS fun gg drw oo Q1 hQ1 => ?_) rfl rfl rfl rfl
      have R₂ := R₁.deeper
      refine wpAny_execs_cons (wpAny_If (wpAny_isTrue_Compare1 (wpAny_BinOp (ldL F₇.ns rfl (wpAny_Constant_int (wpAny_add_int (ldL F₇.ns rfl (wpAny_eq_int (wpAny_truthy_bool ?_)))))))))
      have e1 : ((Lf : Int) + 1 == (Rt : Int)) = false := by rw [beq_eq_false_iff_ne]; omega
      rw [e1]
      simp only [Bool.false_eq_true, if_false]
      refine wpAny_execs_nil ?_
      dsimp only
      obtain ⟨mid, hmid, hm1, hm2, hm3, hm4⟩ := mid_facts hlt h1 hk
      obtain ⟨mf1, mf2, mf3, mf4, mf5⟩ := mid_more hm1 hm2 hRD hD'
      have hDs' : @LT.lt Nat _ Dl s'.heap.objs.size := by obtain ⟨kk, e⟩ := hys; exact Heap.lt_size e
      have i4₇ := isCell_at i4 fun o e => F₇.keep _ o e
      refine wpAny_execs_cons (wpAny_Assign_Name (wpAny_BinOp (wpAny_BinOp (ldL F₇.ns rfl (ldL F₇.ns rfl (wpAny_add_int (wpAny_Constant_int (rshift_natE (x := Lf + Rt) (k := 1) rfl rfl (stE F₇ fun h₈ F₈ _ => ?_)))))))))
      dsimp only at F₈ ⊢
      rw [hmid] at F₈
      clear hmid
      have i4₈ := isCell_at i4 fun o e => F₈.keep _ o e
      refine wpAny_execs_cons (wpAny_Assign_Name (wpAny_BinOp (wpAny_BinOp (ldL F₈.ns rfl (ldL F₈.ns rfl (AutoIntOps.sub_0 (ldX rfl i4₈ (mul_natE (x := mid - Lf) (y := n) (Int.ofNat_sub (Nat.le_of_lt hm1)).symm rfl mf1 (stE F₈ fun h₉ F₉ _ => ?_)))))))))
      dsimp only at F₉ ⊢
      refine wpAny_execs_cons (wpAny_Assign_Name (wpAny_BinOp (ldL F₉.ns rfl (ldL F₉.ns rfl (rshift_natE (x := x) (k := (mid - Lf) * n) rfl rfl (stE F₉ fun h₁₀ F₁₀ _ => ?_))))))
      dsimp only at F₁₀ ⊢
      have hsz : n * (Rt - Lf) + (mid - Lf) * n ≤ 2 ^ 27 := by
        have : n * (Rt - Lf) ≤ 1000 * 32 := Nat.mul_le_mul hn' mf2
        have : (mid - Lf) * n ≤ 32 * 1000 := Nat.mul_le_mul mf3 hn'
        omega
      refine wpAny_execs_cons (wpAny_Assign_Name (wpAny_BinOp (ldL F₁₀.ns rfl (wpAny_BinOp (ldL F₁₀.ns rfl (ldL F₁₀.ns rfl (lshift_natE (x := x / 2 ^ ((mid - Lf) * n)) (k := (mid - Lf) * n) (n := n * (Rt - Lf)) rfl rfl (Nat.lt_of_le_of_lt (Nat.div_le_self _ _) hx) hsz
        (xor_lowE (x := x) (k := (mid - Lf) * n) rfl rfl (stE F₁₀ fun h₁₁ F₁₁ _ => ?_)))))))))
      dsimp only at F₁₁ ⊢
      have hxm : x % 2 ^ ((mid - Lf) * n) < 2 ^ (n * (mid - Lf)) := by rw [Nat.mul_comm n]; exact Nat.mod_lt _ (Nat.pow_pos (by decide))
      have hxd : x / 2 ^ ((mid - Lf) * n) < 2 ^ (n * (Rt - mid)) := by
        apply Nat.div_lt_of_lt_mul
        rw [← Nat.pow_add, show (mid - Lf) * n + n * (Rt - mid) = n * (Rt - Lf) by rw [Nat.mul_comm _ n, ← Nat.mul_add]; rw [mf4]]
        exact hx
      have fD : f ≠ Dl := Nat.ne_of_gt hDf
      have fnAt : ∀ h, h.get? f = some fo → FnAt f h := fun h e => by
        obtain ⟨oc, od, dt, sl⟩ := fo
        dsimp only at hfo
        subst hfo
        exact ⟨oc, od, _, sl, e⟩
      have B₁₁ : Kp B h₁₁ := fun b o e => F₁₁.keep b o (i1 b o e)
      have f₁₁ := F₁₁.keep _ _ i2
      have i3₁₁ := codeRec_kp i3 fun _ o e => F₁₁.keep _ o e
      have i4₁₁ := isCell_at i4 fun o e => F₁₁.keep _ o e
      have i5₁₁ := isCell_at i5 fun o e => F₁₁.keep _ o e
      have i6₁₁ := isCell_at i6 fun o e => F₁₁.keep _ o e
      have hys₁₁ := hys.at fun o e => F₁₁.keep _ o e
      refine wpAny_execs_cons (wpAny_Expr (callN (fnAt _ f₁₁) (fun Q'' hq => ldX rfl i6₁₁ hq) (spl3 (ldL F₁₁.ns rfl (ldL F₁₁.ns rfl (ldL F₁₁.ns rfl ⟨fnAt _ f₁₁, ih _ _ _ Lf mid _ _ _ ys _ (R₂ _) ⟨B₁₁, f₁₁, i3₁₁, i4₁₁, i5₁₁, i6₁₁⟩ hys₁₁ hlen hm1 mf5 hm3 hxm ?_⟩))))))
      intro h₁₂ tk₁₂ ys' k₁₂ hys₁₂ hlen' ho hi
      dsimp only at k₁₂ ⊢
      have hG : (hideAll s'.heap [Dl]).get? Dl = none := hideAll_none _ (List.mem_singleton.mpr rfl)
      have FG : Fr (hideAll s'.heap [Dl]) s'.heap.objs.size h₁₁ _ := ⟨F₁₁.ns, fun b o e => F₁₁.keep b o (of_hideAll _ e), Nat.le_trans (Nat.le_of_eq (hideAll_size _ _)) F₁₁.above⟩
      have F₁₂ := frBut FG hG (Nat.ne_of_gt hDs') k₁₂
      have hDB : B.get? Dl = none := by
        cases e : B.get? Dl with
        | none => rfl
        | some o =>
          have h1 : @LT.lt Nat _ Dl s.heap.objs.size := Heap.lt_size (hB _ _ e)
          exact absurd (Nat.lt_trans h1 (Nat.lt_of_le_of_lt (Nat.le_add_right _ 3) hLD)) (Nat.lt_irrefl _)
      have f₁₂ := k₁₂ _ _ fD f₁₁
      have B₁₂ : Kp B h₁₂ := fun b o e => k₁₂ b o (fun q => by rw [q, hDB] at e; cases e) (B₁₁ b o e)
      have i3₁₂ := codeRec_kp i3₁₁ fun _ o e => k₁₂ _ o hc'D e
      have i4₁₂ := isCell_at i4₁₁ fun o e => k₁₂ _ o (Nat.ne_of_lt (Nat.lt_of_le_of_lt (Nat.add_le_add_left (by decide) _) hLD)) e
      have i5₁₂ := isCell_at i5₁₁ fun o e => k₁₂ _ o (Nat.ne_of_lt (Nat.lt_of_le_of_lt (Nat.add_le_add_left (by decide) _) hLD)) e
      have i6₁₂ := isCell_at i6₁₁ fun o e => k₁₂ _ o (Nat.ne_of_lt (Nat.lt_of_le_of_lt (Nat.add_le_add_left (by decide) _) hLD)) e
      refine wpAny_execs_cons (wpAny_Expr (callN (fnAt _ f₁₂) (fun Q'' hq => ldX rfl i6₁₂ hq) (spl3 (ldL F₁₂.ns rfl (ldL F₁₂.ns rfl (ldL F₁₂.ns rfl ⟨fnAt _ f₁₂, ih _ _ _ mid Rt _ _ _ ys' _ (R₂ _) ⟨B₁₂, f₁₂, i3₁₂, i4₁₂, i5₁₂, i6₁₂⟩ hys₁₂ hlen' hm2 hRD hm4 hxd ?_⟩))))))
      intro h₁₃ tk₁₃ ys'' k₁₃ hys₁₃ hlen'' ho' hi'
      dsimp only at k₁₃ ⊢
      refine wpAny_execs_nil ?_
      skip
      refine hQ1 (hQ' h₁₃ _ ys'' (fun b o hb e => k₁₃ b o hb (k₁₂ b o hb (F₁₁.keep b o e))) hys₁₃ hlen'' (fun i hi0 => ?_) fun i hi1 hi2 => ?_)
      · rw [ho' i (hi0.imp_left fun q => Nat.lt_trans q hm1), ho i (hi0.imp_right fun q => Nat.le_trans (Nat.le_of_lt hm2) q)]
      · by_cases him : i < mid
        · obtain ⟨t, e⟩ := hi i hi1 him
          refine ⟨t, ?_⟩
          rw [ho' i (.inl him), e, low_digit]
          have : n * (i - Lf) + n = n * (i - Lf + 1) := by rw [Nat.mul_succ]
          rw [this, Nat.mul_comm (mid - Lf)]
          exact Nat.mul_le_mul_left _ (Nat.sub_lt_sub_right hi1 him)
        · obtain ⟨t, e⟩ := hi' i (Nat.le_of_not_lt him) hi2
          refine ⟨t, ?_⟩
          rw [e, high_digit]
          have : (mid - Lf) * n + n * (i - mid) = n * (i - Lf) := by rw [Nat.mul_comm _ n, ← Nat.mul_add]; rw [sub3 (Nat.le_of_lt hm1) (Nat.le_of_not_lt him)]
          rw [this]
  have c1i := c1₆
  have hane : ((a : Int) != 0) = true := by
    have hp := Nat.pow_pos (n := n * (D - 1)) (show 0 < 2 by decide)
    simp
    omega
  refine wpAny_execs_cons (wpAny_If (wpAny_isTrue_value (ldL n₆ rfl (PyProof.Rows.truthy_int ?_))))
  rw [hane]
  simp only [if_true]
  have fnAt : ∀ h, h.get? f = some fo → FnAt f h := fun h e => by
    obtain ⟨oc, od, dt, sl⟩ := fo
    dsimp only at hfo
    subst hfo
    exact ⟨oc, od, _, sl, e⟩
  have C₆ := C.keeps hB₆
  refine wpAny_execs_cons (wpAny_Expr (callN (fnAt _ hf₆) (fun Q'' hq => ldC rfl c3₆ hq) (spl3 (ldL n₆ rfl (wpAny_Constant_int (len1 C₆ (ldC rfl c2₆ ⟨Dl, List.replicate D (Value.int 0 tk), rfl, hDl₆.isList, by simp; omega, fun t7 tk7 _ _ => ⟨fnAt _ hf₆, ?_⟩⟩)))))))
  rw [List.length_replicate]
  have hD0 : D - 0 ≤ 2 ^ 5 := by omega
  refine inner 5 _ _ a 0 D _ _ _ (List.replicate D (Value.int 0 tk)) _ ((R' _).less (by omega)) ⟨hB₆, hf₆, hrec₆, c1₆, c2₆, c3₆⟩ hDl₆ (by simp) (by omega) (Nat.le_refl _) hD0 (by simpa using ha') ?_
  intro h₇ tk₇ ys' k₇ hys₇ hlen₇ _ hi₇
  dsimp only at k₇ ⊢
  refine wpAny_execs_nil ?_
  dsimp only
  have c2₇ := isCell_at c2₆ fun o e => k₇ (s.heap.objs.size + 2) o (Nat.ne_of_lt (Nat.lt_of_le_of_lt (Nat.add_le_add_left (by decide) _) hLD)) e
  refine wpAny_execs_cons (wpAny_Return_some (ldC rfl c2₇ (hQ0 fun hle => ?_)))
  refine hQ Dl h₇ _ ys' (fun b o hb e => ?_) (T₆.but hDl₆ k₇) hys₇ ?_ ?_ hle
  · have hbl : @LT.lt Nat _ b s.heap.objs.size := Heap.lt_size e
    exact k₇ b o (Nat.ne_of_lt (Nat.lt_trans hbl (Nat.lt_of_le_of_lt (Nat.le_add_right _ 3) hLD))) (k₆ b o (Nat.ne_of_lt (Nat.lt_of_lt_of_le hbl (Nat.le_add_right _ 3))) (k₅ b o hb (K04 b o e)))
  · exact Nat.le_of_lt (Nat.lt_of_le_of_lt (Nat.le_add_right _ 3) hLD)
  · refine ints_of_get (by simp [digs, hlen₇]) fun i m hm => ?_
    unfold digs at hm
    rw [List.getElem?_map] at hm
    by_cases hiD : i < D
    · rw [List.getElem?_range hiD] at hm
      cases hm
      exact hi₇ i (Nat.zero_le _) hiD
    · rw [List.getElem?_eq_none (by simpa using hiD)] at hm
      cases hm
end
end Mine

-- MB15
namespace Mine
section
variable {w : World} {A : Around} {s : Shared} {env : Env}

/-- what a turn leaves (the heap told freely) -/
def TurnH (L : Addr) (fp : List Addr) (J : Nat → Heap → (Str → Option Value) → Prop) (s₁ : Shared) (R : Flow → Shared → Prop) (f : Flow) (s₂ : Shared) : Prop :=
  match f with
  | .ret v => R (.ret v) s₂
  | .brk => R .next s₂
  | _ => ∃ h' tk m', s₂ = { s₁ with heap := h', toks := tk } ∧ (∀ b ∈ fp, ∀ o, s₁.heap.get? b = some o → h'.get? b = some o) ∧ h'.Ns L m' ∧ J tk h' m'

theorem forLoop_H {R : Result → Shared → Prop} {x : Str} {px : Pos} {body : List Stmt} {I : Addr} {fp wr : List Addr} {n : Nat} {P : Nat → Value → Nat → Nat → Prop} {St : Nat → Heap → Prop} {m : Str → Option Value}
    (W : Wk w A I fp wr n P St) (hx : env.kindOf x = some .local) (hp : (env.scope.kind == .class || (env.scope.kind == .module && env.locals != env.globals)) = false)
    (hLf : env.locals ∉ fp) (hst : St 0 s.heap) (hns : s.heap.Ns env.locals m)
    (J : Nat → Nat → Heap → (Str → Option Value) → Prop) (hJ : ∀ i tk tk' h h' m, tk ≤ tk' → (∀ b o, b ∉ wr → b ≠ env.locals → h.get? b = some o → h'.get? b = some o) → J i tk h m → J i tk' h' m) (h0 : J 0 s.toks s.heap m)
    (step : ∀ i v m₁ h tk, i < n → (∃ lo hi, s.toks ≤ lo ∧ hi ≤ tk ∧ P i v lo hi) → s.toks ≤ tk → J i tk h m₁ → (∀ b ∈ fp, ∃ o, h.get? b = some o) → St (i + 1) h → h.Ns env.locals (fun y => if y = x then some v else m₁ y) →
      wpAny (model PG w) A (execs body env) (TurnH env.locals fp (J (i + 1)) { s with heap := h, toks := tk } fun f s' => R (.ok f) s') FF { s with heap := h, toks := tk })
    (hR : ∀ h' tk m', s.toks ≤ tk → h'.Ns env.locals m' → J n tk h' m' → R (.ok .next) { s with heap := h', toks := tk }) :
    codeAny (model PG w) A (.forLoop (.Name x px) (.ref I) body [] env) R s := by
  have hLw : env.locals ∉ wr := fun h => hLf (W.sub _ h)
  refine codeAny_forLoop
    (fun k s' => ∃ h' tk m' i, s' = { s with heap := h', toks := tk } ∧ s.toks ≤ tk ∧ St i h' ∧ h'.Ns env.locals m' ∧ J i tk h' m' ∧ i ≤ n ∧ k = n + 1 - i) ?_ (n + 1)
    ⟨s.heap, s.toks, m, 0, rfl, Nat.le_refl _, hst, hns, h0, Nat.zero_le _, rfl⟩
  rintro k s' ⟨h', tk, m', i, rfl, htk, hst', hn', hj, hi, rfl⟩
  by_cases hlt : i < n
  · refine mono_ff (W.item i _ _ hlt hst' fun v h₁ tk₁ htk₁ hP hst₁ hk₁ => ?_)
    have hn₁ := hn'.at' fun o e => hk₁ _ o hLw e
    refine wpAny_assign_Name (wpAny_storeName_local hx hn₁ (fun h₂ hn₂ hs₂ => ?_) hp)
    have hst₂ : St (i + 1) h₂ := W.frame _ _ _ hst₁ fun b hb o e => (hs₂.2 b fun q => hLf (q ▸ hb)).trans e
    have htk' : tk ≤ tk₁ := htk₁
    refine mono_ff (wpAny_mono (wpAny_toks_of (n := tk₁ + 1) (Nat.le_refl _) (step i v m' h₂ (tk₁ + 1) hlt ⟨tk, tk₁, htk, Nat.le_succ _, hP⟩ (by omega)
      (hJ _ _ _ _ _ _ (by omega) (fun b o hb hL e => (hs₂.2 b hL).trans (hk₁ b o hb e)) hj) (W.live _ _ hst₂) hst₂ hn₂)) (fun f s₃ h₃ => ?_) fun _ _ e => e.2)
    obtain ⟨htk₃, h₃⟩ := h₃
    have fin : (∃ h' tk m', s₃ = { s with heap := h', toks := tk } ∧ (∀ b ∈ fp, ∀ o, h₂.get? b = some o → h'.get? b = some o) ∧ h'.Ns env.locals m' ∧ J (i + 1) tk h' m') →
        ∃ m, m < n + 1 - i ∧ ∃ h' tk m' i, s₃ = { s with heap := h', toks := tk } ∧ s.toks ≤ tk ∧ St i h' ∧ h'.Ns env.locals m' ∧ J i tk h' m' ∧ i ≤ n ∧ m = n + 1 - i := by
      rintro ⟨h₃', tk₃, m₂, rfl, hk₃, hn₃, hJ₃⟩
      refine ⟨n + 1 - (i + 1), meas hlt, h₃', tk₃, m₂, i + 1, rfl, ?_, W.frame _ _ _ hst₂ hk₃, hn₃, hJ₃, hlt, rfl⟩
      have : tk₁ + 1 ≤ tk₃ := htk₃
      omega
    cases f with
    | ret v => exact h₃
    | brk => exact h₃
    | cont => exact fin h₃
    | next => exact fin h₃
  · have hin : i = n := by omega
    subst hin
    refine mono_ff (W.done _ _ hst' fun h₁ tk₁ htk₁ hk₁ => wpAny_execs_nil ?_)
    have htk' : tk ≤ tk₁ := htk₁
    exact hR h₁ tk₁ m' (by omega) (hn'.at' fun o e => hk₁ _ o hLw e) (hJ _ _ _ _ _ _ htk' (fun b o hb _ e => hk₁ b o hb e) hj)

/-- for x in a list, the heap told freely: J of what is not at I nor at the names' table -/
theorem iterH_list {R : Result → Shared → Prop} {x : Str} {px : Pos} {body : List Stmt} {l : Addr} {vs : List Value} {m : Str → Option Value}
    (hh : A.handled = none) (hx : env.kindOf x = some .local) (hp : (env.scope.kind == .class || (env.scope.kind == .module && env.locals != env.globals)) = false)
    (hl : s.heap.IsList l vs.toArray) (hlL : l ≠ env.locals) (hns : s.heap.Ns env.locals m)
    (J : Addr → Nat → Nat → Heap → (Str → Option Value) → Prop) (hJ : ∀ I i tk tk' h h' m, tk ≤ tk' → (∀ b o, b ≠ I → b ≠ env.locals → h.get? b = some o → h'.get? b = some o) → J I i tk h m → J I i tk' h' m) (h0 : ∀ I, s.heap.objs.size ≤ I → J I 0 s.toks s.heap m)
    (step : ∀ I i v m₁ h tk, vs[i]? = some v → s.toks ≤ tk → J I i tk h m₁ → (∃ o, h.get? I = some o) → s.heap.objs.size ≤ I → h.IsList l vs.toArray → h.Ns env.locals (fun y => if y = x then some v else m₁ y) →
      wpAny (model PG w) A (execs body env) (TurnH env.locals [I, l] (J I (i + 1)) { s with heap := h, toks := tk } fun f s' => R (.ok f) s') FF { s with heap := h, toks := tk })
    (hR : ∀ I h' tk m', s.heap.objs.size ≤ I → s.toks ≤ tk → h'.Ns env.locals m' → J I vs.length tk h' m' → R (.ok .next) { s with heap := h', toks := tk }) :
    wpAny (model PG w) A (pyIter (.ref l)) (fun it s₂ => codeAny (model PG w) A (.forLoop (.Name x px) it body [] env) R s₂) FF s := by
  obtain ⟨ol, hol, _⟩ := id hl
  have hne : l ≠ s.heap.objs.size := Nat.ne_of_lt (Heap.lt_size hol)
  have hLlt := hns.lt
  refine wpAny_pyIter_list hl ?_
  have W := Wk.list (w := w) hh s.heap.objs.size l hne vs.toArray
  rw [List.size_toArray] at W
  refine forLoop_H W hx hp ?_ ⟨⟨_, Heap.get?_push_size _ rfl, rfl, rfl⟩, hl.at fun o e => Heap.get?_push_of_some _ e⟩ (hns.push _) (J s.heap.objs.size) ?_ ?_ ?_ ?_
  · intro hm
    rcases List.mem_cons.mp hm with q | q
    · exact absurd hLlt (q ▸ Nat.lt_irrefl _)
    · exact hlL (List.mem_singleton.mp q).symm
  · intro i tk tk' h h' m htk hk hj
    exact hJ _ _ _ _ _ _ _ htk (fun b o hb hL e => hk b o (fun q => hb (List.mem_singleton.mp q)) hL e) hj
  · exact hJ _ _ _ _ _ _ _ (Nat.le_refl _) (fun b o _ _ e => Heap.get?_push_of_some _ e) (h0 _ (Nat.le_refl _))
  · rintro i v m₁ h tk hi ⟨lo, hi', _, _, hP⟩ htk hj hlive st hn
    exact step s.heap.objs.size i v m₁ h tk (by simpa using hP) htk hj (hlive _ (.head _)) (Nat.le_refl _) st.2 hn
  · intro h' tk m' htk hn' hj
    exact hR _ h' tk m' (Nat.le_refl _) htk hn' hj

/-- for x in range(a, b, c), the heap told freely -/
theorem iterH_range {R : Result → Shared → Prop} {x : Str} {px : Pos} {body : List Stmt} {r : Addr} {a b c : Int} {t u v : Tok} {n : Nat} {m : Str → Option Value}
    (hh : A.handled = none) (hx : env.kindOf x = some .local) (hp : (env.scope.kind == .class || (env.scope.kind == .module && env.locals != env.globals)) = false)
    (hr : IsRange s.heap r a b c t u v) (hsmall : Builtin.Range.small a b c = true) (hn : Builtin.Range.rangeSize a b c = (n : Int)) (hns : s.heap.Ns env.locals m)
    (J : Addr → Nat → Nat → Heap → (Str → Option Value) → Prop) (hJ : ∀ I i tk tk' h h' m, tk ≤ tk' → (∀ b o, b ≠ I → b ≠ env.locals → h.get? b = some o → h'.get? b = some o) → J I i tk h m → J I i tk' h' m) (h0 : ∀ I, s.heap.objs.size ≤ I → J I 0 s.toks s.heap m)
    (step : ∀ I i t m₁ h tk, i < n → s.toks ≤ tk → J I i tk h m₁ → (∃ o, h.get? I = some o) → s.heap.objs.size ≤ I → h.Ns env.locals (fun y => if y = x then some (.int (a + i * c) t) else m₁ y) →
      wpAny (model PG w) A (execs body env) (TurnH env.locals [I] (J I (i + 1)) { s with heap := h, toks := tk } fun f s' => R (.ok f) s') FF { s with heap := h, toks := tk })
    (hR : ∀ I h' tk m', s.heap.objs.size ≤ I → s.toks ≤ tk → h'.Ns env.locals m' → J I n tk h' m' → R (.ok .next) { s with heap := h', toks := tk }) :
    wpAny (model PG w) A (pyIter (.ref r)) (fun it s₂ => codeAny (model PG w) A (.forLoop (.Name x px) it body [] env) R s₂) FF s := by
  have hLlt := hns.lt
  refine wpAny_pyIter_range hr hsmall ?_
  refine forLoop_H (Wk.range (w := w) hh s.heap.objs.size a c n) hx hp ?_ (by show IsRangeIter _ _ _ _ _; rw [hn]; simpa using Heap.get?_push_size _ rfl) (hns.push _) (J s.heap.objs.size) ?_ ?_ ?_ ?_
  · intro hm
    exact absurd hLlt ((List.mem_singleton.mp hm) ▸ Nat.lt_irrefl _)
  · intro i tk tk' h h' m htk hk hj
    exact hJ _ _ _ _ _ _ _ htk (fun b o hb hL e => hk b o (fun q => hb (List.mem_singleton.mp q)) hL e) hj
  · exact hJ _ _ _ _ _ _ _ (Nat.le_refl _) (fun b o _ _ e => Heap.get?_push_of_some _ e) (h0 _ (Nat.le_refl _))
  · rintro i v m₁ h tk hi ⟨lo, hi', _, _, t, rfl, _, _⟩ htk hj hlive st hn'
    exact step s.heap.objs.size i t m₁ h tk hi htk hj (hlive _ (.head _)) (Nat.le_refl _) hn'
  · intro h' tk m' htk hn' hj
    exact hR _ h' tk m' (Nat.le_refl _) htk hn' hj

/-- for x in xv, in any frame -/
theorem for_H {x : Str} {px pos : Pos} {iter : Expr} {body : List Stmt} {Q : Flow → Shared → Prop}
    (h : wpAny (model PG w) A (eval iter env) (fun xv s₁ => wpAny (model PG w) A (pyIter xv) (fun it s₂ => codeAny (model PG w) A (.forLoop (.Name x px) it body [] env) (fun r s' => match r with | .ok f => Q f s' | .error _ => False) s₂) FF s₁) FF s)
    (hs : ∀ x, foldedSetIterable iter env x = pure x := by intro _; rfl) :
    wpAny (model PG w) A (exec (.For (.Name x px) iter body [] pos) env) Q FF s := by
  refine wpAny_For (wpAny_mono h (fun xv s₁ h₁ => wpAny_mono h₁ (fun it s₂ h₂ => ?_) fun _ _ e => e) fun _ _ e => e) hs
  exact codeAny_mono h₂ fun r s' q => by
    cases r with
    | ok f => exact q
    | error e => exact q.elim
end
end Mine

-- MB16
namespace Mine
section
variable {w : World} {A : Around} {s : Shared} {env : Env} {E : Value → Shared → Prop}

/-- l.append(x) -/
theorem append_plain {l : Addr} {vs : List Value} {x : Value} {Q : Value → Shared → Prop} (hl : s.heap.PlainList l vs.toArray) (hsz : vs.length ≤ sizeLine)
    (h : ∀ h', h'.PlainList l (vs ++ [x]).toArray → Heap.SameBut l s.heap h' → Q .none { s with heap := h' }) : wpAny (model PG w) A (call (.builtin "list.append") [.ref l, x]) Q E s := by
  obtain ⟨n, ho⟩ := hl
  refine wpAny_call_entry slot_list_append ⟨_, ho, rfl⟩ entry_list_append ?_ (args_list_append _ _)
  show wpAny _ _ (updateSeq l (·.push x) >>= fun _ => ret .none) _ _ s
  refine wpAny_bind ?_
  have hsz' : vs.toArray.size ≤ sizeLine := by simpa using hsz
  refine wpAny_updateSeq ho rfl (wpAny_pure ⟨.none, rfl, h _ ?_ (Heap.SameBut.update ..)⟩) hsz'
  have hd : ({ cls := .type "list", data := .seq vs.toArray n } : Obj).data = .seq vs.toArray n := rfl
  obtain ⟨n', hd'⟩ := Obj.data_mapSeq hd (·.push x)
  refine ⟨n', ?_⟩
  rw [Heap.get?_update_self _ ho (Obj.isFreed_of_seq hd')]
  unfold Obj.mapSeq at hd' ⊢
  dsimp only at hd' ⊢
  simp only [Option.some.injEq, Obj.mk.injEq]
  simpa using hd'

/-- 2 ** width and the like -/
theorem pow_nat {a b : Int} {x k n : Nat} {t u : Tok} {Q : Value → Shared → Prop} (ha : a = x) (hb : b = k) (hx : 2 ≤ x) (hxn : x < 2 ^ n) (hfit : n * k ≤ 134217728)
    (h : Q (.int (x ^ k : Nat) s.toks) { s with toks := s.toks + 1 }) : wpAny (model PG w) A (binaryOp .Pow (.int a t) (.int b u)) Q E s := by
  subst ha hb
  have e : ((x ^ k : Nat) : Int) = (x : Int) ^ ((k : Int)).toNat := by rw [Int.toNat_natCast]; push_cast; rfl
  by_cases h0 : k = 0
  · subst h0
    refine AutoIntOps.pow_0 (by simp) (by simp) ?_
    have e1 : ((x ^ 0 : Nat) : Int) = 1 := rfl
    rw [e1] at h
    exact h
  · have hb2 := bits_le hxn
    have hmul : Builtin.Int.intBits (x : Int) * k ≤ 134217728 := Nat.le_trans (Nat.mul_le_mul_right _ hb2) hfit
    have hmul' : ((Builtin.Int.intBits (x : Int) : Nat) : Int) * (k : Int) ≤ 134217728 := by
      rw [← Int.natCast_mul]
      omega
    refine AutoIntOps.pow_4 (by omega) (by simpa using h0) (by simp; omega) (by simp) ?_ ?_
    · unfold Builtin.Int.intTooBig
      simp only [decide_eq_true_eq, Int.not_lt, gt_iff_lt]
      exact Int.le_trans hmul' (by decide)
    · rw [← e]; exact h

/-- a list and another -/
theorem add_lists1 {l b : Addr} {vs ws : List Value} {Q : Value → Shared → Prop} (hl : s.heap.PlainList l vs.toArray) (hb : s.heap.PlainList b ws.toArray) (hsz : vs.length + ws.length ≤ sizeLine)
    (h : ∀ D h', s.heap.get? D = none → h'.PlainList D (vs ++ ws).toArray → Kp s.heap h' → s.heap.objs.size ≤ D → Q (.ref D) { s with heap := h' }) : wpAny (model PG w) A (binaryOp .Add (.ref l) (.ref b)) Q E s := by
  obtain ⟨n, hl⟩ := hl
  obtain ⟨n2, hb⟩ := hb
  have e : vs.toArray ++ ws.toArray = (vs ++ ws).toArray := by simp
  refine PySem.P.add_list hl hb ?_ (by simpa using hsz)
  rw [e]
  exact h _ _ (Heap.get?_none_of_le (Nat.le_refl _)) ⟨0, Heap.get?_push_size _ rfl⟩ (fun b o e => Heap.get?_push_of_some _ e) (Nat.le_refl _)
end
end Mine

-- M7
namespace Mine
theorem fillM7 (w : World) (h : Heap) : ((hd.heap_39 w.params).In h ∧ PySem.Challenge.rw_xi0002_01.row.prog = PySem.Challenge.rw_xi0002_01.row.prog) → True := by
  k_fill
  intros; trivial

def ev (X : Nat) : List Nat → Nat
  | [] => 0
  | c :: l => c + X * ev X l
def nxt : Nat → List Nat → List Nat
  | p, [] => [p]
  | p, c :: l => (p + c) :: nxt c l
theorem ev_nxt (X : Nat) : ∀ (p : Nat) (l : List Nat), ev X (nxt p l) = p + (X + 1) * ev X l
  | p, [] => by simp [ev, nxt]
  | p, c :: l => by
    simp only [nxt, ev]
    rw [ev_nxt X c l, Nat.mul_add X, Nat.mul_add (X + 1), Nat.add_mul X 1 c, Nat.mul_left_comm X (X + 1)]
    omega
def rowN : Nat → List Nat
  | 0 => [1]
  | k + 1 => nxt 0 (rowN k)
theorem ev_row (X : Nat) : ∀ k, ev X (rowN k) = (X + 1) ^ k
  | 0 => by simp [ev, rowN]
  | k + 1 => by rw [rowN, ev_nxt, ev_row X k, Nat.pow_succ, Nat.zero_add, Nat.mul_comm]
theorem ev_digit {n : Nat} : ∀ {l : List Nat} {i c : Nat}, (∀ c ∈ l, c < 2 ^ n) → l[i]? = some c → ev (2 ^ n) l / 2 ^ (n * i) % 2 ^ n = c
  | c :: l, 0, _, h, e => by
    cases e
    rw [Nat.mul_zero, Nat.pow_zero, Nat.div_one, ev, Nat.add_mul_mod_self_left]
    exact Nat.mod_eq_of_lt (h c (.head _))
  | c :: l, i + 1, c', h, e => by
    have hp := Nat.pow_pos (n := n) (show 0 < 2 by decide)
    rw [Nat.mul_succ, Nat.add_comm, Nat.pow_add, ← Nat.div_div_eq_div_mul, ev, Nat.add_mul_div_left _ _ hp, Nat.div_eq_of_lt (h c (.head _)), Nat.zero_add]
    exact ev_digit (fun c hc => h c (.tail _ hc)) e
theorem digs_ev {n : Nat} {l : List Nat} (h : ∀ c ∈ l, c < 2 ^ n) : digs (ev (2 ^ n) l) n l.length = l.map fun c : Nat => (c : Int) := by
  apply List.ext_getElem?
  intro i
  unfold digs
  rw [List.getElem?_map, List.getElem?_map]
  by_cases hi : i < l.length
  · rw [List.getElem?_range hi, List.getElem?_eq_getElem hi]
    simp only [Option.map_some]
    rw [ev_digit h (List.getElem?_eq_getElem hi)]
  · rw [List.getElem?_eq_none (by simpa using hi), List.getElem?_eq_none (by simpa using hi)]
    rfl
theorem ev_lt {X : Nat} : ∀ {l : List Nat}, (∀ c ∈ l, c < X) → ev X l < X ^ l.length
  | [], _ => by simp [ev]
  | c :: l, h => by
    have ih := ev_lt fun c hc => h c (.tail _ hc)
    have hc := h c (.head _)
    rw [ev, List.length_cons, Nat.pow_succ, Nat.mul_comm _ X]
    have : X * (ev X l + 1) ≤ X * X ^ l.length := Nat.mul_le_mul_left _ ih
    rw [Nat.mul_add, Nat.mul_one] at this
    omega
theorem rows_eq : ∀ k : Nat, k < 7 → (rowsT.getD k []) = ((rowN k).map fun c : Nat => (c : Int)) ++ [0, 0, 0] := by decide
theorem rowN_small : ∀ k : Nat, k < 7 → (rowN k).length = k + 1 ∧ ∀ c ∈ rowN k, c < 64 := by decide

theorem Tb.off {Z Z' : List Addr} {l c : Nat} {q : Str} {h h' : Heap} (T : Tb Z l c q h) (k : ∀ b o, b ∉ Z' → h.get? b = some o → h'.get? b = some o) (h51 : 51 ∉ Z') (hz : ∀ b ∈ Z', b ∈ Z) : Tb Z l c q h' := by
  rcases T with h1 | ⟨c', h1, hc, h2, hx⟩
  · exact .inl (k _ _ h51 h1)
  · exact .inr ⟨c', k _ _ h51 h1, hc, codeRec_kp h2 (fun _ o e => k _ o (fun q => hx (hz _ q)) e), hx⟩
theorem Tb.widen {X Y : List Addr} {l c : Nat} {q : Str} {h : Heap} (T : Tb X l c q h) (hy : ∀ b ∈ Y, h.objs.size ≤ b) : Tb (Y ++ X) l c q h := by
  rcases T with h1 | ⟨c', h1, hc, h2, hx⟩
  · exact .inl h1
  · refine .inr ⟨c', h1, hc, h2, fun hm => ?_⟩
    rcases List.mem_append.mp hm with hm | hm
    · obtain ⟨c'', o, vs, t, e, ho, _⟩ := h2
      cases e
      exact absurd (Heap.lt_size ho) (Nat.not_lt.mpr (hy _ hm))
    · exact hx hm
theorem Tb.less {X Y : List Addr} {l c : Nat} {q : Str} {h : Heap} (T : Tb X l c q h) (hy : ∀ b ∈ Y, b ∈ X) : Tb Y l c q h := by
  rcases T with h1 | ⟨c', h1, hc, h2, hx⟩
  · exact .inl h1
  · exact .inr ⟨c', h1, hc, h2, fun hm => hx (hy _ hm)⟩
theorem Tb.live {X : List Addr} {l c : Nat} {q : Str} {h : Heap} (T : Tb X l c q h) : ∃ o, h.get? 51 = some o := by
  rcases T with h1 | ⟨c', h1, _⟩
  · exact ⟨_, h1⟩
  · exact ⟨_, h1⟩

theorem ints_app : ∀ {vs ws : List Value} {ns ms : List Int}, IntsAre vs ns → IntsAre ws ms → IntsAre (vs ++ ws) (ns ++ ms)
  | _, _, _, _, .nil, h => h
  | _, _, _, _, .cons n t h, h' => .cons n t (ints_app h h')

/-- the rows, all made after n -/
def ChsF (N : Nat) (h : Heap) (l : Addr) : Prop := ∃ rs : List Addr, rs.length = 7 ∧ N ≤ l ∧ (∀ r ∈ rs, N ≤ r) ∧ h.PlainList l (rs.map Value.ref).toArray ∧
  ∀ (i : Nat) (r : Addr), rs[i]? = some r → ∃ vs : List Value, h.PlainList r vs.toArray ∧ IntsAre vs (rowsT.getD i [])
theorem ChsF.chs {N : Nat} {h : Heap} {l : Addr} (H : ChsF N h l) : Chs h l := by
  obtain ⟨rs, h1, _, _, h2, h3⟩ := H
  refine ⟨rs, h1, h2.isList, fun i r e => ?_⟩
  obtain ⟨vs, a, b⟩ := h3 i r e
  exact ⟨vs, a.isList, b⟩

section
variable {w : World} {A : Around} {s : Shared} {Q E : Value → Shared → Prop}
set_option maxHeartbeats 4000000 in
theorem choices_spec {B : Heap} (X : List Addr) {wd : Nat} {tw : Tok} {d : Nat} (C : Cx w B) (hB : Kp B s.heap) (hcd : CodeHd B 55 51) (h51 : B.get? 51 = none) (T : Tb X 22 4 qIn s.heap) (R : Room A (d + 9)) (hX : ∀ b ∈ X, ∃ o, s.heap.get? b = some o)
    (hw : 6 ≤ wd) (hw' : wd ≤ 1000)
    (hQ : ∀ l h' tk', K51 s.heap h' → Tb X 22 4 qIn h' → ChsF s.heap.objs.size h' l → s.toks ≤ tk' → Q (.ref l) { s with heap := h', toks := tk' }) :
    wpAny (model PG w) A (call (.ref 82) [.int wd tw]) Q E s := by
  refine enter (d := d + 8) [(Str.ofString "width", .int wd tw)] (C.keeps hB) R (by k_is) (by k_is) rfl rfl (fun h₁ F => ?_) rfl rfl rfl rfl
  have R' := R.deeper
  have h51L : @LT.lt Nat _ 51 s.heap.objs.size := by
    rcases T with h | ⟨c', h, _⟩
    · exact Heap.lt_size h
    · exact Heap.lt_size h
  have C₁ := (C.keeps hB).keeps F.keep
  refine wpAny_execs_cons (wpAny_Assign_Name (List_ (spliced_nil (new_list (vs := []) (Nat.zero_le _) fun rl h₂ hr0 hrl K₂ hrs => stS (F.keeps K₂) fun h₃ F₃ S₃ => ?_))))
  dsimp only at hr0 hrl K₂ hrs S₃ ⊢
  have hLr : @LT.lt Nat _ s.heap.objs.size rl := Nat.lt_of_lt_of_le F.ns.lt hrs
  have hrl₃ := hrl.at fun o e => (S₃.2 _ (Nat.ne_of_gt hLr)).trans e
  have C₃ := (C.keeps hB).keeps F₃.keep
  refine wpAny_execs_cons (for_H (rng1 C₃ (wpAny_Constant_int ⟨_, _, rfl, fun r h₄ tk₄ u1 u2 u3 K₄ htk₄ hr hrr => ?_⟩)))
  dsimp only at K₄ htk₄ hr
  have F₄ := F₃.keeps K₄
  have hrlt : @LT.lt Nat _ rl h₄.objs.size := by obtain ⟨n, e⟩ := hrl₃; exact Heap.lt_size (K₄ _ _ e)
  refine iterH_range (n := 7) (R' _).hd rfl rfl hrr rfl rfl F₄.ns
    (fun I i tk h m => s.toks ≤ tk ∧ @LT.lt Nat _ rl I ∧ m (Str.ofString "rows") = some (.ref rl) ∧ m (Str.ofString "width") = some (.int wd tw) ∧ K51 s.heap h ∧ Tb (I :: s.heap.objs.size :: X) 22 4 qIn h ∧
      ∃ rs : List Addr, rs.length = i ∧ (∀ r ∈ rs, s.heap.objs.size < r ∧ r ≠ I ∧ r ≠ rl) ∧ h.PlainList rl (rs.map Value.ref).toArray ∧
        ∀ (j : Nat) (r : Addr), rs[j]? = some r → ∃ vs : List Value, h.PlainList r vs.toArray ∧ IntsAre vs (rowsT.getD j [])) ?hJ ?h0 ?step ?hR
  case hJ =>
    intro I i tk tk' h h' m htk hk aa
    refine and7 aa fun a1 a2 a3 a4 a5 a6 bb => ?_
    clear aa
    obtain ⟨rs, b1, b2, b3, b4⟩ := bb
    have hLI : @LT.lt Nat _ s.heap.objs.size I := Nat.lt_trans hLr a2
    refine ⟨Nat.le_trans a1 htk, a2, a3, a4, fun b o hb e => ?_, ?_, rs, b1, b2, ?_, ?_⟩
    · have hbl : @LT.lt Nat _ b s.heap.objs.size := Heap.lt_size e
      exact hk b o (Nat.ne_of_lt (Nat.lt_trans hbl hLI)) (Nat.ne_of_lt hbl) (a5 b o hb e)
    · refine a6.off (Z' := [I, s.heap.objs.size]) (fun b o hb e => hk b o (fun q => hb (by rw [q]; exact .head _)) (fun q => hb (by rw [q]; exact .tail _ (.head _))) e) ?_ ?_
      · intro hm
        rcases List.mem_cons.mp hm with q | hm
        · exact absurd (q ▸ Nat.lt_trans h51L hLI) (Nat.lt_irrefl _)
        · exact absurd (List.mem_singleton.mp hm) (Nat.ne_of_lt h51L)
      · intro b hb
        rcases List.mem_cons.mp hb with rfl | hb
        · exact .head _
        · rw [List.mem_singleton.mp hb]; exact .tail _ (.head _)
    · exact b3.at fun o e => hk _ o (Nat.ne_of_lt a2) (Nat.ne_of_gt hLr) e
    · intro j r hj
      obtain ⟨vs, v1, v2⟩ := b4 j r hj
      obtain ⟨r1, r2, r3⟩ := b2 r (List.mem_of_getElem? hj)
      exact ⟨vs, v1.at fun o e => hk _ o r2 (Nat.ne_of_gt r1) e, v2⟩
  case h0 =>
    intro I hI
    have hI' : @LE.le Nat _ h₄.objs.size I := hI
    refine ⟨?_, Nat.lt_of_lt_of_le hrlt hI', rfl, rfl, fun b o _ e => F₄.keep b o e, ?_, [], rfl, by simp, hrl₃.at fun o e => K₄ _ o e, by simp⟩
    · have : s.toks + 1 + 1 + 1 ≤ tk₄ := htk₄
      show s.toks ≤ tk₄
      omega
    · refine (T.widen (Y := [I, s.heap.objs.size]) fun b hb => ?_).keeps F₄.keep
      rcases List.mem_cons.mp hb with rfl | hb
      · exact Nat.le_trans (Nat.le_of_lt hLr) (Nat.le_trans (Nat.le_of_lt hrlt) hI')
      · rw [List.mem_singleton.mp hb]; exact Nat.le_refl _
  case step =>
    intro I i t m₁ h tk hi htk aa ⟨oI, hoI⟩ hI hn
    refine toksF (n := s.toks) aa.1 (hideS fun gg drw oo Q1 hQ1 => ?_)
    refine and7 aa fun a1 a2 a3 a4 a5 a6 bb => ?_
    clear aa
    obtain ⟨rs, b1, b2, b3, b4⟩ := bb
    have e0 := z01 i
    rw [e0] at hn
    have hLI : @LT.lt Nat _ s.heap.objs.size I := Nat.lt_trans hLr a2
    have a3' : (fun y => if y = Str.ofString "many" then some (Value.int i t) else m₁ y) (Str.ofString "rows") = some (.ref rl) := a3
    have a4' : (fun y => if y = Str.ofString "many" then some (Value.int i t) else m₁ y) (Str.ofString "width") = some (.int wd tw) := a4
    have hB5 : Kp B h := fun b o e => a5 b o (fun q => by rw [q, h51] at e; cases e) (hB b o e)
    have C5 := C.keeps hB5
    have hfit : 2 * wd ≤ 134217728 := by omega
    have hwp : 2 ^ 6 ≤ 2 ^ wd := Nat.pow_le_pow_right (by decide) hw
    have hbits : ((Builtin.Int.intBits ((2 ^ wd + 1 : Nat) : Int) : Nat) : Int) * (i : Int) ≤ 2 ^ 27 := by
      have h1 : Builtin.Int.intBits ((2 ^ wd + 1 : Nat) : Int) ≤ wd + 1 := bits_le (by rw [Nat.pow_succ]; omega)
      have h2 : Builtin.Int.intBits ((2 ^ wd + 1 : Nat) : Int) * i ≤ 1001 * 7 := Nat.mul_le_mul (Nat.le_trans h1 (Nat.succ_le_succ hw')) (Nat.le_of_lt hi)
      rw [← Int.natCast_mul]
      omega
    have e2 : ((2 ^ wd : Nat) : Int) + 1 = ((2 ^ wd + 1 : Nat) : Int) := by push_cast; rfl
    obtain ⟨r1, r2⟩ := rowN_small i hi
    have r2' : ∀ c ∈ rowN i, c < 2 ^ wd := fun c hc => Nat.lt_of_lt_of_le (r2 c hc) hwp
    have ha : 2 ^ (wd * (i + 1 - 1)) ≤ (2 ^ wd + 1) ^ i := by
      rw [Nat.add_sub_cancel, Nat.pow_mul]
      exact Nat.pow_le_pow_left (Nat.le_succ _) _
    have ha' : (2 ^ wd + 1) ^ i < 2 ^ (wd * (i + 1)) := by
      rw [Nat.pow_mul, ← ev_row, ← r1]
      exact ev_lt r2'
    refine wpAny_execs_cons (wpAny_Expr (meth_list PySem.F.slot_list_append PySem.type_list_append (ldL hn a3' ⟨rl, _, rfl, b3, spl1 (wpAny_BinOp ?_)⟩)))
    refine callF C5 (by k_is) (by k_is) (spl2 (callF C5 (by k_is) (by k_is) (spl2 (wpAny_BinOp (wpAny_BinOp (wpAny_Constant_int (ldL hn a4' (pow_nat (x := 2) (k := wd) (n := 2) rfl rfl (by decide) (by decide) hfit (wpAny_Constant_int (wpAny_add_int ?_))))))))))
    rw [e2]
    refine ldL hn rfl ⟨C5, ipow_int (d := d + 7) C5 (R' _) (by omega) (Int.natCast_nonneg i) hbits fun t6 h6 tk6 K6 => ?_⟩
    have e3 : ((2 ^ wd + 1 : Nat) : Int) ^ ((i : Int)).toNat = (((2 ^ wd + 1) ^ i : Nat) : Int) := by rw [Int.toNat_natCast]; push_cast; rfl
    rw [e3]
    dsimp only at K6 ⊢
    have hn6 := hn.keeps K6
    have hB6 : Kp B h6 := fun b o e => K6 b o (hB5 b o e)
    have hoI6 := K6 _ _ hoI
    have hlive : ∀ b ∈ I :: s.heap.objs.size :: X, ∃ o, h6.get? b = some o := by
      intro b hb
      rcases List.mem_cons.mp hb with rfl | hb
      · exact ⟨_, hoI6⟩
      rcases List.mem_cons.mp hb with rfl | hb
      · obtain ⟨o, _, _, ho, _⟩ := id hn6
        exact ⟨o, ho⟩
      · obtain ⟨o, ho⟩ := hX b hb
        by_cases q : b = 51
        · obtain ⟨o', ho'⟩ := a6.live
          exact ⟨o', K6 _ _ (by rw [q]; exact ho')⟩
        · exact ⟨o, K6 _ _ (a5 b o q ho)⟩
    refine ldL hn6 a4' ⟨C.keeps hB6, int2digits_spec (d := d) (D := i + 1) (I :: s.heap.objs.size :: X) C hB6 hcd h51 (a6.keeps K6) (R' _) hlive ha ha' (Nat.le_trans (by decide) hw) hw' (Nat.le_add_left 1 i) (Nat.le_trans (Nat.succ_le_of_lt hi) (by decide)) fun D1 h7 tk7 ys k7 T7 hD1 hD1s hys _ => ?_⟩
    dsimp only at k7 hD1s ⊢
    refine List_ (spl3 (wpAny_Constant_int (wpAny_Constant_int (wpAny_Constant_int (new_list (Nat.le_of_ble_eq_true rfl) fun D2 h8 hD20 hD2 K8 hD2s => ?_)))))
    dsimp only at hD20 hD2 K8 hD2s ⊢
    have hlys : ys.length = i + 1 := by rw [hys.length]; simp [digs]
    refine add_lists1 (hD1.at fun o e => K8 _ o e) hD2 (by rw [hlys]; exact Nat.le_trans (Nat.le_trans (Nat.add_le_add_right (Nat.succ_le_of_lt hi) 3) (by decide : 7 + 3 ≤ 20)) (Nat.le_of_ble_eq_true rfl)) fun D3 h9 hD30 hD3 K9 hD3s => ?_
    dsimp only at hD30 hD3 K9 hD3s ⊢
    have kAll : ∀ b o, b ≠ 51 → h.get? b = some o → h9.get? b = some o := fun b o hb e => K9 b o (K8 b o (k7 b o hb (K6 b o e)))
    have hr51 : rl ≠ 51 := Nat.ne_of_gt (Nat.lt_trans h51L hLr)
    have hrl9 := b3.at fun o e => kAll _ o hr51 e
    refine append_plain hrl9 (by simp only [List.length_map, b1]; exact Nat.le_trans (Nat.le_trans (Nat.le_of_lt hi) (by decide : 7 ≤ 20)) (Nat.le_of_ble_eq_true rfl)) fun h10 hrl10 S10 => ?_
    dsimp only at S10 ⊢
    refine wpAny_execs_nil (hQ1 fun hle => ?_)
    have hn8 := ((hn6.at' fun o e => k7 _ o (Nat.ne_of_gt h51L) e).keeps K8)
    have hD3h : h.get? D3 = none := by
      cases e : h.get? D3 with
      | none => rfl
      | some o =>
        by_cases q : D3 = 51
        · obtain ⟨o', ho'⟩ := T7.live
          rw [q, K8 _ _ ho'] at hD30; cases hD30
        · rw [K8 _ _ (k7 _ _ q (K6 _ _ e))] at hD30; cases hD30
    have hne : ∀ b o, h.get? b = some o → b ≠ D3 := fun b o e q => by rw [q, hD3h] at e; cases e
    have kEnd : ∀ b o, b ≠ 51 → b ≠ rl → h.get? b = some o → h10.get? b = some o := fun b o hb hb' e => (S10.2 b hb').trans (kAll b o hb e)
    have hI51 : I ≠ 51 := Nat.ne_of_gt (Nat.lt_trans h51L hLI)
    refine ⟨h10, _, _, rfl, ?_, hn.at' fun o e => kEnd _ o (Nat.ne_of_gt h51L) (Nat.ne_of_lt hLr) e, hle, a2, a3', a4', ?_, ?_, rs ++ [D3], by simp [b1], ?_, by simpa using hrl10, ?_⟩
    · intro b hb o e
      rw [List.mem_singleton.mp hb] at e ⊢
      exact kEnd _ _ hI51 (Nat.ne_of_gt a2) e
    · intro b o hb e
      exact kEnd b o hb (Nat.ne_of_lt (Nat.lt_trans (Heap.lt_size e) hLr)) (a5 b o hb e)
    · exact ((T7.keeps K8).keeps K9).but hrl9 fun b o hb e => (S10.2 b hb).trans e
    · intro r hr
      rcases List.mem_append.mp hr with hr | hr
      · exact b2 r hr
      · rw [List.mem_singleton.mp hr]
        refine ⟨?_, (hne _ _ hoI).symm, ?_⟩
        · exact Nat.lt_of_lt_of_le hn8.lt hD3s
        · obtain ⟨n, e⟩ := b3
          exact (hne _ _ e).symm
    · intro j r hj
      by_cases hji : j < rs.length
      · rw [List.getElem?_append_left hji] at hj
        obtain ⟨vs, v1, v2⟩ := b4 j r hj
        obtain ⟨r1, r2, r3⟩ := b2 r (List.mem_of_getElem? hj)
        exact ⟨vs, v1.at fun o e => kEnd _ o (Nat.ne_of_gt (Nat.lt_trans h51L r1)) r3 e, v2⟩
      · have hj1 := (List.getElem?_eq_some_iff.mp hj).1
        have hji' : j = i := by simp at hj1; exact (Nat.le_antisymm (Nat.le_of_lt_succ hj1) (Nat.le_of_not_lt hji)).trans b1
        subst hji'
        rw [List.getElem?_append_right (Nat.le_of_not_lt hji), b1, Nat.sub_self] at hj
        cases hj
        refine ⟨ys ++ [.int 0 _, .int 0 _, .int 0 _], hD3.at fun o e => (S10.2 _ ?_).trans e, ?_⟩
        · obtain ⟨n, e⟩ := b3
          exact (hne _ _ e).symm
        · rw [rows_eq j hi]
          refine ints_app ?_ (.cons _ _ (.cons _ _ (.cons _ _ .nil)))
          have e := digs_ev r2'
          rw [r1, ev_row] at e
          rw [e] at hys
          exact hys
  case hR =>
    rintro I h' tk m' hI htk hn ⟨a1, a2, a3, a4, a5, a6, rs, b1, b2, b3, b4⟩
    dsimp only
    refine wpAny_execs_cons (wpAny_Return_some (ldL hn a3 ?_))
    exact hQ rl h' tk a5 (a6.less fun b hb => .tail _ (.tail _ hb)) ⟨rs, b1, Nat.le_of_lt hLr, fun r hr => Nat.le_of_lt (b2 r hr).1, b3, b4⟩ a1
end
end Mine

-- MB17
namespace Mine
theorem fillB17 (w : World) (h : Heap) : ((hd.heap_39 w.params).In h ∧ PySem.Challenge.rw_xi0002_01.row.prog = PySem.Challenge.rw_xi0002_01.row.prog) → True := by
  k_fill
  intros; trivial
section
variable {w : World} {A : Around} {s : Shared} {env : Env} {E : Value → Shared → Prop}

theorem spl4 {M : Model} {E : Value → Shared → Prop} {e1 e2 e3 e4 : Expr} {pos : Pos} {P : List Value → Shared → Prop}
    (h : wpAny M A (eval e1 env) (fun v1 s_1 => wpAny M A (eval e2 env) (fun v2 s_2 => wpAny M A (eval e3 env) (fun v3 s_3 => wpAny M A (eval e4 env) (fun v4 s_4 => P [v1, v2, v3, v4] s_4) E s_3) E s_2) E s_1) E s)
    (he : starEach [e1, e2, e3, e4] env = [(false, eval e1 env), (false, eval e2 env), (false, eval e3 env), (false, eval e4 env)] := by rfl) : wpAny M A (spliced (backTo pos (starEach [e1, e2, e3, e4] env))) P E s := by
  rw [he]
  exact spliced_cons (wpAny_mono h (fun v1 s_1 h1 => spliced_cons (wpAny_mono h1 (fun v2 s_2 h2 => spliced_cons (wpAny_mono h2 (fun v3 s_3 h3 => spliced_cons (wpAny_mono h3 (fun v4 s_4 h4 => spliced_nil h4) fun _ _ e => e)) fun _ _ e => e)) fun _ _ e => e)) fun _ _ e => e)
theorem spl8 {M : Model} {E : Value → Shared → Prop} {e1 e2 e3 e4 e5 e6 e7 e8 : Expr} {pos : Pos} {P : List Value → Shared → Prop}
    (h : wpAny M A (eval e1 env) (fun v1 s_1 => wpAny M A (eval e2 env) (fun v2 s_2 => wpAny M A (eval e3 env) (fun v3 s_3 => wpAny M A (eval e4 env) (fun v4 s_4 => wpAny M A (eval e5 env) (fun v5 s_5 => wpAny M A (eval e6 env) (fun v6 s_6 => wpAny M A (eval e7 env) (fun v7 s_7 => wpAny M A (eval e8 env) (fun v8 s_8 => P [v1, v2, v3, v4, v5, v6, v7, v8] s_8) E s_7) E s_6) E s_5) E s_4) E s_3) E s_2) E s_1) E s)
    (he : starEach [e1, e2, e3, e4, e5, e6, e7, e8] env = [(false, eval e1 env), (false, eval e2 env), (false, eval e3 env), (false, eval e4 env), (false, eval e5 env), (false, eval e6 env), (false, eval e7 env), (false, eval e8 env)] := by rfl) : wpAny M A (spliced (backTo pos (starEach [e1, e2, e3, e4, e5, e6, e7, e8] env))) P E s := by
  rw [he]
  exact spliced_cons (wpAny_mono h (fun v1 s_1 h1 => spliced_cons (wpAny_mono h1 (fun v2 s_2 h2 => spliced_cons (wpAny_mono h2 (fun v3 s_3 h3 => spliced_cons (wpAny_mono h3 (fun v4 s_4 h4 => spliced_cons (wpAny_mono h4 (fun v5 s_5 h5 => spliced_cons (wpAny_mono h5 (fun v6 s_6 h6 => spliced_cons (wpAny_mono h6 (fun v7 s_7 h7 => spliced_cons (wpAny_mono h7 (fun v8 s_8 h8 => spliced_nil h8) fun _ _ e => e)) fun _ _ e => e)) fun _ _ e => e)) fun _ _ e => e)) fun _ _ e => e)) fun _ _ e => e)) fun _ _ e => e)) fun _ _ e => e)

theorem sum0 {l : Addr} {vs : List Value} {ns : List Int} {Q : Value → Shared → Prop} (hh : A.handled = none) (hl : s.heap.IsList l vs.toArray) (hi : IntsAre vs ns)
    (h : ∀ h' tk t', Kp s.heap h' → Q (.int ns.sum t') { s with heap := h', toks := tk }) : wpAny (model PG w) A (call (.builtin "sum") [.ref l]) Q E s := by
  obtain ⟨xs, e⟩ := hi.allInts.items
  rw [e] at hl
  refine PySem.sum_intListG hh hl fun h' tk t' hk => ?_
  have := h h' tk t' hk
  have e2 : numsOf vs = ns := hi.numsOf
  have e3 : vs = (intItems xs).toList := by rw [← e]
  rw [← e2, e3, nums_intItems] at this
  rw [preSum_eq, List.take_of_length_le (by simp)]
  exact this

/-- sum(e), e a list of ints -/
theorem sum1 {np pos : Pos} {e : Expr} {Q : Value → Shared → Prop} (C : Cx w s.heap) (hh : A.handled = none)
    (h : wpAny (model PG w) A (eval e env) (fun v s₁ => ∃ a vs ns, v = .ref a ∧ s₁.heap.IsList a (List.toArray vs) ∧ IntsAre vs ns ∧ ∀ h' t tk, Kp s₁.heap h' → Q (.int ns.sum t) { s₁ with heap := h', toks := tk }) FF s)
    (hk : env.scope.kind = .function := by rfl) (hg : env.globals = mainGlobals := by rfl) (hb : env.builtins = builtinsNs := by rfl) (hn : env.kindOf "sum" = some .globalImplicit := by rfl)
    (he : starEach [e] env = (false, eval e env) :: starEach [] env := by rfl) (hplain : (backTo pos (starEach [] env)).any (·.1) = false := by rfl) :
    wpAny (model PG w) A (eval (.Call (.Name "sum" np) [e] [] pos) env) Q FF s := by
  refine callB C (by k_is) PyProof.Rows.boot_sum (spl1 (wpAny_mono h (fun v s₁ h₁ => ?_) fun _ _ e => e) he) (by decide) hk hg hb hn (by decide) he hplain
  obtain ⟨a, vs, ns, rfl, hl, hi, hQ⟩ := h₁
  exact sum0 hh hl hi fun h' tk t' k => hQ h' t' tk k
end
end Mine

-- M8
namespace Mine
theorem fillM8 (w : World) (h : Heap) : ((hd.heap_39 w.params).In h ∧ PySem.Challenge.rw_xi0002_01.row.prog = PySem.Challenge.rw_xi0002_01.row.prog) → True := by
  k_fill
  intros; trivial

theorem ints_set : ∀ {vs : List Value} {ns : List Int} {i : Nat} {n : Int} {t : Tok}, IntsAre vs ns → IntsAre (vs.set i (.int n t)) (ns.set i n)
  | _, _, _, _, _, .nil => .nil
  | _, _, 0, _, _, .cons _ _ h => .cons _ _ h
  | _, _, i + 1, _, _, .cons n t h => .cons n t (ints_set h)
theorem ints_get {vs : List Value} {ns : List Int} {i : Nat} (h : IntsAre vs ns) (hi : i < ns.length) : ∃ t, vs[i]? = some (.int ns[i] t) := by
  have hl := h.length
  obtain ⟨v, hv⟩ : ∃ v, vs[i]? = some v := ⟨_, List.getElem?_eq_getElem (by omega)⟩
  obtain ⟨t, rfl⟩ := ints_at h hv (List.getElem?_eq_getElem hi)
  exact ⟨t, hv⟩

section
variable {w : World} {A : Around} {s : Shared} {Q E : Value → Shared → Prop}

set_option maxHeartbeats 4000000 in
theorem cells_spec {sl : Addr} {sv : List Value} {ns : List Int} {d : Nat} (C : Cx w s.heap) (R : Room A (d + 2)) (hs : s.heap.IsList sl sv.toArray) (hns : IntsAre sv ns) (hlen : sv.length < 2 ^ 20)
    (hQ : ∀ l c0 c1 c2 t0 t1 t2 h' tk', Kp s.heap h' → s.toks ≤ tk' → s.heap.objs.size ≤ l → h'.PlainList l #[.int c0 t0, .int c1 t1, .int c2 t2] → Q (.ref l) { s with heap := h', toks := tk' }) :
    wpAny (model PG w) A (call (.ref 75) [.ref sl]) Q E s := by
  refine enter (d := d + 1) [(Str.ofString "script", .ref sl)] C R (by k_is) (by k_is) rfl rfl (fun h₁ F => ?_) rfl rfl rfl rfl
  have R' := R.deeper
  have C₁ := C.keeps F.keep
  refine toksF (n := s.toks) (by show s.toks ≤ s.toks + 1; omega) (hideS fun gg drw oo Q0 hQ0 => ?_)
  refine wpAny_execs_cons (wpAny_Assign_Name (List_ (spl3 (sum1 C₁ (R' _).hd (comp_list [] (R' _).hd rfl (by decide) rfl (by decide) rfl (List_ (spl8 (wpAny_Constant_int (wpAny_Constant_int (wpAny_Constant_int (wpAny_Constant_int (wpAny_Constant_int (wpAny_Constant_int (wpAny_Constant_int (wpAny_Constant_int
    (new_list (Nat.le_of_ble_eq_true rfl) fun l1 h₂ h20 hl1 K₂ h2s => ?_))))))))))))))))
  dsimp only at h20 hl1 K₂ h2s ⊢
  refine ⟨l1, _, fun X i ys tk h => ∃ ms : List Int, IntsAre ys ms, rfl, hl1.isList, Nat.le_of_ble_eq_true rfl, by simp, fun X i ys tk tk' h h' _ _ hj => hj, fun _ _ => ⟨[], .nil⟩, ?_, ?_⟩
  · intro C5 D I i v ys h tk m hv hl htk ⟨ms, hms⟩ hC hD hI hlive hk hn hm
    obtain ⟨k, tk5, rfl, hk19⟩ : ∃ (k : Nat) (t : Tok), v = .int k t ∧ k ≤ 19 := by
      have h3 : i < 8 := (List.getElem?_eq_some_iff.mp hv).1
      have h4 := lt8 h3
      rcases h4 with rfl | rfl | rfl | rfl | rfl | rfl | rfl | rfl
      · exact ⟨0, _, (Option.some.inj hv).symm, by decide⟩
      · exact ⟨2, _, (Option.some.inj hv).symm, by decide⟩
      · exact ⟨5, _, (Option.some.inj hv).symm, by decide⟩
      · exact ⟨9, _, (Option.some.inj hv).symm, by decide⟩
      · exact ⟨11, _, (Option.some.inj hv).symm, by decide⟩
      · exact ⟨12, _, (Option.some.inj hv).symm, by decide⟩
      · exact ⟨16, _, (Option.some.inj hv).symm, by decide⟩
      · exact ⟨19, _, (Option.some.inj hv).symm, by decide⟩
    have hfit : 7 * k ≤ 134217728 := by omega
    exact wpAny_BinOp (wpAny_Constant_int (ldL hn hm (pow_nat (x := 64) (k := k) (n := 7) rfl rfl (by decide) (by decide) hfit ⟨h, _, rfl, fun _ _ _ e => e, ms ++ [_], ints_snoc hms⟩)))
  · intro C5 D I h₃ tk₃ ys htk₃ hC hD hI hpl hsz ⟨ms, hms⟩ hk₃
    have hk₃ : ∀ b o, b ∉ ([] : List Addr) → h₂.get? b = some o → h₃.get? b = some o := hk₃
    refine ⟨D, ys.toList, ms, rfl, by simpa using hpl.isList, hms, fun h₄ t₄ tk₄ K₄ => ?_⟩
    have K₄ : Kp h₃ h₄ := K₄
    refine wpAny_Constant_int (wpAny_Constant_int (new_list (Nat.le_of_ble_eq_true rfl) fun cl h₅ hcl0 hcl K₅ hcls => ?_))
    dsimp only at hcl0 hcl K₅ hcls ⊢
    have K15 : Kp h₁ h₅ := fun b o e => K₅ b o (K₄ b o (hk₃ b o (by simp) (K₂ b o e)))
    have K14 : Kp h₁ h₄ := fun b o e => K₄ b o (hk₃ b o (by simp) (K₂ b o e))
    refine stS (F.keeps K15) fun h₆ F₆ S₆ => ?_
    dsimp only at S₆ ⊢
    have hLc : @LT.lt Nat _ s.heap.objs.size cl := Nat.lt_of_lt_of_le (F.keeps K14).ns.lt hcls
    have hcl₆ := hcl.at fun o e => (S₆.2 _ (Nat.ne_of_gt hLc)).trans e
    have C₆ := C.keeps F₆.keep
    refine wpAny_execs_cons (for_H (rng1 C₆ (len1 C₆ (ldL F₆.ns rfl ⟨sl, sv, rfl, hs.at fun o e => F₆.keep _ o e, by omega, fun t₇ tk₇ _ _ => ⟨_, _, rfl, fun r h₈ tk₈ u1 u2 u3 K₈ htk₈ hr hrr => ?_⟩⟩))))
    dsimp only at K₈ hr ⊢
    have F₈ := F₆.keeps K₈
    have hsls : @LT.lt Nat _ sl s.heap.objs.size := by obtain ⟨o, e, _⟩ := hs; exact Heap.lt_size e
    have hclt : @LT.lt Nat _ cl h₈.objs.size := by obtain ⟨n, e⟩ := hcl₆; exact Heap.lt_size (K₈ _ _ e)
    refine iterH_range (n := sv.length) (R' _).hd rfl rfl hrr (sm_nat (by omega)) (rs_nat _) F₈.ns
      (fun I i tk h m => @LT.lt Nat _ cl I ∧ m (Str.ofString "script") = some (.ref sl) ∧ m (Str.ofString "cells") = some (.ref cl) ∧ Kp s.heap h ∧ ∃ vs ms, vs.length = 3 ∧ h.PlainList cl (List.toArray vs) ∧ IntsAre vs ms) ?hJ ?h0 ?step ?hR
    case hJ =>
      rintro I i tk tk' h h' m htk hk ⟨a1, a2, a3, a4, vs, ms, a5, a6, a7⟩
      have hLI : @LT.lt Nat _ s.heap.objs.size I := Nat.lt_trans hLc a1
      refine ⟨a1, a2, a3, fun b o e => ?_, vs, ms, a5, a6.at fun o e => hk _ o (Nat.ne_of_lt a1) (Nat.ne_of_gt hLc) e, a7⟩
      have hbl : @LT.lt Nat _ b s.heap.objs.size := Heap.lt_size e
      exact hk b o (Nat.ne_of_lt (Nat.lt_trans hbl hLI)) (Nat.ne_of_lt hbl) (a4 b o e)
    case h0 =>
      intro I hI
      exact ⟨Nat.lt_of_lt_of_le hclt hI, rfl, rfl, F₈.keep, _, _, rfl, hcl₆.at fun o e => K₈ _ o e, .cons _ _ (.cons _ _ (.cons _ _ .nil))⟩
    case step =>
      intro I i t m₁ h tk hi htk aa ⟨oI, hoI⟩ hI hn
      refine hideS fun gg drw oo Q1 hQ1 => ?_
      refine and5 aa fun a1 a2 a3 a4 bb => ?_
      clear aa
      obtain ⟨vs, ms, a5, a6, a7⟩ := bb
      have e0 := z01 i
      rw [e0] at hn
      have a2' : (fun y => if y = Str.ofString "k" then some (Value.int i t) else m₁ y) (Str.ofString "script") = some (.ref sl) := a2
      have a3' : (fun y => if y = Str.ofString "k" then some (Value.int i t) else m₁ y) (Str.ofString "cells") = some (.ref cl) := a3
      have hlm : ms.length = 3 := by rw [← a7.length]; exact a5
      have hi3 : i % 3 < ms.length := by rw [hlm]; exact Nat.mod_lt _ (by decide)
      have hin : i < ns.length := by rw [← hns.length]; exact hi
      obtain ⟨t3, g3⟩ := ints_get a7 hi3
      obtain ⟨t4, g4⟩ := ints_get hns hin
      have hi63 := i63 hi (Nat.le_trans (Nat.le_of_lt hlen) (Nat.pow_le_pow_right (by decide) (by decide)))
      have hi63' := i63 (Nat.mod_lt i (show 3 > 0 by decide)) (Nat.le_of_ble_eq_true rfl)
      refine wpAny_execs_cons (wpAny_Assign_Subscript (wpAny_BinOp (Subscript_ (ldL hn a3' (wpAny_BinOp (ldL hn rfl (wpAny_Constant_int (mod_natE (x := i) (y := 3) rfl rfl (by decide) (tail_list a6.isList (Int.natCast_nonneg _) hi63' g3
        (Subscript_ (ldL hn a2' (ldL hn rfl (tail_list (hs.at fun o e => a4 _ o e) (Int.natCast_nonneg i) hi63 g4 (wpAny_add_int (ldL hn a3' (wpAny_BinOp (ldL hn rfl (wpAny_Constant_int (mod_natE (x := i) (y := 3) rfl rfl (by decide)
          (setItem_plain a6 (Int.natCast_nonneg _) hi63' ?_ fun h₉ h9l S₉ => ?_))))))))))))))))))))
      · simp only [List.size_toArray, a5]
        exact Int.ofNat_lt.mpr (Nat.mod_lt i (show 3 > 0 by decide))
      · dsimp only at S₉ ⊢
        have hLI : @LT.lt Nat _ s.heap.objs.size I := Nat.lt_trans hLc a1
        refine wpAny_execs_nil (hQ1 ⟨h₉, _, _, rfl, ?_, hn.at' fun o e => (S₉.2 _ (Nat.ne_of_lt hLc)).trans e, a1, a2', a3', fun b o e => ?_, vs.set (i % 3) (.int _ _), ms.set (i % 3) _, by simp [a5], (by have h9l' : h₉.PlainList cl (vs.toArray.setIfInBounds (i % 3) _) := h9l; simpa using h9l'), ints_set a7⟩)
        · intro b hb o e
          rw [List.mem_singleton.mp hb] at e ⊢
          exact (S₉.2 _ (Nat.ne_of_gt a1)).trans e
        · exact (S₉.2 b (Nat.ne_of_lt (Nat.lt_trans (Heap.lt_size e) hLc))).trans (a4 b o e)
    case hR =>
      rintro I h' tk m' hI htk hn ⟨a1, a2, a3, a4, vs, ms, a5, a6, a7⟩
      dsimp only
      refine wpAny_execs_cons (wpAny_Return_some (ldL hn a3 (hQ0 fun hle => ?_)))
      obtain ⟨v0, v1, v2, rfl⟩ : ∃ v0 v1 v2, vs = [v0, v1, v2] := by
        match vs, a5 with
        | [v0, v1, v2], _ => exact ⟨v0, v1, v2, rfl⟩
      cases a7 with
      | cons n0 t0 b =>
        cases b with
        | cons n1 t1 b =>
          cases b with
          | cons n2 t2 b => exact hQ cl n0 n1 n2 t0 t1 t2 h' tk a4 hle (Nat.le_of_lt hLc) a6
end
end Mine

-- MB18
namespace Mine

theorem out_strs {xs : Array Keyed} {vs : List Value} {ss : List Str} (hS : StrsAre vs ss) (hp : xs.Perm (pairsOf vs)) (hs : SortedToK strKind xs xs.size) :
    ∃ so, StrsAre (xs.map (·.2)).toList so ∧ so.Perm ss ∧ so.Pairwise (fun x y => ¬ y.cps.toList < x.cps.toList) := by
  have hl : xs.toList.Perm (vs.zip vs) := by rw [← pairsOf_toList]; exact Array.perm_iff_toList_perm.mp hp
  have hz : (vs.zip vs).map Prod.snd = vs := by
    have : ∀ l : List Value, (l.zip l).map Prod.snd = l := by
      intro l
      induction l with
      | nil => rfl
      | cons v l ih => rw [List.zip_cons_cons, List.map_cons, ih]
    exact this vs
  have hout : (xs.map (·.2)).toList = xs.toList.map Prod.snd := Array.toList_map
  have hperm : (xs.map (·.2)).toList.Perm vs := by
    rw [hout]
    have := hl.map Prod.snd
    rw [hz] at this
    exact this
  have hall : ∀ v ∈ (xs.map (·.2)).toList, ∃ x t, v = .str x t := fun v hv => hS.all v (hperm.mem_iff.mp hv)
  refine ⟨_, strsAre_map _ hall, ?_, ?_⟩
  · have := hperm.map strOf
    rw [hS.strs] at this
    exact this
  · have hself : ∀ p ∈ xs.toList, p.1 = p.2 := by
      intro p hp'
      have := hl.mem_iff.mp hp'
      have key : ∀ (l : List Value) (p : Value × Value), p ∈ l.zip l → p.1 = p.2 := by
        intro l
        induction l with
        | nil => intro p h; cases h
        | cons v l ih =>
          intro p h
          rcases List.mem_cons.mp h with rfl | h
          · rfl
          · exact ih p h
      exact key vs p this
    rw [List.pairwise_iff_getElem]
    intro i j hi hj hij
    have hi' : i < xs.size := by simpa using hi
    have hj' : j < xs.size := by simpa using hj
    have q := hs i j (Nat.le_of_lt hij) hj'
    have at_ : ∀ (i : Nat) (hi : i < xs.size), ∃ x t, xs[i] = (.str x t, .str x t) := by
      intro i hi
      have hm : xs[i] ∈ xs.toList := by simp
      have e := hself _ hm
      obtain ⟨x, t, e2⟩ := hall xs[i].2 (by rw [hout]; exact List.mem_map_of_mem hm)
      refine ⟨x, t, ?_⟩
      rw [← e2, ← e]
      rw [show xs[i] = (xs[i].1, xs[i].2) from rfl, ← e]
    obtain ⟨x, t, ex⟩ := at_ i hi'
    obtain ⟨y, u, ey⟩ := at_ j hj'
    rw [KK_str hi' ex, KK_str hj' ey] at q
    have hx : (((xs.map (·.2)).toList.map strOf)[i]'hi) = x := by
      simp [ex, strOf]
    have hy : (((xs.map (·.2)).toList.map strOf)[j]'hj) = y := by
      simp [ey, strOf]
    rw [hx, hy]
    have q' : decide (y.cps.toList < x.cps.toList) = false := q
    exact of_decide_eq_false q'

theorem kind_strs : ∀ {vs : List Value} {ss : List Str}, StrsAre vs ss → 2 ≤ vs.length → keyKind' vs.toArray = pure oneType'
  | v₁ :: v₂ :: rest, _, hS, _ => keyKind_strs hS
  | [_], _, _, h => by simp at h
  | [], _, _, h => by simp at h

section
variable {w : World} {A : Around} {s : Shared} {Q E : Value → Shared → Prop}

theorem upd_plain {h : Heap} {a : Addr} {xs : Array Value} {n : Nat} (f : Array Value → Array Value) (ho : h.get? a = some (seqObj "list" xs n)) : ∃ c, (h.update a (Obj.mapSeq f)).get? a = some (seqObj "list" (f xs) c) := ⟨_, get?_update_seq ho f⟩

set_option maxHeartbeats 4000000 in
theorem sort_key {l : Addr} {vs : List Value} {ss : List Str} {d : Nat} (C : Cx w s.heap) (R : Room A (d + 3)) (hl : s.heap.IsList l vs.toArray) (hS : StrsAre vs ss) (h2 : 2 ≤ vs.length) (h64 : vs.length < 64)
    (h : ∀ D h' tk out so, Kp s.heap h' → s.heap.objs.size ≤ D → h'.PlainList D (List.toArray out) → StrsAre out so → so.Perm ss → so.Pairwise (fun x y => ¬ y.cps.toList < x.cps.toList) → Q (.ref D) { s with heap := h', toks := tk }) :
    wpAny (model PG w) A (call (.builtin "sorted") [.ref l] [(Str.ofString "key", .ref 70)]) Q E s := by
  refine call_function_entry_kw kind_sorted plain_sorted entry_sorted (ksk_s1 _ _) ?_
  unfold Builtin.«sorted»
  refine wpAny_bind (m := checkCount "sorted" 1 1 _) (wpAny_pure ?_)
  refine wpAny_bind (collect_list hl ?_ (by rw [sizeLine_eq]; omega))
  refine wpAny_bind (wpAny_newList ?_ (by rw [sizeLine_eq]; omega))
  have hsz : ((s.heap.push (seqObj "list" #[] 0)).update s.heap.objs.size (Obj.mapSeq (· ++ vs.toArray))).objs.size = s.heap.objs.size + 1 := by
    rw [Heap.size_update, size_push']
  have hoL : (((s.heap.push (seqObj "list" #[] 0)).update s.heap.objs.size (Obj.mapSeq (· ++ vs.toArray))).push (seqObj "list" vs.toArray 0)).get? (s.heap.objs.size + 1) = some (seqObj "list" vs.toArray 0) := by
    rw [← hsz]; exact Heap.get?_push_size _ rfl
  have keep : Kp s.heap (((s.heap.push (seqObj "list" #[] 0)).update s.heap.objs.size (Obj.mapSeq (· ++ vs.toArray))).push (seqObj "list" vs.toArray 0)) := fun b o q => by
    have hlt : b < s.heap.objs.size := Heap.lt_size q
    rw [Heap.get?_push_ne _ _ _ (by rw [hsz]; exact Nat.ne_of_lt (Nat.lt_succ_of_lt hlt)), Heap.get?_update_ne _ _ _ _ (Nat.ne_of_lt hlt), Heap.get?_push_ne _ _ _ (Nat.ne_of_lt hlt)]
    exact q
  show wpAny _ _ _ _ _ { s with heap := ((s.heap.push (seqObj "list" #[] 0)).update s.heap.objs.size (Obj.mapSeq (· ++ vs.toArray))).push (seqObj "list" vs.toArray 0) }
  rw [hsz]
  generalize hH : ((s.heap.push (seqObj "list" #[] 0)).update s.heap.objs.size (Obj.mapSeq (· ++ vs.toArray))).push (seqObj "list" vs.toArray 0) = H at hoL keep
  obtain ⟨a, ha⟩ : ∃ a : Nat, a = s.heap.objs.size + 1 := ⟨_, rfl⟩
  have haS : @LT.lt Nat _ s.heap.objs.size a := by omega
  rw [← ha] at hoL ⊢
  have haH : @LT.lt Nat _ a H.objs.size := Heap.lt_size hoL
  refine wpAny_bind (wpAny_holding (wpAny_call_entry_kw slot_list_sort ⟨_, hoL, rfl⟩ entry_list_sort ?body (ksk_l1 _ _)))
  case body =>
    show wpAny (model PG w) A.in1.in1 (Builtin.«list.sort» ⟨[.ref a], [(Str.ofString "key", .ref 70)]⟩) _ _ _
    rw [ksk_t1]
    unfold ksk_tree
    refine wpAny_bind (listItems_at hoL rfl ?_)
    refine wpAny_bind (listUpdate_at hoL rfl ?_ (by rw [List.size_toArray, sizeLine_eq]; omega) (Nat.zero_le _))
    obtain ⟨e1, ho1⟩ := upd_plain (fun _ => #[]) hoL
    have K1 : ∀ b o, b ≠ a → H.get? b = some o → (H.update a (Obj.mapSeq fun _ => (#[] : Array Value))).get? b = some o := fun b o hb e => ((Heap.SameBut.update ..).2 b hb).trans e
    have hs1 : (H.update a (Obj.mapSeq fun _ => (#[] : Array Value))).objs.size = H.objs.size := Heap.size_update ..
    refine wpAny_bind (seqEpoch_at ho1 rfl ?_)
    refine wpAny_bind (wpAny_newTuple ?_ (by rw [List.toList_toArray, sizeLine_eq]; omega))
    refine wpAny_bind (wpAny_newList ?_ (Nat.zero_le _))
    refine wpAny_holding ?_
    dsimp only
    generalize hH1 : H.update a (Obj.mapSeq fun _ => (#[] : Array Value)) = H1 at ho1 K1 hs1 ⊢
    have hkSz : (H1.push { cls := .type "tuple", data := .seq vs.toArray.toList.toArray }).objs.size = H.objs.size + 1 := by rw [Heap.size_push, hs1]
    rw [hkSz]
    generalize hH2 : (H1.push { cls := .type "tuple", data := .seq vs.toArray.toList.toArray }).push { cls := .type "list", data := .seq ([] : List Value).toArray } = H2
    obtain ⟨kS, hkS⟩ : ∃ kS : Nat, kS = H.objs.size + 1 := ⟨_, rfl⟩
    rw [← hkS]
    have hak : @LT.lt Nat _ a kS := by omega
    have K2 : Kp H1 H2 := fun b o e => by rw [← hH2]; exact Heap.get?_push_of_some _ (Heap.get?_push_of_some _ e)
    have hk2 : H2.get? kS = some (seqObj "list" #[] 0) := by rw [← hH2, hkS, ← hkSz]; exact Heap.get?_push_size _ rfl
    have ha2 := K2 _ _ ho1
    have K02 : Kp s.heap H2 := fun b o e => K2 _ _ (K1 b o (Nat.ne_of_lt (Nat.lt_trans (Heap.lt_size e) haS)) (keep b o e))
    unfold ksk_rest
    refine wpAny_bind (wpAny_rule ?_)
    rw [List.forIn_toArray]
    refine wpAny_bind (ksk_fold (fun i s' => ∃ h' tk e, s' = { s with heap := h', toks := tk } ∧ Kp s.heap h' ∧ h'.get? kS = some (seqObj "list" (vs.take i).toArray e) ∧ h'.get? a = some (seqObj "list" #[] e1)) vs 0 _
      ⟨H2, s.toks, 0, rfl, K02, by simpa using hk2, ha2⟩ ?step ?done)
    case step =>
      rintro j x s' hx ⟨h', tk, e, rfl, K, hk, ha'⟩
      rw [Nat.zero_add] at hk ⊢
      have hj : j < vs.length := (List.getElem?_eq_some_iff.mp hx).1
      refine wpAny_bind (wpAny_attempt ?_)
      refine strxfrm_str (d := d) (C.keeps K) R.in1.in1 fun h₃ tk₃ K₃ => ?_
      dsimp only at K₃ ⊢
      obtain ⟨c2, hc2⟩ := upd_plain (·.push x) (K₃ _ _ hk)
      refine wpAny_bind (listUpdate_at (K₃ _ _ hk) rfl ?_ (by rw [List.size_toArray, List.length_take, sizeLine_eq]; omega) (by rw [Array.size_push, List.size_toArray, List.length_take, sizeLine_eq]; omega))
      have sb := Heap.SameBut.update h₃ kS (Obj.mapSeq (·.push x))
      refine wpAny_pure ⟨rfl, _, _, c2, rfl, fun b o eb => (sb.2 b ?_).trans (K₃ _ _ (K b o eb)), ?_, (sb.2 a (Nat.ne_of_lt hak)).trans (K₃ _ _ ha')⟩
      · exact Nat.ne_of_lt (Nat.lt_trans (Heap.lt_size eb) (Nat.lt_trans haS hak))
      · rw [hc2, List.take_add_one, hx]
        simp
    case done =>
      rintro s' ⟨h', tk, e, rfl, K, hk, ha'⟩
      rw [Nat.zero_add, List.take_length] at hk
      refine wpAny_bind (listItems_at hk rfl ?_)
      unfold ksk_end
      simp only [Bool.false_eq_true, if_false]
      have h2' : ¬ vs.toArray.size < 2 := by rw [List.size_toArray]; omega
      rw [if_neg h2', if_neg h2']
      have hkk := kind_strs hS h2
      rw [hkk]
      refine wpAny_bind (wpAny_pure ?_)
      refine wpAny_bind (wpAny_mono (wpS_sortRunsK (κ := strKind) strKind_oneLt (a₀ := pairsOf vs) (st := SortSt.mk' oneType' (vs.toArray.zip vs.toArray) #[] 7 none)
        (Q := fun _ st' => (arrOf st').Perm (pairsOf vs) ∧ failedOf st' = none ∧ SortedToK strKind (arrOf st') (pairsOf vs).size)
        hS.keysOf ⟨Array.Perm.refl _, rfl, rfl, rfl⟩ (by rw [pairsOf_size]; exact h2) (by rw [pairsOf_size]; exact h64) fun st' a1 a2 a3 => ⟨a1, a2, a3⟩) ?_ fun _ _ e => e)
      rintro ⟨⟨⟩, st'⟩ s' ⟨rfl, hp, hf, hs⟩
      have hsz2 : (arrOf st').size = vs.length := by rw [hp.size_eq, pairsOf_size]
      obtain ⟨so, o1, o2, o3⟩ := out_strs hS hp (by rw [hp.size_eq]; exact hs)
      unfold ksk_tail
      refine wpAny_bind (listUpdate_at hk rfl ?_ (by rw [List.size_toArray, sizeLine_eq]; omega) (Nat.zero_le _))
      refine wpAny_bind (wpAny_letGo ?_)
      have s1 := Heap.SameBut.update h' kS (Obj.mapSeq fun _ => (#[] : Array Value))
      have ha3 := (s1.2 a (Nat.ne_of_lt hak)).trans ha'
      refine wpAny_bind (seqEpoch_at ha3 rfl ?_)
      refine wpAny_bind (listUpdate_at ha3 rfl ?_ (Nat.zero_le _) (by simp only [Bool.false_eq_true, if_false, Array.size_map]; rw [hsz2, sizeLine_eq]; omega))
      rw [hf]
      simp only [bne_self_eq_false, Bool.false_eq_true, if_false]
      obtain ⟨c3, hc3⟩ := upd_plain (fun _ => (arrOf st').map (·.2)) ha3
      have s2 := Heap.SameBut.update (h'.update kS (Obj.mapSeq fun _ => (#[] : Array Value))) a (Obj.mapSeq fun _ => (arrOf st').map (·.2))
      refine wpAny_pure ⟨_, rfl, wpAny_pure ⟨_, rfl, ?_⟩⟩
      refine h a _ _ ((arrOf st').map (·.2)).toList so (fun b o e => ?_) (Nat.le_of_lt haS) ⟨c3, by rw [Array.toArray_toList]; exact hc3⟩ o1 o2 o3
      have hb1 : @LT.lt Nat _ b a := Nat.lt_trans (Heap.lt_size e) haS
      exact (s2.2 b (Nat.ne_of_lt hb1)).trans ((s1.2 b (Nat.ne_of_lt (Nat.lt_trans hb1 hak))).trans (K b o e))
end
end Mine

-- MB19
namespace Mine

/-- one turn of a comprehension's loop, by what it does with an item -/
def TurnIs (e : Expr) (depth : Nat) (env : Env) (acc : Value) (p : Pos) (t : Expr) (act : Sem Unit) : Prop :=
  ∀ it, compTurn e depth it acc env = (standAt p >>= fun _ => pyNext it >>= fun r => match r with
    | none => pure (.done .next)
    | some v => letOwnedTupleGo t it v >>= fun _ => assign t env v >>= fun _ => act >>= fun _ => again (.compLoop e depth it acc env))

section
variable {w : World} {A : Around} {s : Shared} {env : Env}

theorem turn1 (elt t iter : Expr) (scope : Scope) (pos : Pos) (acc : Value) : TurnIs (.ListComp elt [⟨t, iter, [], 0⟩] scope pos) 0 env acc iter.pos t (eval elt env >>= fun x => call (.builtin "list.append") [acc, x] >>= fun _ => pure ()) := fun _ => rfl
theorem turn2b (g0 : Comprehension) (elt t iter : Expr) (scope : Scope) (pos : Pos) (acc : Value) : TurnIs (.ListComp elt [g0, ⟨t, iter, [], 0⟩] scope pos) 1 env acc iter.pos t (eval elt env >>= fun x => call (.builtin "list.append") [acc, x] >>= fun _ => pure ()) := fun _ => rfl
theorem turn2a (elt t iter t1 iter1 : Expr) (scope : Scope) (pos : Pos) (acc : Value) : TurnIs (.ListComp elt [⟨t, iter, [], 0⟩, ⟨t1, iter1, [], 0⟩] scope pos) 0 env acc iter.pos t
    (eval iter1 env >>= fun x => standAt iter1.pos >>= fun _ => foldedSetIterable iter1 env x >>= fun x => holding [x] (pyIter x) >>= fun i => runOwn (.compStart (.ListComp elt [⟨t, iter, [], 0⟩, ⟨t1, iter1, [], 0⟩] scope pos) 1 i acc env) env >>= fun _ => pure ()) := by
  intro it
  show (standAt iter.pos >>= fun _ => pyNext it >>= fun r => match r with
    | none => pure (.done .next)
    | some v => letOwnedTupleGo t it v >>= fun _ => assign t env v >>= fun _ => eval iter1 env >>= fun x => standAt iter1.pos >>= fun _ => foldedSetIterable iter1 env x >>= fun x => holding [x] (pyIter x) >>= fun i =>
      runOwn (.compStart (.ListComp elt [⟨t, iter, [], 0⟩, ⟨t1, iter1, [], 0⟩] scope pos) 1 i acc env) env >>= fun _ => again (.compLoop (.ListComp elt [⟨t, iter, [], 0⟩, ⟨t1, iter1, [], 0⟩] scope pos) 0 it acc env)) = _
  simp only [bind_assoc, pure_bind]

theorem loopG {R : Result → Shared → Prop} {e : Expr} {depth : Nat} {it acc : Value} {t : Expr} {p : Pos} {act : Sem Unit} (hT : TurnIs e depth env acc p t act) (hq : Code.quiet (.compLoop e depth it acc env) = true)
    (hden : ∀ w, (model PG w).den (.compLoop e depth it acc env) = (compTurn e depth it acc env).onRaise (fun x => do noteFrame x env; theTreesLotGoes x)) (hu : A.under (.compLoop e depth it acc env) = A) (I : Nat → Shared → Prop)
    (turn : ∀ n s, I n s → wpAny (model PG w) A (pyNext it) (fun r s₁ => match r with
      | none => R (.ok .next) s₁
      | some v => wpAny (model PG w) A (letOwnedTupleGo t it v) (fun _ s₂ => wpAny (model PG w) A (assign t env v) (fun _ s₃ => wpAny (model PG w) A act (fun _ s₄ => ∃ m, m < n ∧ I m s₄) FF s₃) FF s₂) FF s₁) FF s)
    (n : Nat) (h : I n s) : codeAny (model PG w) A (.compLoop e depth it acc env) R s := by
  refine codeAny_loop hq I (fun n s hI => ?_) n h
  rw [hden, hu]
  refine wpAny_noted ?_
  rw [hT]
  refine wpAny_bind (wpAny_standAt (wpAny_bind (mono_ff (wpAny_mono (turn n s hI) (fun r s₁ h₁ => ?_) fun _ _ e => e))))
  cases r with
  | none => exact wpAny_pure h₁
  | some v =>
    refine wpAny_bind (mono_ff (wpAny_mono h₁ (fun _ s₂ h₂ => ?_) fun _ _ e => e))
    refine wpAny_bind (mono_ff (wpAny_mono h₂ (fun _ s₃ h₃ => ?_) fun _ _ e => e))
    exact wpAny_bind (mono_ff (wpAny_mono h₃ (fun _ s₄ h₄ => wpAny_pure ⟨rfl, h₄⟩) fun _ _ e => e))

/-- the loop over a walk, the heap told freely -/
theorem loopH {R : Result → Shared → Prop} {e : Expr} {depth : Nat} {I D C : Addr} {t : Expr} {p : Pos} {act : Sem Unit} {fp wr : List Addr} {n : Nat} {P : Nat → Value → Nat → Nat → Prop} {St : Nat → Heap → Prop} {m : Str → Option Value} {ys0 : List Value}
    (hT : TurnIs e depth env (.ref D) p t act) (hq : Code.quiet (.compLoop e depth (.ref I) (.ref D) env) = true)
    (hden : ∀ w, (model PG w).den (.compLoop e depth (.ref I) (.ref D) env) = (compTurn e depth (.ref I) (.ref D) env).onRaise (fun x => do noteFrame x env; theTreesLotGoes x)) (hu : A.under (.compLoop e depth (.ref I) (.ref D) env) = A)
    (W : Wk w A I fp wr n P St) (hCf : C ∉ fp) (hDf : D ∉ fp)
    (J : Nat → List Value → Nat → Heap → (Str → Option Value) → Prop) (hJ : ∀ i ys tk tk' h h' m, tk ≤ tk' → (∀ b o, b ∉ wr → h.get? b = some o → h'.get? b = some o) → J i ys tk h m → J i ys tk' h' m)
    (hst : St 0 s.heap) (hacc : s.heap.PlainList D ys0.toArray) (hn : s.heap.Ns C m) (h0 : J 0 ys0 s.toks s.heap m)
    (turn : ∀ i v ys h tk m, i < n → (∃ lo hi, s.toks ≤ lo ∧ hi ≤ tk ∧ P i v lo hi) → s.toks ≤ tk → J i ys tk h m → h.Ns C m → h.PlainList D ys.toArray → St (i + 1) h → (∀ b o, b ≠ C → b ≠ D → b ∉ wr → s.heap.get? b = some o → h.get? b = some o) →
      wpAny (model PG w) A (letOwnedTupleGo t (.ref I) v) (fun _ s₂ => wpAny (model PG w) A (assign t env v) (fun _ s₃ => wpAny (model PG w) A act (fun _ s₄ => ∃ h' tk' m' ys', s₄ = { s with heap := h', toks := tk' } ∧ h'.Ns C m' ∧ h'.PlainList D (List.toArray ys') ∧ J (i + 1) ys' tk' h' m' ∧
        (∀ b o, b ≠ C → b ≠ D → h.get? b = some o → h'.get? b = some o)) FF s₃) FF s₂) FF { s with heap := h, toks := tk })
    (hR : ∀ h' tk m' ys, s.toks ≤ tk → h'.Ns C m' → h'.PlainList D (List.toArray ys) → J n ys tk h' m' → (∀ b o, b ≠ C → b ≠ D → b ∉ wr → s.heap.get? b = some o → h'.get? b = some o) → R (.ok .next) { s with heap := h', toks := tk }) :
    codeAny (model PG w) A (.compLoop e depth (.ref I) (.ref D) env) R s := by
  have hCw : C ∉ wr := fun h => hCf (W.sub _ h)
  have hDw : D ∉ wr := fun h => hDf (W.sub _ h)
  refine loopG hT hq hden hu
    (fun k s' => ∃ h' tk m' ys i, s' = { s with heap := h', toks := tk } ∧ s.toks ≤ tk ∧ St i h' ∧ h'.PlainList D (List.toArray ys) ∧ h'.Ns C m' ∧ J i ys tk h' m' ∧ i ≤ n ∧ k = n + 1 - i ∧
      (∀ b o, b ≠ C → b ≠ D → b ∉ wr → s.heap.get? b = some o → h'.get? b = some o)) ?_ (n + 1)
    ⟨s.heap, s.toks, m, ys0, 0, rfl, Nat.le_refl _, hst, hacc, hn, h0, Nat.zero_le _, rfl, fun _ _ _ _ _ e => e⟩
  rintro k s' ⟨h', tk, m', ys, i, rfl, htk, hst', hacc', hn', hj, hi, rfl, hk⟩
  by_cases hlt : i < n
  · refine W.item i _ _ hlt hst' fun v h₁ tk₁ htk₁ hP hst₁ hk₁ => ?_
    have htk' : tk ≤ tk₁ := htk₁
    refine wpAny_mono (wpAny_toks_of (n := tk₁) (Nat.le_refl _) (turn i v ys h₁ tk₁ m' hlt ⟨tk, tk₁, htk, Nat.le_refl _, hP⟩ (by omega) (hJ _ _ _ _ _ _ _ htk' hk₁ hj) (hn'.at' fun o e => hk₁ _ o hCw e) (hacc'.at fun o e => hk₁ _ o hDw e) hst₁ fun b o hC hD hw e => hk₁ b o hw (hk b o hC hD hw e))) (fun _ s₂ h₂ => ?_) fun _ _ e => e.2
    obtain ⟨g₂, h₂⟩ := h₂
    refine wpAny_mono (wpAny_toks_of g₂ h₂) (fun _ s₃ h₃ => ?_) fun _ _ e => e.2
    obtain ⟨g₃, h₃⟩ := h₃
    refine wpAny_mono (wpAny_toks_of g₃ h₃) (fun _ s₄ h₄ => ?_) fun _ _ e => e.2
    obtain ⟨g₄, h₂', tk₂, m₂, ys₂, rfl, hn₂, hacc₂, hj₂, hk₂⟩ := h₄
    have g₄' : tk₁ ≤ tk₂ := g₄
    refine ⟨n + 1 - (i + 1), meas hlt, h₂', tk₂, m₂, ys₂, i + 1, rfl, by omega, ?_, hacc₂, hn₂, hj₂, hlt, rfl, fun b o hC hD hw e => hk₂ b o hC hD (hk₁ b o hw (hk b o hC hD hw e))⟩
    exact W.frame _ _ _ hst₁ fun b hb o e => hk₂ b o (fun q => hCf (q ▸ hb)) (fun q => hDf (q ▸ hb)) e
  · have hin : i = n := by omega
    subst hin
    refine W.done _ _ hst' fun h₁ tk₁ htk₁ hk₁ => ?_
    have htk' : tk ≤ tk₁ := htk₁
    exact hR h₁ tk₁ m' ys (by omega) (hn'.at' fun o e => hk₁ _ o hCw e) (hacc'.at fun o e => hk₁ _ o hDw e) (hJ _ _ _ _ _ _ _ htk' hk₁ hj) fun b o hC hD hw e => hk₁ b o hw (hk b o hC hD hw e)

/-- what is told of a comprehension of any clauses: C, D and the heap at the loop's start -/
def CompG (w : World) (A : Around) (env : Env) (elt : Expr) (gens : List Comprehension) (scope : Scope) (cl : List (Str × Addr)) (pos : Pos) (it : Value) (s₂ : Shared) (done : Addr → Addr → Heap → Nat → Prop) : Prop :=
  ∃ (I : Addr), it = .ref I ∧ (∀ h₁ tk (Q' : Value → Shared → Prop), Kp s₂.heap h₁ → Q' (.ref I) { s₂ with heap := h₁, toks := tk } → wpAny (model PG w) A (pyIter (.ref I)) Q' FF { s₂ with heap := h₁, toks := tk }) ∧
    ∀ (C D : Addr) h₁ tk m RR, s₂.heap.objs.size ≤ C → s₂.heap.objs.size ≤ D → C ≠ D → Kp s₂.heap h₁ → h₁.PlainList D (List.toArray []) → h₁.Ns C m → s₂.toks ≤ tk →
      (∀ h' tk' m', h'.Ns C m' → (∀ h'', Heap.SameBut C h' h'' → done C D h'' tk') → RR (.ok .next) { s₂ with heap := h', toks := tk' }) →
      codeAny (model PG w) A (.compLoop (.ListComp elt gens scope pos) 0 (.ref I) (.ref D) (compEnvC scope cl C env)) RR { s₂ with heap := h₁, toks := tk }

theorem compG_core {elt t0 iter0 : Expr} {rest : List Comprehension} {pos : Pos} {scope : Scope} {cl : List (Str × Addr)} {s₂ : Shared} {it : Value} {RR : Value → Addr → Result → Shared → Prop} {done : Addr → Addr → Heap → Nat → Prop}
    (hcell : ∀ y ∈ scope.names, y.2 ≠ .cell) (hkind : scope.kind = .function)
    (h : CompG w A env elt (⟨t0, iter0, [], 0⟩ :: rest) scope cl pos it s₂ done)
    (hRR : ∀ C D h' tk m', h'.Ns C m' → s₂.heap.objs.size ≤ C → s₂.heap.objs.size ≤ D → (∀ h'', Heap.SameBut C h' h'' → done C D h'' tk) → RR (.ref D) C (.ok .next) { s₂ with heap := h', toks := tk }) :
    wpAny (model PG w) A (newList []) (fun acc s₃ => wpAny (model PG w) A (newFunctionEnv scope env.globals cl [] env.qual none .none (some env)) (fun cenv s₄ =>
      codeAny (model PG w) A (.compStart (.ListComp elt (⟨t0, iter0, [], 0⟩ :: rest) scope pos) 0 it acc { cenv with scope := relabel scope env }) (RR acc cenv.locals) s₄) FF s₃) FF s₂ := by
  obtain ⟨I, rfl, self, h⟩ := h
  refine wpAny_newObj_type (wpAny_newFunctionEnv hcell (by intro y hy; simp at hy) (fun h₁ hns₁ hsb₁ => ?_) hkind)
  dsimp only at hns₁ hsb₁ ⊢
  generalize hH2 : s₂.heap.push { cls := .type "list", dict := none, data := .seq ([] : List Value).toArray } = H2 at hns₁ hsb₁ ⊢
  have hC : H2.objs.size = s₂.heap.objs.size + 1 := by rw [← hH2, Heap.size_push]
  have hDC : s₂.heap.objs.size ≠ H2.objs.size := by rw [hC]; exact Nat.ne_of_lt (Nat.lt_succ_self _)
  have below : ∀ b, b < s₂.heap.objs.size → b ≠ H2.objs.size ∧ b ≠ s₂.heap.objs.size := fun b hb => ⟨by rw [hC]; exact Nat.ne_of_lt (Nat.lt_succ_of_lt hb), Nat.ne_of_lt hb⟩
  have old : Kp s₂.heap h₁ := fun b o e => hsb₁.extBut b o (below b (Heap.lt_size e)).1 (Heap.get?_push_of_some _ (hH2 ▸ Heap.get?_push_of_some _ e))
  have hacc : h₁.PlainList s₂.heap.objs.size (List.toArray []) := ⟨_, hsb₁.extBut _ _ hDC (Heap.get?_push_of_some _ (hH2 ▸ Heap.get?_push_size _ rfl))⟩
  have loop : ∀ tk, s₂.toks ≤ tk → codeAny (model PG w) A (.compLoop (.ListComp elt (⟨t0, iter0, [], 0⟩ :: rest) scope pos) 0 (.ref I) (.ref s₂.heap.objs.size) (compEnvC scope cl H2.objs.size env))
        (RR (.ref s₂.heap.objs.size) H2.objs.size) { s₂ with heap := h₁, toks := tk } := fun tk htk =>
    h H2.objs.size s₂.heap.objs.size h₁ tk _ _ (by rw [hC]; exact Nat.le_succ _) (Nat.le_refl _) hDC.symm old hacc hns₁ htk fun h' tk' m' hn hd => hRR _ _ _ _ _ hn (by rw [hC]; exact Nat.le_succ _) (Nat.le_refl _) hd
  exact codeAny_compStart_list (loop _ (Nat.le_add_right _ _)) (mono_ff (self h₁ _ _ old (loop _ (Nat.le_add_right _ _))))

/-- a comprehension of any clauses -/
theorem compG {elt t0 iter0 : Expr} {rest : List Comprehension} {pos : Pos} {scope : Scope} {cl : List (Str × Addr)} {Q : Value → Shared → Prop}
    (hclos : closureFor scope env = pure cl) (hcell : ∀ y ∈ scope.names, y.2 ≠ .cell) (hkind : scope.kind = .function)
    (hnames : ∀ y ∈ scope.names, y.2 = .local → scope.names.lookup y.1 = some .local)
    (h : wpAny (model PG w) A (eval iter0 env) (fun xv s₁ => wpAny (model PG w) A (pyIter xv) (fun it s₂ => CompG w A env elt (⟨t0, iter0, [], 0⟩ :: rest) scope cl pos it s₂ fun C D h'' tk => Q (.ref D) { s₂ with heap := h'', toks := tk }) FF s₁) FF s)
    (hs : ∀ x, foldedSetIterable iter0 env x = pure x := by intro _; rfl) :
    wpAny (model PG w) A (eval (.ListComp elt (⟨t0, iter0, [], 0⟩ :: rest) scope pos) env) Q FF s := by
  rw [eval_ListComp]
  refine wpAny_comprehension_free (use := none) rfl hs hclos hkind hnames (wpAny_mono h (fun xv s₁ h₁ => wpAny_mono h₁ (fun it s₂ h₂ => ?_) fun _ _ e => e) fun _ _ e => e)
  exact compG_core (RR := compPost (model PG w) A FF none Q) hcell hkind h₂ fun C D h' tk m' hn _ _ hd => ⟨m', hn, fun h'' hs'' => hd h'' hs''⟩

/-- y = a comprehension of any clauses, y a local name -/
theorem asgG {elt t0 iter0 : Expr} {rest : List Comprehension} {y : Str} {py pos spos : Pos} {scope : Scope} {cl : List (Str × Addr)} {Q : Flow → Shared → Prop}
    (hsw : swapsWith (.ListComp elt (⟨t0, iter0, [], 0⟩ :: rest) scope pos) (some (.Name y py)) spos.line env = pure true)
    (hclos : closureFor scope env = pure cl) (hcell : ∀ y ∈ scope.names, y.2 ≠ .cell) (hkind : scope.kind = .function)
    (hnames : ∀ y ∈ scope.names, y.2 = .local → scope.names.lookup y.1 = some .local)
    (hy : env.kindOf y = some .local) (hp : (env.scope.kind == .class || (env.scope.kind == .module && env.locals != env.globals)) = false)
    (h : wpAny (model PG w) A (eval iter0 env) (fun xv s₁ => wpAny (model PG w) A (pyIter xv) (fun it s₂ => CompG w A env elt (⟨t0, iter0, [], 0⟩ :: rest) scope cl pos it s₂ fun C D h'' tk =>
      env.locals ≠ C ∧ ∃ m, h''.Ns env.locals m ∧ ∀ h₃ tk₃, tk ≤ tk₃ → h₃.Ns env.locals (fun z => if z = y then some (.ref D) else m z) → (∀ b o, b ≠ env.locals → b ≠ C → h''.get? b = some o → h₃.get? b = some o) → Q .next { s₂ with heap := h₃, toks := tk₃ }) FF s₁) FF s)
    (hs : ∀ x, foldedSetIterable iter0 env x = pure x := by intro _; rfl) :
    wpAny (model PG w) A (exec (.Assign [.Name y py] (.ListComp elt (⟨t0, iter0, [], 0⟩ :: rest) scope pos) spos) env) Q FF s := by
  rw [exec_Assign_Name_used _ _ _ _ hsw]
  refine wpAny_bind (wpAny_standAt (wpAny_bind ?_))
  show wpAny _ A (do let _ ← comprehension (.ListComp elt (⟨t0, iter0, [], 0⟩ :: rest) scope pos) scope env _ (newList []) false (eval iter0 env) (some (assign (.Name y py) env))) _ _ s
  refine wpAny_bind (wpAny_mono (wpAny_comprehension_free (use := some (assign (.Name y py) env)) (Q := fun _ s' => Q .next s') rfl hs hclos hkind hnames
    (wpAny_mono h (fun xv s₁ h₁ => wpAny_mono h₁ (fun it s₂ h₂ => ?_) fun _ _ e => e) fun _ _ e => e)) (fun _ s' hq => wpAny_pure (wpAny_pure hq)) fun _ _ e => e)
  refine compG_core (RR := compPost (model PG w) A FF (some (assign (.Name y py) env)) (fun _ s' => Q .next s')) hcell hkind h₂ fun C D h' tk m' hnC hCs _ hd => ?_
  obtain ⟨hLC, m, hn, hd⟩ := hd h' (.refl ..)
  show wpAny _ A (assign (.Name y py) env (.ref D)) _ _ _
  refine wpAny_assign_Name (wpAny_storeName_local hy hn (fun h₂ hn₂ hs₂ => ?_) hp)
  refine ⟨m', hnC.sameBut hs₂ (Ne.symm hLC), fun h₃ hs₃ => hd h₃ _ (Nat.le_succ _) (hn₂.sameBut hs₃ hLC) fun b o hbL hbC e => (hs₃.2 b hbC).trans ((hs₂.2 b hbL).trans e)⟩
end
end Mine

-- MB20
namespace Mine
theorem fillB20 (w : World) (h : Heap) : ((hd.heap_39 w.params).In h ∧ PySem.Challenge.rw_xi0002_01.row.prog = PySem.Challenge.rw_xi0002_01.row.prog) → True := by
  k_fill
  intros; trivial
section
variable {w : World} {A : Around} {s : Shared} {env : Env}

theorem start2 {R : Result → Shared → Prop} {elt t iter : Expr} {g0 : Comprehension} {scope : Scope} {pos : Pos} {I : Addr} {acc : Value}
    (h0 : codeAny (model PG w) A (.compLoop (.ListComp elt [g0, ⟨t, iter, [], 0⟩] scope pos) 1 (.ref I) acc env) R s)
    (h : wpAny (model PG w) A (pyIter (.ref I)) (fun it' s' => codeAny (model PG w) A (.compLoop (.ListComp elt [g0, ⟨t, iter, [], 0⟩] scope pos) 1 it' acc env) R s') FF s) :
    codeAny (model PG w) A (.compStart (.ListComp elt [g0, ⟨t, iter, [], 0⟩] scope pos) 1 (.ref I) acc env) R s := by
  refine codeAny_of_tree ?_
  show wpAny _ _ ((compStart (.ListComp elt [g0, ⟨t, iter, [], 0⟩] scope pos) 1 (.ref I) acc env).onRaise (fun x => do noteFrame x env; standAt theWindowsPlace)) _ _ s
  refine wpAny_notedAt ?_
  unfold compStart
  show wpAny _ _ (ask >>= _) _ _ s
  refine wpAny_bind (wpAny_askSetting (wpAny_ite ?_))
  have h' := mono_ff (E := fun (x : Value) (s' : Shared) => False) h
  split
  · first
      | exact wpAny_bind (wpAny_pure (wpAny_pure (And.intro rfl h0)))
      | exact wpAny_pure (And.intro rfl h0)
  · first
      | exact wpAny_bind (wpAny_rule (wpAny_bind (wpAny_standAt (wpAny_bind (wpAny_mono h (fun it' s' h' => wpAny_pure (And.intro rfl h')) fun _ _ x => x.elim)))))
      | (refine wpAny_bind (wpAny_rule ?_); show wpAny _ _ (standAt iter.pos >>= _) _ _ s; exact wpAny_bind (wpAny_standAt (wpAny_bind (wpAny_mono h (fun it' s' h' => wpAny_pure (And.intro rfl h')) fun _ _ x => x.elim))))

theorem start2r {R : Result → Shared → Prop} {elt t iter : Expr} {g0 : Comprehension} {scope : Scope} {pos : Pos} {I : Addr} {acc : Value} {a b c : Int} (hit : IsRangeIter s.heap I a b c)
    (h0 : codeAny (model PG w) A (.compLoop (.ListComp elt [g0, ⟨t, iter, [], 0⟩] scope pos) 1 (.ref I) acc env) R s) :
    codeAny (model PG w) A (.compStart (.ListComp elt [g0, ⟨t, iter, [], 0⟩] scope pos) 1 (.ref I) acc env) R s := start2 h0 (wpAny_pyIter_rangeiter hit h0)

theorem emit_ {elt : Expr} {D : Addr} {Q : Unit → Shared → Prop}
    (h : wpAny (model PG w) A (eval elt env) (fun y s₁ => ∃ ys, s₁.heap.PlainList D (List.toArray ys) ∧ ys.length ≤ sizeLine ∧ ∀ h', h'.PlainList D (ys ++ [y]).toArray → Heap.SameBut D s₁.heap h' → Q () { s₁ with heap := h' }) FF s) :
    wpAny (model PG w) A (eval elt env >>= fun x => call (.builtin "list.append") [.ref D, x] >>= fun _ => pure ()) Q FF s := by
  refine wpAny_bind (wpAny_mono h (fun y s₁ h₁ => ?_) fun _ _ e => e)
  obtain ⟨ys, hl, hsz, hQ⟩ := h₁
  exact wpAny_bind (append_plain hl hsz fun h' hl' S => wpAny_pure (hQ h' hl' S))

theorem nest_ {e : Expr} {acc : Value} {iter1 : Expr} {Q : Unit → Shared → Prop}
    (h : wpAny (model PG w) A (eval iter1 env) (fun xv s₁ => wpAny (model PG w) A (pyIter xv) (fun it s₂ => codeAny (model PG w) A (.compStart e 1 it acc env) (fun r s₃ => r = .ok .next ∧ Q () s₃) s₂) FF s₁) FF s)
    (hs : ∀ x, foldedSetIterable iter1 env x = pure x := by intro _; rfl) :
    wpAny (model PG w) A (eval iter1 env >>= fun x => standAt iter1.pos >>= fun _ => foldedSetIterable iter1 env x >>= fun x => holding [x] (pyIter x) >>= fun i => runOwn (.compStart e 1 i acc env) env >>= fun _ => pure ()) Q FF s := by
  refine wpAny_bind (wpAny_mono h (fun xv s₁ h₁ => ?_) fun _ _ e => e)
  refine wpAny_bind (wpAny_standAt ?_)
  rw [hs]
  refine wpAny_bind (wpAny_pure (wpAny_bind (wpAny_holding (wpAny_mono h₁ (fun it s₂ h₂ => ?_) fun _ _ e => e))))
  refine wpAny_bind (wpAny_runOwn (codeAny_mono h₂ fun r s₃ q => ?_))
  obtain ⟨rfl, q⟩ := q
  exact wpAny_pure q

theorem owned_list {elts : List Expr} {k} {tp : Pos} {I : Addr} {v : Value} {o : Obj} {Q : Unit → Shared → Prop} (ho : s.heap.get? I = some o) (hc : o.cls = .type "list_iterator") (h : Q () s) :
    wpAny (model PG w) A (letOwnedTupleGo (.Tuple elts k tp) (.ref I) v) Q FF s := by
  cases v <;> first
    | exact wpAny_pure h
    | skip
  rename_i a
  show wpAny _ _ (load I >>= _) _ _ _
  refine wpAny_bind (wpAny_load ho ?_)
  rw [hc]
  cases hd : o.data <;> first
    | exact wpAny_pure h
    | skip

/-- y, z = a tuple of two, as a comprehension's target -/
theorem tgt2 {n1 n2 : Str} {p1 p2 tp : Pos} {k} {a : Addr} {v1 v2 : Value} {Q : Unit → Shared → Prop} (hh : A.handled = none) (ht : IsTup s.heap a #[v1, v2])
    (h : ∀ h', Kp s.heap h' → wpAny (model PG w) A (storeName env n1 v1) (fun _ s₁ => wpAny (model PG w) A (storeName env n2 v2) Q FF s₁) FF { s with heap := h' }) :
    wpAny (model PG w) A (assign (.Tuple [.Name n1 p1, .Name n2 p2] k tp) env (.ref a)) Q FF s := by
  refine assign_Tuple_tuple (items := #[v1, v2]) hh ht rfl rfl fun h' he => ?_
  have K : Kp s.heap h' := fun b o e => he b o (Nat.ne_of_lt (Heap.lt_size e)) e
  exact assignInOrder_cons (PyProof.Rows.assign_Name (wpAny_mono (h h' K) (fun _ s₁ h₁ => assignInOrder_cons (PyProof.Rows.assign_Name (wpAny_mono h₁ (fun _ s₂ h₂ => assignInOrder_nil h₂) fun _ _ e => e))) fun _ _ e => e))

/-- range(a, b) and range(a, b, c) -/
theorem rng2 {np pos : Pos} {e f : Expr} {Q : Value → Shared → Prop} (C : Cx w s.heap)
    (h : wpAny (model PG w) A (eval e env) (fun v s₁ => wpAny (model PG w) A (eval f env) (fun v' s₂ => ∃ a t b t', v = .int a t ∧ v' = .int b t' ∧ ∀ r h' tk u₁ u₂ u₃, Kp s₂.heap h' → s₂.toks ≤ tk → s₂.heap.objs.size ≤ r → IsRange h' r a b 1 u₁ u₂ u₃ → Q (.ref r) { s₂ with heap := h', toks := tk }) FF s₁) FF s)
    (hk : env.scope.kind = .function := by rfl) (hg : env.globals = mainGlobals := by rfl) (hb : env.builtins = builtinsNs := by rfl) (hn : env.kindOf "range" = some .globalImplicit := by rfl)
    (he2 : starEach [e, f] env = [(false, eval e env), (false, eval f env)] := by rfl)
    (he : starEach [e, f] env = (false, eval e env) :: starEach [f] env := by rfl) (hplain : (backTo pos (starEach [f] env)).any (·.1) = false := by rfl) :
    wpAny (model PG w) A (eval (.Call (.Name "range" np) [e, f] [] pos) env) Q FF s := by
  refine callT C (by k_is) boot_range (spl2 (wpAny_mono h (fun v s₁ h₁ => wpAny_mono h₁ (fun v' s₂ h₂ => ?_) fun _ _ e => e) fun _ _ e => e) he2) (by decide) hk hg hb hn (by decide) he hplain
  obtain ⟨a, t, b, t', rfl, rfl, hQ⟩ := h₂
  exact PySem.call_range_2 (hQ _ _ _ _ _ _ (fun b o e => Heap.get?_push_of_some _ e) (by show s₂.toks ≤ s₂.toks + 1; omega) (Nat.le_refl _) (IsRange.new ..))
theorem rng3 {np pos : Pos} {e f g : Expr} {Q : Value → Shared → Prop} (C : Cx w s.heap)
    (h : wpAny (model PG w) A (eval e env) (fun v s₁ => wpAny (model PG w) A (eval f env) (fun v' s₂ => wpAny (model PG w) A (eval g env) (fun v'' s₃ => ∃ a t b t' c t'', v = .int a t ∧ v' = .int b t' ∧ v'' = .int c t'' ∧ c ≠ 0 ∧ c.natAbs < 1073741824 ∧
      ∀ r h' tk u₁ u₂ u₃, Kp s₃.heap h' → s₃.toks ≤ tk → s₃.heap.objs.size ≤ r → IsRange h' r a b c u₁ u₂ u₃ → Q (.ref r) { s₃ with heap := h', toks := tk }) FF s₂) FF s₁) FF s)
    (hk : env.scope.kind = .function := by rfl) (hg : env.globals = mainGlobals := by rfl) (hb : env.builtins = builtinsNs := by rfl) (hn : env.kindOf "range" = some .globalImplicit := by rfl)
    (he3 : starEach [e, f, g] env = [(false, eval e env), (false, eval f env), (false, eval g env)] := by rfl)
    (he : starEach [e, f, g] env = (false, eval e env) :: starEach [f, g] env := by rfl) (hplain : (backTo pos (starEach [f, g] env)).any (·.1) = false := by rfl) :
    wpAny (model PG w) A (eval (.Call (.Name "range" np) [e, f, g] [] pos) env) Q FF s := by
  refine callT C (by k_is) boot_range (spl3 (wpAny_mono h (fun v s₁ h₁ => wpAny_mono h₁ (fun v' s₂ h₂ => wpAny_mono h₂ (fun v'' s₃ h₃ => ?_) fun _ _ e => e) fun _ _ e => e) fun _ _ e => e) he3) (by decide) hk hg hb hn (by decide) he hplain
  obtain ⟨a, t, b, t', c, t'', rfl, rfl, rfl, hc, hc', hQ⟩ := h₃
  exact PySem.call_range_3 hc (hQ _ _ _ _ _ _ (fun b o e => Heap.get?_push_of_some _ e) (Nat.le_refl _) (Nat.le_refl _) (IsRange.new ..)) (.inl (PyProof.noPylong_small hc'))
end
end Mine

-- LB
namespace Mine
theorem fillLB (w : World) (h : Heap) : ((hd.heap_39 w.params).In h ∧ PySem.Challenge.rw_xi0002_01.row.prog = PySem.Challenge.rw_xi0002_01.row.prog) → True := by
  k_fill
  intros; trivial

/-- law's statements and its scope, out of the program -/
def lawBody : List Stmt := match PG.main.body.getLast? with
  | some (.FunctionDef _ _ b _ _ _ _ _ _ _) => b
  | _ => []
def lawScope : Scope := match PG.main.body.getLast? with
  | some (.FunctionDef _ _ _ _ _ _ s _ _ _) => s
  | _ => default
abbrev lawEnv (L fa : Addr) (cd : Value) : Env := envOfC (Str.ofString "law") lawScope L fa cd

abbrev frameX (L : Nat) : List Addr := [L, L + 1, L + 2, L + 3, L + 4, L + 5, L + 6, L + 7, L + 8]

/-- the text of six signs -/
def sgOf (a : Nat) : Str := match a with
  | 0 => ⟨#[57, 65, 90, 97, 102, 122]⟩
  | 1 => ⟨#[65, 90, 97, 102, 122, 233]⟩
  | _ => ⟨#[90, 97, 102, 122, 233, 1078]⟩
theorem sg_slice : ∀ a : Nat, a < 3 → Txt.slice (Str.ofString "9AZafzéж") (some (a : Int)) (some ((a : Int) + 6)) = sgOf a := by decide +kernel

section
variable {w : World} {A : Around} {s : Shared} {L fa : Addr} {cd : Value}

theorem stN {M : Model} {A : Around} {E : Value → Shared → Prop} {s : Shared} {env : Env} {m : Str → Option Value} {x : Str} {v : Value} {Q : Unit → Shared → Prop} (hn : s.heap.Ns env.locals m)
    (h : ∀ h', h'.Ns env.locals (fun y => if y = x then some v else m y) → Heap.SameBut env.locals s.heap h' → Q () { s with heap := h', toks := s.toks + 1 })
    (hl : env.kindOf x = some .local := by rfl) (hp : (env.scope.kind == .class || (env.scope.kind == .module && env.locals != env.globals)) = false := by rfl) :
    wpAny M A (storeName env x v) Q E s := wpAny_storeName_local hl hn h hp

set_option maxHeartbeats 4000000 in
theorem law_P1 {B : Heap} {sl : Addr} {sv : List Value} {ns : List Int} {m : Str → Option Value} {Q : Flow → Shared → Prop} (C : Cx w B) (hB : Kp B s.heap) (hcd : CodeHd B 55 51) (h51 : B.get? 51 = none) (hBL : @LE.le Nat _ B.objs.size L) (T : s.heap.get? 51 = some (tabObj #[])) (R : ∀ env, Room (A.deeper env) 20)
    (hn : s.heap.Ns L m) (hm : m (Str.ofString "script") = some (.ref sl)) (hs : B.IsList sl sv.toArray) (hns : IntsAre sv ns) (hlen : sv.length < 2 ^ 20) (hc : ∀ i : Nat, 1 ≤ i → i ≤ 8 → s.heap.IsCell (L + i : Nat) none)
    (next : ∀ h tk m' (cl ch : Nat) c0 c1 c2 t0 t1 t2 (wd : Nat) tw (a : Nat) ts, Kp B h → Tb (frameX L) 22 4 qIn h → h.Ns L m' → m' (Str.ofString "choices") = some (.ref ch) → h.IsCell (L + 1 : Nat) (some (.ref cl)) → L + 9 ≤ cl → h.PlainList cl #[.int c0 t0, .int c1 t1, .int c2 t2] →
      h.IsCell (L + 2 : Nat) (some (.int wd tw)) → 6 ≤ wd → wd ≤ 905 → ChsF (L + 9) h ch → h.IsCell (L + 3 : Nat) (some (.str (sgOf a) ts)) → a < 3 → (∀ i : Nat, 4 ≤ i → i ≤ 8 → h.IsCell (L + i : Nat) none) →
      wpAny (model PG w) (A.deeper (lawEnv L fa cd)) (execs (lawBody.drop 5) (lawEnv L fa cd)) Q FF { s with heap := h, toks := tk }) :
    wpAny (model PG w) (A.deeper (lawEnv L fa cd)) (execs lawBody (lawEnv L fa cd)) Q FF s := by
  have h51L : @LT.lt Nat _ 51 L := by
    obtain ⟨o, vs, file, tf, flags, tg, inF, text, tt, e1, _⟩ := id hcd
    have : @LT.lt Nat _ 55 B.objs.size := Heap.lt_size e1
    omega
  have hL9 : @LT.lt Nat _ (L + 8) s.heap.objs.size := by obtain ⟨o, ho, _⟩ := hc 8 (by decide) (by decide); exact Heap.lt_size ho
  refine wpAny_execs_cons (wpAny_Assign_Name (callF (C.keeps hB) (by k_is) (by k_is) (spl1 (ldL hn hm ⟨C.keeps hB, cells_spec (d := 18) (C.keeps hB) (R _) (hs.at fun o e => hB _ o e) hns hlen fun cl c0 c1 c2 t0 t1 t2 h₁ tk₁ K₁ _ hls hcl => ?_⟩))))
  refine wpAny_storeName_cell rfl rfl rfl (isCell_at (hc 1 (by decide) (by decide)) fun o e => K₁ _ o e) fun h₂ cc₂ S₂ => ?_
  dsimp only at S₂ ⊢
  have n₁ := hn.keeps K₁
  have hcl9 : @LE.le Nat _ (L + 9) cl := Nat.le_trans hL9 hls
  have sb : ∀ {h h' : Heap} {c : Nat}, Heap.SameBut c h h' → ∀ (b : Nat) o, b ≠ c → h.get? b = some o → h'.get? b = some o := fun S b o hb e => (S.2 b hb).trans e
  have n₂ := n₁.at' fun o e => sb S₂ L o (neL (L := L) (k := 1) (by decide)) e
  have hcl₂ := hcl.at fun o e => sb S₂ cl o (off9k (L := L) (k := 1) hcl9 (by decide)) e
  have cB : ∀ h, (∀ (b : Nat) o, b < L → b ≠ 51 → s.heap.get? b = some o → h.get? b = some o) → Kp B h := fun h k b o e => k b o (Nat.lt_of_lt_of_le (Heap.lt_size e) hBL) (fun q => by rw [q, h51] at e; cases e) (hB b o e)
  obtain ⟨wd, hwd, hw1, hw2⟩ : ∃ wd : Nat, (6 : Int) + c2.fmod 900 = (wd : Int) ∧ 6 ≤ wd ∧ wd ≤ 905 := by
    have h1 := Int.fmod_nonneg_of_pos c2 (show (0 : Int) < 900 by decide)
    have h2 := Int.fmod_lt_of_pos c2 (show (0 : Int) < 900 by decide)
    obtain ⟨n, hn⟩ := Int.eq_ofNat_of_zero_le h1
    rw [hn] at h2 ⊢
    exact ⟨6 + n, rfl, Nat.le_add_right 6 n, Nat.add_le_add_left (Nat.le_of_lt_succ (Int.ofNat_lt.mp h2)) 6⟩
  refine wpAny_execs_cons (wpAny_Assign_Name (wpAny_BinOp (wpAny_Constant_int (wpAny_BinOp (Subscript_ (ldC rfl cc₂ (wpAny_Constant_int (tail_list hcl₂.isList (by decide) (by decide) rfl (wpAny_Constant_int (AutoIntOps.mod_1 (by decide) (wpAny_add_int ?_)))))))))))
  rw [hwd]
  refine wpAny_storeName_cell rfl rfl rfl (isCell_at (hc 2 (by decide) (by decide)) fun o e => sb S₂ (L + 2) o (neLL (L := L) (i := 2) (j := 1) (by decide)) (K₁ _ o e)) fun h₃ cw₃ S₃ => ?_
  dsimp only at S₃ ⊢
  have n₃ := n₂.at' fun o e => sb S₃ L o (neL (L := L) (k := 2) (by decide)) e
  have k03 : ∀ (b : Nat) o, b ≠ L + 1 → b ≠ L + 2 → s.heap.get? b = some o → h₃.get? b = some o := fun b o h1 h2 e => sb S₃ b o h2 (sb S₂ b o h1 (K₁ b o e))
  have B₃ := cB h₃ fun b o hb _ e => k03 b o (ltk hb 1) (ltk hb 2) e
  have T₃ : Tb (frameX L) 22 4 qIn h₃ := .inl (k03 51 _ (ltk h51L 1) (ltk h51L 2) T)
  have c4₃ : ∀ i : Nat, 4 ≤ i → i ≤ 8 → h₃.IsCell (L + i : Nat) none := fun i h1 h2 => isCell_at (hc i (Nat.le_trans (by decide) h1) h2) fun o e => k03 _ o (neLL (Nat.ne_of_gt (Nat.lt_of_lt_of_le (by decide) h1))) (neLL (Nat.ne_of_gt (Nat.lt_of_lt_of_le (by decide) h1))) e
  have c3₃ := isCell_at (hc 3 (by decide) (by decide)) fun o e => k03 (L + 3) o (neLL (by decide)) (neLL (by decide)) e
  have cc₃ := isCell_at cc₂ fun o e => sb S₃ (L + 1) o (neLL (L := L) (i := 1) (j := 2) (by decide)) e
  have hcl₃ := hcl₂.at fun o e => sb S₃ cl o (off9k (L := L) (k := 2) hcl9 (by decide)) e
  have live₃ : ∀ b ∈ frameX L, ∃ o, h₃.get? b = some o := by
    intro b hb
    have hb' : b = L ∨ b = L + 1 ∨ b = L + 2 ∨ b = L + 3 ∨ ∃ i : Nat, 4 ≤ i ∧ i ≤ 8 ∧ b = L + i := by
      simp only [frameX, List.mem_cons, List.not_mem_nil, or_false] at hb
      rcases hb with h | h | h | h | h | h | h | h | h
      · exact .inl h
      · exact .inr (.inl h)
      · exact .inr (.inr (.inl h))
      · exact .inr (.inr (.inr (.inl h)))
      · exact .inr (.inr (.inr (.inr ⟨4, by decide, by decide, h⟩)))
      · exact .inr (.inr (.inr (.inr ⟨5, by decide, by decide, h⟩)))
      · exact .inr (.inr (.inr (.inr ⟨6, by decide, by decide, h⟩)))
      · exact .inr (.inr (.inr (.inr ⟨7, by decide, by decide, h⟩)))
      · exact .inr (.inr (.inr (.inr ⟨8, by decide, by decide, h⟩)))
    rcases hb' with h | h | h | h | ⟨i, h1, h2, h⟩
    · obtain ⟨o, _, _, e, _⟩ := id n₃; exact ⟨o, by rw [h]; exact e⟩
    · obtain ⟨o, e, _⟩ := id cc₃; exact ⟨o, by rw [h]; exact e⟩
    · obtain ⟨o, e, _⟩ := id cw₃; exact ⟨o, by rw [h]; exact e⟩
    · obtain ⟨o, e, _⟩ := id c3₃; exact ⟨o, by rw [h]; exact e⟩
    · obtain ⟨o, e, _⟩ := c4₃ i h1 h2; exact ⟨o, by rw [h]; exact e⟩
  refine wpAny_execs_cons (wpAny_Assign_Name (callF (C.keeps B₃) (by k_is) (by k_is) (spl1 (ldC rfl cw₃ ⟨C.keeps B₃, choices_spec (d := 11) (frameX L) C B₃ hcd h51 T₃ (R _) live₃ hw1 (Nat.le_trans hw2 (by decide)) fun ch h₄ tk₄ k₄ T₄ hch _ => ?_⟩))))
  have n₄ := n₃.at' fun o e => k₄ L o (Nat.ne_of_gt h51L) e
  refine stN n₄ fun h₅ n₅ S₅ => ?_
  dsimp only at k₄ S₅ hch ⊢
  have hL3 : @LE.le Nat _ (L + 9) h₃.objs.size := by obtain ⟨o, e, _⟩ := c4₃ 8 (by decide) (by decide); exact Heap.lt_size e
  have k35 : ∀ (b : Nat) o, b ≠ L → b ≠ 51 → h₃.get? b = some o → h₅.get? b = some o := fun b o h1 h2 e => sb S₅ b o h1 (k₄ b o h2 e)
  have hcl₅ := hcl₃.at fun o e => k35 cl o (off9 hcl9).1 (ne51 h51L (Nat.le_trans (Nat.le_add_right _ _) hcl9)) e
  have cc₅ := isCell_at cc₃ fun o e => k35 (L + 1) o (neG (by decide)) (ne51 h51L (Nat.le_add_right _ _)) e
  refine wpAny_execs_cons (wpAny_Assign_Name (wpAny_BinOp (wpAny_BinOp (Subscript_ (ldC rfl cc₅ (wpAny_Constant_int (tail_list hcl₅.isList (by decide) (by decide) rfl (wpAny_Constant_int (AutoIntOps.floordiv_1 (by decide) (by rw [PyProof.noPylong_small (by decide)]; exact Bool.false_ne_true) (wpAny_Constant_int (AutoIntOps.mod_1 (by decide) ?_)))))))))))
  obtain ⟨a, ha, ha3⟩ : ∃ a : Nat, (c1.fdiv 1200).fmod 3 = (a : Int) ∧ a < 3 := by
    have h1 := Int.fmod_nonneg_of_pos (c1.fdiv 1200) (show (0 : Int) < 3 by decide)
    have h2 := Int.fmod_lt_of_pos (c1.fdiv 1200) (show (0 : Int) < 3 by decide)
    exact ⟨_, toN h1, (Int.toNat_lt h1).mpr h2⟩
  rw [ha]
  refine stN n₅ fun h₆ n₆ S₆ => ?_
  dsimp only at S₆ ⊢
  refine wpAny_execs_cons (wpAny_Assign_Name (sub_str_ss (wpAny_Constant_str ⟨_, _, rfl, ldL n₆ rfl (wpAny_BinOp (ldL n₆ rfl (wpAny_Constant_int (wpAny_add_int ⟨a, _, (a : Int) + 6, _, rfl, rfl, Nat.le_of_ble_eq_true rfl, fun h₇ ts tk₇ K₇ => ?_⟩))))⟩)))
  rw [sg_slice a ha3]
  dsimp only at K₇ ⊢
  have k37 : ∀ (b : Nat) o, b ≠ L → b ≠ 51 → h₃.get? b = some o → h₇.get? b = some o := fun b o h1 h2 e => K₇ b o (sb S₆ b o h1 (k35 b o h1 h2 e))
  refine wpAny_storeName_cell rfl rfl rfl (isCell_at c3₃ fun o e => k37 (L + 3) o (neG (by decide)) (ne51 h51L (Nat.le_add_right _ _)) e) fun h₈ cs₈ S₈ => ?_
  dsimp only at S₈ ⊢
  have n₈ := (n₆.keeps K₇).at' fun o e => sb S₈ L o (neL (L := L) (k := 3) (by decide)) e
  have k38 : ∀ (b : Nat) o, b ≠ L → b ≠ L + 3 → b ≠ 51 → h₃.get? b = some o → h₈.get? b = some o := fun b o h1 h2 h3 e => sb S₈ b o h2 (k37 b o h1 h3 e)
  have k48 : ∀ (b : Nat) o, b ≠ L → b ≠ L + 3 → h₄.get? b = some o → h₈.get? b = some o := fun b o h1 h2 e => sb S₈ b o h2 (K₇ b o (sb S₆ b o h1 (sb S₅ b o h1 e)))
  have T₈ : Tb (frameX L) 22 4 qIn h₈ := by
    refine T₄.off (Z' := [L, L + 3]) (fun b o hb e => k48 b o (fun q => hb (by rw [q]; exact .head _)) (fun q => hb (by rw [q]; exact .tail _ (.head _))) e) ?_ ?_
    · intro hm
      rcases List.mem_cons.mp hm with q | hm
      · exact Nat.ne_of_lt h51L q
      · exact Nat.ne_of_lt (Nat.lt_of_lt_of_le h51L (Nat.le_add_right _ _)) (List.mem_singleton.mp hm)
    · intro b hb
      rcases List.mem_cons.mp hb with rfl | hb
      · exact .head _
      · rw [List.mem_singleton.mp hb]; exact .tail _ (.tail _ (.tail _ (.head _)))
  have hch₈ : ChsF (L + 9) h₈ ch := by
    obtain ⟨rs, g1, g2, g3, g4, g5⟩ := hch
    have r9 : ∀ r ∈ rs, @LE.le Nat _ (L + 9) r := fun r hr => Nat.le_trans hL3 (g3 r hr)
    have ch9 : @LE.le Nat _ (L + 9) ch := Nat.le_trans hL3 g2
    refine ⟨rs, g1, ch9, r9, g4.at fun o e => k48 ch o (off9 ch9).1 (off9k ch9 (by decide)) e, fun i r hr => ?_⟩
    obtain ⟨vs, v1, v2⟩ := g5 i r hr
    have r9' := r9 r (List.mem_of_getElem? hr)
    exact ⟨vs, v1.at fun o e => k48 r o (off9 r9').1 (off9k r9' (by decide)) e, v2⟩
  exact next h₈ _ _ cl ch c0 c1 c2 t0 t1 t2 wd _ a ts (cB h₈ fun b o h1 h2 e => k38 b o (Nat.ne_of_lt h1) (ltk h1 3) h2 (k03 b o (ltk h1 1) (ltk h1 2) e)) T₈ n₈ rfl (isCell_at cc₃ fun o e => k38 (L + 1) o (neG (by decide)) (neLL (by decide)) (ne51 h51L (Nat.le_add_right _ _)) e) hcl9
    (hcl₃.at fun o e => k38 cl o (off9 hcl9).1 (off9k hcl9 (by decide)) (ne51 h51L (Nat.le_trans (Nat.le_add_right _ _) hcl9)) e) (isCell_at cw₃ fun o e => k38 (L + 2) o (neG (by decide)) (neLL (by decide)) (ne51 h51L (Nat.le_add_right _ _)) e) hw1 hw2 hch₈ cs₈ ha3 fun i h1 h2 => isCell_at (c4₃ i h1 h2) fun o e => k38 (L + i) o (neG (Nat.lt_of_lt_of_le (by decide) h1)) (neLL (Nat.ne_of_gt (Nat.lt_of_lt_of_le (by decide) h1))) (ne51 h51L (Nat.le_add_right _ _)) e
end
end Mine

-- LC
namespace Mine
theorem fillLC (w : World) (h : Heap) : ((hd.heap_39 w.params).In h ∧ PySem.Challenge.rw_xi0002_01.row.prog = PySem.Challenge.rw_xi0002_01.row.prog) → True := by
  k_fill
  intros; trivial

/-- ys: tuples of two ints, none of them at X -/
def TupsX (X : List Addr) (h : Heap) (ys : List Value) (ps : List (Nat × Nat)) : Prop :=
  ys.length = ps.length ∧ ∀ (k : Nat) (p : Nat × Nat), ps[k]? = some p → ∃ a t t', ys[k]? = some (.ref a) ∧ a ∉ X ∧ IsTup h a #[.int p.1 t, .int p.2 t']
theorem TupsX.keep {X : List Addr} {h h' : Heap} {ys : List Value} {ps : List (Nat × Nat)} (T : TupsX X h ys ps) (k : ∀ b o, b ∉ X → h.get? b = some o → h'.get? b = some o) : TupsX X h' ys ps :=
  ⟨T.1, fun i p e => let ⟨a, t, t', e1, e2, o, ho, r⟩ := T.2 i p e; ⟨a, t, t', e1, e2, o, k a o e2 ho, r⟩⟩
theorem TupsX.add {X X' : List Addr} {h : Heap} {ys : List Value} {ps : List (Nat × Nat)} (T : TupsX X h ys ps) (hx : ∀ b ∈ X', h.objs.size ≤ b) : TupsX (X' ++ X) h ys ps :=
  ⟨T.1, fun i p e => let ⟨a, t, t', e1, e2, o, ho, r⟩ := T.2 i p e; ⟨a, t, t', e1, (fun hm => (List.mem_append.mp hm).elim (fun hm => absurd (Heap.lt_size ho) (Nat.not_lt.mpr (hx _ hm))) e2), o, ho, r⟩⟩
theorem TupsX.less {X X' : List Addr} {h : Heap} {ys : List Value} {ps : List (Nat × Nat)} (T : TupsX X h ys ps) (hx : ∀ b ∈ X', b ∈ X) : TupsX X' h ys ps :=
  ⟨T.1, fun i p e => let ⟨a, t, t', e1, e2, r⟩ := T.2 i p e; ⟨a, t, t', e1, (fun hm => e2 (hx _ hm)), r⟩⟩
theorem TupsX.snoc {X : List Addr} {h : Heap} {ys : List Value} {ps : List (Nat × Nat)} {a : Addr} {y z : Nat} {t t' : Tok} (T : TupsX X h ys ps) (ha : a ∉ X) (ht : IsTup h a #[.int y t, .int z t']) : TupsX X h (ys ++ [.ref a]) (ps ++ [(y, z)]) := by
  refine ⟨by simp [T.1], fun i p e => ?_⟩
  by_cases hi : i < ps.length
  · rw [List.getElem?_append_left hi] at e
    rw [List.getElem?_append_left (by rw [T.1]; exact hi)]
    exact T.2 i p e
  · have hi' := (List.getElem?_eq_some_iff.mp e).1
    have : i = ps.length := by simp at hi'; omega
    subst this
    rw [List.getElem?_append_right (Nat.le_refl _), Nat.sub_self] at e
    cases e
    rw [List.getElem?_append_right (by rw [T.1]; exact Nat.le_refl _), T.1, Nat.sub_self]
    exact ⟨a, t, t', rfl, ha, ht⟩

/-- the places laid by the first i turns of z -/
def laidTo (i : Nat) : List (Nat × Nat) := (List.range i).flatMap fun a => (List.range a).map fun j => (6 - a + j, 5 - a)

section
variable {w : World} {A : Around} {s : Shared} {L fa : Addr} {cd : Value}

set_option maxHeartbeats 4000000 in
theorem law_laid {m : Str → Option Value} {Q : Flow → Shared → Prop} (C : Cx w s.heap) (R : ∀ env, Room (A.deeper env) 20) (hn : s.heap.Ns L m)
    (next : ∀ h tk ll lv, (∀ b o, b ≠ L → s.heap.get? b = some o → h.get? b = some o) → h.Ns L (fun z => if z = Str.ofString "laid" then some (.ref ll) else m z) → s.heap.objs.size ≤ ll → h.PlainList ll (List.toArray lv) → TupsX [L] h lv (laidTo 6) →
      wpAny (model PG w) (A.deeper (lawEnv L fa cd)) (execs (lawBody.drop 6) (lawEnv L fa cd)) Q FF { s with heap := h, toks := tk }) :
    wpAny (model PG w) (A.deeper (lawEnv L fa cd)) (execs (lawBody.drop 5) (lawEnv L fa cd)) Q FF s := by
  refine wpAny_execs_cons (asgG rfl rfl (by decide) rfl (by decide) rfl rfl (rng3 C (wpAny_Constant_int (UnaryOp_ (wpAny_Constant_int (neg_int (UnaryOp_ (wpAny_Constant_int (neg_int ⟨_, _, _, _, _, _, rfl, rfl, rfl, by decide, by decide, fun r h₁ tk₁ u1 u2 u3 K₁ htk₁ hr hrr => ?_⟩)))))))))
  dsimp only at K₁ hr
  refine wpAny_pyIter_range hrr rfl ?_
  dsimp only
  refine ⟨_, rfl, ?_, ?_⟩
  · intro h₂ tk₂ Q' K hq
    exact wpAny_pyIter_rangeiter (K _ _ (Heap.get?_push_size _ rfl)) hq
  · intro C₂ D₂ h₂ tk₂ m₂ RR hC hD hCD K₂ hacc hnC htk₂ hfin
    dsimp only at hC hD K₂ htk₂ hfin ⊢
    rw [Heap.size_push] at hC hD
    generalize hI0 : h₁.objs.size = I0 at hC hD K₂ ⊢
    have hIlive : h₂.get? I0 = _ := K₂ _ _ (by rw [← hI0]; exact Heap.get?_push_size _ rfl)
    refine loopH (n := 6) (P := fun i v lo hi => ∃ t, v = .int (5 + i * (-1)) t ∧ lo ≤ t ∧ t < hi) (St := fun i h => IsRangeIter h I0 (5 + (i : Nat) * (-1)) ((6 : Nat) - (i : Nat)) (-1)) (fp := [I0]) (wr := [I0]) (C := C₂) (ys0 := []) (turn2a _ _ _ _ _ _ _ _) rfl (fun _ => rfl) rfl (Wk.range (R _).hd I0 5 (-1) 6) ?_ ?_
      (fun i ys tk h m => TupsX [L, I0, C₂, D₂] h ys (laidTo i)) ?_ ?_ hacc hnC ?_ ?_ ?_
    · intro q
      have := List.mem_singleton.mp q
      rw [this] at hC
      exact Nat.not_succ_le_self _ hC
    · intro q
      have := List.mem_singleton.mp q
      rw [this] at hD
      exact Nat.not_succ_le_self _ hD
    · intro i ys tk tk' h h' m _ hk hj
      exact hj.keep fun b o hb e => hk b o (fun q => hb (by rw [List.mem_singleton.mp q]; exact .tail _ (.head _))) e
    · exact hIlive
    · exact ⟨rfl, fun k p e => by cases e⟩
    · rintro i v ys h tk m₃ hi ⟨lo, hi', _, _, t, rfl, _, _⟩ htk hT hnC₃ hacc₃ st hk
      have ez : (5 + (i : Nat) * (-1) : Int) = ((5 - i : Nat) : Int) := by omega
      rw [ez]
      clear ez
      refine wpAny_of_eq (a := ()) rfl ?_
      refine PyProof.Rows.assign_Name (stN hnC₃ fun h₃ n₃ S₃ => ?_)
      dsimp only at S₃ htk hk ⊢
      have hb0 : ∀ b o, s.heap.get? b = some o → @LT.lt Nat _ b I0 := fun b o e => by rw [← hI0]; exact Heap.lt_size (K₁ b o e)
      have k2 : Kp s.heap h₂ := fun b o e => K₂ b o (Heap.get?_push_of_some _ (K₁ b o e))
      have hC' : @LT.lt Nat _ I0 C₂ := hC
      have hD' : @LT.lt Nat _ I0 D₂ := hD
      have k3 : Kp s.heap h₃ := fun b o e => by
        have h1 := hb0 b o e
        have hbC : b ≠ C₂ := Nat.ne_of_lt (Nat.lt_trans h1 hC')
        exact (S₃.2 b hbC).trans (hk b o hbC (Nat.ne_of_lt (Nat.lt_trans h1 hD')) (fun q => Nat.ne_of_lt h1 (List.mem_singleton.mp q)) (k2 b o e))
      have hL3 : ∃ o, h₃.get? L = some o := by obtain ⟨o, _, _, e, _⟩ := id hn; exact ⟨o, k3 _ _ e⟩
      have hI3 : h₃.get? I0 = _ := (S₃.2 I0 (Nat.ne_of_lt hC')).trans st
      have hD3 := hacc₃.at fun o e => (S₃.2 D₂ hCD.symm).trans e
      have hT3 : TupsX [L, I0, C₂, D₂] h₃ ys (laidTo i) := hT.keep fun b o hb e => (S₃.2 b fun q => hb (by rw [q]; exact .tail _ (.tail _ (.head _)))).trans e
      refine nest_ (rng2 (C.keeps k3) (wpAny_BinOp (ldL n₃ rfl (wpAny_Constant_int (wpAny_add_int (wpAny_Constant_int ⟨_, _, _, _, rfl, rfl, fun r' h₄ tk₄ v1 v2 v3 K₄ htk₄ hr' hrr' => ?_⟩))))))
      dsimp only at K₄ hr' htk₄
      rw [show ((5 - i : Nat) : Int) + 1 = ((6 - i : Nat) : Int) from (congrArg Int.ofNat (Nat.succ_sub (Nat.le_of_lt_succ hi))).symm] at hrr'
      have hrs : Builtin.Range.rangeSize ((6 - i : Nat) : Int) 6 1 = (i : Int) := by
        rw [PyProof.Rows.rangeSize_nat]
        omega
      have hsm : Builtin.Range.small ((6 - i : Nat) : Int) 6 1 = true := PySem.small_one (by omega) (by omega) (by decide) (by decide)
      refine wpAny_pyIter_range hrr' hsm ?_
      dsimp only
      rw [hrs]
      generalize hI1 : h₄.objs.size = I1
      generalize hh5 : h₄.push { cls := .type "range_iterator", data := .fields #[rawInt ((6 - i : Nat) : Int), rawInt (i : Int), rawInt 1] } = h₅
      have hI1l : h₅.get? I1 = some { cls := .type "range_iterator", data := .fields #[.int ((6 - i : Nat) : Int) 0, .int (i : Int) 0, .int 1 0] } := by rw [← hh5, ← hI1]; exact Heap.get?_push_size _ rfl
      have K35 : Kp h₃ h₅ := fun b o e => by rw [← hh5]; exact Heap.get?_push_of_some _ (K₄ b o e)
      have hb1 : ∀ b o, h₃.get? b = some o → @LT.lt Nat _ b I1 := fun b o e => by rw [← hI1]; exact Heap.lt_size (K₄ b o e)
      have n₅ := n₃.keeps K35
      have hD5 := hD3.at fun o e => K35 _ o e
      have hC1 : @LT.lt Nat _ C₂ I1 := by obtain ⟨o, _, _, e, _⟩ := id n₃; exact hb1 _ _ e
      have hD1 : @LT.lt Nat _ D₂ I1 := by obtain ⟨k, e⟩ := hD3; exact hb1 _ _ e
      have hI01 : @LT.lt Nat _ I0 I1 := hb1 _ _ hI3
      have hL1 : @LT.lt Nat _ L I1 := by obtain ⟨o, e⟩ := hL3; exact hb1 _ _ e
      have T5 : TupsX [I1, L, I0, C₂, D₂] h₅ ys (laidTo i) := by
        refine TupsX.keep (h := h₃) ?_ fun b o _ e => K35 b o e
        refine ⟨hT3.1, fun k p e => ?_⟩
        obtain ⟨a, ta, ta', e1, e2, o, ho, r⟩ := hT3.2 k p e
        refine ⟨a, ta, ta', e1, fun hm => ?_, o, ho, r⟩
        rcases List.mem_cons.mp hm with q | hm
        · exact Nat.ne_of_lt (hb1 _ _ ho) q
        · exact e2 hm
      have lt1 : (List.range i).length = i := List.length_range
      refine start2r (show IsRangeIter h₅ I1 ((6 - i : Nat) : Int) (i : Int) 1 from hI1l) ?_
      refine loopH (n := i) (P := fun j v lo hi => ∃ t, v = .int (((6 - i : Nat) : Int) + j * 1) t ∧ lo ≤ t ∧ t < hi) (St := fun j h => IsRangeIter h I1 (((6 - i : Nat) : Int) + (j : Nat) * 1) ((i : Nat) - (j : Nat)) 1) (fp := [I1]) (wr := [I1]) (C := C₂) (ys0 := ys) (turn2b _ _ _ _ _ _ _) rfl (fun _ => rfl) rfl (Wk.range (R _).hd I1 ((6 - i : Nat) : Int) 1 i)
        (fun q => Nat.ne_of_lt hC1 (List.mem_singleton.mp q)) (fun q => Nat.ne_of_lt hD1 (List.mem_singleton.mp q))
        (fun j ys tk h m => TupsX [I1, L, I0, C₂, D₂] h ys (laidTo i ++ (List.range j).map fun k => (6 - i + k, 5 - i)) ∧ ∃ tz, m (Str.ofString "z") = some (.int ((5 - i : Nat) : Int) tz)) ?_ ?_ hD5 n₅ ?_ ?_ ?_
      · rintro j ys tk tk' h h' m _ hk' ⟨hj, hz⟩
        exact ⟨hj.keep fun b o hb e => hk' b o (fun q => hb (by rw [List.mem_singleton.mp q]; exact .head _)) e, hz⟩
      · show IsRangeIter _ _ _ _ _
        have : IsRangeIter h₅ I1 ((6 - i : Nat) : Int) (i : Int) 1 := hI1l
        simpa using this
      · exact ⟨by simpa using T5, _, rfl⟩
      · rintro j v ys₆ h₆ tk₆ m₆ hj ⟨lo₆, hi₆, _, _, t₆, rfl, _, _⟩ htk₆ ⟨T6, tz, hz⟩ n₆ hacc₆ st₆ hk₆
        dsimp only at hk₆
        refine wpAny_of_eq (a := ()) rfl ?_
        refine PyProof.Rows.assign_Name (stN n₆ fun h₇ n₇ S₇ => ?_)
        dsimp only at S₇ ⊢
        rw [show ((6 - i : Nat) : Int) + (j : Nat) * 1 = ((6 - i + j : Nat) : Int) by omega] at n₇
        have hz' : (fun y => if y = Str.ofString "y" then some (Value.int ((6 - i + j : Nat) : Int) t₆) else m₆ y) (Str.ofString "z") = some (.int ((5 - i : Nat) : Int) tz) := hz
        refine emit_ (Tuple_ (spl2 (ldL n₇ rfl (ldL n₇ hz' (wpAny_newTuple ?_ (Nat.le_of_ble_eq_true rfl))))))
        dsimp only
        generalize hh8 : h₇.push { cls := .type "tuple", data := .seq [Value.int ((6 - i + j : Nat) : Int) t₆, Value.int ((5 - i : Nat) : Int) tz].toArray } = h₈
        have hA8 : IsTup h₈ h₇.objs.size #[.int ((6 - i + j : Nat) : Int) t₆, .int ((5 - i : Nat) : Int) tz] := by rw [← hh8]; exact ⟨_, Heap.get?_push_size _ rfl, rfl, _, rfl⟩
        have K78 : Kp h₇ h₈ := fun b o e => by rw [← hh8]; exact Heap.get?_push_of_some _ e
        have hD7 := hacc₆.at fun o e => (S₇.2 D₂ hCD.symm).trans e
        refine ⟨ys₆, hD7.at fun o e => K78 _ o e, ?_, fun h₉ hD9 S₉ => ?_⟩
        · rw [T6.1]
          have h1 : ∀ i : Nat, i < 6 → ∀ j : Nat, j < i → (laidTo i ++ (List.range j).map fun k => (6 - i + k, 5 - i)).length ≤ 100 := by decide
          exact Nat.le_trans (h1 i hi j hj) (Nat.le_of_ble_eq_true rfl)
        · have k69 : ∀ b o, b ≠ C₂ → b ≠ D₂ → h₆.get? b = some o → h₉.get? b = some o := fun b o h1 h2 e => (S₉.2 b h2).trans (K78 b o ((S₇.2 b h1).trans e))
          have live : ∀ b o, h₇.get? b = some o → b ≠ h₇.objs.size := fun b o e => Nat.ne_of_lt (Heap.lt_size e)
          have n₉ := (n₇.keeps K78).at' fun o e => (S₉.2 C₂ hCD).trans e
          have hsz : h₇.objs.size ∉ [I1, L, I0, C₂, D₂] := by
            have e1 : ∀ b, (∃ o, h₇.get? b = some o) → b ≠ h₇.objs.size := fun b ⟨o, e⟩ => live b o e
            have g1 : ∃ o, h₇.get? I1 = some o := ⟨_, (S₇.2 I1 (Nat.ne_of_gt hC1)).trans st₆⟩
            have g2 : ∃ o, h₇.get? L = some o := by
              obtain ⟨o, e⟩ := hL3
              have hb := hb1 _ _ e
              have hLC : L ≠ C₂ := Nat.ne_of_lt (Nat.lt_trans (by obtain ⟨o, _, _, e, _⟩ := id hn; exact hb0 _ _ e) hC')
              have hLD : L ≠ D₂ := Nat.ne_of_lt (Nat.lt_trans (by obtain ⟨o, _, _, e, _⟩ := id hn; exact hb0 _ _ e) hD')
              exact ⟨o, (S₇.2 L hLC).trans (hk₆ L o hLC hLD (fun q => Nat.ne_of_lt hL1 (List.mem_singleton.mp q)) (K35 _ _ e))⟩
            have g3 : ∃ o, h₇.get? I0 = some o := ⟨_, (S₇.2 I0 (Nat.ne_of_lt hC')).trans (hk₆ I0 _ (Nat.ne_of_lt hC') (Nat.ne_of_lt hD') (fun q => Nat.ne_of_lt hI01 (List.mem_singleton.mp q)) (K35 _ _ hI3))⟩
            have g4 : ∃ o, h₇.get? C₂ = some o := by obtain ⟨o, _, _, e, _⟩ := id n₇; exact ⟨o, e⟩
            have g5 : ∃ o, h₇.get? D₂ = some o := by obtain ⟨k, e⟩ := hD7; exact ⟨_, e⟩
            intro hm
            simp only [List.mem_cons, List.not_mem_nil, or_false] at hm
            rcases hm with q | q | q | q | q
            · exact e1 _ g1 q.symm
            · exact e1 _ g2 q.symm
            · exact e1 _ g3 q.symm
            · exact e1 _ g4 q.symm
            · exact e1 _ g5 q.symm
          refine ⟨h₉, _, _, _, rfl, n₉, hD9, ⟨?_, tz, hz'⟩, k69⟩
          have T9 : TupsX [I1, L, I0, C₂, D₂] h₉ ys₆ (laidTo i ++ (List.range j).map fun k => (6 - i + k, 5 - i)) := T6.keep fun b o hb e => k69 b o (fun q => hb (by rw [q]; simp)) (fun q => hb (by rw [q]; simp)) e
          rw [List.range_succ, List.map_append, ← List.append_assoc]
          refine T9.snoc (t := t₆) (t' := tz) hsz ?_
          obtain ⟨o, ho, r⟩ := hA8
          exact ⟨o, (S₉.2 _ fun q => hsz (by rw [q]; simp)).trans ho, r⟩
      · intro h₆ tk₆ m₆ ys₆ htk₆ n₆ hacc₆ ⟨T6, _⟩ hk₆
        dsimp only at hk₆ ⊢
        refine ⟨rfl, h₆, _, m₆, ys₆, rfl, n₆, hacc₆, ?_, fun b o h1 h2 e => ?_⟩
        · have : laidTo (i + 1) = laidTo i ++ (List.range i).map fun k => (6 - i + k, 5 - i) := by
            unfold laidTo
            rw [List.range_succ, List.flatMap_append]
            simp
          rw [this]
          exact T6.less fun b hb => .tail _ hb
        · have e3 := (S₃.2 b h1).trans e
          exact hk₆ b o h1 h2 (fun q => Nat.ne_of_lt (hb1 _ _ e3) (List.mem_singleton.mp q)) (K35 _ _ e3)
    · intro h₆ tk₆ m₆ ys₆ htk₆ n₆ hacc₆ T6 hk₆
      dsimp only at hk₆
      have hb0 : ∀ b o, s.heap.get? b = some o → @LT.lt Nat _ b I0 := fun b o e => by rw [← hI0]; exact Heap.lt_size (K₁ b o e)
      have hC' : @LT.lt Nat _ I0 C₂ := hC
      have hD' : @LT.lt Nat _ I0 D₂ := hD
      have k6 : Kp s.heap h₆ := fun b o e => by
        have h1 := hb0 b o e
        exact hk₆ b o (Nat.ne_of_lt (Nat.lt_trans h1 hC')) (Nat.ne_of_lt (Nat.lt_trans h1 hD')) (fun q => Nat.ne_of_lt h1 (List.mem_singleton.mp q)) (K₂ b o (Heap.get?_push_of_some _ (K₁ b o e)))
      have hLI : @LT.lt Nat _ L I0 := by obtain ⟨o, _, _, e, _⟩ := id hn; exact hb0 _ _ e
      have hLC : L ≠ C₂ := Nat.ne_of_lt (Nat.lt_trans hLI hC')
      have hLD : L ≠ D₂ := Nat.ne_of_lt (Nat.lt_trans hLI hD')
      refine hfin h₆ _ m₆ n₆ fun h₇ S₇ => ⟨hLC, m, (hn.keeps k6).at' fun o e => (S₇.2 L hLC).trans e, fun h₈ tk₈ htk₈ n₈ k₈ => ?_⟩
      have k68 : ∀ b o, b ≠ L → b ≠ C₂ → h₆.get? b = some o → h₈.get? b = some o := fun b o h1 h2 e => k₈ b o h1 h2 ((S₇.2 b h2).trans e)
      refine next h₈ _ D₂ ys₆ (fun b o hb e => k68 b o hb (Nat.ne_of_lt (Nat.lt_trans (hb0 b o e) hC')) (k6 b o e)) n₈ ?_ (hacc₆.at fun o e => k68 _ o (Ne.symm hLD) hCD.symm e) ?_
      · refine Nat.le_trans ?_ (Nat.le_of_lt hD')
        rw [← hI0]
        exact Nat.le_trans hr (Nat.le_of_lt (Heap.lt_size hrr))
      · exact (T6.keep (h' := h₈) fun b o hb e => k68 b o (fun q => hb (by rw [q]; simp)) (fun q => hb (by rw [q]; simp)) e).less (by simp)
end
end Mine

-- LD
namespace Mine
theorem fillLD (w : World) (h : Heap) : ((hd.heap_39 w.params).In h ∧ PySem.Challenge.rw_xi0002_01.row.prog = PySem.Challenge.rw_xi0002_01.row.prog) → True := by
  k_fill
  intros; trivial

def cdAt (a i : Nat) : Nat := (sgOf a).cps.getD i 0
theorem sg_item : ∀ a : Nat, a < 3 → ∀ i : Nat, i < 6 → Txt.item (sgOf a) (i : Int) = ⟨#[cdAt a i]⟩ := by decide +kernel
theorem sg_len : ∀ a : Nat, a < 3 → (sgOf a).length = 6 := by decide
def pairT (a : Nat) (p : Nat × Nat) : Str := ⟨#[cdAt a p.1, cdAt a p.2]⟩
theorem laid_lt : ∀ p ∈ laidTo 6, p.1 < 6 ∧ p.2 < 6 := by decide
theorem laid_len : (laidTo 6).length = 15 := by decide
theorem strs_snoc : ∀ {vs : List Value} {ps : List Str} {p : Str} {t : Tok}, StrsAre vs ps → StrsAre (vs ++ [.str p t]) (ps ++ [p])
  | _, _, _, _, .nil => .cons _ _ .nil
  | _, _, _, _, .cons n t h => .cons n t (strs_snoc h)

section
variable {w : World} {A : Around} {s : Shared} {env : Env}
theorem sorted_kw {np pos kp kpos : Pos} {e : Expr} {Q : Value → Shared → Prop} (C : Cx w s.heap)
    (h : wpAny (model PG w) A (eval e env) (fun v s₁ => Cx w s₁.heap ∧ wpAny (model PG w) A (call (.builtin "sorted") [v] [(Str.ofString "key", .ref 70)]) Q FF s₁) FF s)
    (hk : env.scope.kind = .function := by rfl) (hg : env.globals = mainGlobals := by rfl) (hb : env.builtins = builtinsNs := by rfl) (hn : env.kindOf "sorted" = some .globalImplicit := by rfl) (hn2 : env.kindOf "_strxfrm" = some .globalImplicit := by rfl)
    (he : backTo pos (starEach [e] env) = (false, eval e env) :: backTo pos (starEach [] env) := by rfl) (he2 : starEach [e] env = [(false, eval e env)] := by rfl)
    (hplain : (backTo pos (starEach [e] env)).any (·.1) = false := by rfl) :
    wpAny (model PG w) A (eval (.Call (.Name "sorted" np) [e] [⟨some (Str.ofString "key"), .Name (Str.ofString "_strxfrm") kp, kpos⟩] pos) env) Q FF s := by
  refine wpAny_Call_ofName (nm_builtin C (by k_is) boot_sorted (callWith_kw (spl1 (wpAny_mono h (fun v s₁ h₁ => ?_) fun _ _ e => e) he2) he hplain rfl rfl) (by decide) hk hg hb hn)
  obtain ⟨C₁, h₁⟩ := h₁
  refine evalAll_cons ?_
  exact wpAny_bind (nm_global C₁ (by k_is) (wpAny_bind (wpAny_standAt (wpAny_pure (evalAll_nil h₁)))) hk hg hn2)
end

section
variable {w : World} {A : Around} {s : Shared} {L fa : Addr} {cd : Value}

set_option maxHeartbeats 4000000 in
theorem law_pairs {m : Str → Option Value} {Q : Flow → Shared → Prop} {a ll : Nat} {ts : Tok} {lv : List Value} (C : Cx w s.heap) (R : ∀ env, Room (A.deeper env) 20) (hn : s.heap.Ns L m) (hl : m (Str.ofString "laid") = some (.ref ll)) (hll : s.heap.PlainList ll lv.toArray) (hT : TupsX [L] s.heap lv (laidTo 6))
    (hs : s.heap.IsCell (L + 3 : Nat) (some (.str (sgOf a) ts))) (ha : a < 3)
    (next : ∀ h tk pl pv so, (∀ b o, b ≠ L → s.heap.get? b = some o → h.get? b = some o) → h.Ns L (fun z => if z = Str.ofString "pairs" then some (.ref pl) else m z) → s.heap.objs.size ≤ pl → h.PlainList pl (List.toArray pv) → StrsAre pv so → so.Perm ((laidTo 6).map (pairT a)) → so.Pairwise (fun x y => ¬ y.cps.toList < x.cps.toList) →
      wpAny (model PG w) (A.deeper (lawEnv L fa cd)) (execs (lawBody.drop 7) (lawEnv L fa cd)) Q FF { s with heap := h, toks := tk }) :
    wpAny (model PG w) (A.deeper (lawEnv L fa cd)) (execs (lawBody.drop 6) (lawEnv L fa cd)) Q FF s := by
  obtain ⟨os, hos, hosd⟩ := id hs
  refine wpAny_execs_cons (wpAny_Assign_Name (sorted_kw C (compG rfl (by decide) rfl (by decide) (ldL hn hl ?_))))
  have hlllt : @LT.lt Nat _ ll s.heap.objs.size := by obtain ⟨k, e⟩ := hll; exact Heap.lt_size e
  refine wpAny_pyIter_list hll.isList ?_
  dsimp only
  generalize hI0 : s.heap.objs.size = I0
  refine ⟨I0, rfl, ?_, ?_⟩
  · intro h₂ tk₂ Q' K hq
    exact wpAny_pyIter_listiter ⟨_, K _ _ (by rw [← hI0]; exact Heap.get?_push_size _ rfl), rfl, rfl⟩ hq
  · intro C₂ D₂ h₂ tk₂ m₂ RR hC hD hCD K₂ hacc hnC htk₂ hfin
    dsimp only at hC hD K₂ htk₂ hfin ⊢
    rw [Heap.size_push, hI0] at hC hD
    have hC' : @LT.lt Nat _ I0 C₂ := hC
    have hD' : @LT.lt Nat _ I0 D₂ := hD
    have k2 : Kp s.heap h₂ := fun b o e => K₂ b o (Heap.get?_push_of_some _ e)
    have hb0 : ∀ b o, s.heap.get? b = some o → @LT.lt Nat _ b I0 := fun b o e => by rw [← hI0]; exact Heap.lt_size e
    have W := Wk.list (w := w) (A := A.deeper (lawEnv L fa cd)) (R _).hd I0 ll (Nat.ne_of_lt (by rw [← hI0]; exact hlllt)) lv.toArray
    rw [List.size_toArray] at W
    have hlv : lv.length = 15 := by rw [hT.1, laid_len]
    refine loopH (C := C₂) (ys0 := []) (turn1 _ _ _ _ _ _) rfl (fun _ => rfl) rfl W ?_ ?_
      (fun i ys tk h m => StrsAre ys (((laidTo 6).take i).map (pairT a))) (fun i ys tk tk' h h' m _ _ hj => hj) ⟨⟨_, K₂ _ _ (by rw [← hI0]; exact Heap.get?_push_size _ rfl), rfl, rfl⟩, hll.isList.at fun o e => k2 _ o e⟩ hacc hnC .nil ?_ ?_
    · intro q
      rcases List.mem_cons.mp q with q | q
      · exact Nat.ne_of_gt hC' q
      · have hlI : @LT.lt Nat _ ll I0 := by rw [← hI0]; exact hlllt
        exact Nat.ne_of_gt (Nat.lt_trans hlI hC') (List.mem_singleton.mp q)
    · intro q
      rcases List.mem_cons.mp q with q | q
      · exact Nat.ne_of_gt hD' q
      · have hlI : @LT.lt Nat _ ll I0 := by rw [← hI0]; exact hlllt
        exact Nat.ne_of_gt (Nat.lt_trans hlI hD') (List.mem_singleton.mp q)
    · rintro i v ys h tk m₃ hi ⟨lo, hi', _, _, hP⟩ htk hj hn₃ hacc₃ ⟨hit, hlist⟩ hk
      have hv : lv[i]? = some v := by simpa using hP
      have hi15 : i < (laidTo 6).length := by rw [← hT.1]; exact hi
      obtain ⟨p, hp⟩ : ∃ p, (laidTo 6)[i]? = some p := ⟨_, List.getElem?_eq_getElem hi15⟩
      obtain ⟨ad, t, t', hv', _, htup⟩ := hT.2 i p hp
      rw [hv] at hv'
      cases hv'
      obtain ⟨p1, p2⟩ := laid_lt p (List.mem_of_getElem? hp)
      have k3 : Kp s.heap h := fun b o e => hk b o (Nat.ne_of_lt (Nat.lt_trans (hb0 b o e) hC')) (Nat.ne_of_lt (Nat.lt_trans (hb0 b o e) hD')) (fun q => Nat.ne_of_lt (hb0 b o e) (List.mem_singleton.mp q)) (k2 b o e)
      obtain ⟨oi, hoi, hoc, _⟩ := id hit
      refine owned_list hoi hoc ?_
      refine tgt2 (R _).hd (htup.keeps k3) fun h₄ K₄ => ?_
      have n₄ := hn₃.keeps K₄
      refine stN n₄ fun h₅ n₅ S₅ => stN n₅ fun h₆ n₆ S₆ => ?_
      dsimp only at K₄ S₅ S₆ ⊢
      have k36 : ∀ b o, b ≠ C₂ → h.get? b = some o → h₆.get? b = some o := fun b o hb e => (S₆.2 b hb).trans ((S₅.2 b hb).trans (K₄ b o e))
      have hos₆ : h₆.get? (L + 3 : Nat) = some os := k36 _ _ (Nat.ne_of_lt (Nat.lt_trans (hb0 _ _ hos) hC')) (k3 _ _ hos)
      have hD6 := hacc₃.at fun o e => k36 D₂ o hCD.symm e
      refine emit_ (wpAny_BinOp (Subscript_ (ldC rfl ⟨os, hos₆, hosd⟩ (ldL n₆ rfl (tail_str_item (Int.natCast_nonneg _) (by rw [sg_len a ha]; omega) (by omega) (Subscript_ (ldC rfl ⟨os, hos₆, hosd⟩ (ldL n₆ rfl (tail_str_item (Int.natCast_nonneg _) (by rw [sg_len a ha]; omega) (by omega) ?_)))))))))
      rw [sg_item a ha _ p1, sg_item a ha _ p2]
      refine add_strs (Nat.le_of_ble_eq_true rfl) fun t₇ tk₇ => ?_
      dsimp only
      refine ⟨ys, hD6, ?_, fun h₇ hD7 S₇ => ?_⟩
      · rw [hj.length, List.length_map, List.length_take]
        exact Nat.le_trans (Nat.min_le_right _ _) (Nat.le_of_ble_eq_true (by rw [laid_len]; rfl))
      · refine ⟨h₇, _, _, _, rfl, n₆.at' fun o e => (S₇.2 C₂ hCD).trans e, hD7, ?_, fun b o h1 h2 e => (S₇.2 b h2).trans (k36 b o h1 e)⟩
        have : (laidTo 6).take (i + 1) = (laidTo 6).take i ++ [p] := by rw [List.take_add_one, hp]; rfl
        show StrsAre _ (((laidTo 6).take (i + 1)).map (pairT a))
        rw [this, List.map_append]
        exact strs_snoc hj
    · intro h₆ tk₆ m₆ ys₆ htk₆ n₆ hacc₆ hj hk₆
      dsimp only at hk₆
      have k6 : Kp s.heap h₆ := fun b o e => hk₆ b o (Nat.ne_of_lt (Nat.lt_trans (hb0 b o e) hC')) (Nat.ne_of_lt (Nat.lt_trans (hb0 b o e) hD')) (fun q => Nat.ne_of_lt (hb0 b o e) (List.mem_singleton.mp q)) (k2 b o e)
      refine hfin h₆ _ m₆ n₆ fun h₇ S₇ => ?_
      have k7 : Kp s.heap h₇ := fun b o e => (S₇.2 b (Nat.ne_of_lt (Nat.lt_trans (hb0 b o e) hC'))).trans (k6 b o e)
      have hacc₇ := hacc₆.at fun o e => (S₇.2 D₂ hCD.symm).trans e
      have hj' : StrsAre ys₆ ((laidTo 6).map (pairT a)) := by
        have e : (laidTo 6).take lv.length = laidTo 6 := List.take_of_length_le (by rw [hlv, laid_len]; exact Nat.le_refl _)
        have hj : StrsAre ys₆ (((laidTo 6).take lv.length).map (pairT a)) := hj
        rw [e] at hj; exact hj
      have hl6 : ys₆.length = 15 := by rw [hj'.length, List.length_map, laid_len]
      refine ⟨C.keeps k7, sort_key (d := 17) (C.keeps k7) (R _) hacc₇.isList hj' (by omega) (by omega) fun P h₈ tk₈ out so K₈ hP8 hpl8 hso hperm hpw => ?_⟩
      dsimp only at K₈ hP8 ⊢
      refine stN ((hn.keeps k7).keeps K₈) fun h₉ n₉ S₉ => ?_
      dsimp only at S₉ ⊢
      have hI7 : @LE.le Nat _ I0 h₇.objs.size := by
        obtain ⟨k, e⟩ := hacc₇
        exact Nat.le_of_lt (Nat.lt_trans hD' (Heap.lt_size e))
      have hLI : @LT.lt Nat _ L I0 := by obtain ⟨o, _, _, e, _⟩ := id hn; exact hb0 _ _ e
      have hPL : @LT.lt Nat _ L P := Nat.lt_of_lt_of_le hLI (Nat.le_trans hI7 hP8)
      refine next h₉ _ P out so (fun b o hb e => (S₉.2 b hb).trans (K₈ b o (k7 b o e))) n₉ ?_ (hpl8.at fun o e => (S₉.2 _ (Nat.ne_of_gt hPL)).trans e) hso hperm hpw
      rw [hI0]
      exact Nat.le_trans hI7 hP8
end
end Mine

-- LE
namespace Mine
theorem fillLE (w : World) (h : Heap) : ((hd.heap_39 w.params).In h ∧ PySem.Challenge.rw_xi0002_01.row.prog = PySem.Challenge.rw_xi0002_01.row.prog) → True := by
  k_fill
  intros; trivial

def trip1 (a : Nat) (p : Nat × Nat) (j : Nat) : Str := ⟨#[cdAt a (p.1 + 1 + j), cdAt a p.1, cdAt a p.2]⟩
def tripT (a : Nat) (p : Nat × Nat) : List Str := (List.range (5 - p.1)).map (trip1 a p)
theorem trip_len : ∀ a : Nat, a < 3 → ((laidTo 6).flatMap (tripT a)).length = 20 := by decide +kernel

section
variable {w : World} {A : Around} {s : Shared} {L fa : Addr} {cd : Value}

set_option maxHeartbeats 4000000 in
theorem law_triples {m : Str → Option Value} {Q : Flow → Shared → Prop} {a ll : Nat} {ts : Tok} {lv : List Value} (C : Cx w s.heap) (R : ∀ env, Room (A.deeper env) 20) (hn : s.heap.Ns L m) (hl : m (Str.ofString "laid") = some (.ref ll)) (hll : s.heap.PlainList ll lv.toArray) (hT : TupsX [L] s.heap lv (laidTo 6))
    (hs : s.heap.IsCell (L + 3 : Nat) (some (.str (sgOf a) ts))) (ha : a < 3)
    (next : ∀ h tk pl pv so, (∀ b o, b ≠ L → s.heap.get? b = some o → h.get? b = some o) → h.Ns L (fun z => if z = Str.ofString "triples" then some (.ref pl) else m z) → s.heap.objs.size ≤ pl → h.PlainList pl (List.toArray pv) → StrsAre pv so → so.Perm ((laidTo 6).flatMap (tripT a)) → so.Pairwise (fun x y => ¬ y.cps.toList < x.cps.toList) →
      wpAny (model PG w) (A.deeper (lawEnv L fa cd)) (execs (lawBody.drop 8) (lawEnv L fa cd)) Q FF { s with heap := h, toks := tk }) :
    wpAny (model PG w) (A.deeper (lawEnv L fa cd)) (execs (lawBody.drop 7) (lawEnv L fa cd)) Q FF s := by
  obtain ⟨os, hos, hosd⟩ := id hs
  refine wpAny_execs_cons (wpAny_Assign_Name (sorted_kw C (compG rfl (by decide) rfl (by decide) (ldL hn hl ?_))))
  have hlllt : @LT.lt Nat _ ll s.heap.objs.size := by obtain ⟨k, e⟩ := hll; exact Heap.lt_size e
  refine wpAny_pyIter_list hll.isList ?_
  dsimp only
  generalize hI0 : s.heap.objs.size = I0
  refine ⟨I0, rfl, ?_, ?_⟩
  · intro h₂ tk₂ Q' K hq
    exact wpAny_pyIter_listiter ⟨_, K _ _ (by rw [← hI0]; exact Heap.get?_push_size _ rfl), rfl, rfl⟩ hq
  · intro C₂ D₂ h₂ tk₂ m₂ RR hC hD hCD K₂ hacc hnC htk₂ hfin
    dsimp only at hC hD K₂ htk₂ hfin ⊢
    rw [Heap.size_push, hI0] at hC hD
    have hC' : @LT.lt Nat _ I0 C₂ := hC
    have hD' : @LT.lt Nat _ I0 D₂ := hD
    have k2 : Kp s.heap h₂ := fun b o e => K₂ b o (Heap.get?_push_of_some _ e)
    have hb0 : ∀ b o, s.heap.get? b = some o → @LT.lt Nat _ b I0 := fun b o e => by rw [← hI0]; exact Heap.lt_size e
    have W := Wk.list (w := w) (A := A.deeper (lawEnv L fa cd)) (R _).hd I0 ll (Nat.ne_of_lt (by rw [← hI0]; exact hlllt)) lv.toArray
    rw [List.size_toArray] at W
    have hlv : lv.length = 15 := by rw [hT.1, laid_len]
    refine loopH (C := C₂) (ys0 := []) (turn2a _ _ _ _ _ _ _ _) rfl (fun _ => rfl) rfl W ?_ ?_
      (fun i ys tk h m => StrsAre ys (((laidTo 6).take i).flatMap (tripT a))) (fun i ys tk tk' h h' m _ _ hj => hj) ⟨⟨_, K₂ _ _ (by rw [← hI0]; exact Heap.get?_push_size _ rfl), rfl, rfl⟩, hll.isList.at fun o e => k2 _ o e⟩ hacc hnC .nil ?_ ?_
    · intro q
      rcases List.mem_cons.mp q with q | q
      · exact Nat.ne_of_gt hC' q
      · have hlI : @LT.lt Nat _ ll I0 := by rw [← hI0]; exact hlllt
        exact Nat.ne_of_gt (Nat.lt_trans hlI hC') (List.mem_singleton.mp q)
    · intro q
      rcases List.mem_cons.mp q with q | q
      · exact Nat.ne_of_gt hD' q
      · have hlI : @LT.lt Nat _ ll I0 := by rw [← hI0]; exact hlllt
        exact Nat.ne_of_gt (Nat.lt_trans hlI hD') (List.mem_singleton.mp q)
    · rintro i v ys h tk m₃ hi ⟨lo, hi', _, _, hP⟩ htk hj hn₃ hacc₃ ⟨hit, hlist⟩ hk
      have hv : lv[i]? = some v := by simpa using hP
      have hi15 : i < (laidTo 6).length := by rw [← hT.1]; exact hi
      obtain ⟨p, hp⟩ : ∃ p, (laidTo 6)[i]? = some p := ⟨_, List.getElem?_eq_getElem hi15⟩
      obtain ⟨ad, t, t', hv', _, htup⟩ := hT.2 i p hp
      rw [hv] at hv'
      cases hv'
      obtain ⟨p1, p2⟩ := laid_lt p (List.mem_of_getElem? hp)
      have k3 : Kp s.heap h := fun b o e => hk b o (Nat.ne_of_lt (Nat.lt_trans (hb0 b o e) hC')) (Nat.ne_of_lt (Nat.lt_trans (hb0 b o e) hD')) (fun q => Nat.ne_of_lt (hb0 b o e) (List.mem_singleton.mp q)) (k2 b o e)
      obtain ⟨oi, hoi, hoc, _⟩ := id hit
      refine owned_list hoi hoc ?_
      refine tgt2 (R _).hd (htup.keeps k3) fun h₄ K₄ => ?_
      have n₄ := hn₃.keeps K₄
      refine stN n₄ fun h₅ n₅ S₅ => stN n₅ fun h₆ n₆ S₆ => ?_
      dsimp only at K₄ S₅ S₆ ⊢
      have k36 : ∀ b o, b ≠ C₂ → h.get? b = some o → h₆.get? b = some o := fun b o hb e => (S₆.2 b hb).trans ((S₅.2 b hb).trans (K₄ b o e))
      have hos₆ : h₆.get? (L + 3 : Nat) = some os := k36 _ _ (Nat.ne_of_lt (Nat.lt_trans (hb0 _ _ hos) hC')) (k3 _ _ hos)
      have hD6 := hacc₃.at fun o e => k36 D₂ o hCD.symm e
      have k06 : Kp s.heap h₆ := fun b o e => k36 b o (Nat.ne_of_lt (Nat.lt_trans (hb0 b o e) hC')) (k3 b o e)
      refine nest_ (rng2 (C.keeps k06) (wpAny_BinOp (ldL n₆ rfl (wpAny_Constant_int (wpAny_add_int (wpAny_Constant_int ⟨_, _, _, _, rfl, rfl, fun r' h₇ tk₇ v1 v2 v3 K₇ htk₇ hr' hrr' => ?_⟩))))))
      dsimp only at K₇ hr' htk₇
      have hrs : Builtin.Range.rangeSize ((p.1 : Int) + 1) 6 1 = ((5 - p.1 : Nat) : Int) := by
        rw [PyProof.Rows.rangeSize_nat]
        omega
      have hsm : Builtin.Range.small ((p.1 : Int) + 1) 6 1 = true := PySem.small_one (by omega) (by omega) (by decide) (by decide)
      refine wpAny_pyIter_range hrr' hsm ?_
      dsimp only
      rw [hrs]
      generalize hI1 : h₇.objs.size = I1
      generalize hh8 : h₇.push { cls := .type "range_iterator", data := .fields #[rawInt ((p.1 : Int) + 1), rawInt ((5 - p.1 : Nat) : Int), rawInt 1] } = h₈
      have hI1l : IsRangeIter h₈ I1 ((p.1 : Int) + 1) ((5 - p.1 : Nat) : Int) 1 := by rw [← hh8, ← hI1]; exact Heap.get?_push_size _ rfl
      have K68 : Kp h₆ h₈ := fun b o e => by rw [← hh8]; exact Heap.get?_push_of_some _ (K₇ b o e)
      have hb1 : ∀ b o, h₆.get? b = some o → @LT.lt Nat _ b I1 := fun b o e => by rw [← hI1]; exact Heap.lt_size (K₇ b o e)
      have n₈ := n₆.keeps K68
      have hD8 := hD6.at fun o e => K68 _ o e
      have hC1 : @LT.lt Nat _ C₂ I1 := by obtain ⟨o, _, _, e, _⟩ := id n₆; exact hb1 _ _ e
      have hD1 : @LT.lt Nat _ D₂ I1 := by obtain ⟨k, e⟩ := hD6; exact hb1 _ _ e
      refine start2r hI1l ?_
      refine loopH (n := 5 - p.1) (P := fun j v lo hi => ∃ t, v = .int (((p.1 : Int) + 1) + j * 1) t ∧ lo ≤ t ∧ t < hi) (St := fun j h => IsRangeIter h I1 (((p.1 : Int) + 1) + (j : Nat) * 1) (((5 - p.1 : Nat) : Int) - (j : Nat)) 1) (fp := [I1]) (wr := [I1]) (C := C₂) (ys0 := ys) (turn2b _ _ _ _ _ _ _) rfl (fun _ => rfl) rfl (Wk.range (R _).hd I1 ((p.1 : Int) + 1) 1 (5 - p.1))
        (fun q => Nat.ne_of_lt hC1 (List.mem_singleton.mp q)) (fun q => Nat.ne_of_lt hD1 (List.mem_singleton.mp q))
        (fun j ys tk h m => StrsAre ys (((laidTo 6).take i).flatMap (tripT a) ++ (List.range j).map (trip1 a p)) ∧ (∃ t, m (Str.ofString "y") = some (.int (p.1 : Int) t)) ∧ ∃ t, m (Str.ofString "z") = some (.int (p.2 : Int) t)) (fun j ys tk tk' h h' m _ _ hj => hj) ?_ hD8 n₈ ?_ ?_ ?_
      · show IsRangeIter _ _ _ _ _
        simpa using hI1l
      · exact ⟨by simpa using hj, ⟨_, rfl⟩, _, rfl⟩
      · rintro j v ys₉ h₉ tk₉ m₉ hj5 ⟨lo₉, hi₉, _, _, t₉, rfl, _, _⟩ htk₉ ⟨hj9, ⟨ty, hy⟩, tz, hz⟩ n₉ hacc₉ st₉ hk₉
        dsimp only at hk₉
        refine wpAny_of_eq (a := ()) rfl ?_
        refine PyProof.Rows.assign_Name (stN n₉ fun h₁₀ n₁₀ S₁₀ => ?_)
        dsimp only at S₁₀ ⊢
        rw [show (p.1 : Int) + 1 + (j : Nat) * 1 = ((p.1 + 1 + j : Nat) : Int) by omega] at n₁₀
        have hy' : (fun y => if y = Str.ofString "x" then some (Value.int ((p.1 + 1 + j : Nat) : Int) t₉) else m₉ y) (Str.ofString "y") = some (.int (p.1 : Int) ty) := hy
        have hz' : (fun y => if y = Str.ofString "x" then some (Value.int ((p.1 + 1 + j : Nat) : Int) t₉) else m₉ y) (Str.ofString "z") = some (.int (p.2 : Int) tz) := hz
        have px : p.1 + 1 + j < 6 := by omega
        have k910 : ∀ b o, b ≠ C₂ → h₉.get? b = some o → h₁₀.get? b = some o := fun b o hb e => (S₁₀.2 b hb).trans e
        have hos₁₀ : h₁₀.get? (L + 3 : Nat) = some os := by
          have hbc := Nat.ne_of_lt (Nat.lt_trans (hb0 _ _ hos) hC')
          have hbd := Nat.ne_of_lt (Nat.lt_trans (hb0 _ _ hos) hD')
          exact k910 _ _ hbc (hk₉ _ _ hbc hbd (fun q => Nat.ne_of_lt (hb1 _ _ hos₆) (List.mem_singleton.mp q)) (K68 _ _ hos₆))
        have hD10 := hacc₉.at fun o e => k910 D₂ o hCD.symm e
        refine emit_ (wpAny_BinOp (wpAny_BinOp (Subscript_ (ldC rfl ⟨os, hos₁₀, hosd⟩ (ldL n₁₀ rfl (tail_str_item (Int.natCast_nonneg _) (by rw [sg_len a ha]; omega) (by omega) (Subscript_ (ldC rfl ⟨os, hos₁₀, hosd⟩ (ldL n₁₀ hy' (tail_str_item (Int.natCast_nonneg _) (by rw [sg_len a ha]; omega) (by omega) ?_))))))))))
        rw [sg_item a ha _ px, sg_item a ha _ p1]
        refine add_strs (Nat.le_of_ble_eq_true rfl) fun t₁₁ tk₁₁ => ?_
        refine Subscript_ (ldC rfl ⟨os, hos₁₀, hosd⟩ (ldL n₁₀ hz' (tail_str_item (Int.natCast_nonneg _) (by rw [sg_len a ha]; omega) (by omega) ?_)))
        rw [sg_item a ha _ p2]
        refine add_strs (Nat.le_of_ble_eq_true rfl) fun t₁₂ tk₁₂ => ?_
        dsimp only
        refine ⟨ys₉, hD10, ?_, fun h₁₁ hD11 S₁₁ => ?_⟩
        · rw [hj9.length, List.length_append, List.length_map, List.length_range]
          have h1 : ∀ a : Nat, a < 3 → ∀ i : Nat, i ≤ 15 → (((laidTo 6).take i).flatMap (tripT a)).length ≤ 20 := by decide +kernel
          have h2 := h1 a ha i (by rw [hlv] at hi; omega)
          exact Nat.le_trans (show _ ≤ 30 by omega) (Nat.le_of_ble_eq_true rfl)
        · refine ⟨h₁₁, _, _, _, rfl, n₁₀.at' fun o e => (S₁₁.2 C₂ hCD).trans e, hD11, ⟨?_, ⟨ty, hy'⟩, tz, hz'⟩, fun b o h1 h2 e => (S₁₁.2 b h2).trans (k910 b o h1 e)⟩
          rw [List.range_succ, List.map_append, ← List.append_assoc]
          exact strs_snoc hj9
      · intro h₉ tk₉ m₉ ys₉ htk₉ n₉ hacc₉ ⟨hj9, _⟩ hk₉
        dsimp only at hk₉ ⊢
        refine ⟨rfl, h₉, _, m₉, ys₉, rfl, n₉, hacc₉, ?_, fun b o h1 h2 e => ?_⟩
        · have : (laidTo 6).take (i + 1) = (laidTo 6).take i ++ [p] := by rw [List.take_add_one, hp]; rfl
          show StrsAre _ (((laidTo 6).take (i + 1)).flatMap (tripT a))
          rw [this, List.flatMap_append]
          simpa [tripT] using hj9
        · have e6 := k36 b o h1 e
          exact hk₉ b o h1 h2 (fun q => Nat.ne_of_lt (hb1 _ _ e6) (List.mem_singleton.mp q)) (K68 _ _ e6)
    · intro h₆ tk₆ m₆ ys₆ htk₆ n₆ hacc₆ hj hk₆
      dsimp only at hk₆
      have k6 : Kp s.heap h₆ := fun b o e => hk₆ b o (Nat.ne_of_lt (Nat.lt_trans (hb0 b o e) hC')) (Nat.ne_of_lt (Nat.lt_trans (hb0 b o e) hD')) (fun q => Nat.ne_of_lt (hb0 b o e) (List.mem_singleton.mp q)) (k2 b o e)
      refine hfin h₆ _ m₆ n₆ fun h₇ S₇ => ?_
      have k7 : Kp s.heap h₇ := fun b o e => (S₇.2 b (Nat.ne_of_lt (Nat.lt_trans (hb0 b o e) hC'))).trans (k6 b o e)
      have hacc₇ := hacc₆.at fun o e => (S₇.2 D₂ hCD.symm).trans e
      have hj' : StrsAre ys₆ ((laidTo 6).flatMap (tripT a)) := by
        have e : (laidTo 6).take lv.length = laidTo 6 := List.take_of_length_le (by rw [hlv, laid_len]; exact Nat.le_refl _)
        have hj : StrsAre ys₆ (((laidTo 6).take lv.length).flatMap (tripT a)) := hj
        rw [e] at hj; exact hj
      have hl6 : ys₆.length = 20 := by rw [hj'.length]; exact trip_len a ha
      refine ⟨C.keeps k7, sort_key (d := 17) (C.keeps k7) (R _) hacc₇.isList hj' (by omega) (by omega) fun P h₈ tk₈ out so K₈ hP8 hpl8 hso hperm hpw => ?_⟩
      dsimp only at K₈ hP8 ⊢
      refine stN ((hn.keeps k7).keeps K₈) fun h₉ n₉ S₉ => ?_
      dsimp only at S₉ ⊢
      have hI7 : @LE.le Nat _ I0 h₇.objs.size := by
        obtain ⟨k, e⟩ := hacc₇
        exact Nat.le_of_lt (Nat.lt_trans hD' (Heap.lt_size e))
      have hLI : @LT.lt Nat _ L I0 := by obtain ⟨o, _, _, e, _⟩ := id hn; exact hb0 _ _ e
      have hPL : @LT.lt Nat _ L P := Nat.lt_of_lt_of_le hLI (Nat.le_trans hI7 hP8)
      refine next h₉ _ P out so (fun b o hb e => (S₉.2 b hb).trans (K₈ b o (k7 b o e))) n₉ ?_ (hpl8.at fun o e => (S₉.2 _ (Nat.ne_of_gt hPL)).trans e) hso hperm hpw
      rw [hI0]
      exact Nat.le_trans hI7 hP8
end
end Mine

-- LF
namespace Mine

theorem uniqR {α : Type} {R : α → α → Prop} (anti : ∀ x y, R x y → R y x → x = y) : ∀ {l₁ l₂ : List α}, l₁.Perm l₂ → l₁.Pairwise R → l₂.Pairwise R → l₁ = l₂
  | [], l₂, p, _, _ => by rw [p.nil_eq]
  | a :: l₁, [], p, _, _ => by have := p.length_eq; simp at this
  | a :: l₁, b :: l₂, p, h₁, h₂ => by
    have hab : a = b := by
      have ha : a ∈ b :: l₂ := p.mem_iff.mp (.head _)
      have hb : b ∈ a :: l₁ := p.mem_iff.mpr (.head _)
      rcases List.mem_cons.mp ha with rfl | ha
      · rfl
      rcases List.mem_cons.mp hb with rfl | hb
      · rfl
      exact anti _ _ ((List.pairwise_cons.mp h₁).1 b hb) ((List.pairwise_cons.mp h₂).1 a ha)
    subst hab
    rw [uniqR anti (p.cons_inv) (List.pairwise_cons.mp h₁).2 (List.pairwise_cons.mp h₂).2]
theorem uniqS {so l : List Str} (p : so.Perm l) (h : so.Pairwise fun x y => ¬ y.cps.toList < x.cps.toList) (l' : List Str) (p' : l'.Perm l) (h' : l'.Pairwise fun x y => ¬ y.cps.toList < x.cps.toList) : so = l' := by
  refine uniqR (R := fun x y : Str => ¬ y.cps.toList < x.cps.toList) ?_ (p.trans p'.symm) h h'
  intro x y h1 h2
  have e : x.cps.toList = y.cps.toList := List.le_antisymm (List.not_lt.mp h1) (List.not_lt.mp h2)
  obtain ⟨⟨x⟩⟩ := x
  obtain ⟨⟨y⟩⟩ := y
  simp at e
  rw [e]

/-- the texts of two and of three signs, in their order -/
def psOf (a : Nat) : List Str := (List.range 6).flatMap fun y => (List.range y).map fun z => ⟨#[cdAt a y, cdAt a z]⟩
def trOf (a : Nat) : List Str := (List.range 6).flatMap fun x => (List.range x).flatMap fun y => (List.range y).map fun z => ⟨#[cdAt a x, cdAt a y, cdAt a z]⟩
def permB (l₁ l₂ : List Str) : Bool := l₁.isPerm l₂
theorem ps_perm : ∀ a : Nat, a < 3 → (psOf a).isPerm ((laidTo 6).map (pairT a)) = true := by decide +kernel
theorem tr_perm : ∀ a : Nat, a < 3 → (trOf a).isPerm ((laidTo 6).flatMap (tripT a)) = true := by decide +kernel
theorem ps_sort : ∀ a : Nat, a < 3 → (psOf a).Pairwise fun x y => ¬ y.cps.toList < x.cps.toList := by decide +kernel
theorem tr_sort : ∀ a : Nat, a < 3 → (trOf a).Pairwise fun x y => ¬ y.cps.toList < x.cps.toList := by decide +kernel

/-- the place of a sign -/
def ixOf (a c : Nat) : Nat := (sgOf a).cps.toList.idxOf c
theorem ps_len : ∀ a : Nat, a < 3 → (psOf a).length = 15 := by decide +kernel
theorem tr_len : ∀ a : Nat, a < 3 → (trOf a).length = 20 := by decide +kernel
theorem occ_ok : ∀ a : Nat, a < 3 → ∀ c ∈ (sgOf a).cps.toList, ixOf a c < 6 ∧ ((Builtin.Str.occurrences (sgOf a) ⟨#[c]⟩ 0 (sgOf a).length 1).head? = some (ixOf a c)) := by decide +kernel
theorem ps_in : ∀ a : Nat, a < 3 → ∀ p ∈ psOf a, p.cps.size = 2 ∧ ∀ c ∈ p.cps.toList, c ∈ (sgOf a).cps.toList := by decide +kernel
theorem tr_in : ∀ a : Nat, a < 3 → ∀ p ∈ trOf a, p.cps.size = 3 ∧ ∀ c ∈ p.cps.toList, c ∈ (sgOf a).cps.toList := by decide +kernel
theorem ps_due : ∀ a : Nat, a < 3 → (psOf a).map (fun p => dueF (ixOf a) p.cps.toList) = (List.range 15).map fun i : Nat => (i : Int) := by decide +kernel
theorem tr_due : ∀ a : Nat, a < 3 → (trOf a).map (fun p => dueF (ixOf a) p.cps.toList) = (List.range 20).map fun i : Nat => (i : Int) := by decide +kernel
def collsB (l : List Str) : Bool := (l.zip (l.drop 1)).all fun p => coll p.1 p.2 == -1 && coll p.2 p.1 == 1
theorem ps_coll : ∀ a : Nat, a < 3 → collsB (psOf a) = true := by decide +kernel
theorem tr_coll : ∀ a : Nat, a < 3 → collsB (trOf a) = true := by decide +kernel
theorem collsB_at {l : List Str} (h : collsB l = true) {i : Nat} {p q : Str} (hp : l[i]? = some p) (hq : l[i + 1]? = some q) : coll p q = -1 ∧ coll q p = 1 := by
  have hm : (p, q) ∈ l.zip (l.drop 1) := by
    apply List.mem_of_getElem? (i := i)
    rw [List.getElem?_zip_eq_some]
    exact ⟨hp, by rw [List.getElem?_drop, Nat.add_comm]; exact hq⟩
  have := List.all_eq_true.mp h _ hm
  simpa using this
theorem due_at {l : List Str} {f : Str → Int} {n : Nat} (h : l.map f = (List.range n).map fun i : Nat => (i : Int)) {i : Nat} {p : Str} (hp : l[i]? = some p) : f p = i := by
  have h1 : (l.map f)[i]? = some (f p) := by rw [List.getElem?_map, hp]; rfl
  rw [h, List.getElem?_map] at h1
  have hlen : l.length = n := by have := congrArg List.length h; simpa using this
  rw [List.getElem?_range (by rw [← hlen]; exact (List.getElem?_eq_some_iff.mp hp).1)] at h1
  exact (Option.some.inj h1).symm
theorem occ_rest {a : Nat} (ha : a < 3) {c : Nat} (hc : c ∈ (sgOf a).cps.toList) : ∃ rest, Builtin.Str.occurrences (sgOf a) ⟨#[c]⟩ 0 (sgOf a).length 1 = ixOf a c :: rest := by
  have := (occ_ok a ha c hc).2
  cases h : Builtin.Str.occurrences (sgOf a) ⟨#[c]⟩ 0 (sgOf a).length 1 with
  | nil => rw [h] at this; cases this
  | cons x r => rw [h] at this; cases this; exact ⟨r, rfl⟩

/-- what holds from law's fifth statement on -/
structure LH (B : Heap) (L : Nat) (h : Heap) (cl ch : Nat) (c0 c1 c2 : Int) (wd a : Nat) : Prop where
  KB : Kp B h
  T : Tb (frameX L) 22 4 qIn h
  l51 : 51 < L
  k1 : h.IsCell (L + 1 : Nat) (some (.ref cl))
  cl9 : L + 9 ≤ cl
  pl : ∃ t0 t1 t2, h.PlainList cl #[.int c0 t0, .int c1 t1, .int c2 t2]
  k2 : ∃ t, h.IsCell (L + 2 : Nat) (some (.int wd t))
  k3 : ∃ t, h.IsCell (L + 3 : Nat) (some (.str (sgOf a) t))
  ch : ChsF (L + 9) h ch
  ha : a < 3
  hw : 6 ≤ wd ∧ wd ≤ 905
  BL : @LE.le Nat _ B.objs.size L
theorem LH.keep {B : Heap} {L : Nat} {h h' : Heap} {cl ch : Nat} {c0 c1 c2 : Int} {wd a : Nat} (H : LH B L h cl ch c0 c1 c2 wd a) (k : ∀ (b : Nat) o, b ≠ L → ¬ (L + 4 ≤ b ∧ b ≤ L + 8) → h.get? b = some o → h'.get? b = some o) : LH B L h' cl ch c0 c1 c2 wd a where
  KB := fun b o e => by
    have : @LT.lt Nat _ b L := Nat.lt_of_lt_of_le (Heap.lt_size e) H.BL
    exact k b o (Nat.ne_of_lt this) (off0 this) (H.KB b o e)
  T := by
    refine H.T.off (Z' := [L, L + 4, L + 5, L + 6, L + 7, L + 8]) (fun (b : Nat) o hb e => k b o (fun q => hb (by rw [q]; simp)) (fun q => hb ?_) e) ?_ ?_
    · have : b = L + 4 ∨ b = L + 5 ∨ b = L + 6 ∨ b = L + 7 ∨ b = L + 8 := by
        obtain ⟨j, rfl⟩ := Nat.exists_eq_add_of_le q.1
        have hj : j < 5 := Nat.lt_succ_of_le (Nat.le_of_add_le_add_left (a := L + 4) q.2)
        rcases lt5 hj with rfl | rfl | rfl | rfl | rfl
        · exact .inl rfl
        · exact .inr (.inl rfl)
        · exact .inr (.inr (.inl rfl))
        · exact .inr (.inr (.inr (.inl rfl)))
        · exact .inr (.inr (.inr (.inr rfl)))
      simp only [List.mem_cons, List.not_mem_nil, or_false]
      exact .inr this
    · intro hm
      have := H.l51
      simp only [List.mem_cons, List.not_mem_nil, or_false] at hm
      have hm : (51 : Nat) = L ∨ (51 : Nat) = L + 4 ∨ (51 : Nat) = L + 5 ∨ (51 : Nat) = L + 6 ∨ (51 : Nat) = L + 7 ∨ (51 : Nat) = L + 8 := hm
      have nl : ∀ j : Nat, (51 : Nat) ≠ L + j := fun j q => ne51 this (Nat.le_add_right L j) q.symm
      rcases hm with h | h | h | h | h | h
      · exact nl 0 h
      all_goals exact nl _ h
    · intro b hb
      simp only [List.mem_cons, List.not_mem_nil, or_false, frameX] at hb ⊢
      rcases hb with h | h | h | h | h | h <;> simp [h]
  l51 := H.l51
  k1 := isCell_at H.k1 fun o e => k (L + 1) o (off3 (by decide) (by decide)).1 (off3 (by decide) (by decide)).2 e
  cl9 := H.cl9
  pl := let ⟨t0, t1, t2, e⟩ := H.pl; ⟨t0, t1, t2, e.at fun o e => k cl o (off9 H.cl9).1 (off9 H.cl9).2 e⟩
  k2 := let ⟨t, e⟩ := H.k2; ⟨t, isCell_at e fun o e => k (L + 2) o (off3 (by decide) (by decide)).1 (off3 (by decide) (by decide)).2 e⟩
  k3 := let ⟨t, e⟩ := H.k3; ⟨t, isCell_at e fun o e => k (L + 3) o (off3 (by decide) (by decide)).1 (off3 (by decide) (by decide)).2 e⟩
  ch := by
    obtain ⟨rs, g1, g2, g3, g4, g5⟩ := H.ch
    refine ⟨rs, g1, g2, g3, g4.at fun o e => k ch o (off9 g2).1 (off9 g2).2 e, fun i r hr => ?_⟩
    obtain ⟨vs, v1, v2⟩ := g5 i r hr
    have r9 : @LE.le Nat _ (L + 9) r := g3 r (List.mem_of_getElem? hr)
    exact ⟨vs, v1.at fun o e => k r o (off9 r9).1 (off9 r9).2 e, v2⟩
  ha := H.ha
  hw := H.hw
  BL := H.BL

/-- the two lists of texts -/
structure PT (L : Nat) (h : Heap) (pl tl a : Nat) : Prop where
  p9 : L + 9 ≤ pl
  t9 : L + 9 ≤ tl
  p : ∃ pv, h.PlainList pl (List.toArray pv) ∧ StrsAre pv (psOf a)
  t : ∃ tv, h.PlainList tl (List.toArray tv) ∧ StrsAre tv (trOf a)
theorem PT.keep {L : Nat} {h h' : Heap} {pl tl a : Nat} (H : PT L h pl tl a) (k : ∀ (b : Nat) o, b ≠ L → ¬ (L + 4 ≤ b ∧ b ≤ L + 8) → h.get? b = some o → h'.get? b = some o) : PT L h' pl tl a where
  p9 := H.p9
  t9 := H.t9
  p := let ⟨v, e, e2⟩ := H.p; ⟨v, e.at fun o e => k pl o (off9 H.p9).1 (off9 H.p9).2 e, e2⟩
  t := let ⟨v, e, e2⟩ := H.t; ⟨v, e.at fun o e => k tl o (off9 H.t9).1 (off9 H.t9).2 e, e2⟩

theorem cp_toks {lo hi u : Nat} {n : Int} : ∀ {vs : List Value} {ns : List Int}, Toks lo hi vs ns → vs.countP (fun v => match v with | .int x _ => x == n | _ => false) = ns.count n
  | [], [], _ => rfl
  | [], _ :: _, T => by have := T.1; simp at this
  | _ :: _, [], T => by have := T.1; simp at this
  | v :: vs, m :: ns, T => by
    obtain ⟨t, e, _⟩ := T.2 0 m rfl
    have : v = .int m t := by simpa using e
    subst this
    rw [List.countP_cons, List.count_cons, cp_toks (lo := lo) (hi := hi) (u := u) ⟨by have := T.1; simpa using this, fun i m e => T.2 (i + 1) m (by simpa using e)⟩]

section
variable {w : World} {A : Around} {s : Shared} {Q E : Value → Shared → Prop}
theorem countOf_int {l : Addr} {vs : List Value} {ns : List Int} {lo hi u : Nat} {n : Int} {d : Nat} (C : Cx w s.heap) (R : Room A (d + 1)) (hl : s.heap.IsList l vs.toArray) (T : Toks lo hi vs ns) (h1 : 1 ≤ lo) (hu : hi ≤ u)
    (hQ : ∀ t h' tk', Kp s.heap h' → s.toks ≤ t → t < tk' → Q (.int (ns.count n : Nat) t) { s with heap := h', toks := tk' }) :
    wpAny (model PG w) A (call (.ref 28) [.ref l, .int n u]) Q E s := by
  have at_ : ∀ v ∈ vs, ∃ m t, v = .int m t ∧ 1 ≤ t ∧ t < u := by
    intro v hv
    obtain ⟨i, hi, e⟩ := List.mem_iff_getElem.mp hv
    obtain ⟨m, hm⟩ : ∃ m, ns[i]? = some m := ⟨_, List.getElem?_eq_getElem (by rw [← T.1]; exact hi)⟩
    obtain ⟨t, e2, e3, e4⟩ := T.2 i m hm
    rw [List.getElem?_eq_getElem hi, e] at e2
    exact ⟨_, t, Option.some.inj e2, Nat.le_trans h1 e3, Nat.lt_of_lt_of_le e4 hu⟩
  refine countOf_gen (fun v => match v with | .int x _ => x == n | _ => false) C R hl ?_ ?_ ?_
  · intro v hv A' s' Q' R' K hq
    obtain ⟨m, t, rfl, t1, t2⟩ := at_ v hv
    exact is_int (Nat.ne_of_gt t1) (Nat.ne_of_gt (Nat.lt_trans t1 t2)) (fun q => absurd q (Nat.ne_of_lt t2)) (C.keeps K).noneBooked fun r hr => hq r fun e => by simpa using hr e
  · intro v hv A' s' Q' R' K hq
    obtain ⟨m, t, rfl, t1, t2⟩ := at_ v hv
    exact wpAny_eq_int hq
  · intro t h' tk' K g1 g2
    rw [cp_toks (u := u) T]
    exact hQ t h' tk' K g1 g2
end
end Mine

-- LG
namespace Mine
theorem fillLG (w : World) (h : Heap) : ((hd.heap_39 w.params).In h ∧ PySem.Challenge.rw_xi0002_01.row.prog = PySem.Challenge.rw_xi0002_01.row.prog) → True := by
  k_fill
  intros; trivial

def prC (a j : Nat) : Nat := (((psOf a).getD j ⟨#[]⟩).cps).getD 0 0
def prD (a j : Nat) : Nat := (((psOf a).getD j ⟨#[]⟩).cps).getD 1 0
theorem pr_eq : ∀ a : Nat, a < 3 → ∀ j : Nat, j < 15 → (psOf a)[j]? = some ⟨#[prC a j, prD a j]⟩ := by decide +kernel
theorem pr_in : ∀ a : Nat, a < 3 → ∀ j : Nat, j < 15 → prC a j ∈ (sgOf a).cps.toList ∧ prD a j ∈ (sgOf a).cps.toList := by decide +kernel
def toldOf (a j : Nat) : List Int := (trOf a).map fun t => coll t ⟨#[prC a j, prD a j]⟩
def belowOf (a j : Nat) : Int := bin (ixOf a (prC a j)) 3 + bin (ixOf a (prD a j)) 2
theorem told_cnt : ∀ a : Nat, a < 3 → ∀ j : Nat, j < 15 → [(((toldOf a j).count (-1) : Nat) : Int), (((toldOf a j).count 0 : Nat) : Int), (((toldOf a j).count 1 : Nat) : Int)] = [belowOf a j, 0, 20 - belowOf a j] := by decide +kernel

theorem toks_snoc {lo hi : Nat} {vs : List Value} {ns : List Int} {n : Int} {t : Nat} (T : Toks lo hi vs ns) (h1 : lo ≤ t) (h2 : t < hi) : Toks lo hi (vs ++ [.int n t]) (ns ++ [n]) := by
  refine ⟨by simp [T.1], fun i m e => ?_⟩
  by_cases hi : i < ns.length
  · rw [List.getElem?_append_left hi] at e
    rw [List.getElem?_append_left (by rw [T.1]; exact hi)]
    exact T.2 i m e
  · have hi' := (List.getElem?_eq_some_iff.mp e).1
    have : i = ns.length := by simp at hi'; omega
    subst this
    rw [List.getElem?_append_right (Nat.le_refl _), Nat.sub_self] at e
    cases e
    rw [List.getElem?_append_right (by rw [T.1]; exact Nat.le_refl _), T.1, Nat.sub_self]
    exact ⟨t, rfl, h1, h2⟩

section
variable {w : World} {A : Around} {s : Shared} {L fa : Addr} {cd : Value}

set_option maxHeartbeats 4000000 in
theorem law_P3a {B : Heap} {m : Str → Option Value} {Q : Flow → Shared → Prop} {cl ch pl tl wd a : Nat} {c0 c1 c2 : Int} (C : Cx w B) (R : ∀ env, Room (A.deeper env) 20) (H : LH B L s.heap cl ch c0 c1 c2 wd a) (P : PT L s.heap pl tl a) (hn : s.heap.Ns L m)
    (m1 : m (Str.ofString "choices") = some (.ref ch)) (m2 : m (Str.ofString "pairs") = some (.ref pl)) (m3 : m (Str.ofString "triples") = some (.ref tl))
    (next : ∀ h tk, Kp s.heap h → wpAny (model PG w) (A.deeper (lawEnv L fa cd)) (execs (lawBody.drop 9) (lawEnv L fa cd)) Q FF { s with heap := h, toks := tk }) :
    wpAny (model PG w) (A.deeper (lawEnv L fa cd)) (execs (lawBody.drop 8) (lawEnv L fa cd)) Q FF s := by
  obtain ⟨pv, hpl, hps⟩ := P.p
  obtain ⟨tv, htl, hts⟩ := P.t
  obtain ⟨ts, hs⟩ := H.k3
  have ha := H.ha
  have C₁ := C.keeps H.KB
  refine wpAny_execs_cons (wpAny_If (wpAny_isTrue_BoolOp (wpAny_allTrue_Or_cons (wpAny_isTrue_Not (wpAny_isTrue_value (callF C₁ (by k_is) (by k_is) (spl3 (ldL hn m2 (ldC rfl hs (ldL hn m1 ⟨C₁, ?_⟩))))))))))
  refine stands_spec (d := 17) (ixOf a) C₁ (R _) hpl.isList hps H.ch.chs (by rw [ps_len a ha]; decide) (fun p hp => by rw [(ps_in a ha p hp).1]; decide) (fun p hp c hc => ⟨Nat.lt_trans (occ_ok a ha c ((ps_in a ha p hp).2 c hc)).1 (by decide), occ_rest ha ((ps_in a ha p hp).2 c hc)⟩)
    (fun i p hp => due_at (ps_due a ha) hp) (fun i p q hp hq => collsB_at (ps_coll a ha) hp hq) fun h₁ tk₁ K₁ _ => ?_
  refine wpAny_truthy_bool ?_
  simp only [Bool.not_true, Bool.false_eq_true, if_false]
  have C₂ := C₁.keeps K₁
  have n₁ := hn.keeps K₁
  refine wpAny_allTrue_Or_cons (wpAny_isTrue_Not (wpAny_isTrue_value (callF C₂ (by k_is) (by k_is) (spl3 (ldL n₁ m3 (ldC rfl (isCell_at hs fun o e => K₁ _ o e) (ldL n₁ m1 ⟨C₂, ?_⟩)))))))
  refine stands_spec (d := 17) (ixOf a) C₂ (R _) (htl.isList.at fun o e => K₁ _ o e) hts (H.ch.chs.keeps K₁) (by rw [tr_len a ha]; decide) (fun p hp => by rw [(tr_in a ha p hp).1]; decide) (fun p hp c hc => ⟨Nat.lt_trans (occ_ok a ha c ((tr_in a ha p hp).2 c hc)).1 (by decide), occ_rest ha ((tr_in a ha p hp).2 c hc)⟩)
    (fun i p hp => due_at (tr_due a ha) hp) (fun i p q hp hq => collsB_at (tr_coll a ha) hp hq) fun h₂ tk₂ K₂ _ => ?_
  refine wpAny_truthy_bool ?_
  simp only [Bool.not_true, Bool.false_eq_true, if_false]
  refine wpAny_allTrue_Or_nil ?_
  simp only [Bool.false_eq_true, if_false]
  refine wpAny_execs_nil ?_
  exact next h₂ tk₂ fun b o e => K₂ b o (K₁ b o e)

set_option maxHeartbeats 4000000 in
theorem law_P3b {B : Heap} {m : Str → Option Value} {Q : Flow → Shared → Prop} {cl ch pl tl wd a : Nat} {c0 c1 c2 : Int} (C : Cx w B) (R : ∀ env, Room (A.deeper env) 20) (H : LH B L s.heap cl ch c0 c1 c2 wd a) (P : PT L s.heap pl tl a) (hn : s.heap.Ns L m)
    (m2 : m (Str.ofString "pairs") = some (.ref pl)) (m3 : m (Str.ofString "triples") = some (.ref tl)) (u4 : s.heap.IsCell (L + 4 : Nat) none) (u5 : s.heap.IsCell (L + 5 : Nat) none)
    (next : ∀ h tk j (lt : Nat) tv tp, (∀ (b : Nat) o, b ≠ L + 4 → b ≠ L + 5 → s.heap.get? b = some o → h.get? b = some o) → j < 15 → h.IsCell (L + 4 : Nat) (some (.str ⟨#[prC a j, prD a j]⟩ tp)) → h.IsCell (L + 5 : Nat) (some (.ref lt)) → L + 9 ≤ lt → h.PlainList lt (List.toArray tv) → Toks 1 tk tv (toldOf a j) →
      wpAny (model PG w) (A.deeper (lawEnv L fa cd)) (execs (lawBody.drop 11) (lawEnv L fa cd)) Q FF { s with heap := h, toks := tk }) :
    wpAny (model PG w) (A.deeper (lawEnv L fa cd)) (execs (lawBody.drop 9) (lawEnv L fa cd)) Q FF s := by
  obtain ⟨pv, hpl, hps⟩ := P.p
  obtain ⟨tv, htl, hts⟩ := P.t
  obtain ⟨t0, t1, t2, hcl⟩ := H.pl
  have ha := H.ha
  obtain ⟨j, hj, hj15⟩ : ∃ j : Nat, (c1.fdiv 80).fmod 15 = (j : Int) ∧ j < 15 := by
    have h1 := Int.fmod_nonneg_of_pos (c1.fdiv 80) (show (0 : Int) < 15 by decide)
    have h2 := Int.fmod_lt_of_pos (c1.fdiv 80) (show (0 : Int) < 15 by decide)
    exact ⟨_, toN h1, (Int.toNat_lt h1).mpr h2⟩
  obtain ⟨tp, hv⟩ := strs_at hps (pr_eq a ha j hj15)
  refine wpAny_execs_cons (wpAny_Assign_Name (Subscript_ (ldL hn m2 (wpAny_BinOp (wpAny_BinOp (Subscript_ (ldC rfl H.k1 (wpAny_Constant_int (tail_list hcl.isList (by decide) (by decide) rfl (wpAny_Constant_int (AutoIntOps.floordiv_1 (by decide) (by rw [PyProof.noPylong_small (by decide)]; exact Bool.false_ne_true) (wpAny_Constant_int (AutoIntOps.mod_1 (by decide) ?_)))))))))))))
  rw [hj]
  have hj63 := i63 hj15 (by decide)
  refine tail_list hpl.isList (Int.natCast_nonneg j) hj63 hv ?_
  have h1s : 1 ≤ s.toks + 1 + 1 := by omega
  refine toksF (n := 1) (by dsimp only; omega) ?_
  refine wpAny_storeName_cell rfl rfl rfl u4 fun h₁ k4 S₁ htk1 => ?_
  dsimp only at S₁ htk1 ⊢
  have sb : ∀ {h h' : Heap} {c : Nat}, Heap.SameBut c h h' → ∀ (b : Nat) o, b ≠ c → h.get? b = some o → h'.get? b = some o := fun S b o hb e => (S.2 b hb).trans e
  have n₁ := hn.at' fun o e => sb S₁ L o (by omega) e
  have B₁ : Kp B h₁ := fun b o e => by
    have : @LT.lt Nat _ b L := Nat.lt_of_lt_of_le (Heap.lt_size e) H.BL
    exact sb S₁ b o (by omega) (H.KB b o e)
  have htl₁ := htl.at fun o e => sb S₁ tl o (by have := P.t9; omega) e
  have hlt : tv.length = 20 := by rw [hts.length, tr_len a ha]
  refine wpAny_execs_cons (wpAny_Assign_Name (comp_list [] (R _).hd rfl (by decide) rfl (by decide) rfl (ldL n₁ m3 ⟨tl, tv, fun X i ys tk h => 1 ≤ tk ∧ Toks 1 tk ys (((trOf a).take i).map fun t => coll t ⟨#[prC a j, prD a j]⟩), rfl, htl₁.isList, by rw [hlt]; exact Nat.le_of_ble_eq_true rfl, by simp, ?_, ?_, ?_, ?_⟩)))
  · rintro X i ys tk tk' h h' htk _ ⟨g1, g2⟩
    exact ⟨Nat.le_trans g1 htk, g2.mono htk⟩
  · intro X _
    exact ⟨htk1, rfl, fun i n e => by cases e⟩
  · rintro C5 D I i v ys h tk m5 hv5 hlen htk ⟨g1, g2⟩ hC hD hI hlive hk hn5 hm5
    have hi20 : i < (trOf a).length := by rw [tr_len a ha, ← hlt]; exact (List.getElem?_eq_some_iff.mp hv5).1
    obtain ⟨q, hq⟩ : ∃ q, (trOf a)[i]? = some q := ⟨_, List.getElem?_eq_getElem hi20⟩
    obtain ⟨tq, hvq⟩ := strs_at hts hq
    rw [hv5] at hvq
    cases hvq
    have C6 : Cx w h := (C.keeps B₁).keeps fun b o e => hk b o (by simp) e
    refine callF C6 (by k_is) (by k_is) (spl2 (ldL hn5 hm5 (ldC rfl (isCell_at k4 fun o e => hk _ o (by simp) e) ⟨C6, told_str (d := 18) C6 (R _) fun t6 h6 tk6 K6 g3 g4 => ?_⟩)))
    have g3' : tk ≤ t6 := g3
    refine ⟨h6, tk6, rfl, fun b o _ e => K6 b o e, by omega, ?_⟩
    have : (trOf a).take (i + 1) = (trOf a).take i ++ [q] := by rw [List.take_add_one, hq]; rfl
    rw [this, List.map_append]
    exact toks_snoc (g2.mono (by omega)) (by omega) g4
  · intro C5 D I h₃ tk₃ ys htk₃ hC hD hI hpl₃ hsz₃ hjf hk₃
    obtain ⟨g1, g2⟩ := hjf
    have hk₃ : ∀ b o, b ∉ ([] : List Addr) → h₁.get? b = some o → h₃.get? b = some o := hk₃
    refine wpAny_storeName_cell rfl rfl rfl (isCell_at u5 fun o e => hk₃ _ o (by simp) (sb S₁ (L + 5) o (by omega) e)) fun h₄ k5 S₄ => ?_
    dsimp only at S₄ ⊢
    have hL8 : @LT.lt Nat _ (L + 5) h₁.objs.size := by
      obtain ⟨o, e, _⟩ := u5
      exact Heap.lt_size (sb S₁ (L + 5) o (by omega) e)
    have hD' : @LE.le Nat _ h₁.objs.size D := hD
    refine next h₄ tk₃ j D ys.toList tp (fun b o hb hb' e => sb S₄ b o hb' (hk₃ b o (by simp) (sb S₁ b o hb e))) hj15 (isCell_at k4 fun o e => sb S₄ (L + 4) o (by omega) (hk₃ _ o (by simp) e)) k5 ?_ (by simpa using hpl₃.at fun o e => sb S₄ D o (by omega) e) ?_
    · refine Nat.le_trans ?_ hD'
      obtain ⟨k, e⟩ := htl₁
      exact Nat.le_trans P.t9 (Nat.le_of_lt (Heap.lt_size e))
    · have : (trOf a).take tv.length = trOf a := List.take_of_length_le (by rw [hlt, tr_len a ha]; exact Nat.le_refl _)
      rw [this] at g2
      exact g2
end
end Mine

-- LI
namespace Mine
theorem fillLI (w : World) (h : Heap) : ((hd.heap_39 w.params).In h ∧ PySem.Challenge.rw_xi0002_01.row.prog = PySem.Challenge.rw_xi0002_01.row.prog) → True := by
  k_fill
  intros; trivial

section
variable {w : World} {A : Around} {s : Shared} {L fa : Addr} {cd : Value}

set_option maxHeartbeats 4000000 in
theorem law_P3c {B : Heap} {m : Str → Option Value} {Q : Flow → Shared → Prop} {cl ch wd a j : Nat} {c0 c1 c2 : Int} {lt : Nat} {tv : List Value} {tp : Tok} (C : Cx w B) (R : ∀ env, Room (A.deeper env) 20) (H : LH B L s.heap cl ch c0 c1 c2 wd a) (hn : s.heap.Ns L m)
    (m1 : m (Str.ofString "choices") = some (.ref ch)) (hj : j < 15) (k4 : s.heap.IsCell (L + 4 : Nat) (some (.str ⟨#[prC a j, prD a j]⟩ tp))) (k5 : s.heap.IsCell (L + 5 : Nat) (some (.ref lt))) (lt9 : @LE.le Nat _ (L + 9) lt) (hlt : s.heap.PlainList lt tv.toArray) (T : Toks 1 s.toks tv (toldOf a j))
    (next : ∀ h tk v, (∀ (b : Nat) o, b ≠ L → s.heap.get? b = some o → h.get? b = some o) → s.toks ≤ tk → h.Ns L (fun z => if z = Str.ofString "below" then some v else m z) →
      wpAny (model PG w) (A.deeper (lawEnv L fa cd)) (execs (lawBody.drop 13) (lawEnv L fa cd)) Q FF { s with heap := h, toks := tk }) :
    wpAny (model PG w) (A.deeper (lawEnv L fa cd)) (execs (lawBody.drop 11) (lawEnv L fa cd)) Q FF s := by
  obtain ⟨ts, hs⟩ := H.k3
  have ha := H.ha
  have C₁ := C.keeps H.KB
  obtain ⟨hc, hd'⟩ := pr_in a ha j hj
  obtain ⟨x1, x1'⟩ := occ_ok a ha _ hc
  obtain ⟨x2, x2'⟩ := occ_ok a ha _ hd'
  obtain ⟨r1, hr1⟩ := occ_rest ha hc
  obtain ⟨r2, hr2⟩ := occ_rest ha hd'
  have rl1 := row_len _ (Nat.lt_trans x1 (by decide : 6 < 7))
  have rl2 := row_len _ (Nat.lt_trans x2 (by decide : 6 < 7))
  refine wpAny_execs_cons (wpAny_Assign_Name (callF C₁ (by k_is) (by k_is) (spl2 (sub_ch (ldL hn m1 ⟨ch, rfl, str_index (ldC rfl hs ⟨sgOf a, ts, rfl, Subscript_ (ldC rfl k4 (wpAny_Constant_int (tail_str_item (by decide) (by show (0 : Int) < 2; decide) (by decide)
    ⟨⟨#[prC a j]⟩, _, rfl, ixOf a (prC a j), r1, hr1, ixOf a (prC a j), _, rfl, H.ch.chs, by omega, wpAny_Constant_int ⟨3, _, rfl, fun _ _ e => e, by omega, fun u1 => ?_⟩⟩)))⟩)⟩)))))
  refine sub_ch (ldL hn m1 ⟨ch, rfl, str_index (ldC rfl hs ⟨sgOf a, ts, rfl, Subscript_ (ldC rfl k4 (wpAny_Constant_int (tail_str_item (by decide) (by show (1 : Int) < 2; decide) (by decide)
    ⟨⟨#[prD a j]⟩, _, rfl, ixOf a (prD a j), r2, hr2, ixOf a (prD a j), _, rfl, H.ch.chs, by omega, wpAny_Constant_int ⟨2, _, rfl, fun _ _ e => e, by omega, fun u2 => ⟨C₁, ?_⟩⟩⟩)))⟩)⟩)
  refine add_int (d := 19) C₁ (R _) fun tb h₁ tk₁ K₁ gb1 gb2 => ?_
  refine stN (hn.keeps K₁) fun h₂ n₂ S₂ => ?_
  dsimp only at K₁ gb1 S₂ ⊢
  have k02 : ∀ (b : Nat) o, b ≠ L → s.heap.get? b = some o → h₂.get? b = some o := fun b o hb e => (S₂.2 b hb).trans (K₁ b o e)
  have H₂ := H.keep fun b o hb _ e => k02 b o hb e
  have C₂ := C.keeps H₂.KB
  have hltL : @LT.lt Nat _ L lt := Nat.lt_of_lt_of_le (Nat.lt_add_of_pos_right (by decide)) lt9
  have hlt₂ := hlt.at fun o e => k02 lt o (Nat.ne_of_gt hltL) e
  have k5₂ := isCell_at k5 fun o e => k02 (L + 5) o (by omega) e
  have gb3 : @LE.le Nat _ s.toks tb := by omega
  have gb4 : @LT.lt Nat _ tb tk₁ := gb2
  have htk₁ : s.toks ≤ tk₁ + 1 := Nat.le_trans gb3 (Nat.le_of_lt (Nat.lt_succ_of_lt gb4))
  refine wpAny_execs_cons (toksF (n := s.toks) htk₁ (wpAny_If (wpAny_isTrue_Compare1 (comp_list [] (R _).hd rfl (by decide) rfl (by decide) rfl (List_ (spl3 (UnaryOp_ (wpAny_Constant_int (neg_int (wpAny_Constant_int (wpAny_Constant_int (new_list (Nat.le_of_ble_eq_true rfl) fun wl h₃ hw0 hwl K₃ hws => ?_))))))))))))
  dsimp only at hw0 K₃ hws ⊢
  refine ⟨wl, _, fun X i ys tk h => IntsAre ys (([(-1 : Int), 0, 1].take i).map fun n => ((toldOf a j).count n : Int)), rfl, hwl.isList, Nat.le_of_ble_eq_true rfl, by simp, fun _ _ _ _ _ _ _ _ _ hj => hj, fun _ _ => .nil, ?_, ?_⟩
  · rintro C5 D I i v ys h tk m5 hv hlen htk hj5 hC hD hI hlive hk hn5 hm5
    obtain ⟨n, u, rfl, hu, hap⟩ : ∃ (n : Int) (u : Nat), v = .int n u ∧ s.toks ≤ u ∧ ([(-1 : Int), 0, 1].take (i + 1)) = ([(-1 : Int), 0, 1].take i) ++ [n] := by
      have h3 : i < 3 := (List.getElem?_eq_some_iff.mp hv).1
      have h4 := lt3 h3
      rcases h4 with rfl | rfl | rfl
      · exact ⟨-1, _, (Option.some.inj hv).symm, (by dsimp only; omega), rfl⟩
      · exact ⟨0, _, (Option.some.inj hv).symm, (by dsimp only; omega), rfl⟩
      · exact ⟨1, _, (Option.some.inj hv).symm, (by dsimp only; omega), rfl⟩
    have k2 : Kp h₂ h := fun b o e => hk b o (by simp) (K₃ b o e)
    have C6 : Cx w h := C₂.keeps k2
    refine callF C6 (by k_is) (by k_is) (spl2 (ldC rfl (isCell_at k5₂ fun o e => k2 _ o e) (ldL hn5 hm5 ⟨C6, countOf_int (d := 19) C6 (R _) (hlt₂.isList.at fun o e => k2 _ o e) T (Nat.le_refl _) hu fun t6 h6 tk6 K6 _ _ => ⟨h6, tk6, rfl, fun b o _ e => K6 b o e, ?_⟩⟩)))
    show IntsAre _ (([(-1 : Int), 0, 1].take (i + 1)).map fun n => ((toldOf a j).count n : Int))
    rw [hap, List.map_append]
    exact ints_snoc hj5
  · intro C5 D I h₄ tk₄ ys htk₄ hC hD hI hpl₄ hsz₄ hj4 hk₄
    have hk₄ : ∀ b o, b ∉ ([] : List Addr) → h₃.get? b = some o → h₄.get? b = some o := hk₄
    have K24 : Kp h₂ h₄ := fun b o e => hk₄ b o (by simp) (K₃ b o e)
    have hj4 : IntsAre ys.toList [((toldOf a j).count (-1) : Int), ((toldOf a j).count 0 : Int), ((toldOf a j).count 1 : Int)] := hj4
    rw [told_cnt a ha j hj] at hj4
    have n₄ := n₂.keeps K24
    have C₄ := C₂.keeps K24
    refine List_ (spl3 (ldL n₄ rfl (wpAny_Constant_int (callF C₄ (by k_is) (by k_is) (spl2 (wpAny_Constant_int (ldL n₄ rfl ⟨C₄, isub_int (d := 19) C₄ (R _) fun t5 h5 tk5 K5 _ _ => ?_⟩)))))))
    dsimp only at K5 ⊢
    refine new_list (Nat.le_of_ble_eq_true rfl) fun D2 h6 hD20 hD2 K6 hD2s => ?_
    dsimp only at hD20 K6 hD2s ⊢
    refine ne_intsK (vs := ys.toList) (by simpa using (hpl₄.isList.at fun o e => K6 _ o (K5 _ o e))) hj4 hD2.isList (.cons _ _ (.cons _ _ (.cons _ _ .nil))) (R (lawEnv L fa cd)).u64 (wpAny_truthy_bool ?_)
    have e1 : (!decide ([belowOf a j, 0, 20 - belowOf a j] = [bin (ixOf a (prC a j)) 3 + bin (ixOf a (prD a j)) 2, 0, 20 - (bin (ixOf a (prC a j)) 3 + bin (ixOf a (prD a j)) 2)])) = false := by
      simp [belowOf]
    rw [e1]
    simp only [Bool.false_eq_true, if_false]
    refine wpAny_execs_nil fun hle => ?_
    exact next h6 _ _ (fun b o hb e => K6 b o (K5 b o (K24 b o (k02 b o hb e)))) hle ((n₄.keeps K5).keeps K6)
end
end Mine

-- MB21
namespace Mine
theorem fillB21 (w : World) (h : Heap) : ((hd.heap_39 w.params).In h ∧ PySem.Challenge.rw_xi0002_01.row.prog = PySem.Challenge.rw_xi0002_01.row.prog) → True := by
  k_fill
  intros; trivial
theorem slice_upto1 {vs : List Value} {j : Nat} (hj : j ≤ vs.length) : slicePick vs.toArray none (some (j : Int)) none = (vs.take j).toArray := by
  rw [slicePick_upto vs.toArray j (by simpa using hj)]
theorem slice_from1 {vs : List Value} {j : Nat} (hj : j ≤ vs.length) : slicePick vs.toArray (some (j : Int)) none none = (vs.drop j).toArray := by
  rw [slicePick_from vs.toArray j (by simpa using hj)]

section
variable {w : World} {A : Around} {s : Shared} {env : Env} {E : Value → Shared → Prop}

theorem min0 {l : Addr} {vs : List Value} {ns : List Int} {Q : Value → Shared → Prop} (hh : A.handled = none) (hl : s.heap.IsList l vs.toArray) (hi : IntsAre vs ns) (hne : 0 < ns.length)
    (h : ∀ h' M (t : Tok) tk, Kp s.heap h' → M ∈ ns → (∀ a, a ∈ ns → M ≤ a) → Q (.int M t) { s with heap := h', toks := tk }) : wpAny (model PG w) A (call (.builtin "min") [.ref l]) Q E s := by
  obtain ⟨xs, e⟩ := hi.allInts.items
  have hns : ns = xs.toList.map (·.1) := by
    rw [← hi.numsOf, ← nums_intItems, ← e]
  have hsz : 0 < xs.size := by
    have h3 := hne; rw [hns, List.length_map, Array.length_toList] at h3; exact h3
  rw [e] at hl
  refine min_intList hh hl hsz fun v h' tk hv hk => ?_
  obtain ⟨t, rfl⟩ := intItems_at hv
  obtain ⟨h1, h2⟩ := argBest_lt (numAt xs) (xs.size - 1)
  refine h _ _ t tk hk ?_ fun a ha => ?_
  · rw [hns, numAt_eq]; exact getD_mem (by rw [List.length_map, Array.length_toList]; omega)
  · rw [hns] at ha
    obtain ⟨j, hj, rfl⟩ := mem_getD ha
    rw [List.length_map, Array.length_toList] at hj
    rw [← numAt_eq]; exact h2 j (by omega)
theorem max0 {l : Addr} {vs : List Value} {ns : List Int} {Q : Value → Shared → Prop} (hh : A.handled = none) (hl : s.heap.IsList l vs.toArray) (hi : IntsAre vs ns) (hne : 0 < ns.length)
    (h : ∀ h' M (t : Tok) tk, Kp s.heap h' → M ∈ ns → (∀ a, a ∈ ns → a ≤ M) → Q (.int M t) { s with heap := h', toks := tk }) : wpAny (model PG w) A (call (.builtin "max") [.ref l]) Q E s := by
  obtain ⟨xs, e⟩ := hi.allInts.items
  have hns : ns = xs.toList.map (·.1) := by
    rw [← hi.numsOf, ← nums_intItems, ← e]
  have hsz : 0 < xs.size := by
    have h3 := hne; rw [hns, List.length_map, Array.length_toList] at h3; exact h3
  rw [e] at hl
  refine max_intList hh hl hsz fun v h' tk hv hk => ?_
  obtain ⟨t, rfl⟩ := intItems_at hv
  obtain ⟨h1, h2⟩ := argBest_gt (numAt xs) (xs.size - 1)
  refine h _ _ t tk hk ?_ fun a ha => ?_
  · rw [hns, numAt_eq]; exact getD_mem (by rw [List.length_map, Array.length_toList]; omega)
  · rw [hns] at ha
    obtain ⟨j, hj, rfl⟩ := mem_getD ha
    rw [List.length_map, Array.length_toList] at hj
    rw [← numAt_eq]; exact h2 j (by omega)

theorem min0t {l : Addr} {vs : List Value} {ns : List Int} {Q : Value → Shared → Prop} (hh : A.handled = none) (hl : s.heap.IsList l vs.toArray) (hi : IntsAre vs ns) (hne : 0 < ns.length)
    (h : ∀ h' M (t : Tok) tk, Kp s.heap h' → s.toks ≤ tk → M ∈ ns → (∀ a, a ∈ ns → M ≤ a) → Q (.int M t) { s with heap := h', toks := tk }) : wpAny (model PG w) A (call (.builtin "min") [.ref l]) Q E s :=
  wpAny_with_toks (n := s.toks) (Nat.le_refl _) (min0 hh hl hi hne fun h' M t tk K hM ha hle => h h' M t tk K hle hM ha)
theorem max0t {l : Addr} {vs : List Value} {ns : List Int} {Q : Value → Shared → Prop} (hh : A.handled = none) (hl : s.heap.IsList l vs.toArray) (hi : IntsAre vs ns) (hne : 0 < ns.length)
    (h : ∀ h' M (t : Tok) tk, Kp s.heap h' → s.toks ≤ tk → M ∈ ns → (∀ a, a ∈ ns → a ≤ M) → Q (.int M t) { s with heap := h', toks := tk }) : wpAny (model PG w) A (call (.builtin "max") [.ref l]) Q E s :=
  wpAny_with_toks (n := s.toks) (Nat.le_refl _) (max0 hh hl hi hne fun h' M t tk K hM ha hle => h h' M t tk K hle hM ha)

theorem tail_last {value slice : Expr} {l : Addr} {vs : List Value} {u : Tok} {v : Value} {Q : Value → Shared → Prop} (hl : s.heap.IsList l (vs ++ [v]).toArray) (h : Q v s)
    (hs : subscripted slice false (.ref l) (.int (-1) u) = operate [.ref l, .int (-1) u] (getItem (.ref l) (.int (-1) u)) := by with_unfolding_all rfl) :
    wpAny (model PG w) A (subscriptTail value slice (.ref l) (.int (-1) u)) Q E s :=
  tail_any hl.typeIs slot_list_getitem.lookup (wpAny_getItem_list_neg hl (by decide) (by simp; omega) (by decide) (by
    have e : ((-1 : Int) + ((vs ++ [v]).toArray.size : Nat)).toNat = vs.length := by simp; omega
    rw [e]; simp) h) hs

/-- l[:u] and l[a:] -/
theorem sub_list_ns {value u : Expr} {p pos : Pos} {Q : Value → Shared → Prop}
    (h : wpAny (model PG w) A (eval value env) (fun o s₁ => ∃ l vs, o = .ref l ∧ wpAny (model PG w) A (eval u env) (fun i s₂ => ∃ (j : Nat) (uj : Tok), i = .int j uj ∧ s₂.heap.IsList l (List.toArray vs) ∧ vs.length ≤ sizeLine ∧ j ≤ vs.length ∧
      ∀ D h', Kp s₂.heap h' → s₂.heap.objs.size ≤ D → h'.PlainList D (vs.take j).toArray → Q (.ref D) { s₂ with heap := h' }) E s₁) E s)
    (ht : ∀ l r, letTemporaryGo value (.ref l) r = pure () := by intro _ _; with_unfolding_all rfl) :
    wpAny (model PG w) A (eval (.Subscript value (.Slice none (some u) none p) pos) env) Q E s := by
  refine Subscript_ (wpAny_mono h (fun o s₁ h₁ => ?_) fun _ _ e => e)
  obtain ⟨l, vs, rfl, h₁⟩ := h₁
  refine wpAny_Slice (wpAny_evalPart_none (wpAny_evalPart_some (wpAny_mono h₁ (fun i s₂ h₂ => ?_) fun _ _ e => e)))
  obtain ⟨j, uj, rfl, hl, hsz, hj, h₂⟩ := h₂
  refine wpAny_evalPart_none ?_
  refine subscriptTail_ops (Heap.IsList.typeIs (s := { s₂ with heap := s₂.heap.push { cls := .type "slice", data := .fields #[.none, .int (j : Int) uj, .none] } }) (hl.push _)) list_getitem_lookup
    (wpAny_getItem_list_slice (hl.push _) (Heap.IsSliceOf.new ..) .none (.int _ _) .none (by simp) ?_ (by simpa using hsz)) (by with_unfolding_all rfl) (ht _)
  have e := slice_upto1 (vs := vs) hj
  rw [e]
  refine h₂ _ _ (fun b o e => Heap.get?_push_of_some _ (Heap.get?_push_of_some _ e)) ?_ ⟨0, Heap.get?_push_size _ rfl⟩
  rw [Heap.size_push]
  exact Nat.le_succ _

theorem sub_list_sn {value u : Expr} {p pos : Pos} {Q : Value → Shared → Prop}
    (h : wpAny (model PG w) A (eval value env) (fun o s₁ => ∃ l vs, o = .ref l ∧ wpAny (model PG w) A (eval u env) (fun i s₂ => ∃ (j : Nat) (uj : Tok), i = .int j uj ∧ s₂.heap.IsList l (List.toArray vs) ∧ vs.length ≤ sizeLine ∧ j ≤ vs.length ∧
      ∀ D h', Kp s₂.heap h' → s₂.heap.objs.size ≤ D → h'.PlainList D (vs.drop j).toArray → Q (.ref D) { s₂ with heap := h' }) E s₁) E s)
    (ht : ∀ l r, letTemporaryGo value (.ref l) r = pure () := by intro _ _; with_unfolding_all rfl) :
    wpAny (model PG w) A (eval (.Subscript value (.Slice (some u) none none p) pos) env) Q E s := by
  refine Subscript_ (wpAny_mono h (fun o s₁ h₁ => ?_) fun _ _ e => e)
  obtain ⟨l, vs, rfl, h₁⟩ := h₁
  refine wpAny_Slice (wpAny_evalPart_some (wpAny_mono h₁ (fun i s₂ h₂ => ?_) fun _ _ e => e))
  obtain ⟨j, uj, rfl, hl, hsz, hj, h₂⟩ := h₂
  refine wpAny_evalPart_none (wpAny_evalPart_none ?_)
  refine subscriptTail_ops (Heap.IsList.typeIs (s := { s₂ with heap := s₂.heap.push { cls := .type "slice", data := .fields #[.int (j : Int) uj, .none, .none] } }) (hl.push _)) list_getitem_lookup
    (wpAny_getItem_list_slice (hl.push _) (Heap.IsSliceOf.new ..) (.int _ _) .none .none (by simp) ?_ (by simpa using hsz)) (by with_unfolding_all rfl) (ht _)
  have e := slice_from1 (vs := vs) hj
  rw [e]
  refine h₂ _ _ (fun b o e => Heap.get?_push_of_some _ (Heap.get?_push_of_some _ e)) ?_ ⟨0, Heap.get?_push_size _ rfl⟩
  rw [Heap.size_push]
  exact Nat.le_succ _

/-- two lists of Nones -/
theorem ne_nones {a b : Addr} {Q : Value → Shared → Prop} (hl : s.heap.PlainList a #[.none, .none, .none]) (hl' : s.heap.PlainList b #[.none, .none, .none]) (hu : A.units + 64 < cLine) (h : Q (.bool false) s) :
    wpAny (model PG w) A (compareOp .NotEq (.ref a) (.ref b)) Q E s := by
  have rd : ∀ {a : Addr}, s.heap.PlainList a #[.none, .none, .none] → Reads s.heap (.ref a) (.list [.none, .none, .none]) [a] := fun hl => by
    obtain ⟨n, e⟩ := hl
    refine Reads.list e rfl rfl ?_
    exact .cons .none (.cons .none (.cons .none .nil))
  exact ne_dataH_same (rd hl) (rd hl') (by decide +kernel) (by decide +kernel) hu (by decide +kernel) h
end
end Mine

-- LJ
namespace Mine
theorem fillLJ (w : World) (h : Heap) : ((hd.heap_39 w.params).In h ∧ PySem.Challenge.rw_xi0002_01.row.prog = PySem.Challenge.rw_xi0002_01.row.prog) → True := by
  k_fill
  intros; trivial

def trX (a k : Nat) : Nat := (((trOf a).getD k ⟨#[]⟩).cps).getD 0 0
def trY (a k : Nat) : Nat := (((trOf a).getD k ⟨#[]⟩).cps).getD 1 0
def trZ (a k : Nat) : Nat := (((trOf a).getD k ⟨#[]⟩).cps).getD 2 0
theorem tr_eq : ∀ a : Nat, a < 3 → ∀ k : Nat, k < 20 → (trOf a)[k]? = some ⟨#[trX a k, trY a k, trZ a k]⟩ := by decide +kernel
def mk1 (a k : Nat) : Nat := (psOf a).idxOf ⟨#[trX a k, trY a k]⟩
def mk2 (a k : Nat) : Nat := (psOf a).idxOf ⟨#[trX a k, trZ a k]⟩
def mk3 (a k : Nat) : Nat := (psOf a).idxOf ⟨#[trY a k, trZ a k]⟩
/-- the places of the pairs of the k-th triple, whatever the signs -/
def mkT (k : Nat) : Nat × Nat × Nat := (mk1 0 k, mk2 0 k, mk3 0 k)
theorem mk_eq : ∀ a : Nat, a < 3 → ∀ k : Nat, k < 20 → (mk1 a k, mk2 a k, mk3 a k) = mkT k := by decide +kernel
theorem mk_lt : ∀ k : Nat, k < 20 → (mkT k).1 < 15 ∧ (mkT k).2.1 < 15 ∧ (mkT k).2.2 < 15 := by decide +kernel
/-- the marks after one more triple -/
def mark1 (ns : List Int) (k : Nat) : List Int := bump (mkT k).2.2 (bump (mkT k).2.1 (bump (mkT k).1 ns))
def marksTo (i : Nat) : List Int := (List.range i).foldl mark1 (List.replicate 15 0)
def leastN (n : Nat) : Nat := (leastF n).toNat
theorem least_eq : ∀ n : Nat, n < 21 → leastF n = (leastN n : Int) ∧ leastN n ≤ 15 ∧ (1 ≤ n → 1 ≤ leastN n) := by decide +kernel
theorem marks_ok : ∀ k : Nat, k < 20 → (15 : Int) - (((marksTo (k + 1)).count 0 : Nat) : Int) = (leastN (k + 1) : Int) ∧ (marksTo (k + 1)).length = 15 ∧ (∀ x ∈ (marksTo (k + 1)).take (leastN (k + 1)), 1 ≤ x) ∧ (∀ x ∈ (marksTo (k + 1)).drop (leastN (k + 1)), x ≤ 0) := by decide +kernel
theorem marks_len : ∀ k : Nat, k ≤ 20 → (marksTo k).length = 15 := by decide +kernel
def leastL (i : Nat) : List Int := (List.range (i + 1)).map fun n : Nat => leastF n
theorem least_0 : leastL 0 = [0] := by decide +kernel
theorem toks_rep {lo hi t : Nat} (h1 : lo ≤ t) (h2 : t < hi) (n : Nat) : Toks lo hi (List.replicate n (.int 0 t)) (List.replicate n 0) := by
  refine ⟨by simp, fun i m e => ?_⟩
  rw [List.getElem?_replicate] at e ⊢
  split at e
  · rename_i h
    rw [if_pos h]
    cases e
    exact ⟨t, rfl, h1, h2⟩
  · cases e

section
variable {w : World} {A : Around} {s : Shared} {L fa : Addr} {cd : Value}

set_option maxHeartbeats 4000000 in
theorem law_P4 {B : Heap} {m : Str → Option Value} {Q : Flow → Shared → Prop} {cl ch pl tl wd a : Nat} {c0 c1 c2 : Int} (C : Cx w B) (R : ∀ env, Room (A.deeper env) 20) (H : LH B L s.heap cl ch c0 c1 c2 wd a) (P : PT L s.heap pl tl a) (hn : s.heap.Ns L m) (ht1 : 1 ≤ s.toks)
    (m1 : m (Str.ofString "choices") = some (.ref ch)) (m2 : m (Str.ofString "pairs") = some (.ref pl)) (m3 : m (Str.ofString "triples") = some (.ref tl))
    (next : ∀ h tk m' (el : Nat) ev, (∀ (b : Nat) o, b ≠ L → s.heap.get? b = some o → h.get? b = some o) → 1 ≤ tk → h.Ns L m' → m' (Str.ofString "pairs") = some (.ref pl) → m' (Str.ofString "triples") = some (.ref tl) → m' (Str.ofString "least") = some (.ref el) → @LE.le Nat _ (L + 9) el → h.PlainList el (List.toArray ev) → IntsAre ev (leastL 20) →
      wpAny (model PG w) (A.deeper (lawEnv L fa cd)) (execs (lawBody.drop 15) (lawEnv L fa cd)) Q FF { s with heap := h, toks := tk }) :
    wpAny (model PG w) (A.deeper (lawEnv L fa cd)) (execs (lawBody.drop 13) (lawEnv L fa cd)) Q FF s := by
  obtain ⟨pv, hpl, hps⟩ := P.p
  obtain ⟨tv, htl, hts⟩ := P.t
  have ha := H.ha
  have hlt : tv.length = 20 := by rw [hts.length, tr_len a ha]
  have hpl' : @LT.lt Nat _ pl s.heap.objs.size := by obtain ⟨k, e⟩ := hpl; exact Heap.lt_size e
  have htl' : @LT.lt Nat _ tl s.heap.objs.size := by obtain ⟨k, e⟩ := htl; exact Heap.lt_size e
  have hL9 : @LT.lt Nat _ (L + 8) s.heap.objs.size := Nat.lt_of_lt_of_le (Nat.lt_succ_self _) (Nat.le_trans P.p9 (Nat.le_of_lt hpl'))
  obtain ⟨G, hG⟩ : ∃ G, G = hideAll s.heap [L] := ⟨_, rfl⟩
  have GL : G.get? L = none := by rw [hG]; exact hideAll_none _ (.head _)
  have Gs : Kp G s.heap := fun b o e => by rw [hG] at e; exact of_hideAll _ e
  have sG : ∀ (b : Nat) o, b ≠ L → s.heap.get? b = some o → G.get? b = some o := fun b o hb e => by rw [hG]; exact hideAll_get _ e (fun q => hb (List.mem_singleton.mp q))
  have G9 : ∀ b, s.heap.objs.size ≤ b → G.get? b = none := fun b hb => by
    cases e : G.get? b with
    | none => rfl
    | some o => exact absurd (Heap.lt_size (Gs b o e)) (Nat.not_lt.mpr hb)
  have HG := H.keep fun b o hb _ e => sG b o hb e
  have plG := hpl.at fun o e => sG pl o (off9 P.p9).1 e
  have tlG := htl.at fun o e => sG tl o (off9 P.t9).1 e
  refine wpAny_execs_cons (Assign_Tuple_swapped (names := [Str.ofString "least", Str.ofString "marks"]) (Tuple_ (spl2 (List_ (spl1 (wpAny_Constant_int (new_list (Nat.le_of_ble_eq_true rfl) fun el h₁ he0 hel K₁ hes => wpAny_BinOp (List_ (spl1 (wpAny_Constant_int (new_list (Nat.le_of_ble_eq_true rfl) fun l1 h₂ h10 hl1 K₂ h1s => wpAny_Constant_int
    (mul_list1 (n := 15) hl1 (by decide) fun ml h₃ hm0 hml K₃ hms => assign2s (R _).hd fun h₄ K₄ => ?_))))))))))))
  dsimp only at he0 K₁ hes h10 K₂ h1s hm0 K₃ hms K₄ ⊢
  have n₄ := (((hn.keeps K₁).keeps K₂).keeps K₃).keeps K₄
  refine stN n₄ fun h₅ n₅ S₅ => stN n₅ fun h₆ n₆ S₆ => ?_
  dsimp only at S₅ S₆ ⊢
  have k04 : Kp s.heap h₄ := fun b o e => K₄ b o (K₃ b o (K₂ b o (K₁ b o e)))
  have k46 : ∀ (b : Nat) o, b ≠ L → h₄.get? b = some o → h₆.get? b = some o := fun b o hb e => (S₆.2 b hb).trans ((S₅.2 b hb).trans e)
  have KG₆ : Kp G h₆ := fun b o e => k46 b o (fun q => by rw [q, GL] at e; cases e) (k04 b o (Gs b o e))
  have hes' : @LE.le Nat _ s.heap.objs.size el := hes
  have helL : @LT.lt Nat _ L el := Nat.lt_of_lt_of_le (Nat.lt_of_le_of_lt (Nat.le_add_right _ _) hL9) hes'
  have hel1 : @LT.lt Nat _ el h₁.objs.size := by obtain ⟨k, e⟩ := hel; exact Heap.lt_size e
  have hel2 : @LT.lt Nat _ el h₂.objs.size := by obtain ⟨k, e⟩ := hel; exact Heap.lt_size (K₂ _ _ e)
  have hms' : @LE.le Nat _ h₂.objs.size ml := hms
  have hem : @LT.lt Nat _ el ml := Nat.lt_of_lt_of_le hel2 hms'
  have hel₆ := hel.at fun o e => k46 el o (Nat.ne_of_gt helL) (K₄ _ o (K₃ _ o (K₂ _ o e)))
  have hml₆ := hml.at fun o e => k46 ml o (Nat.ne_of_gt (Nat.lt_trans helL hem)) (K₄ _ o e)
  have hml6 : @LT.lt Nat _ ml h₆.objs.size := by obtain ⟨k, e⟩ := hml₆; exact Heap.lt_size e
  refine wpAny_execs_cons (toksF (n := 1) (by dsimp only; omega) (for_H (ldL n₆ m3 (iterH_list (R _).hd rfl rfl (tlG.isList.at fun o e => KG₆ _ o e) (by show (tl : Nat) ≠ L; have := P.t9; omega) n₆
    (fun I i tk h m => s.toks ≤ tk ∧ @LT.lt Nat _ ml I ∧ Kp G h ∧ m (Str.ofString "choices") = some (.ref ch) ∧ m (Str.ofString "pairs") = some (.ref pl) ∧ m (Str.ofString "triples") = some (.ref tl) ∧ m (Str.ofString "least") = some (.ref el) ∧ m (Str.ofString "marks") = some (.ref ml) ∧
      ∃ ev mv, h.PlainList el (List.toArray ev) ∧ IntsAre ev (leastL i) ∧ h.PlainList ml (List.toArray mv) ∧ Toks 1 tk mv (marksTo i)) ?hJ ?h0 ?step ?hR))))
  case hJ =>
    intro I i tk tk' h h' m htk hk aa
    refine and9 aa fun a0 a1 a2 a3 a4 a5 a6 a7 bb => ?_
    clear aa
    obtain ⟨ev, mv, a8, a9, a10, a11⟩ := bb
    refine ⟨Nat.le_trans a0 htk, a1, fun b o e => ?_, a3, a4, a5, a6, a7, ev, mv, a8.at fun o e => hk _ o (Nat.ne_of_lt (Nat.lt_trans hem a1)) (Nat.ne_of_gt helL) e, a9, a10.at fun o e => hk _ o (Nat.ne_of_lt a1) (Nat.ne_of_gt (Nat.lt_trans helL hem)) e, a11.mono htk⟩
    have hb : @LT.lt Nat _ b s.heap.objs.size := Heap.lt_size (Gs b o e)
    exact hk b o (Nat.ne_of_lt (Nat.lt_of_lt_of_le hb (Nat.le_of_lt (Nat.lt_of_le_of_lt hes' (Nat.lt_trans hem a1))))) (fun q => by rw [q] at e; rw [show G.get? (lawEnv L fa cd).locals = none from GL] at e; cases e) (a2 b o e)
  case h0 =>
    intro I hI
    refine ⟨by dsimp only; omega, Nat.lt_of_lt_of_le hml6 hI, KG₆, m1, m2, m3, rfl, rfl, _, _, hel₆, ?_, hml₆, toks_rep ?_ ?_ 15⟩
    · rw [least_0]; exact .cons _ _ .nil
    · dsimp only; omega
    · dsimp only; omega
  case step =>
    intro I i v m₁ h tk hv htk aa ⟨oI, hoI⟩ hI hl7 hn7
    refine toksF (n := s.toks) aa.1 (hideS fun gg drw oo Q' hQ' => ?_)
    refine and9 aa fun a0 a1 a2 a3 a4 a5 a6 a7 bb => ?_
    clear aa
    obtain ⟨ev, mv, a8, a9, a10, a11⟩ := bb
    have hi20 : i < 20 := by rw [← hlt]; exact (List.getElem?_eq_some_iff.mp hv).1
    obtain ⟨tt, hvt⟩ := strs_at hts (tr_eq a ha i hi20)
    rw [hv] at hvt
    cases hvt
    have a3' : (fun y => if y = Str.ofString "text" then some (Value.str ⟨#[trX a i, trY a i, trZ a i]⟩ tt) else m₁ y) (Str.ofString "choices") = some (.ref ch) := a3
    have a4' : (fun y => if y = Str.ofString "text" then some (Value.str ⟨#[trX a i, trY a i, trZ a i]⟩ tt) else m₁ y) (Str.ofString "pairs") = some (.ref pl) := a4
    have a6' : (fun y => if y = Str.ofString "text" then some (Value.str ⟨#[trX a i, trY a i, trZ a i]⟩ tt) else m₁ y) (Str.ofString "least") = some (.ref el) := a6
    have a7' : (fun y => if y = Str.ofString "text" then some (Value.str ⟨#[trX a i, trY a i, trZ a i]⟩ tt) else m₁ y) (Str.ofString "marks") = some (.ref ml) := a7
    have hKB : Kp B h := fun b o e => a2 b o (HG.KB b o e)
    have C7 := C.keeps hKB
    have helen : ev.length = i + 1 := by rw [a9.length]; simp [leastL]
    have hmlI : @LT.lt Nat _ ml I := a1
    refine wpAny_execs_cons (wpAny_Expr (meth_list PySem.F.slot_list_append PySem.type_list_append (ldL hn7 a6' ⟨el, _, rfl, a8, spl1 (callF C7 (by k_is) (by k_is) (spl2 (len1 C7 (ldL hn7 a6' ⟨el, ev, rfl, a8.isList, by omega, fun t6 tk6 g6 g6' => ldL hn7 a3' ⟨C7, ?_⟩⟩))))⟩)))
    refine least_spec (d := 18) C7 (R _) (HG.ch.chs.keeps a2) fun tL h8 tk8 K8 hle8 => ?_
    have hle8' : tk6 ≤ tk8 := hle8
    have g7 : tk ≤ tk8 := Nat.le_trans g6 (Nat.le_trans (Nat.le_of_lt g6') hle8')
    have el8 := a8.at fun o e => K8 _ o e
    refine append_plain el8 (by rw [helen]; exact Nat.le_trans (show i + 1 ≤ 30 by omega) (Nat.le_of_ble_eq_true rfl)) fun h9 el9 S9 => ?_
    rw [helen] at el9
    dsimp only at K8 S9 ⊢
    obtain ⟨l1, l2, l3⟩ := least_eq (i + 1) (by omega)
    rw [l1] at el9
    have k79 : ∀ b o, b ≠ el → h.get? b = some o → h9.get? b = some o := fun b o hb e => (S9.2 b hb).trans (K8 b o e)
    have hb9 : ∀ b o, G.get? b = some o → @LT.lt Nat _ b s.heap.objs.size := fun b o e => Heap.lt_size (Gs b o e)
    have KG9 : Kp G h9 := fun b o e => k79 b o (Nat.ne_of_lt (Nat.lt_of_lt_of_le (hb9 b o e) hes')) (a2 b o e)
    have KB9 : Kp B h9 := fun b o e => KG9 b o (HG.KB b o e)
    have C9 := C.keeps KB9
    have ml9 := a10.at fun o e => k79 _ o (Nat.ne_of_gt hem) e
    have n9 := hn7.at' fun o e => k79 _ o (Nat.ne_of_lt helL) e
    have hev9 : IntsAre (ev ++ [Value.int (leastN (i + 1) : Int) tL]) (leastL (i + 1)) := by
      have : leastL (i + 1) = leastL i ++ [(leastN (i + 1) : Int)] := by
        unfold leastL
        rw [List.range_succ, List.map_append, ← l1]
        rfl
      rw [this]
      exact ints_snoc a9
    obtain ⟨q1, q2, q3⟩ := mk_lt i hi20
    have hmk := mk_eq a ha i hi20
    have hBml : B.get? ml = none := by
      cases e : B.get? ml with
      | none => rfl
      | some o =>
        have h1 : @LT.lt Nat _ ml B.objs.size := Heap.lt_size e
        have h2 : @LE.le Nat _ B.objs.size L := H.BL
        exact absurd (Nat.lt_trans (Nat.lt_trans helL hem) (Nat.lt_of_lt_of_le h1 h2)) (Nat.lt_irrefl _)
    refine wpAny_execs_cons (wpAny_If (wpAny_isTrue_BoolOp (wpAny_allTrue_Or_cons (wpAny_isTrue_Compare1 (callF C9 (by k_is) (by k_is) (spl3 (ldL n9 a7' (ldL n9 rfl (ldL n9 a4' ⟨C9, ?_⟩)))))))))
    refine mark_spec (B := B) (d := 17) (i1 := (mkT i).1) (i2 := (mkT i).2.1) (i3 := (mkT i).2.2) (ps := psOf a) (pv := pv) C KB9 hBml (R _) ml9 (a11.mono g7) (plG.at fun o e => KG9 _ o e) hps (Nat.ne_of_gt (Nat.lt_of_lt_of_le hpl' (Nat.le_trans hes' (Nat.le_of_lt hem)))) (marks_len i (by omega)) (ps_len a ha)
      (congrArg (·.1) hmk) (congrArg (·.2.1) hmk) (congrArg (·.2.2) hmk) q1 q2 q3 fun D h10 tk10 mv' g10 k10 ml10 T10 hDs hD10 => ?_
    have g10' : tk8 ≤ tk10 := g10
    dsimp only at k10 hDs ⊢
    have KG10 : Kp G h10 := fun b o e => k10 b o (fun q => by
      have := hb9 b o e
      rw [q] at this
      exact absurd (Nat.lt_trans this (Nat.lt_of_le_of_lt hes' hem)) (Nat.lt_irrefl _)) (KG9 b o e)
    have C10 := C.keeps fun b o e => KG10 b o (HG.KB b o e)
    have n10 := n9.at' fun o e => k10 _ o (Nat.ne_of_lt (Nat.lt_trans helL hem)) e
    have el10 := el9.at fun o e => k10 _ o (Nat.ne_of_lt hem) e
    have hmt : bump (mkT i).2.2 (bump (mkT i).2.1 (bump (mkT i).1 (marksTo i))) = marksTo (i + 1) := by
      unfold marksTo
      rw [List.range_succ, List.foldl_append]
      rfl
    rw [hmt] at T10
    obtain ⟨o1, o2, o3, o4⟩ := marks_ok i hi20
    refine List_ (spl3 (wpAny_Constant_none (wpAny_Constant_none (wpAny_Constant_none (new_list (Nat.le_of_ble_eq_true rfl) fun D2 h11 h110 hD11 K11 hD2s => ?_)))))
    dsimp only at h110 K11 hD2s ⊢
    refine ne_nones (hD10.at fun o e => K11 _ o e) hD11 (R (lawEnv L fa cd)).u64 (wpAny_truthy_bool ?_)
    simp only [Bool.false_eq_true, if_false]
    have C11 := C10.keeps K11
    have n11 := n10.keeps K11
    have ml11 := ml10.at fun o e => K11 _ o e
    have el11 := el10.at fun o e => K11 _ o e
    refine wpAny_allTrue_Or_cons (wpAny_isTrue_Compare1 (wpAny_BinOp (wpAny_Constant_int (callF C11 (by k_is) (by k_is) (spl2 (ldL n11 a7' (wpAny_Constant_int ⟨C11, countOf_int (d := 19) (hi := tk10) C11 (R _) ml11.isList T10 (Nat.le_refl _) (by dsimp only; omega) fun t12 h12 tk12 K12 g12 g12' => AutoIntOps.sub_0 ?_⟩)))))))
    dsimp only at K12 g12 ⊢
    rw [o1]
    have n12 := n11.keeps K12
    have el12 := el11.at fun o e => K12 _ o e
    have ml12 := ml11.at fun o e => K12 _ o e
    have C12 := C11.keeps K12
    refine Subscript_ (ldL n12 a6' (UnaryOp_ (wpAny_Constant_int (neg_int (tail_last el12.isList (PyProof.Rows.ne_int (wpAny_truthy_bool ?_)))))))
    simp only [bne_self_eq_false, Bool.false_eq_true, if_false]
    refine wpAny_allTrue_Or_nil ?_
    simp only [Bool.false_eq_true, if_false]
    refine wpAny_execs_nil ?_
    dsimp only
    have hsz15 : mv'.length = 15 := by rw [T10.1, o2]
    have hle15 : mv'.length ≤ sizeLine := by rw [hsz15]; exact Nat.le_of_ble_eq_true rfl
    have l3' := l3 (Nat.le_add_left 1 i)
    refine wpAny_execs_cons (wpAny_If (wpAny_isTrue_BoolOp (wpAny_allTrue_Or_cons (wpAny_isTrue_Compare1 (callB C12 (by k_is) boot_min (spl1 (sub_list_ns (ldL n12 a7' ⟨ml, mv', rfl, Subscript_ (ldL n12 a6' (UnaryOp_ (wpAny_Constant_int (neg_int (tail_last el12.isList ⟨leastN (i + 1), _, rfl, ml12.isList, hle15, by rw [hsz15]; exact l2, fun D13 h13 K13 hD13s hD13 => ?_⟩)))))⟩))))))))
    dsimp only at K13 ⊢
    have hi13 := IntsAre.take T10.ints (leastN (i + 1))
    refine min0t (R _).hd hD13.isList hi13 (by rw [List.length_take, o2]; exact Nat.lt_min.mpr ⟨l3', by decide⟩) fun h14 M t14 tk14 K14 g14 hM hMa => ?_
    dsimp only at K14 g14 ⊢
    refine wpAny_Constant_int (wpAny_lt_int (wpAny_truthy_bool ?_))
    have hM1 := o3 M hM
    have eM : decide (M < 1) = false := decide_eq_false (by omega)
    rw [eM]
    simp only [Bool.false_eq_true, if_false]
    have n14 := (n12.keeps K13).keeps K14
    have el14 := el12.at fun o e => K14 _ o (K13 _ o e)
    have ml14 := ml12.at fun o e => K14 _ o (K13 _ o e)
    have C14 := (C12.keeps K13).keeps K14
    refine wpAny_allTrue_Or_cons (wpAny_isTrue_Compare1 (callB C14 (by k_is) boot_max (spl1 (wpAny_BinOp (List_ (spl1 (wpAny_Constant_int (new_list (Nat.le_of_ble_eq_true rfl) fun D15 h15 h150 hD15 K15 hD15s => ?_))))))))
    dsimp only at h150 K15 hD15s ⊢
    have n15 := n14.keeps K15
    refine sub_list_sn (ldL n15 a7' ⟨ml, mv', rfl, Subscript_ (ldL n15 a6' (UnaryOp_ (wpAny_Constant_int (neg_int (tail_last (el14.isList.at fun o e => K15 _ o e) ⟨leastN (i + 1), _, rfl, ml14.isList.at fun o e => K15 _ o e, hle15, by rw [hsz15]; exact l2, fun D16 h16 K16 hD16s hD16 => ?_⟩)))))⟩)
    dsimp only at K16 hD16s ⊢
    refine add_lists1 (vs := [Value.int 0 _]) (hD15.at fun o e => K16 _ o e) hD16 (by rw [List.length_drop, hsz15]; exact Nat.le_trans (Nat.le_trans (Nat.add_le_add_left (Nat.sub_le _ _) 1) (by decide : 1 + 15 ≤ 30)) (Nat.le_of_ble_eq_true rfl)) fun D17 h17 h170 hD17 K17 hD17s => ?_
    dsimp only at h170 K17 hD17s ⊢
    refine max0t (ns := 0 :: (marksTo (i + 1)).drop (leastN (i + 1))) (R _).hd hD17.isList (.cons _ _ (IntsAre.drop T10.ints (leastN (i + 1)))) (by simp) fun h18 M' t18 tk18 K18 g18 hM' _ => ?_
    dsimp only at K18 g18 ⊢
    refine wpAny_Constant_int (PyProof.Rows.gt_int (wpAny_truthy_bool ?_))
    have hM0 : M' ≤ 0 := by
      rcases List.mem_cons.mp hM' with e | e
      · omega
      · exact o4 M' e
    have eM' : decide (0 < M') = false := decide_eq_false (by omega)
    rw [eM']
    simp only [Bool.false_eq_true, if_false]
    refine wpAny_allTrue_Or_nil ?_
    simp only [Bool.false_eq_true, if_false]
    have K10e : Kp h10 h18 := fun b o e => K18 b o (K17 b o (K16 b o (K15 b o (K14 b o (K13 b o (K12 b o (K11 b o e)))))))
    refine wpAny_execs_nil (wpAny_execs_nil (hQ' fun hle => ⟨h18, _, _, rfl, ?_, n10.keeps K10e, hle, a1, fun b o e => K10e b o (KG10 b o e), a3', a4', a5, a6', a7', _, mv', el10.at fun o e => K10e _ o e, hev9, ml10.at fun o e => K10e _ o e, T10.mono ?_⟩))
    · intro b hb o e
      have hbI : b = I ∨ b = tl := by
        rcases List.mem_cons.mp hb with h | h
        · exact .inl h
        · exact .inr (List.mem_singleton.mp h)
      have hne1 : b ≠ el := by
        rcases hbI with rfl | rfl
        · exact Nat.ne_of_gt (Nat.lt_trans hem hmlI)
        · exact Nat.ne_of_lt (Nat.lt_of_lt_of_le htl' hes')
      have hne2 : b ≠ ml := by
        rcases hbI with rfl | rfl
        · exact Nat.ne_of_gt hmlI
        · exact Nat.ne_of_lt (Nat.lt_of_lt_of_le htl' (Nat.le_trans hes' (Nat.le_of_lt hem)))
      exact K10e b o (k10 b o hne2 (k79 b o hne1 e))
    · have g12a : @LT.lt Nat _ t12 tk12 := g12'
      omega
  case hR =>
    intro I h' tk m' hI htk hn' aa hle
    refine and9 aa fun a0 a1 a2 a3 a4 a5 a6 a7 bb => ?_
    clear aa
    obtain ⟨ev, mv, a8, a9, a10, a11⟩ := bb
    rw [hlt] at a9
    exact next h' tk m' el ev (fun b o hb e => a2 b o (sG b o hb e)) (Nat.le_trans ht1 a0) hn' a4 a5 a6 (Nat.lt_of_lt_of_le hL9 hes') a8 a9
end
end Mine

-- LK
namespace Mine
theorem fillLK (w : World) (h : Heap) : ((hd.heap_39 w.params).In h ∧ PySem.Challenge.rw_xi0002_01.row.prog = PySem.Challenge.rw_xi0002_01.row.prog) → True := by
  k_fill
  intros; trivial

theorem LH.keep51 {B : Heap} {L : Nat} {h h' : Heap} {cl ch : Nat} {c0 c1 c2 : Int} {wd a : Nat} (H : LH B L h cl ch c0 c1 c2 wd a) (h51 : B.get? 51 = none) (T : Tb (frameX L) 22 4 qIn h') (k : ∀ (b : Nat) o, b ≠ 51 → b ≠ L → ¬ (L + 4 ≤ b ∧ b ≤ L + 8) → h.get? b = some o → h'.get? b = some o) : LH B L h' cl ch c0 c1 c2 wd a where
  KB := fun b o e => by
    have : @LT.lt Nat _ b L := Nat.lt_of_lt_of_le (Heap.lt_size e) H.BL
    exact k b o (fun q => by rw [q, h51] at e; cases e) (Nat.ne_of_lt this) (off0 this) (H.KB b o e)
  T := T
  l51 := H.l51
  k1 := isCell_at H.k1 fun o e => k (L + 1) o (ne51 H.l51 (Nat.le_add_right _ _)) (off3 (by decide) (by decide)).1 (off3 (by decide) (by decide)).2 e
  cl9 := H.cl9
  pl := let ⟨t0, t1, t2, e⟩ := H.pl; ⟨t0, t1, t2, e.at fun o e => k cl o (ne51 H.l51 (Nat.le_trans (Nat.le_add_right _ _) H.cl9)) (off9 H.cl9).1 (off9 H.cl9).2 e⟩
  k2 := let ⟨t, e⟩ := H.k2; ⟨t, isCell_at e fun o e => k (L + 2) o (ne51 H.l51 (Nat.le_add_right _ _)) (off3 (by decide) (by decide)).1 (off3 (by decide) (by decide)).2 e⟩
  k3 := let ⟨t, e⟩ := H.k3; ⟨t, isCell_at e fun o e => k (L + 3) o (ne51 H.l51 (Nat.le_add_right _ _)) (off3 (by decide) (by decide)).1 (off3 (by decide) (by decide)).2 e⟩
  ch := by
    obtain ⟨rs, g1, g2, g3, g4, g5⟩ := H.ch
    have := H.l51
    refine ⟨rs, g1, g2, g3, g4.at fun o e => k ch o (ne51 this (Nat.le_trans (Nat.le_add_right _ _) g2)) (off9 g2).1 (off9 g2).2 e, fun i r hr => ?_⟩
    obtain ⟨vs, v1, v2⟩ := g5 i r hr
    have r9 : @LE.le Nat _ (L + 9) r := g3 r (List.mem_of_getElem? hr)
    exact ⟨vs, v1.at fun o e => k r o (ne51 this (Nat.le_trans (Nat.le_add_right _ _) r9)) (off9 r9).1 (off9 r9).2 e, v2⟩
  ha := H.ha
  hw := H.hw
  BL := H.BL

theorem ev_sum (X : Nat) : ∀ (l : List Nat), ((List.range l.length).map fun k => ((l.getD k 0 * X ^ k : Nat) : Int)).sum = (ev X l : Int)
  | [] => rfl
  | c :: l => by
    rw [List.length_cons, List.range_succ_eq_map, List.map_cons, List.map_map, List.sum_cons]
    have ih := ev_sum X l
    have e : ((List.range l.length).map ((fun k => (((c :: l).getD k 0 * X ^ k : Nat) : Int)) ∘ Nat.succ)).sum = (X : Int) * ((List.range l.length).map fun k => ((l.getD k 0 * X ^ k : Nat) : Int)).sum := by
      have key : ∀ (r : List Nat), (r.map ((fun k => (((c :: l).getD k 0 * X ^ k : Nat) : Int)) ∘ Nat.succ)).sum = (X : Int) * (r.map fun k => ((l.getD k 0 * X ^ k : Nat) : Int)).sum := by
        intro r
        induction r with
        | nil => simp
        | cons k r ih =>
          rw [List.map_cons, List.map_cons, List.sum_cons, List.sum_cons, ih, Int.mul_add]
          congr 1
          show (((c :: l).getD (k + 1) 0 * X ^ (k + 1) : Nat) : Int) = _
          rw [List.getD_cons_succ, Nat.pow_succ, ← Int.natCast_mul]
          congr 1
          rw [← Nat.mul_assoc, Nat.mul_comm]
      exact key _
    rw [e, ih, ev]
    simp
theorem ev_ge {X : Nat} : ∀ {l : List Nat} {c : Nat}, 1 ≤ c → X ^ l.length ≤ ev X (l ++ [c])
  | [], c, h => by simp [ev]; exact h
  | d :: l, c, h => by
    rw [List.cons_append, ev, List.length_cons, Nat.pow_succ, Nat.mul_comm]
    exact Nat.le_trans (Nat.mul_le_mul_left _ (ev_ge h)) (Nat.le_add_left _ _)

section
variable {w : World} {A : Around} {s : Shared} {L fa : Addr} {cd : Value}
theorem mul_natB {E : Value → Shared → Prop} {a b : Int} {x y n : Nat} {t u : Tok} {Q : Value → Shared → Prop} (ha : a = x) (hb : b = y) (hx : x < 2 ^ n) (hy : y < 2 ^ n) (hn : n ≤ 2 ^ 20) (h : Q (.int (x * y : Nat) s.toks) { s with toks := s.toks + 1 }) : wpAny (model PG w) A (binaryOp .Mult (.int a t) (.int b u)) Q E s := by
  subst ha hb
  refine AutoIntOps.mul_0 ?_ (IntMulOk.of_bits (Nat.le_trans (bits_le hx) hn) (Nat.le_trans (bits_le hy) hn))
  have e : (x : Int) * (y : Int) = ((x * y : Nat) : Int) := by push_cast; rfl
  rw [e]; exact h

theorem ne_same {E : Value → Shared → Prop} {a b : Addr} {vs us : List Value} {ns : List Int} {Q : Value → Shared → Prop} (hl : s.heap.IsList a vs.toArray) (hi : IntsAre vs ns) (hl' : s.heap.IsList b us.toArray) (hi' : IntsAre us ns) (hu : A.units + 64 < cLine)
    (h : Q (.bool false) s) : wpAny (model PG w) A (compareOp .NotEq (.ref a) (.ref b)) Q E s := by
  refine ne_intsK hl hi hl' hi' hu ?_
  have e : (!decide (ns = ns)) = false := by simp
  rw [e]; exact h

set_option maxHeartbeats 4000000 in
theorem law_P5 {B : Heap} {m : Str → Option Value} {Q : Flow → Shared → Prop} {cl ch wd a : Nat} {c0 c1 c2 : Int} (C : Cx w B) (hcd : CodeHd B 55 51) (h51 : B.get? 51 = none) (R : ∀ env, Room (A.deeper env) 20) (H : LH B L s.heap cl ch c0 c1 c2 wd a) (hn : s.heap.Ns L m) (hlive : ∀ b ∈ frameX L, ∃ o, s.heap.get? b = some o) (u6 : s.heap.IsCell (L + 6 : Nat) none)
    (next : ∀ h tk (fl : Nat) fv (fs : List Nat), (∀ (b : Nat) o, b ≠ 51 → b ≠ L → b ≠ L + 6 → s.heap.get? b = some o → h.get? b = some o) → Tb (frameX L) 22 4 qIn h → s.toks ≤ tk → h.Ns L (fun z => if z = Str.ofString "figures" then some (.ref fl) else m z) → @LE.le Nat _ (L + 9) fl → h.PlainList fl (List.toArray fv) → fs.length = 21 → IntsAre fv (fs.map fun n : Nat => (n : Int)) →
      wpAny (model PG w) (A.deeper (lawEnv L fa cd)) (execs (lawBody.drop 18) (lawEnv L fa cd)) Q FF { s with heap := h, toks := tk }) :
    wpAny (model PG w) (A.deeper (lawEnv L fa cd)) (execs (lawBody.drop 15) (lawEnv L fa cd)) Q FF s := by
  obtain ⟨t0, t1, t2, hcl⟩ := H.pl
  obtain ⟨tw, kw⟩ := H.k2
  obtain ⟨hw1, hw2⟩ := H.hw
  have C₁ := C.keeps H.KB
  have hX := Nat.pow_pos (n := wd) (show 0 < 2 by decide)
  have hfitw : 2 * wd ≤ 134217728 := Nat.le_trans (Nat.mul_le_mul_left 2 hw2) (by decide)
  have sb : ∀ {h h' : Heap} {c : Nat}, Heap.SameBut c h h' → ∀ (b : Nat) o, b ≠ c → h.get? b = some o → h'.get? b = some o := fun S b o hb e => (S.2 b hb).trans e
  refine wpAny_execs_cons (toksF (n := s.toks) (Nat.le_refl _) (wpAny_Assign_Name (wpAny_BinOp (comp_range [] (R _).hd rfl (by decide) rfl (by decide) rfl (rng1 C₁ (wpAny_Constant_int ⟨_, _, rfl, fun r h₁ tk₁ u1 u2 u3 K₁ htk₁ hr hrr => ?_⟩))))))
  dsimp only at K₁ htk₁ hr
  refine ⟨r, 0, 20, 1, _, _, _, 20, fun X i ys tk h => ∃ ds : List Nat, ds.length = i ∧ (∀ x ∈ ds, x < 2 ^ wd) ∧ IntsAre ys (ds.map fun n : Nat => (n : Int)), rfl, hrr, rfl, rfl, Nat.le_of_ble_eq_true rfl, by simp, fun _ _ _ _ _ _ _ _ _ hj => hj, fun _ _ => ⟨[], rfl, by simp, .nil⟩, ?_, ?_⟩
  · rintro C5 D I i t ys h tk m5 hi hlen - - ⟨ds, d1, d2, d3⟩ - hC hD hI hlive' hk hn5 hm5
    have k2 : Kp s.heap h := fun b o e => hk b o (by simp) (K₁ b o e)
    rw [z01 i] at hm5
    have hfit : 7 * i ≤ 134217728 := Nat.le_trans (Nat.mul_le_mul_left 7 (Nat.le_of_lt hi)) (by decide)
    have hlog : (((64 ^ i : Nat) : Int)).natAbs.log2 < 9000 := by
      rw [Int.natAbs_natCast]
      have hp := Nat.pow_pos (n := i) (show 0 < 64 by decide)
      refine (Nat.log2_lt (Nat.ne_of_gt hp)).mpr ?_
      calc 64 ^ i = 2 ^ (6 * i) := by rw [Nat.pow_mul]
        _ < 2 ^ 9000 := Nat.pow_lt_pow_right (by decide) (Nat.lt_of_le_of_lt (Nat.mul_le_mul_left 6 (Nat.le_of_lt hi)) (by decide))
    have hp64 := Nat.pow_pos (n := i) (show 0 < 64 by decide)
    have hne64 : ¬ (((64 ^ i : Nat) : Int) == 0) = true := by rw [beq_iff_eq]; exact fun q => Nat.ne_of_gt hp64 (Int.ofNat.inj q)
    have hne2 : ¬ (((2 ^ wd : Nat) : Int) == 0) = true := by rw [beq_iff_eq]; exact fun q => Nat.ne_of_gt hX (Int.ofNat.inj q)
    refine hideS fun gg drw oo Q1 hQ1 => ?_
    refine wpAny_BinOp (wpAny_BinOp (Subscript_ (ldC rfl (isCell_at H.k1 fun o e => k2 _ o e) (wpAny_Constant_int (tail_list (hcl.isList.at fun o e => k2 _ o e) (by decide) (by decide) rfl (wpAny_BinOp (wpAny_Constant_int (ldL hn5 hm5 (pow_nat (x := 64) (k := i) (n := 7) rfl rfl (by decide) (by decide) hfit
      (AutoIntOps.floordiv_1 hne64 (by rw [PyProof.noPylong_of_log2 hlog]; exact Bool.false_ne_true) (wpAny_BinOp (wpAny_Constant_int (ldC rfl (isCell_at kw fun o e => k2 _ o e) (pow_nat (x := 2) (k := wd) (n := 2) rfl rfl (by decide) (by decide) hfitw (AutoIntOps.mod_1 hne2 ?_)))))))))))))))
    obtain ⟨dn, hdn, hdl⟩ : ∃ dn : Nat, (c0.fdiv ((64 ^ i : Nat) : Int)).fmod ((2 ^ wd : Nat) : Int) = (dn : Int) ∧ dn < 2 ^ wd := by
      have hpos : (0 : Int) < ((2 ^ wd : Nat) : Int) := Int.natCast_pos.mpr hX
      have h1 := Int.fmod_nonneg_of_pos (c0.fdiv ((64 ^ i : Nat) : Int)) hpos
      have h2 := Int.fmod_lt_of_pos (c0.fdiv ((64 ^ i : Nat) : Int)) hpos
      exact ⟨_, toN h1, (Int.toNat_lt h1).mpr h2⟩
    rw [hdn]
    refine hQ1 ⟨h, _, rfl, fun _ _ _ e => e, ds ++ [dn], by simp [d1], ?_, ?_⟩
    · intro x hx
      rcases List.mem_append.mp hx with hx | hx
      · exact d2 x hx
      · rw [List.mem_singleton.mp hx]; exact hdl
    · rw [List.map_append]
      exact ints_snoc d3
  · rintro C5 D I h₃ tk₃ ys htk₃ hC hD hI hpl₃ hsz₃ ⟨ds, d1, d2, d3⟩ hk₃
    have hk₃ : ∀ b o, b ∉ ([] : List Addr) → h₁.get? b = some o → h₃.get? b = some o := hk₃
    have k3 : Kp s.heap h₃ := fun b o e => hk₃ b o (by simp) (K₁ b o e)
    have hlys : ys.toList.length = 20 := by simpa using hsz₃
    refine List_ (spl1 (wpAny_BinOp (wpAny_BinOp (wpAny_Constant_int (ldC rfl (isCell_at kw fun o e => k3 _ o e) (pow_nat (x := 2) (k := wd) (n := 2) rfl rfl (by decide) (by decide) hfitw (wpAny_Constant_int (AutoIntOps.sub_0 (new_list (Nat.le_of_ble_eq_true rfl) fun l2 h₄ h40 hl2 K₄ h4s => ?_)))))))))
    dsimp only at h40 K₄ h4s ⊢
    have hpl3 : h₄.PlainList D (List.toArray ys.toList) := by simpa using hpl₃.at fun o e => K₄ _ o e
    refine add_lists1 hpl3 hl2 (by rw [hlys]; exact Nat.le_of_ble_eq_true rfl) fun dl h₅ h50 hdl K₅ h5s => ?_
    dsimp only at h50 K₅ h5s ⊢
    have k5 : Kp s.heap h₅ := fun b o e => K₅ b o (K₄ b o (k3 b o e))
    refine wpAny_storeName_cell rfl rfl rfl (isCell_at u6 fun o e => k5 _ o e) fun h₆ k6 S₆ hle6 => ?_
    dsimp only at S₆ hle6 ⊢
    have e2 : ((2 ^ wd : Nat) : Int) - 1 = ((2 ^ wd - 1 : Nat) : Int) := (Int.ofNat_sub hX).symm
    obtain ⟨dd, hdde⟩ : ∃ dd, dd = ds ++ [2 ^ wd - 1] := ⟨_, rfl⟩
    have hddl : dd.length = 21 := by rw [hdde]; simp [d1]
    have hwp : 2 ^ 6 ≤ 2 ^ wd := Nat.pow_le_pow_right (by decide) hw1
    have hdds : ∀ x ∈ dd, x < 2 ^ wd := by
      intro x hx
      rw [hdde] at hx
      rcases List.mem_append.mp hx with hx | hx
      · exact d2 x hx
      · rw [List.mem_singleton.mp hx]; exact Nat.sub_lt hX (by decide)
    obtain ⟨dv, hdl, hdd⟩ : ∃ dv, h₅.PlainList dl (List.toArray dv) ∧ IntsAre dv (dd.map fun n : Nat => (n : Int)) := ⟨_, hdl, by
      rw [hdde, List.map_append, List.map_cons, List.map_nil, ← e2]
      exact ints_snoc d3⟩
    have hdvl : dv.length = 21 := by rw [hdd.length, List.length_map, hddl]
    have hL8 : @LT.lt Nat _ (L + 8) s.heap.objs.size := by obtain ⟨o, e⟩ := hlive (L + 8) (by simp [frameX]); exact Heap.lt_size e
    have hD0 : @LE.le Nat _ h₁.objs.size D := hD
    have hrs : @LE.le Nat _ s.heap.objs.size r := hr
    have hr1 : @LT.lt Nat _ r h₁.objs.size := Heap.lt_size hrr
    have hD5 : @LT.lt Nat _ D h₄.objs.size := by obtain ⟨k, e⟩ := hpl3; exact Heap.lt_size e
    have h5s' : @LE.le Nat _ h₄.objs.size dl := h5s
    have hdl9 : @LE.le Nat _ (L + 9) dl := Nat.le_trans hL8 (Nat.le_trans hrs (Nat.le_trans (Nat.le_of_lt hr1) (Nat.le_trans hD0 (Nat.le_trans (Nat.le_of_lt hD5) h5s'))))
    have k06 : ∀ (b : Nat) o, b ≠ L + 6 → s.heap.get? b = some o → h₆.get? b = some o := fun b o hb e => sb S₆ b o hb (k5 b o e)
    have H₆ := H.keep fun b o _ hb e => k06 b o (fun q => hb (by rw [q]; exact ⟨Nat.add_le_add_left (by decide) _, Nat.add_le_add_left (by decide) _⟩)) e
    have C₆ := C.keeps H₆.KB
    have n₆ := hn.at' fun o e => k06 L o (neL (by decide)) e
    have hdl₆ := hdl.at fun o e => sb S₆ dl o (off9k (L := L) (k := 6) hdl9 (by decide)) e
    obtain ⟨tw6, kw6⟩ := H₆.k2
    refine wpAny_execs_cons (toksF (n := s.toks) hle6 (wpAny_Assign_Name (callF C₆ (by k_is) (by k_is) (spl2 (sum1 C₆ (R _).hd (comp_range [] (R _).hd rfl (by decide) rfl (by decide) rfl (rng1 C₆ (wpAny_Constant_int ⟨_, _, rfl, fun r2 h₇ tk₇ w1 w2 w3 K₇ htk₇ hr2 hrr2 => ?_⟩))))))))
    dsimp only at K₇ htk₇ hr2
    refine ⟨r2, 0, 21, 1, _, _, _, 21, fun X i ys tk h => IntsAre ys ((List.range i).map fun k => ((dd.getD k 0 * (2 ^ wd) ^ k : Nat) : Int)), rfl, hrr2, rfl, rfl, Nat.le_of_ble_eq_true rfl, by simp, fun _ _ _ _ _ _ _ _ _ hj => hj, fun _ _ => .nil, ?_, ?_⟩
    · rintro C8 D8 I8 i t ys8 h tk m8 hi hlen - - hj8 - hC8 hD8 hI8 hlive8 hk hn8 hm8
      have k2 : Kp h₆ h := fun b o e => hk b o (by simp) (K₇ b o e)
      rw [z01 i] at hm8
      have hi63 := i63 hi (by decide)
      obtain ⟨x, hx⟩ : ∃ x, dd[i]? = some x := ⟨_, List.getElem?_eq_getElem (by rw [hddl]; exact hi)⟩
      obtain ⟨v, hv⟩ : ∃ v, dv[i]? = some v := ⟨_, List.getElem?_eq_getElem (by rw [hdvl]; exact hi)⟩
      obtain ⟨tx, rfl⟩ := ints_at (n := (x : Int)) hdd hv (by rw [List.getElem?_map, hx]; rfl)
      have hxs := hdds x (List.mem_of_getElem? hx)
      have hwi : wd * i ≤ 905 * 20 := Nat.mul_le_mul hw2 (Nat.le_of_lt_succ hi)
      have hb1 : x < 2 ^ 20000 := Nat.lt_of_lt_of_le hxs (Nat.pow_le_pow_right (by decide) (Nat.le_trans hw2 (by decide)))
      have hb2 : 2 ^ (wd * i) < 2 ^ 20000 := Nat.pow_lt_pow_right (by decide) (Nat.lt_of_le_of_lt hwi (by decide))
      have hfit2 : 2 * (wd * i) ≤ 134217728 := Nat.le_trans (Nat.mul_le_mul_left 2 hwi) (by decide)
      have hwd64 : wd < 2 ^ 64 := Nat.lt_of_le_of_lt hw2 (by decide)
      refine hideS fun gg drw oo Q1 hQ1 => ?_
      refine wpAny_BinOp (Subscript_ (ldC rfl (isCell_at k6 fun o e => k2 _ o e) (ldL hn8 hm8 (tail_list (hdl₆.isList.at fun o e => k2 _ o e) (Int.natCast_nonneg i) hi63 hv (wpAny_BinOp (wpAny_Constant_int (wpAny_BinOp (ldC rfl (isCell_at kw6 fun o e => k2 _ o e) (ldL hn8 hm8 (mul_natE (x := wd) (y := i) rfl rfl hwd64
        (pow_nat (x := 2) (k := wd * i) (n := 2) rfl rfl (by decide) (by decide) hfit2 (mul_natB (x := x) (y := 2 ^ (wd * i)) (n := 20000) rfl rfl hb1 hb2 (by decide) (hQ1 ⟨h, _, rfl, fun _ _ _ e => e, ?_⟩)))))))))))))
      show IntsAre _ ((List.range (i + 1)).map fun k => ((dd.getD k 0 * (2 ^ wd) ^ k : Nat) : Int))
      rw [List.range_succ, List.map_append, List.map_cons, List.map_nil]
      have e3 : dd.getD i 0 * (2 ^ wd) ^ i = x * 2 ^ (wd * i) := by rw [List.getD_eq_getElem?_getD, hx, Nat.pow_mul]; rfl
      rw [e3]
      exact ints_snoc hj8
    · rintro C8 D8 I8 h₈ tk₈ ys8 htk₈ hC8 hD8 hI8 hpl₈ hsz₈ hj8 hk₈
      have hk₈ : ∀ b o, b ∉ ([] : List Addr) → h₇.get? b = some o → h₈.get? b = some o := hk₈
      have hj8 : IntsAre ys8.toList ((List.range 21).map fun k => ((dd.getD k 0 * (2 ^ wd) ^ k : Nat) : Int)) := hj8
      refine ⟨D8, ys8.toList, _, rfl, by simpa using hpl₈.isList, hj8, fun h₉ t₉ tk₉ K₉ => ?_⟩
      have hsum : ((List.range 21).map fun k => ((dd.getD k 0 * (2 ^ wd) ^ k : Nat) : Int)).sum = (ev (2 ^ wd) dd : Int) := by
        have e := ev_sum (2 ^ wd) dd
        rw [hddl] at e
        exact e
      rw [hsum]
      have K69 : Kp h₆ h₉ := fun b o e => K₉ b o (hk₈ b o (by simp) (K₇ b o e))
      have hB9 : Kp B h₉ := fun b o e => K69 b o (H₆.KB b o e)
      have live9 : ∀ b ∈ frameX L, ∃ o, h₉.get? b = some o := by
        intro b hb
        obtain ⟨o, e⟩ := hlive b hb
        by_cases q : b = L + 6
        · obtain ⟨o', e', _⟩ := k6
          exact ⟨o', by rw [q]; exact K69 _ _ e'⟩
        · exact ⟨o, K69 _ _ (k06 b o q e)⟩
      have hge : 2 ^ (wd * (21 - 1)) ≤ ev (2 ^ wd) dd := by
        rw [Nat.pow_mul, hdde]
        have := ev_ge (X := 2 ^ wd) (l := ds) (c := 2 ^ wd - 1) (Nat.le_sub_of_add_le (Nat.le_trans (by decide : 1 + 1 ≤ 2 ^ 6) hwp))
        rw [d1] at this
        exact this
      have hlt : ev (2 ^ wd) dd < 2 ^ (wd * 21) := by
        rw [Nat.pow_mul]
        have := ev_lt hdds
        rw [hddl] at this
        exact this
      refine ldC rfl (isCell_at kw6 fun o e => K69 _ o e) ⟨C.keeps hB9, ?_⟩
      refine int2digits_spec (d := 12) (D := 21) (frameX L) C hB9 hcd h51 (H₆.T.keeps K69) (R _) live9 hge hlt (Nat.le_trans (by decide) hw1) (Nat.le_trans hw2 (by decide)) (by decide) (by decide) fun fl h₁₀ tk₁₀ fv k₁₀ T₁₀ hfl hfls hfi hle10 => ?_
      have l51 := H.l51
      have h51L : (51 : Nat) < L := l51
      have n₁₀ := (n₆.keeps K69).at' fun o e => k₁₀ _ o (Nat.ne_of_gt h51L) e
      refine stN n₁₀ fun h₁₁ n₁₁ S₁₁ htoks => ?_
      dsimp only at k₁₀ hfls S₁₁ ⊢
      have hfi' : IntsAre fv (dd.map fun n : Nat => (n : Int)) := by
        have e := digs_ev hdds
        rw [hddl] at e
        rw [e] at hfi
        exact hfi
      have hL9' : @LT.lt Nat _ (L + 8) h₉.objs.size := by obtain ⟨o, e⟩ := live9 (L + 8) (by simp [frameX]); exact Heap.lt_size e
      have hfls' : @LE.le Nat _ h₉.objs.size fl := hfls
      have hfl9 : @LE.le Nat _ (L + 9) fl := Nat.lt_of_lt_of_le hL9' hfls'
      have k611 : ∀ (b : Nat) o, b ≠ 51 → b ≠ L → h₆.get? b = some o → h₁₁.get? b = some o := fun b o h1 h2 e => sb S₁₁ b o h2 (k₁₀ b o h1 (K69 b o e))
      have hfl₁₁ := hfl.at fun o e => sb S₁₁ fl o (Nat.ne_of_gt (Nat.lt_of_lt_of_le (Nat.lt_add_of_pos_right (by decide)) hfl9)) e
      have hdl₁₁ := hdl₆.at fun o e => k611 dl o (Nat.ne_of_gt (Nat.lt_of_lt_of_le h51L (Nat.le_trans (Nat.le_add_right _ 9) hdl9))) (Nat.ne_of_gt (Nat.lt_of_lt_of_le (Nat.lt_add_of_pos_right (by decide)) hdl9)) e
      have k6₁₁ := isCell_at k6 fun o e => k611 (L + 6) o (Nat.ne_of_gt (Nat.lt_of_lt_of_le h51L (Nat.le_add_right _ _))) (Nat.ne_of_gt (Nat.lt_add_of_pos_right (by decide))) e
      have hun : (A.deeper (lawEnv L fa cd)).units + 64 < cLine := (R (lawEnv L fa cd)).u64
      have htoks : s.toks ≤ tk₁₀ + 1 := htoks
      refine wpAny_execs_cons (toksF (n := s.toks) htoks (wpAny_If (wpAny_isTrue_Compare1 (ldL n₁₁ rfl (ldC rfl k6₁₁ (ne_same hfl₁₁.isList hfi' hdl₁₁.isList hdd hun (wpAny_truthy_bool ?_)))))))
      simp only [Bool.false_eq_true, if_false]
      refine wpAny_execs_nil fun hle => ?_
      have T₁₁ : Tb (frameX L) 22 4 qIn h₁₁ := by
        refine T₁₀.off (Z' := [L]) (fun (b : Nat) o hb e => sb S₁₁ b o (fun q => hb (by rw [q]; exact .head _)) e) ?_ ?_
        · intro hm
          exact Nat.ne_of_lt h51L (List.mem_singleton.mp hm)
        · intro b hb
          rw [List.mem_singleton.mp hb]
          exact .head _
      have hle2 : s.toks ≤ tk₁₀ + 1 := hle
      have g1 := next h₁₁ (tk₁₀ + 1) fl fv dd
      have g2 : ∀ (b : Nat) o, b ≠ 51 → b ≠ L → b ≠ L + 6 → s.heap.get? b = some o → h₁₁.get? b = some o := fun b o h1 h2 h3 e => k611 b o h1 h2 (k06 b o h3 e)
      have g3 := g1 g2 T₁₁ hle2
      have g4 := g3 n₁₁ hfl9 hfl₁₁
      have g5 := g4 hddl hfi'
      exact g5
end
end Mine

-- KK0
namespace Mine
def maxT : List Nat := [0, 0, 0, 1, 1, 2, 4, 4, 5, 7, 10, 10, 11, 13, 16, 20]
def allB (f : Bool → Bool) : Bool := f true && f false
def leafK (b0 b1 b2 b3 b4 b5 b6 b7 b8 b9 b10 b11 b12 b13 b14 : Bool) : Bool := Nat.ble ((bif b2 && (b1 && b0) then 1 else 0) + (bif b4 && (b3 && b0) then 1 else 0) + (bif b5 && (b3 && b1) then 1 else 0) + (bif b5 && (b4 && b2) then 1 else 0) + (bif b7 && (b6 && b0) then 1 else 0) + (bif b8 && (b6 && b1) then 1 else 0) + (bif b8 && (b7 && b2) then 1 else 0) + (bif b9 && (b6 && b3) then 1 else 0) + (bif b9 && (b7 && b4) then 1 else 0) + (bif b9 && (b8 && b5) then 1 else 0) + (bif b11 && (b10 && b0) then 1 else 0) + (bif b12 && (b10 && b1) then 1 else 0) + (bif b12 && (b11 && b2) then 1 else 0) + (bif b13 && (b10 && b3) then 1 else 0) + (bif b13 && (b11 && b4) then 1 else 0) + (bif b13 && (b12 && b5) then 1 else 0) + (bif b14 && (b10 && b6) then 1 else 0) + (bif b14 && (b11 && b7) then 1 else 0) + (bif b14 && (b12 && b8) then 1 else 0) + (bif b14 && (b13 && b9) then 1 else 0)) (maxT.getD ((bif b0 then 1 else 0) + (bif b1 then 1 else 0) + (bif b2 then 1 else 0) + (bif b3 then 1 else 0) + (bif b4 then 1 else 0) + (bif b5 then 1 else 0) + (bif b6 then 1 else 0) + (bif b7 then 1 else 0) + (bif b8 then 1 else 0) + (bif b9 then 1 else 0) + (bif b10 then 1 else 0) + (bif b11 then 1 else 0) + (bif b12 then 1 else 0) + (bif b13 then 1 else 0) + (bif b14 then 1 else 0)) 0)
def checkK : Bool := allB fun b0 => allB fun b1 => allB fun b2 => allB fun b3 => allB fun b4 => allB fun b5 => allB fun b6 => allB fun b7 => allB fun b8 => allB fun b9 => allB fun b10 => allB fun b11 => allB fun b12 => allB fun b13 => allB fun b14 => leafK b0 b1 b2 b3 b4 b5 b6 b7 b8 b9 b10 b11 b12 b13 b14
set_option maxHeartbeats 0 in
theorem check_ok : checkK = true := by decide +kernel
end Mine

-- KK
namespace Mine

theorem nodup_le : ∀ {l m : List Nat}, l.Nodup → (∀ x ∈ l, x ∈ m) → l.length ≤ m.length
  | [], _, _, _ => Nat.zero_le _
  | x :: l, m, h, hs => by
    have hx := hs x (.head _)
    have h1 : l.length ≤ (m.erase x).length := nodup_le (List.nodup_cons.mp h).2 fun y hy => by
      have hne : y ≠ x := fun e => (List.nodup_cons.mp h).1 (e ▸ hy)
      exact (List.mem_erase_of_ne hne).mpr (hs y (.tail _ hy))
    rw [List.length_erase_of_mem hx] at h1
    have := List.length_pos_of_mem hx
    rw [List.length_cons]
    omega

theorem bump_len (i : Nat) (ns : List Int) : (bump i ns).length = ns.length := by simp [bump]
theorem bump_getD {i j : Nat} {ns : List Int} (hi : i < ns.length) : (bump i ns).getD j 0 = ns.getD j 0 + if i = j then 1 else 0 := by
  unfold bump
  rw [List.getD_eq_getElem?_getD, List.getElem?_set]
  by_cases h : i = j
  · subst h
    simp [hi]
  · simp [h]
theorem set_sum : ∀ {ns : List Int} {i : Nat} {v : Int}, i < ns.length → (ns.set i v).sum = ns.sum - ns.getD i 0 + v
  | n :: ns, 0, v, _ => by simp; omega
  | n :: ns, i + 1, v, h => by
    rw [List.set_cons_succ, List.sum_cons, List.sum_cons, set_sum (by simpa using h), List.getD_cons_succ]
    omega
theorem bump_sum {i : Nat} {ns : List Int} (hi : i < ns.length) : (bump i ns).sum = ns.sum + 1 := by
  unfold bump
  rw [set_sum hi]
  omega
def inT (k j : Nat) : Bool := (mkT k).1 == j || (mkT k).2.1 == j || (mkT k).2.2 == j
theorem mk_ne : ∀ k : Nat, k < 20 → (mkT k).1 ≠ (mkT k).2.1 ∧ (mkT k).1 ≠ (mkT k).2.2 ∧ (mkT k).2.1 ≠ (mkT k).2.2 := by decide +kernel
theorem mark1_len (ns : List Int) (k : Nat) : (mark1 ns k).length = ns.length := by simp [mark1, bump_len]
theorem mark1_getD {ns : List Int} {k j : Nat} (hk : k < 20) (hn : ns.length = 15) : (mark1 ns k).getD j 0 = ns.getD j 0 + if inT k j then 1 else 0 := by
  obtain ⟨l1, l2, l3⟩ := mk_lt k hk
  obtain ⟨n1, n2, n3⟩ := mk_ne k hk
  unfold mark1
  rw [bump_getD (by rw [bump_len, bump_len, hn]; exact l3), bump_getD (by rw [bump_len, hn]; exact l2), bump_getD (by rw [hn]; exact l1)]
  unfold inT
  by_cases h1 : (mkT k).1 = j
  · subst h1
    simp [Ne.symm n1, Ne.symm n2]
  · by_cases h2 : (mkT k).2.1 = j
    · subst h2
      simp [n1, Ne.symm n3]
    · by_cases h3 : (mkT k).2.2 = j
      · subst h3
        simp [n2, n3]
      · simp [h1, h2, h3]
theorem mark1_sum {ns : List Int} {k : Nat} (hk : k < 20) (hn : ns.length = 15) : (mark1 ns k).sum = ns.sum + 3 := by
  obtain ⟨l1, l2, l3⟩ := mk_lt k hk
  unfold mark1
  rw [bump_sum (by rw [bump_len, bump_len, hn]; exact l3), bump_sum (by rw [bump_len, hn]; exact l2), bump_sum (by rw [hn]; exact l1)]
  omega
theorem fold_len : ∀ (l : List Nat) (ns : List Int), (l.foldl mark1 ns).length = ns.length
  | [], _ => rfl
  | k :: l, ns => by rw [List.foldl_cons, fold_len l, mark1_len]
theorem fold_getD : ∀ (l : List Nat) (ns : List Int) (j : Nat), (∀ x ∈ l, x < 20) → ns.length = 15 → (l.foldl mark1 ns).getD j 0 = ns.getD j 0 + (l.countP (fun k => inT k j) : Nat)
  | [], ns, j, _, _ => by simp
  | k :: l, ns, j, hl, hn => by
    rw [List.foldl_cons, fold_getD l _ j (fun x hx => hl x (.tail _ hx)) (by rw [mark1_len, hn]), mark1_getD (hl k (.head _)) hn, List.countP_cons]
    cases inT k j <;> simp <;> omega
theorem fold_sum : ∀ (l : List Nat) (ns : List Int), (∀ x ∈ l, x < 20) → ns.length = 15 → (l.foldl mark1 ns).sum = ns.sum + 3 * (l.length : Nat)
  | [], ns, _, _ => by simp
  | k :: l, ns, hl, hn => by
    rw [List.foldl_cons, fold_sum l _ (fun x hx => hl x (.tail _ hx)) (by rw [mark1_len, hn]), mark1_sum (hl k (.head _)) hn, List.length_cons]
    push_cast
    omega
def zeros : List Int := List.replicate 15 0
theorem zeros_getD (j : Nat) : zeros.getD j 0 = 0 := by
  unfold zeros
  rw [List.getD_eq_getElem?_getD, List.getElem?_replicate]
  split <;> rfl
theorem held_getD {l : List Nat} (hl : ∀ x ∈ l, x < 20) (j : Nat) : (l.foldl mark1 zeros).getD j 0 = (l.countP (fun k => inT k j) : Nat) := by
  rw [fold_getD l zeros j hl rfl, zeros_getD, Int.zero_add]
theorem four : ∀ j : Nat, j < 15 → ((List.range 20).filter fun k => inT k j).length = 4 := by decide +kernel
theorem held_le {l : List Nat} (hn : l.Nodup) (hl : ∀ x ∈ l, x < 20) {j : Nat} (hj : j < 15) : l.countP (fun k => inT k j) ≤ 4 := by
  rw [List.countP_eq_length_filter, ← four j hj]
  refine nodup_le (hn.sublist List.filter_sublist) fun x hx => ?_
  obtain ⟨h1, h2⟩ := List.mem_filter.mp hx
  exact List.mem_filter.mpr ⟨List.mem_range.mpr (hl x h1), h2⟩

theorem list15 {α : Type} : ∀ {l : List α}, l.length = 15 → ∃ a0 a1 a2 a3 a4 a5 a6 a7 a8 a9 a10 a11 a12 a13 a14, l = [a0, a1, a2, a3, a4, a5, a6, a7, a8, a9, a10, a11, a12, a13, a14]
  | [a0, a1, a2, a3, a4, a5, a6, a7, a8, a9, a10, a11, a12, a13, a14], _ => ⟨a0, a1, a2, a3, a4, a5, a6, a7, a8, a9, a10, a11, a12, a13, a14, rfl⟩

theorem allB_at {f : Bool → Bool} (h : allB f = true) (b : Bool) : f b = true := by
  unfold allB at h
  rw [Bool.and_eq_true] at h
  cases b
  · exact h.2
  · exact h.1
end Mine

-- KK2
namespace Mine
theorem mkT_tab : (List.range 20).map mkT = [(2, 1, 0), (4, 3, 0), (5, 3, 1), (5, 4, 2), (7, 6, 0), (8, 6, 1), (8, 7, 2), (9, 6, 3), (9, 7, 4), (9, 8, 5), (11, 10, 0), (12, 10, 1), (12, 11, 2), (13, 10, 3), (13, 11, 4), (13, 12, 5), (14, 10, 6), (14, 11, 7), (14, 12, 8), (14, 13, 9)] := by decide +kernel
theorem mkT_0 : mkT 0 = (2, 1, 0) := by
  have h : ((List.range 20).map mkT)[0]? = some (2, 1, 0) := by rw [mkT_tab]; rfl
  exact Option.some.inj h
theorem mkT_1 : mkT 1 = (4, 3, 0) := by
  have h : ((List.range 20).map mkT)[1]? = some (4, 3, 0) := by rw [mkT_tab]; rfl
  exact Option.some.inj h
theorem mkT_2 : mkT 2 = (5, 3, 1) := by
  have h : ((List.range 20).map mkT)[2]? = some (5, 3, 1) := by rw [mkT_tab]; rfl
  exact Option.some.inj h
theorem mkT_3 : mkT 3 = (5, 4, 2) := by
  have h : ((List.range 20).map mkT)[3]? = some (5, 4, 2) := by rw [mkT_tab]; rfl
  exact Option.some.inj h
theorem mkT_4 : mkT 4 = (7, 6, 0) := by
  have h : ((List.range 20).map mkT)[4]? = some (7, 6, 0) := by rw [mkT_tab]; rfl
  exact Option.some.inj h
theorem mkT_5 : mkT 5 = (8, 6, 1) := by
  have h : ((List.range 20).map mkT)[5]? = some (8, 6, 1) := by rw [mkT_tab]; rfl
  exact Option.some.inj h
theorem mkT_6 : mkT 6 = (8, 7, 2) := by
  have h : ((List.range 20).map mkT)[6]? = some (8, 7, 2) := by rw [mkT_tab]; rfl
  exact Option.some.inj h
theorem mkT_7 : mkT 7 = (9, 6, 3) := by
  have h : ((List.range 20).map mkT)[7]? = some (9, 6, 3) := by rw [mkT_tab]; rfl
  exact Option.some.inj h
theorem mkT_8 : mkT 8 = (9, 7, 4) := by
  have h : ((List.range 20).map mkT)[8]? = some (9, 7, 4) := by rw [mkT_tab]; rfl
  exact Option.some.inj h
theorem mkT_9 : mkT 9 = (9, 8, 5) := by
  have h : ((List.range 20).map mkT)[9]? = some (9, 8, 5) := by rw [mkT_tab]; rfl
  exact Option.some.inj h
theorem mkT_10 : mkT 10 = (11, 10, 0) := by
  have h : ((List.range 20).map mkT)[10]? = some (11, 10, 0) := by rw [mkT_tab]; rfl
  exact Option.some.inj h
theorem mkT_11 : mkT 11 = (12, 10, 1) := by
  have h : ((List.range 20).map mkT)[11]? = some (12, 10, 1) := by rw [mkT_tab]; rfl
  exact Option.some.inj h
theorem mkT_12 : mkT 12 = (12, 11, 2) := by
  have h : ((List.range 20).map mkT)[12]? = some (12, 11, 2) := by rw [mkT_tab]; rfl
  exact Option.some.inj h
theorem mkT_13 : mkT 13 = (13, 10, 3) := by
  have h : ((List.range 20).map mkT)[13]? = some (13, 10, 3) := by rw [mkT_tab]; rfl
  exact Option.some.inj h
theorem mkT_14 : mkT 14 = (13, 11, 4) := by
  have h : ((List.range 20).map mkT)[14]? = some (13, 11, 4) := by rw [mkT_tab]; rfl
  exact Option.some.inj h
theorem mkT_15 : mkT 15 = (13, 12, 5) := by
  have h : ((List.range 20).map mkT)[15]? = some (13, 12, 5) := by rw [mkT_tab]; rfl
  exact Option.some.inj h
theorem mkT_16 : mkT 16 = (14, 10, 6) := by
  have h : ((List.range 20).map mkT)[16]? = some (14, 10, 6) := by rw [mkT_tab]; rfl
  exact Option.some.inj h
theorem mkT_17 : mkT 17 = (14, 11, 7) := by
  have h : ((List.range 20).map mkT)[17]? = some (14, 11, 7) := by rw [mkT_tab]; rfl
  exact Option.some.inj h
theorem mkT_18 : mkT 18 = (14, 12, 8) := by
  have h : ((List.range 20).map mkT)[18]? = some (14, 12, 8) := by rw [mkT_tab]; rfl
  exact Option.some.inj h
theorem mkT_19 : mkT 19 = (14, 13, 9) := by
  have h : ((List.range 20).map mkT)[19]? = some (14, 13, 9) := by rw [mkT_tab]; rfl
  exact Option.some.inj h
theorem getD_mapB {l : List Int} {i : Nat} : (l.map fun x => x != 0).getD i false = (l.getD i 0 != 0) := by
  rw [List.getD_eq_getElem?_getD, List.getD_eq_getElem?_getD, List.getElem?_map]
  cases l[i]? <;> rfl
theorem cnt20 (P : Nat → Bool) : (List.range 20).countP P = (bif P 0 then 1 else 0) + (bif P 1 then 1 else 0) + (bif P 2 then 1 else 0) + (bif P 3 then 1 else 0) + (bif P 4 then 1 else 0) + (bif P 5 then 1 else 0) + (bif P 6 then 1 else 0) + (bif P 7 then 1 else 0) + (bif P 8 then 1 else 0) + (bif P 9 then 1 else 0) + (bif P 10 then 1 else 0) + (bif P 11 then 1 else 0) + (bif P 12 then 1 else 0) + (bif P 13 then 1 else 0) + (bif P 14 then 1 else 0) + (bif P 15 then 1 else 0) + (bif P 16 then 1 else 0) + (bif P 17 then 1 else 0) + (bif P 18 then 1 else 0) + (bif P 19 then 1 else 0) := by
  simp only [List.range_succ, List.range_zero, List.nil_append, List.countP_append, List.countP_cons, List.countP_nil, Nat.zero_add]
  have e : ∀ b : Bool, (if b = true then 1 else 0) = (bif b then 1 else 0) := by intro b; cases b <;> rfl
  simp only [e]
theorem least_maxT : ∀ e : Nat, e < 16 → ∀ n : Nat, n < 21 → n ≤ maxT.getD e 0 → leastN n ≤ e := by decide +kernel
theorem maxT_at (b0 b1 b2 b3 b4 b5 b6 b7 b8 b9 b10 b11 b12 b13 b14 : Bool) : (bif b2 && (b1 && b0) then 1 else 0) + (bif b4 && (b3 && b0) then 1 else 0) + (bif b5 && (b3 && b1) then 1 else 0) + (bif b5 && (b4 && b2) then 1 else 0) + (bif b7 && (b6 && b0) then 1 else 0) + (bif b8 && (b6 && b1) then 1 else 0) + (bif b8 && (b7 && b2) then 1 else 0) + (bif b9 && (b6 && b3) then 1 else 0) + (bif b9 && (b7 && b4) then 1 else 0) + (bif b9 && (b8 && b5) then 1 else 0) + (bif b11 && (b10 && b0) then 1 else 0) + (bif b12 && (b10 && b1) then 1 else 0) + (bif b12 && (b11 && b2) then 1 else 0) + (bif b13 && (b10 && b3) then 1 else 0) + (bif b13 && (b11 && b4) then 1 else 0) + (bif b13 && (b12 && b5) then 1 else 0) + (bif b14 && (b10 && b6) then 1 else 0) + (bif b14 && (b11 && b7) then 1 else 0) + (bif b14 && (b12 && b8) then 1 else 0) + (bif b14 && (b13 && b9) then 1 else 0) ≤ maxT.getD ((bif b0 then 1 else 0) + (bif b1 then 1 else 0) + (bif b2 then 1 else 0) + (bif b3 then 1 else 0) + (bif b4 then 1 else 0) + (bif b5 then 1 else 0) + (bif b6 then 1 else 0) + (bif b7 then 1 else 0) + (bif b8 then 1 else 0) + (bif b9 then 1 else 0) + (bif b10 then 1 else 0) + (bif b11 then 1 else 0) + (bif b12 then 1 else 0) + (bif b13 then 1 else 0) + (bif b14 then 1 else 0)) 0 := by
  have h := check_ok
  unfold checkK at h
  have h := allB_at (allB_at (allB_at (allB_at (allB_at (allB_at (allB_at (allB_at (allB_at (allB_at (allB_at (allB_at (allB_at (allB_at (allB_at (h) b0) b1) b2) b3) b4) b5) b6) b7) b8) b9) b10) b11) b12) b13) b14
  exact Nat.le_of_ble_eq_true h
theorem one0 (x : Int) : (if (x == 0) = true then 1 else 0) + (bif x != 0 then 1 else 0) = 1 := by
  by_cases h : x = 0
  · subst h; rfl
  · have h1 : (x == 0) = false := by simpa using h
    have h2 : (x != 0) = true := by simpa using h
    rw [h1, h2]; rfl
theorem fin15 {c i S b n : Nat} (h : c + S = n + b) (e : i + b = 1) : c + i + S = n + 1 := by omega
theorem cz : ∀ (l : List Int) (s : Nat), l.count 0 + l.foldl (fun s y => s + (bif y != 0 then 1 else 0)) s = l.length + s
  | [], s => rfl
  | x :: l, s => by
    rw [List.foldl_cons, List.count_cons, List.length_cons]
    have h := cz l (s + (bif x != 0 then 1 else 0))
    have e := one0 x
    omega
theorem kk {l : List Nat} (hn : l.Nodup) (hl : ∀ x ∈ l, x < 20) : leastN l.length + (l.foldl mark1 zeros).count 0 ≤ 15 := by
  have hlen : l.length ≤ 20 := by
    have := nodup_le (m := List.range 20) hn fun x hx => List.mem_range.mpr (hl x hx)
    simpa using this
  have h1 : l.length ≤ (List.range 20).countP (fun k => ((l.foldl mark1 zeros).map fun x => x != 0).getD (mkT k).1 false && (((l.foldl mark1 zeros).map fun x => x != 0).getD (mkT k).2.1 false && ((l.foldl mark1 zeros).map fun x => x != 0).getD (mkT k).2.2 false)) := by
    rw [List.countP_eq_length_filter]
    refine nodup_le hn fun x hx => List.mem_filter.mpr ⟨List.mem_range.mpr (hl x hx), ?_⟩
    have key : ∀ j, inT x j = true → ((l.foldl mark1 zeros).map fun x => x != 0).getD j false = true := by
      intro j hj
      rw [getD_mapB, held_getD hl]
      have : 0 < l.countP (fun k => inT k j) := List.countP_pos_iff.mpr ⟨x, hx, hj⟩
      exact bne_iff_ne.mpr (by omega)
    rw [key _ (by simp [inT]), key _ (by simp [inT]), key _ (by simp [inT])]
    rfl
  obtain ⟨y0, y1, y2, y3, y4, y5, y6, y7, y8, y9, y10, y11, y12, y13, y14, hh⟩ := list15 (l := l.foldl mark1 zeros) (by rw [fold_len]; rfl)
  rw [hh] at h1 ⊢
  rw [cnt20] at h1
  simp only [mkT_0, mkT_1, mkT_2, mkT_3, mkT_4, mkT_5, mkT_6, mkT_7, mkT_8, mkT_9, mkT_10, mkT_11, mkT_12, mkT_13, mkT_14, mkT_15, mkT_16, mkT_17, mkT_18, mkT_19, List.map_cons, List.map_nil, List.getD_cons_zero, List.getD_cons_succ] at h1
  have h2 := maxT_at (y0 != 0) (y1 != 0) (y2 != 0) (y3 != 0) (y4 != 0) (y5 != 0) (y6 != 0) (y7 != 0) (y8 != 0) (y9 != 0) (y10 != 0) (y11 != 0) (y12 != 0) (y13 != 0) (y14 != 0)
  have h3 := Nat.le_trans h1 h2
  have hc : [y0, y1, y2, y3, y4, y5, y6, y7, y8, y9, y10, y11, y12, y13, y14].count 0 + ((bif y0 != 0 then 1 else 0) + (bif y1 != 0 then 1 else 0) + (bif y2 != 0 then 1 else 0) + (bif y3 != 0 then 1 else 0) + (bif y4 != 0 then 1 else 0) + (bif y5 != 0 then 1 else 0) + (bif y6 != 0 then 1 else 0) + (bif y7 != 0 then 1 else 0) + (bif y8 != 0 then 1 else 0) + (bif y9 != 0 then 1 else 0) + (bif y10 != 0 then 1 else 0) + (bif y11 != 0 then 1 else 0) + (bif y12 != 0 then 1 else 0) + (bif y13 != 0 then 1 else 0) + (bif y14 != 0 then 1 else 0)) = 15 := by
    rw [List.count_cons]
    exact fin15 (cz [y1, y2, y3, y4, y5, y6, y7, y8, y9, y10, y11, y12, y13, y14] (bif y0 != 0 then 1 else 0)) (one0 y0)
  have h4 := least_maxT _ (Nat.lt_succ_of_le (Nat.le_trans (Nat.le_add_left _ _) (Nat.le_of_eq hc))) l.length (Nat.lt_succ_of_le hlen) h3
  exact Nat.le_trans (Nat.add_le_add_right h4 _) (Nat.le_of_eq (by rw [Nat.add_comm]; exact hc))
end Mine

-- LM
namespace Mine
theorem fillLM (w : World) (h : Heap) : ((hd.heap_39 w.params).In h ∧ PySem.Challenge.rw_xi0002_01.row.prog = PySem.Challenge.rw_xi0002_01.row.prog) → True := by
  k_fill
  intros; trivial

def muOf (q : Nat) : Nat := [1, 3, 7, 9].getD q 0
def spotOf (r q k : Nat) : Nat := (r + k * muOf q) % 20
theorem spots_nd : ∀ q : Nat, q < 4 → ∀ r : Nat, r < 20 → ((List.range 20).map (spotOf r q)).Nodup := by decide +kernel
theorem spot_ne {r q k1 k2 : Nat} (hq : q < 4) (hr : r < 20) (h1 : k1 < k2) (h2 : k2 < 20) : spotOf r q k1 ≠ spotOf r q k2 := by
  have h := List.pairwise_iff_getElem.mp (spots_nd q hq r hr) k1 k2 (by simp; omega) (by simpa using h2) h1
  simpa using h
theorem mu_lt : ∀ q : Nat, q < 4 → muOf q < 10 := by decide

section
variable {w : World} {A : Around} {s : Shared} {L fa : Addr} {cd : Value}

theorem add_natE {E : Value → Shared → Prop} {a b : Int} {x y : Nat} {t u : Tok} {Q : Value → Shared → Prop} (ha : a = x) (hb : b = y) (h : Q (.int (x + y : Nat) s.toks) { s with toks := s.toks + 1 }) : wpAny (model PG w) A (binaryOp .Add (.int a t) (.int b u)) Q E s := by
  subst ha hb
  refine wpAny_add_int ?_
  have e : (x : Int) + (y : Int) = ((x + y : Nat) : Int) := by push_cast; rfl
  rw [e]; exact h

set_option maxHeartbeats 4000000 in
theorem law_P6 {B : Heap} {m : Str → Option Value} {Q : Flow → Shared → Prop} {cl ch pl tl wd a : Nat} {c0 c1 c2 : Int} {el fl : Nat} {ev fv : List Value} {fs : List Nat} (C : Cx w B) (R : ∀ env, Room (A.deeper env) 20) (H : LH B L s.heap cl ch c0 c1 c2 wd a) (P : PT L s.heap pl tl a) (hn : s.heap.Ns L m) (ht1 : 1 ≤ s.toks)
    (m2 : m (Str.ofString "pairs") = some (.ref pl)) (m3 : m (Str.ofString "triples") = some (.ref tl)) (m4 : m (Str.ofString "least") = some (.ref el)) (m5 : m (Str.ofString "figures") = some (.ref fl))
    (el9 : @LE.le Nat _ (L + 9) el) (hel : s.heap.PlainList el ev.toArray) (hev : IntsAre ev (leastL 20)) (fl9 : @LE.le Nat _ (L + 9) fl) (hfl : s.heap.PlainList fl fv.toArray) (hfs : fs.length = 21) (hfv : IntsAre fv (fs.map fun n : Nat => (n : Int))) (u7 : s.heap.IsCell (L + 7 : Nat) none)
    (next : ∀ h tk m' (hl : Nat) hv (l : List Nat) tm, (∀ (b : Nat) o, b ≠ L → b ≠ L + 7 → s.heap.get? b = some o → h.get? b = some o) → 1 ≤ tk → h.Ns L m' → m' (Str.ofString "many") = some (.int (l.length : Nat) tm) → h.IsCell (L + 7 : Nat) (some (.ref hl)) → @LE.le Nat _ (L + 9) hl → h.PlainList hl (List.toArray hv) → Toks 1 tk hv (l.foldl mark1 zeros) → l.Nodup → (∀ x ∈ l, x < 20) →
      wpAny (model PG w) (A.deeper (lawEnv L fa cd)) (execs (lawBody.drop 20) (lawEnv L fa cd)) Q FF { s with heap := h, toks := tk }) :
    wpAny (model PG w) (A.deeper (lawEnv L fa cd)) (execs (lawBody.drop 18) (lawEnv L fa cd)) Q FF s := by
  obtain ⟨pv, hpl, hps⟩ := P.p
  obtain ⟨tv, htl, hts⟩ := P.t
  obtain ⟨t0, t1, t2, hcl⟩ := H.pl
  have ha := H.ha
  have hpl' : @LT.lt Nat _ pl s.heap.objs.size := by obtain ⟨k, e⟩ := hpl; exact Heap.lt_size e
  have hL9 : @LT.lt Nat _ (L + 8) s.heap.objs.size := Nat.lt_of_lt_of_le (Nat.lt_succ_self _) (Nat.le_trans P.p9 (Nat.le_of_lt hpl'))
  obtain ⟨G, hG⟩ : ∃ G, G = hideAll s.heap [L, L + 7] := ⟨_, rfl⟩
  have GL : G.get? L = none := by rw [hG]; exact hideAll_none _ (.head _)
  have GL7 : G.get? (L + 7) = none := by rw [hG]; exact hideAll_none _ (.tail _ (.head _))
  have Gs : Kp G s.heap := fun b o e => by rw [hG] at e; exact of_hideAll _ e
  have sG : ∀ (b : Nat) o, b ≠ L → b ≠ L + 7 → s.heap.get? b = some o → G.get? b = some o := fun b o hb hb7 e => by
    rw [hG]
    refine hideAll_get _ e (fun q => ?_)
    rcases List.mem_cons.mp q with q | q
    · exact hb q
    · exact hb7 (List.mem_singleton.mp q)
  have HG := H.keep fun b o hb h4 e => sG b o hb (fun q => h4 (by rw [q]; exact ⟨Nat.add_le_add_left (by decide) _, Nat.add_le_add_left (by decide) _⟩)) e
  have hb9 : ∀ b o, G.get? b = some o → @LT.lt Nat _ b s.heap.objs.size := fun b o e => Heap.lt_size (Gs b o e)
  have plG := hpl.at fun o e => sG pl o (off9 P.p9).1 (off9k P.p9 (by decide)) e
  have tlG := htl.at fun o e => sG tl o (off9 P.t9).1 (off9k P.t9 (by decide)) e
  have clG := hcl.at fun o e => sG cl o (off9 H.cl9).1 (off9k H.cl9 (by decide)) e
  have elG := hel.at fun o e => sG el o (off9 el9).1 (off9k el9 (by decide)) e
  have flG := hfl.at fun o e => sG fl o (off9 fl9).1 (off9k fl9 (by decide)) e
  have k1G := HG.k1
  refine wpAny_execs_cons (Assign_Tuple (Tuple_ (spl2 (wpAny_Constant_int (wpAny_BinOp (List_ (spl1 (wpAny_Constant_int (new_list (Nat.le_of_ble_eq_true rfl) fun l1 h₂ h10 hl1 K₂ h1s => wpAny_Constant_int
    (mul_list1 (n := 15) hl1 (by decide) fun hl h₃ hm0 hhl K₃ hms => assign2 (R _).hd rfl fun h₄ K₄ => ?_))))))))))
  dsimp only at h10 K₂ h1s hm0 K₃ hms K₄ ⊢
  have k04 : Kp s.heap h₄ := fun b o e => K₄ b o (K₃ b o (K₂ b o e))
  refine PyProof.Rows.assign_Name (stN (hn.keeps k04) fun h₅ n₅ S₅ => PyProof.Rows.assign_Name ?_)
  dsimp only at S₅ ⊢
  have sb : ∀ {h h' : Heap} {c : Nat}, Heap.SameBut c h h' → ∀ (b : Nat) o, b ≠ c → h.get? b = some o → h'.get? b = some o := fun S b o hb e => (S.2 b hb).trans e
  refine wpAny_storeName_cell rfl rfl rfl (isCell_at u7 fun o e => sb S₅ (L + 7) o (show (L + 7 : Nat) ≠ L from Nat.ne_of_gt (Nat.lt_add_of_pos_right (by decide))) (k04 _ o e)) fun h₆ k7 S₆ => ?_
  dsimp only at S₆ ⊢
  have hL7 : @LT.lt Nat _ L (L + 7) := Nat.lt_add_of_pos_right (by decide)
  have n₆ := n₅.at' fun o e => sb S₆ L o (Nat.ne_of_lt hL7) e
  have k06 : ∀ (b : Nat) o, b ≠ L → b ≠ L + 7 → s.heap.get? b = some o → h₆.get? b = some o := fun b o h1 h2 e => sb S₆ b o h2 (sb S₅ b o h1 (k04 b o e))
  have KG₆ : Kp G h₆ := fun b o e => k06 b o (fun q => by rw [q, GL] at e; cases e) (fun q => by rw [q, GL7] at e; cases e) (Gs b o e)
  have hl10 : @LT.lt Nat _ l1 h₂.objs.size := by obtain ⟨k, e⟩ := hl1; exact Heap.lt_size e
  have h1s' : @LE.le Nat _ s.heap.objs.size l1 := h1s
  have hms' : @LE.le Nat _ h₂.objs.size hl := hms
  have hhl0 : @LT.lt Nat _ (L + 8) hl := Nat.lt_of_lt_of_le hL9 (Nat.le_trans h1s' (Nat.le_trans (Nat.le_of_lt hl10) hms'))
  have hsl : @LE.le Nat _ s.heap.objs.size hl := Nat.le_trans h1s' (Nat.le_trans (Nat.le_of_lt hl10) hms')
  have L7 : @LT.lt Nat _ (L + 7) hl := Nat.lt_of_le_of_lt (Nat.add_le_add_left (by decide) _) hhl0
  have hhl₆ := hhl.at fun o e => sb S₆ hl o (Nat.ne_of_gt L7) (sb S₅ hl o (Nat.ne_of_gt (Nat.lt_trans hL7 L7)) (K₄ _ o e))
  have hhl6 : @LT.lt Nat _ hl h₆.objs.size := by obtain ⟨k, e⟩ := hhl₆; exact Heap.lt_size e
  obtain ⟨r, hr, hr20⟩ : ∃ r : Nat, c1.fmod 20 = (r : Int) ∧ r < 20 := by
    have h1 := Int.fmod_nonneg_of_pos c1 (show (0 : Int) < 20 by decide)
    have h2 := Int.fmod_lt_of_pos c1 (show (0 : Int) < 20 by decide)
    exact ⟨_, toN h1, (Int.toNat_lt h1).mpr h2⟩
  obtain ⟨q, hq, hq4⟩ : ∃ q : Nat, (c1.fdiv 20).fmod 4 = (q : Int) ∧ q < 4 := by
    have h1 := Int.fmod_nonneg_of_pos (c1.fdiv 20) (show (0 : Int) < 4 by decide)
    have h2 := Int.fmod_lt_of_pos (c1.fdiv 20) (show (0 : Int) < 4 by decide)
    exact ⟨_, toN h1, (Int.toNat_lt h1).mpr h2⟩
  have hspot : ∀ i : Nat, (c1 + ((i * muOf q : Nat) : Int)).fmod 20 = ((spotOf r q i : Nat) : Int) := by
    intro i
    unfold spotOf
    rw [Int.fmod_eq_emod_of_nonneg _ (by decide)] at hr ⊢
    omega
  have C₆ := C.keeps fun b o e => KG₆ b o (HG.KB b o e)
  refine wpAny_execs_cons (toksF (n := 1) (by dsimp only; omega) (for_H (rng1 C₆ (wpAny_Constant_int ⟨_, _, rfl, fun rr h₇ tk₇ u1 u2 u3 K₇ htk₇ hrr0 hrr => ?_⟩))))
  dsimp only at K₇ htk₇ hrr0
  refine iterH_range (n := 20) (R _).hd rfl rfl hrr rfl rfl (n₆.keeps K₇)
    (fun I i tk h m => s.toks ≤ tk ∧ @LT.lt Nat _ hl I ∧ Kp G h ∧ h.IsCell (L + 7 : Nat) (some (.ref hl)) ∧ m (Str.ofString "pairs") = some (.ref pl) ∧ m (Str.ofString "triples") = some (.ref tl) ∧ m (Str.ofString "least") = some (.ref el) ∧ m (Str.ofString "figures") = some (.ref fl) ∧
      ∃ (l : List Nat) (tm : Tok) (hv : List Value), l.Nodup ∧ (∀ x ∈ l, ∃ k, k < i ∧ x = spotOf r q k) ∧ m (Str.ofString "many") = some (.int (l.length : Nat) tm) ∧ h.PlainList hl (List.toArray hv) ∧ Toks 1 tk hv (l.foldl mark1 zeros)) ?hJ ?h0 ?step ?hR
  case hJ =>
    intro I i tk tk' h h' m htk hk aa
    refine and9 aa fun a0 a1 a2 a3 a4 a5 a6 a7 bb => ?_
    clear aa
    obtain ⟨l, tm, hv, b1, b2, b3, b4, b5⟩ := bb
    refine ⟨Nat.le_trans a0 htk, a1, fun b o e => ?_, isCell_at a3 fun o e => hk _ o (Nat.ne_of_lt (Nat.lt_trans L7 a1)) (Nat.ne_of_gt hL7) e, a4, a5, a6, a7, l, tm, hv, b1, b2, b3, b4.at fun o e => hk _ o (Nat.ne_of_lt a1) (Nat.ne_of_gt (Nat.lt_trans hL7 L7)) e, b5.mono htk⟩
    have hb := hb9 b o e
    exact hk b o (Nat.ne_of_lt (Nat.lt_of_lt_of_le hb (Nat.le_of_lt (Nat.lt_of_le_of_lt hsl a1)))) (fun q => by rw [q] at e; rw [show G.get? (lawEnv L fa cd).locals = none from GL] at e; cases e) (a2 b o e)
  case h0 =>
    intro I hI
    have hI' : @LE.le Nat _ h₇.objs.size I := hI
    have h67 : @LT.lt Nat _ hl h₇.objs.size := by obtain ⟨k, e⟩ := hhl₆; exact Heap.lt_size (K₇ _ _ e)
    refine ⟨by dsimp only; omega, Nat.lt_of_lt_of_le h67 hI', fun b o e => K₇ b o (KG₆ b o e), isCell_at k7 fun o e => K₇ _ o e, m2, m3, m4, m5, [], _, _, .nil, by simp, rfl, hhl₆.at fun o e => K₇ _ o e, toks_rep ?_ ?_ 15⟩
    · dsimp only; omega
    · dsimp only; omega
  case step =>
    intro I i t m₁ h tk hi htk aa ⟨oI, hoI⟩ hI hn7
    refine toksF (n := s.toks) aa.1 (hideS fun gg drw oo Q' hQ' => ?_)
    refine and9 aa fun a0 a1 a2 a3 a4 a5 a6 a7 bb => ?_
    clear aa
    obtain ⟨l, tm, hv, b1, b2, b3, b4, b5⟩ := bb
    have e0 := z01 i
    rw [e0] at hn7
    have C7 := C.keeps fun b o e => a2 b o (HG.KB b o e)
    have k1h := isCell_at k1G fun o e => a2 _ o e
    have clh := clG.at fun o e => a2 _ o e
    have hi64 : i < 2 ^ 64 := Nat.lt_trans hi (by decide)
    refine wpAny_execs_cons (wpAny_Assign_Name (wpAny_BinOp (wpAny_BinOp (Subscript_ (ldC rfl k1h (wpAny_Constant_int (tail_list clh.isList (by decide) (by decide) rfl (wpAny_BinOp (ldL hn7 rfl (Subscript_ (List_ (spl4 (wpAny_Constant_int (wpAny_Constant_int (wpAny_Constant_int (wpAny_Constant_int (new_list (Nat.le_of_ble_eq_true rfl) fun D h8 h80 hD K8 hDs => ?_)))))))))))))))))
    dsimp only at h80 K8 hDs ⊢
    refine wpAny_BinOp (wpAny_BinOp (Subscript_ (ldC rfl (isCell_at k1h fun o e => K8 _ o e) (wpAny_Constant_int (tail_list (clh.isList.at fun o e => K8 _ o e) (by decide) (by decide) rfl (wpAny_Constant_int (AutoIntOps.floordiv_1 (by decide) (by rw [PyProof.noPylong_small (by decide)]; exact Bool.false_ne_true) (wpAny_Constant_int (AutoIntOps.mod_1 (by decide) ?_)))))))))
    rw [hq]
    have hq63 := i63 hq4 (by decide)
    have hvq0 : ∀ ta tb tc td : Tok, ∃ tq, [Value.int 1 ta, Value.int 3 tb, Value.int 7 tc, Value.int 9 td][q]? = some (.int (muOf q : Nat) tq) := by
      intro ta tb tc td
      have := lt4 hq4
      rcases this with h | h | h | h <;> rw [h] <;> exact ⟨_, rfl⟩
    obtain ⟨dv, hD, tq, hvq⟩ : ∃ dv, h8.PlainList D (List.toArray dv) ∧ ∃ tq, dv[q]? = some (.int (muOf q : Nat) tq) := ⟨_, hD, hvq0 _ _ _ _⟩
    refine tail_list hD.isList (Int.natCast_nonneg q) hq63 hvq (mul_natE (x := i) (y := muOf q) rfl rfl hi64 (wpAny_add_int (wpAny_Constant_int (AutoIntOps.mod_1 (by decide) ?_))))
    rw [hspot i]
    obtain ⟨sp, hsp⟩ : ∃ sp, sp = spotOf r q i := ⟨_, rfl⟩
    rw [← hsp]
    have hsp20 : sp < 20 := by rw [hsp]; exact Nat.mod_lt _ (by decide)
    refine stN (hn7.keeps K8) fun h9 n9 S9 => ?_
    dsimp only at S9 ⊢
    have k79 : ∀ (b : Nat) o, b ≠ L → h.get? b = some o → h9.get? b = some o := fun b o hb e => sb S9 b o hb (K8 b o e)
    have KG9 : Kp G h9 := fun b o e => k79 b o (fun q => by rw [q, GL] at e; cases e) (a2 b o e)
    have fl9' := flG.at fun o e => KG9 _ o e
    have hsp63 := i63 hsp20 (by decide)
    obtain ⟨f, hf⟩ : ∃ f, fs[sp]? = some f := ⟨_, List.getElem?_eq_getElem (by rw [hfs]; exact Nat.lt_trans hsp20 (by decide))⟩
    obtain ⟨v, hvf⟩ : ∃ v, fv[sp]? = some v := ⟨_, List.getElem?_eq_getElem (by rw [hfv.length, List.length_map, hfs]; exact Nat.lt_trans hsp20 (by decide))⟩
    obtain ⟨tf, rfl⟩ := ints_at (n := (f : Int)) hfv hvf (by rw [List.getElem?_map, hf]; rfl)
    have sKL : ∀ (b : Nat), b = I → b ≠ hl ∧ b ≠ L := fun b q => ⟨by rw [q]; exact Nat.ne_of_gt a1, by rw [q]; exact Nat.ne_of_gt (Nat.lt_trans (Nat.lt_trans hL7 L7) a1)⟩
    have hIL : (I : Nat) ≠ L := (sKL I rfl).2
    refine wpAny_execs_cons (wpAny_If (wpAny_isTrue_Compare1 (wpAny_BinOp (Subscript_ (ldL n9 a7 (ldL n9 rfl (tail_list fl9'.isList (Int.natCast_nonneg sp) hsp63 hvf (wpAny_Constant_int (mod_natE (x := f) (y := 2) rfl rfl (by decide) (wpAny_Constant_int (wpAny_eq_int (wpAny_truthy_bool ?_))))))))))))
    have k7h9 := isCell_at a3 fun o e => k79 (L + 7) o (Nat.ne_of_gt hL7) e
    have hv9 := b4.at fun o e => k79 hl o (Nat.ne_of_gt (Nat.lt_trans hL7 L7)) e
    cases hbit : (((f % 2 : Nat) : Int) == 1) with
    | false =>
      simp only [Bool.false_eq_true, if_false]
      refine wpAny_execs_nil (wpAny_execs_nil (hQ' fun hle => ⟨h9, _, _, rfl, ?_, n9, hle, a1, KG9, k7h9, a4, a5, a6, a7, l, tm, hv, b1, ?_, b3, hv9, b5.mono (by (try dsimp only); repeat (first | exact Nat.le_refl _ | refine Nat.le_add_right_of_le ?_))⟩))
      · intro b hb o e
        rw [List.mem_singleton.mp hb] at e ⊢
        exact k79 I o hIL e
      · intro x hx
        obtain ⟨k, hk, e⟩ := b2 x hx
        exact ⟨k, Nat.lt_succ_of_lt hk, e⟩
    | true =>
      simp only [if_true]
      refine wpAny_execs_cons (wpAny_Assign_Name (wpAny_BinOp (ldL n9 b3 (wpAny_Constant_int (add_natE (x := l.length) (y := 1) rfl rfl (stN n9 fun h10 n10 S10 => ?_))))))
      dsimp only at S10 ⊢
      have k710 : ∀ (b : Nat) o, b ≠ L → h.get? b = some o → h10.get? b = some o := fun b o hb e => sb S10 b o hb (k79 b o hb e)
      have KG10 : Kp G h10 := fun b o e => k710 b o (fun q => by rw [q, GL] at e; cases e) (a2 b o e)
      have KB10 : Kp B h10 := fun b o e => KG10 b o (HG.KB b o e)
      have C10 := C.keeps KB10
      have hv10 := hv9.at fun o e => sb S10 hl o (Nat.ne_of_gt (Nat.lt_trans hL7 L7)) e
      have k7h10 := isCell_at k7h9 fun o e => sb S10 (L + 7) o (Nat.ne_of_gt hL7) e
      have tl10 := tlG.at fun o e => KG10 _ o e
      obtain ⟨tt, hvt⟩ := strs_at hts (tr_eq a ha sp hsp20)
      obtain ⟨q1, q2, q3⟩ := mk_lt sp hsp20
      have hmk := mk_eq a ha sp hsp20
      have hBml : B.get? hl = none := by
        cases e : B.get? hl with
        | none => rfl
        | some o =>
          have h1 : @LT.lt Nat _ hl B.objs.size := Heap.lt_size e
          have h2 : @LE.le Nat _ B.objs.size L := H.BL
          exact absurd (Nat.lt_trans (Nat.lt_trans hL7 L7) (Nat.lt_of_lt_of_le h1 h2)) (Nat.lt_irrefl _)
      have hlen15 : (l.foldl mark1 zeros).length = 15 := by rw [fold_len]; rfl
      refine wpAny_execs_cons (PySem.wpAny_Expr_any (callF C10 (by k_is) (by k_is) (spl3 (ldC rfl k7h10 (Subscript_ (ldL n10 a5 (ldL n10 rfl (tail_list tl10.isList (Int.natCast_nonneg sp) hsp63 hvt (ldL n10 a4 ⟨C10, ?_⟩)))))))))
      refine mark_spec (B := B) (d := 17) (i1 := (mkT sp).1) (i2 := (mkT sp).2.1) (i3 := (mkT sp).2.2) (ps := psOf a) (pv := pv) C KB10 hBml (R _) hv10 (b5.mono (by (try dsimp only); repeat (first | exact Nat.le_refl _ | refine Nat.le_add_right_of_le ?_))) (plG.at fun o e => KG10 _ o e) hps (Nat.ne_of_gt (Nat.lt_of_lt_of_le hpl' hsl)) hlen15 (ps_len a ha)
        (congrArg (·.1) hmk) (congrArg (·.2.1) hmk) (congrArg (·.2.2) hmk) q1 q2 q3 fun D2 h11 tk11 hv' g11 k11 hv11 T11 hD2s hD2 => ?_
      dsimp only at g11 k11 hD2s ⊢
      obtain ⟨l', hl'⟩ : ∃ l', l' = l ++ [sp] := ⟨_, rfl⟩
      have hfold : bump (mkT sp).2.2 (bump (mkT sp).2.1 (bump (mkT sp).1 (l.foldl mark1 zeros))) = l'.foldl mark1 zeros := by
        rw [hl', List.foldl_append]
        rfl
      rw [hfold] at T11
      have hlen' : l'.length = l.length + 1 := by rw [hl']; simp
      have hlt20 : ∀ x ∈ l', x < 20 := by
        intro x hx
        rw [hl'] at hx
        rcases List.mem_append.mp hx with hx | hx
        · obtain ⟨k, _, rfl⟩ := b2 x hx
          exact Nat.mod_lt _ (by decide)
        · rw [List.mem_singleton.mp hx]; exact hsp20
      have hnd : l'.Nodup := by
        rw [hl']
        refine List.nodup_append.mpr ⟨b1, by simp, fun x hx y hy => ?_⟩
        rw [List.mem_singleton.mp hy, hsp]
        obtain ⟨k, hk, rfl⟩ := b2 x hx
        exact spot_ne hq4 hr20 hk hi
      have hkk := kk hnd hlt20
      have hl20 : l'.length ≤ 20 := by
        have := nodup_le (m := List.range 20) hnd fun x hx => List.mem_range.mpr (hlt20 x hx)
        simpa using this
      obtain ⟨lq1, _, _⟩ := least_eq l'.length (Nat.lt_succ_of_le hl20)
      have k1011 : ∀ b o, b ≠ hl → h10.get? b = some o → h11.get? b = some o := k11
      have KG11 : Kp G h11 := fun b o e => k11 b o (Nat.ne_of_lt (Nat.lt_of_lt_of_le (hb9 b o e) hsl)) (KG10 b o e)
      have C11 := C.keeps fun b o e => KG11 b o (HG.KB b o e)
      have n11 := n10.at' fun o e => k11 _ o (Nat.ne_of_lt (Nat.lt_trans hL7 L7)) e
      have k7h11 := isCell_at k7h10 fun o e => k11 (L + 7) o (Nat.ne_of_lt L7) e
      have el11 := elG.at fun o e => KG11 _ o e
      have hm63 : ((l.length + 1 : Nat) : Int) < 2 ^ 63 := i63 (n := 21) (Nat.lt_succ_of_le (by rw [← hlen']; exact hl20)) (by decide)
      obtain ⟨v, hvl⟩ : ∃ v, ev[l.length + 1]? = some v := ⟨_, List.getElem?_eq_getElem (by rw [hev.length]; simp [leastL]; omega)⟩
      obtain ⟨tl', rfl⟩ := ints_at (n := leastF ((l.length + 1 : Nat) : Int)) hev hvl (by unfold leastL; rw [List.getElem?_map, List.getElem?_range (by rw [← hlen']; exact Nat.lt_succ_of_le hl20)]; rfl)
      rw [← hlen', lq1] at hvl
      refine wpAny_execs_cons (wpAny_If (wpAny_isTrue_Compare1 (wpAny_BinOp (wpAny_Constant_int (callF C11 (by k_is) (by k_is) (spl2 (ldC rfl k7h11 (wpAny_Constant_int ⟨C11, countOf_int (d := 19) (hi := tk11) C11 (R _) hv11.isList T11 (Nat.le_refl _) (by (try dsimp only); repeat (first | exact Nat.le_refl _ | refine Nat.le_add_right_of_le ?_)) fun t12 h12 tk12 K12 g12 g12' => AutoIntOps.sub_0 ?_⟩))))))))
      dsimp only at K12 g12 ⊢
      have n12 := n11.keeps K12
      refine Subscript_ (ldL n12 a6 (ldL n12 rfl (tail_list (el11.isList.at fun o e => K12 _ o e) (Int.natCast_nonneg _) hm63 (by rw [Int.toNat_natCast, ← hlen']; exact hvl) (wpAny_lt_int (wpAny_truthy_bool ?_)))))
      have eF : decide ((15 : Int) - (((l'.foldl mark1 zeros).count 0 : Nat) : Int) < (leastN l'.length : Int)) = false := decide_eq_false (by omega)
      rw [eF]
      simp only [Bool.false_eq_true, if_false]
      have K11e : Kp h11 h12 := K12
      refine wpAny_execs_nil (wpAny_execs_nil (wpAny_execs_nil (hQ' fun hle => ⟨h12, _, _, rfl, ?_, n12, hle, a1, fun b o e => K12 b o (KG11 b o e), isCell_at k7h11 fun o e => K12 _ o e, a4, a5, a6, a7, l', _, hv', hnd, ?_, congrArg (fun n : Nat => some (Value.int (n : Int) _)) hlen'.symm, hv11.at fun o e => K12 _ o e, T11.mono ?_⟩)))
      · intro b hb o e
        rw [List.mem_singleton.mp hb] at e ⊢
        exact K12 _ _ (k11 I o (sKL I rfl).1 (k710 I o hIL e))
      · intro x hx
        rw [hl'] at hx
        rcases List.mem_append.mp hx with hx | hx
        · obtain ⟨k, hk, e⟩ := b2 x hx
          exact ⟨k, Nat.lt_succ_of_lt hk, e⟩
        · exact ⟨i, Nat.lt_succ_self i, by rw [List.mem_singleton.mp hx, hsp]⟩
      · have g12a : @LT.lt Nat _ t12 tk12 := g12'
        exact Nat.le_succ_of_le (Nat.le_trans (Nat.le_trans (Nat.le_add_right _ 2) g12) (Nat.le_of_lt g12a))
  case hR =>
    intro I h' tk m' hI htk hn' aa hle
    refine and9 aa fun a0 a1 a2 a3 a4 a5 a6 a7 bb => ?_
    clear aa
    obtain ⟨l, tm, hv, b1, b2, b3, b4, b5⟩ := bb
    refine next h' tk m' hl hv l tm (fun b o hb hb7 e => a2 b o (sG b o hb hb7 e)) (Nat.le_trans ht1 a0) hn' b3 a3 hhl0 b4 b5 b1 fun x hx => ?_
    obtain ⟨k, _, rfl⟩ := b2 x hx
    exact Nat.mod_lt _ (by decide)
end
end Mine

-- LN
namespace Mine
theorem fillLN (w : World) (h : Heap) : ((hd.heap_39 w.params).In h ∧ PySem.Challenge.rw_xi0002_01.row.prog = PySem.Challenge.rw_xi0002_01.row.prog) → True := by
  k_fill
  intros; trivial

section
variable {w : World} {A : Around} {s : Shared} {L fa : Addr} {cd : Value}

set_option maxHeartbeats 4000000 in
theorem law_P7a {B : Heap} {m : Str → Option Value} {Q : Flow → Shared → Prop} {hl : Nat} {hv : List Value} {hs : List Int} (C : Cx w B) (KB : Kp B s.heap) (hBL : @LE.le Nat _ B.objs.size L) (R : ∀ env, Room (A.deeper env) 20) (hn : s.heap.Ns L m)
    (k7 : s.heap.IsCell (L + 7 : Nat) (some (.ref hl))) (hl9 : @LE.le Nat _ (L + 9) hl) (hhl : s.heap.PlainList hl hv.toArray) (T : Toks 1 s.toks hv hs) (u8 : s.heap.IsCell (L + 8 : Nat) none)
    (next : ∀ h tk (kl : Nat) kv, (∀ (b : Nat) o, b ≠ L + 8 → s.heap.get? b = some o → h.get? b = some o) → h.IsCell (L + 8 : Nat) (some (.ref kl)) → s.heap.objs.size ≤ kl → h.PlainList kl (List.toArray kv) → IntsAre kv ((List.range 5).map fun t : Nat => ((hs.count (t : Int) : Nat) : Int)) →
      wpAny (model PG w) (A.deeper (lawEnv L fa cd)) (execs (lawBody.drop 21) (lawEnv L fa cd)) Q FF { s with heap := h, toks := tk }) :
    wpAny (model PG w) (A.deeper (lawEnv L fa cd)) (execs (lawBody.drop 20) (lawEnv L fa cd)) Q FF s := by
  have C₁ := C.keeps KB
  refine wpAny_execs_cons (wpAny_Assign_Name (comp_range [] (R _).hd rfl (by decide) rfl (by decide) rfl (rng1 C₁ (wpAny_Constant_int ⟨_, _, rfl, fun r h₁ tk₁ u1 u2 u3 K₁ htk₁ hr hrr => ?_⟩))))
  dsimp only at K₁ htk₁ hr
  refine ⟨r, 0, 5, 1, _, _, _, 5, fun X i ys tk h => IntsAre ys ((List.range i).map fun t : Nat => ((hs.count (t : Int) : Nat) : Int)), rfl, hrr, rfl, rfl, Nat.le_of_ble_eq_true rfl, by simp, fun _ _ _ _ _ _ _ _ _ hj => hj, fun _ _ => .nil, ?_, ?_⟩
  · rintro C5 D I i t ys h tk m5 hi hlen ht _ hj _ hC hD hI hlive hk hn5 hm5
    have k2 : Kp s.heap h := fun b o e => hk b o (by simp) (K₁ b o e)
    rw [show (0 + (i : Nat) * 1 : Int) = (i : Int) by omega] at hm5
    have C6 := C₁.keeps k2
    have ht' : tk₁ ≤ t := ht
    refine callF C6 (by k_is) (by k_is) (spl2 (ldC rfl (isCell_at k7 fun o e => k2 _ o e) (ldL hn5 hm5 ⟨C6, countOf_int (d := 19) (hi := s.toks) C6 (R _) (hhl.isList.at fun o e => k2 _ o e) T (Nat.le_refl _) (by omega) fun t6 h6 tk6 K6 _ _ => ⟨h6, tk6, rfl, fun b o _ e => K6 b o e, ?_⟩⟩)))
    show IntsAre _ ((List.range (i + 1)).map fun t : Nat => ((hs.count (t : Int) : Nat) : Int))
    rw [List.range_succ, List.map_append, List.map_cons, List.map_nil]
    exact ints_snoc hj
  · rintro C5 D I h₃ tk₃ ys htk₃ hC hD hI hpl₃ hsz₃ hj hk₃
    have hk₃ : ∀ b o, b ∉ ([] : List Addr) → h₁.get? b = some o → h₃.get? b = some o := hk₃
    have k3 : Kp s.heap h₃ := fun b o e => hk₃ b o (by simp) (K₁ b o e)
    refine wpAny_storeName_cell rfl rfl rfl (isCell_at u8 fun o e => k3 _ o e) fun h₄ k8 S₄ => ?_
    dsimp only at S₄ ⊢
    have hrs : @LE.le Nat _ s.heap.objs.size r := hr
    have hr1 : @LT.lt Nat _ r h₁.objs.size := Heap.lt_size hrr
    have hD' : @LE.le Nat _ h₁.objs.size D := hD
    have h8 : @LT.lt Nat _ (L + 8) s.heap.objs.size := by obtain ⟨o, e, _⟩ := u8; exact Heap.lt_size e
    refine next h₄ _ D ys.toList (fun b o hb e => (S₄.2 b hb).trans (k3 b o e)) k8 (Nat.le_trans hrs (Nat.le_trans (Nat.le_of_lt hr1) hD')) (by simpa using hpl₃.at fun o e => (S₄.2 D (Nat.ne_of_gt (Nat.lt_of_lt_of_le h8 (Nat.le_trans hrs (Nat.le_trans (Nat.le_of_lt hr1) hD'))))).trans e) hj
end
end Mine

-- KK3
namespace Mine
def cntL (hs : List Int) : List Int := (List.range 5).map fun t : Nat => ((hs.count (t : Int) : Nat) : Int)
def cntT (hs : List Int) : List Int := (List.range 5).map fun t : Nat => (t : Int) * ((hs.count (t : Int) : Nat) : Int)
theorem cnt_sums : ∀ {hs : List Int}, (∀ x ∈ hs, 0 ≤ x ∧ x ≤ 4) → (cntL hs).sum = (hs.length : Nat) ∧ (cntT hs).sum = hs.sum
  | [], _ => by decide
  | x :: hs, h => by
    obtain ⟨a, b⟩ := cnt_sums (hs := hs) fun y hy => h y (.tail _ hy)
    obtain ⟨h0, h4⟩ := h x (.head _)
    have hx : x = 0 ∨ x = 1 ∨ x = 2 ∨ x = 3 ∨ x = 4 := by omega
    have e1 : ∀ l : List Int, (cntL l).sum = (l.count 0 : Nat) + ((l.count 1 : Nat) + ((l.count 2 : Nat) + ((l.count 3 : Nat) + ((l.count 4 : Nat) + 0)))) := fun l => rfl
    have e2 : ∀ l : List Int, (cntT l).sum = 0 * (l.count 0 : Nat) + (1 * (l.count 1 : Nat) + (2 * (l.count 2 : Nat) + (3 * (l.count 3 : Nat) + (4 * (l.count 4 : Nat) + 0)))) := fun l => rfl
    rw [e1] at a ⊢
    rw [e2] at b ⊢
    rw [List.sum_cons, List.length_cons]
    rcases hx with rfl | rfl | rfl | rfl | rfl <;> simp only [List.count_cons] <;> simp <;> omega
theorem held_mem {l : List Nat} (hn : l.Nodup) (hl : ∀ x ∈ l, x < 20) : ∀ x ∈ l.foldl mark1 zeros, 0 ≤ x ∧ x ≤ 4 := by
  intro x hx
  obtain ⟨j, hj, e⟩ := List.mem_iff_getElem.mp hx
  have hlen : (l.foldl mark1 zeros).length = 15 := by rw [fold_len]; rfl
  have h1 := held_getD hl j
  rw [List.getD_eq_getElem?_getD, List.getElem?_eq_getElem hj, e] at h1
  have h2 := held_le hn hl (j := j) (by omega)
  have h1 : x = (l.countP (fun k => inT k j) : Nat) := h1
  omega
theorem held_sums {l : List Nat} (hn : l.Nodup) (hl : ∀ x ∈ l, x < 20) : (cntL (l.foldl mark1 zeros)).sum = 15 ∧ (cntT (l.foldl mark1 zeros)).sum = 3 * (l.length : Nat) := by
  obtain ⟨a, b⟩ := cnt_sums (held_mem hn hl)
  have hlen : (l.foldl mark1 zeros).length = 15 := by rw [fold_len]; rfl
  rw [hlen] at a
  rw [fold_sum l zeros hl rfl, show zeros.sum = 0 from rfl] at b
  exact ⟨a, by omega⟩
end Mine

-- LO
namespace Mine
theorem fillLO (w : World) (h : Heap) : ((hd.heap_39 w.params).In h ∧ PySem.Challenge.rw_xi0002_01.row.prog = PySem.Challenge.rw_xi0002_01.row.prog) → True := by
  k_fill
  intros; trivial

section
variable {w : World} {A : Around} {s : Shared} {L fa : Addr} {cd : Value}

set_option maxHeartbeats 4000000 in
theorem law_P7b {m : Str → Option Value} {Q : Flow → Shared → Prop} {kl n : Nat} {kv : List Value} {hs : List Int} {tm : Tok} (C : Cx w s.heap) (R : ∀ env, Room (A.deeper env) 20) (hn : s.heap.Ns L m) (m1 : m (Str.ofString "many") = some (.int (n : Nat) tm))
    (k8 : s.heap.IsCell (L + 8 : Nat) (some (.ref kl))) (hkl : s.heap.PlainList kl kv.toArray) (hkv : IntsAre kv (cntL hs)) (e1 : (cntL hs).sum = 15) (e2 : (cntT hs).sum = 3 * (n : Int))
    (next : ∀ h tk, Kp s.heap h → wpAny (model PG w) (A.deeper (lawEnv L fa cd)) (execs (lawBody.drop 22) (lawEnv L fa cd)) Q FF { s with heap := h, toks := tk }) :
    wpAny (model PG w) (A.deeper (lawEnv L fa cd)) (execs (lawBody.drop 21) (lawEnv L fa cd)) Q FF s := by
  refine wpAny_execs_cons (wpAny_If (wpAny_isTrue_BoolOp (wpAny_allTrue_Or_cons (wpAny_isTrue_Compare1 (sum1 C (R _).hd (ldC rfl k8 ⟨kl, kv, _, rfl, hkl.isList, hkv, fun h₁ t₁ tk₁ K₁ => ?_⟩))))))
  rw [e1]
  refine wpAny_Constant_int (PyProof.Rows.ne_int (wpAny_truthy_bool ?_))
  simp only [bne_self_eq_false, Bool.false_eq_true, if_false]
  have C₁ := C.keeps K₁
  have n₁ := hn.keeps K₁
  refine wpAny_allTrue_Or_cons (wpAny_isTrue_Compare1 (sum1 C₁ (R _).hd (comp_range [] (R _).hd rfl (by decide) rfl (by decide) rfl (rng1 C₁ (wpAny_Constant_int ⟨_, _, rfl, fun r h₂ tk₂ u1 u2 u3 K₂ htk₂ hr hrr => ?_⟩)))))
  dsimp only at K₂ htk₂ hr
  refine ⟨r, 0, 5, 1, _, _, _, 5, fun X i ys tk h => IntsAre ys ((List.range i).map fun t : Nat => (t : Int) * ((hs.count (t : Int) : Nat) : Int)), rfl, hrr, rfl, rfl, Nat.le_of_ble_eq_true rfl, by simp, fun _ _ _ _ _ _ _ _ _ hj => hj, fun _ _ => .nil, ?_, ?_⟩
  · rintro C5 D I i t ys h tk m5 hi hlen ht _ hj _ hC hD hI hlive hk hn5 hm5
    have k2 : Kp s.heap h := fun b o e => hk b o (by simp) (K₂ b o (K₁ b o e))
    rw [show (0 + (i : Nat) * 1 : Int) = (i : Int) by omega] at hm5
    have hi63 : (i : Int) < 2 ^ 63 := by omega
    have hi64 : i < 2 ^ 64 := by omega
    obtain ⟨v, hv⟩ : ∃ v, kv[i]? = some v := ⟨_, List.getElem?_eq_getElem (by rw [hkv.length]; simp [cntL]; omega)⟩
    obtain ⟨tv, rfl⟩ := ints_at (n := ((hs.count (i : Int) : Nat) : Int)) hkv hv (by unfold cntL; rw [List.getElem?_map, List.getElem?_range hi]; rfl)
    refine wpAny_BinOp (ldL hn5 hm5 (Subscript_ (ldC rfl (isCell_at k8 fun o e => k2 _ o e) (ldL hn5 hm5 (tail_list (hkl.isList.at fun o e => k2 _ o e) (Int.natCast_nonneg i) hi63 hv (mul_natE (x := i) (y := hs.count (i : Int)) rfl rfl hi64 ⟨h, _, rfl, fun _ _ _ e => e, ?_⟩))))))
    show IntsAre _ ((List.range (i + 1)).map fun t : Nat => (t : Int) * ((hs.count (t : Int) : Nat) : Int))
    rw [List.range_succ, List.map_append, List.map_cons, List.map_nil, ← Int.natCast_mul]
    exact ints_snoc hj
  · rintro C5 D I h₃ tk₃ ys htk₃ hC hD hI hpl₃ hsz₃ hj hk₃
    have hk₃ : ∀ b o, b ∉ ([] : List Addr) → h₂.get? b = some o → h₃.get? b = some o := hk₃
    refine ⟨D, ys.toList, cntT hs, rfl, by simpa using hpl₃.isList, hj, fun h₄ t₄ tk₄ K₄ => ?_⟩
    rw [e2]
    have k14 : Kp h₁ h₄ := fun b o e => K₄ b o (hk₃ b o (by simp) (K₂ b o e))
    refine wpAny_BinOp (wpAny_Constant_int (ldL (n₁.keeps k14) m1 (mul_natE (x := 3) (y := n) rfl rfl (by decide) (PyProof.Rows.ne_int (wpAny_truthy_bool ?_)))))
    have e3 : (3 * (n : Int) != ((3 * n : Nat) : Int)) = false := by
      rw [bne_eq_false_iff_eq]
      omega
    rw [e3]
    simp only [Bool.false_eq_true, if_false]
    refine wpAny_allTrue_Or_nil ?_
    simp only [Bool.false_eq_true, if_false]
    refine wpAny_execs_nil ?_
    exact next h₄ _ fun b o e => k14 b o (K₁ b o e)
end
end Mine

-- LQ
namespace Mine
theorem fillLQ (w : World) (h : Heap) : ((hd.heap_39 w.params).In h ∧ PySem.Challenge.rw_xi0002_01.row.prog = PySem.Challenge.rw_xi0002_01.row.prog) → True := by
  k_fill
  intros; trivial

/-- ys: lists of one int, none of them at X -/
def OnesX (X : List Addr) (h : Heap) (ys : List Value) (ns : List Int) : Prop :=
  ys.length = ns.length ∧ ∀ (k : Nat) (n : Int), ns[k]? = some n → ∃ a t, ys[k]? = some (.ref a) ∧ a ∉ X ∧ h.PlainList a #[.int n t]
theorem OnesX.keep {X : List Addr} {h h' : Heap} {ys : List Value} {ns : List Int} (T : OnesX X h ys ns) (k : ∀ b o, b ∉ X → h.get? b = some o → h'.get? b = some o) : OnesX X h' ys ns :=
  ⟨T.1, fun i p e => let ⟨a, t, e1, e2, e3⟩ := T.2 i p e; ⟨a, t, e1, e2, e3.at fun o e => k a o e2 e⟩⟩
theorem OnesX.snoc {X : List Addr} {h : Heap} {ys : List Value} {ns : List Int} {a : Addr} {n : Int} {t : Tok} (T : OnesX X h ys ns) (ha : a ∉ X) (ht : h.PlainList a #[.int n t]) : OnesX X h (ys ++ [.ref a]) (ns ++ [n]) := by
  refine ⟨by simp [T.1], fun i p e => ?_⟩
  by_cases hi : i < ns.length
  · rw [List.getElem?_append_left hi] at e
    rw [List.getElem?_append_left (by rw [T.1]; exact hi)]
    exact T.2 i p e
  · have hi' := (List.getElem?_eq_some_iff.mp e).1
    have : i = ns.length := by simp at hi'; omega
    subst this
    rw [List.getElem?_append_right (Nat.le_refl _), Nat.sub_self] at e
    cases e
    rw [List.getElem?_append_right (by rw [T.1]; exact Nat.le_refl _), T.1, Nat.sub_self]
    exact ⟨a, t, rfl, ha, ht⟩
open Classical in
noncomputable def isZ (h : Heap) (v : Value) : Bool := decide (∃ a t, v = .ref a ∧ h.PlainList a #[.int 0 t])
open Classical in
theorem isZ_eq {h : Heap} {a : Addr} {n : Int} {t : Tok} (hl : h.PlainList a #[.int n t]) : isZ h (.ref a) = (n == 0) := by
  unfold isZ
  by_cases hn : n = 0
  · subst hn
    simp only [beq_self_eq_true]
    exact decide_eq_true ⟨a, t, rfl, hl⟩
  · have : (n == 0) = false := by simpa using hn
    rw [this]
    refine decide_eq_false fun ⟨b, u, e, hb⟩ => ?_
    cases e
    obtain ⟨k, e1⟩ := hl
    obtain ⟨k', e2⟩ := hb
    rw [e1] at e2
    cases e2
    exact hn rfl
theorem ones_cnt {h : Heap} : ∀ {ys : List Value} {ns : List Int}, OnesX [] h ys ns → ys.countP (isZ h) = ns.count 0
  | [], [], _ => rfl
  | [], _ :: _, T => by have := T.1; simp at this
  | _ :: _, [], T => by have := T.1; simp at this
  | v :: ys, n :: ns, T => by
    obtain ⟨a, t, e, _, hl⟩ := T.2 0 n rfl
    have : v = .ref a := by simpa using e
    subst this
    rw [List.countP_cons, List.count_cons, ones_cnt (ys := ys) (ns := ns) ⟨by have := T.1; simpa using this, fun i m e => T.2 (i + 1) m (by simpa using e)⟩, isZ_eq hl]
section
variable {w : World} {A : Around} {s : Shared} {L fa : Addr} {cd : Value}

set_option maxHeartbeats 4000000 in
theorem law_P7c {m : Str → Option Value} {Q : Flow → Shared → Prop} {kl hl : Nat} {kv hv : List Value} {hs : List Int} (C : Cx w s.heap) (R : ∀ env, Room (A.deeper env) 20) (hn : s.heap.Ns L m)
    (k7 : s.heap.IsCell (L + 7 : Nat) (some (.ref hl))) (hhl : s.heap.PlainList hl hv.toArray) (hhv : IntsAre hv hs) (hlen : hs.length = 15) (k8 : s.heap.IsCell (L + 8 : Nat) (some (.ref kl))) (hkl : s.heap.PlainList kl kv.toArray) (hkv : IntsAre kv (cntL hs))
    (next : ∀ h tk, Kp s.heap h → Q (.ret (.bool true)) { s with heap := h, toks := tk }) :
    wpAny (model PG w) (A.deeper (lawEnv L fa cd)) (execs (lawBody.drop 22) (lawEnv L fa cd)) Q FF s := by
  obtain ⟨v0, hv0⟩ : ∃ v, kv[0]? = some v := ⟨_, List.getElem?_eq_getElem (by rw [hkv.length]; simp [cntL])⟩
  obtain ⟨t0, rfl⟩ := ints_at (n := ((hs.count 0 : Nat) : Int)) hkv hv0 rfl
  have hvl : hv.length = 15 := by rw [hhv.length, hlen]
  refine wpAny_execs_cons (wpAny_Return_some (BoolOp_and (callB C (by k_is) boot_isinstance (spl2 (Subscript_ (ldC rfl k8 (wpAny_Constant_int (tail_list hkl.isList (by decide) (by decide) hv0 (nm_builtin C (by k_is) PyProof.Rows.boot_int ?_)))))))))
  refine PySem.IsiPair.int_int (wpAny_truthy_bool ?_)
  simp only [if_true]
  refine BoolOp_one (wpAny_Compare1 (callF C (by k_is) (by k_is) (spl2 (comp_list [] (R _).hd rfl (by decide) rfl (by decide) rfl (ldC rfl k7 ⟨hl, hv, fun X i ys tk h => OnesX X h ys (hs.take i), rfl, hhl.isList, by rw [hvl]; exact Nat.le_of_ble_eq_true rfl, by simp, ?_, ?_, ?_, ?_⟩)))))
  · intro X i ys tk tk' h h' _ hk hj
    exact hj.keep hk
  · intro X _
    exact ⟨rfl, fun i n e => by cases e⟩
  · rintro C5 D I i v ys h tk m5 hv5 hl5 htk hj hC hD hI hlive hk hn5 hm5
    have hi : i < hs.length := by rw [← hhv.length]; exact (List.getElem?_eq_some_iff.mp hv5).1
    obtain ⟨n, hni⟩ : ∃ n, hs[i]? = some n := ⟨_, List.getElem?_eq_getElem hi⟩
    obtain ⟨tn, rfl⟩ := ints_at hhv hv5 hni
    refine List_ (spl1 (ldL hn5 hm5 (new_list (Nat.le_of_ble_eq_true rfl) fun a h6 h60 ha K6 _ => ⟨h6, tk, rfl, fun b o _ e => K6 b o e, ?_⟩)))
    have : hs.take (i + 1) = hs.take i ++ [n] := by rw [List.take_add_one, hni]; rfl
    show OnesX _ _ _ (hs.take (i + 1))
    rw [this]
    refine (hj.keep fun b o _ e => K6 b o e).snoc (fun hm => ?_) ha
    obtain ⟨o, e⟩ := hlive a hm
    rw [show h.get? a = none from h60] at e
    cases e
  · rintro C5 D I h₃ tk₃ ys htk₃ hC hD hI hpl₃ hsz₃ hj hk₃
    have k3 : Kp s.heap h₃ := fun b o e => hk₃ b o (by simp) e
    have hj : OnesX [C5, D, I] h₃ ys.toList (hs.take hv.length) := hj
    rw [hvl, List.take_of_length_le (by omega)] at hj
    refine List_ (spl1 (wpAny_Constant_int (new_list (Nat.le_of_ble_eq_true rfl) fun z h₄ hz0 hz K₄ hzs => ⟨C.keeps fun b o e => K₄ b o (k3 b o e), ?_⟩)))
    dsimp only at hz0 K₄ hzs ⊢
    have hj4 : OnesX [C5, D, I] h₄ ys.toList hs := hj.keep fun b o _ e => K₄ b o e
    have at_ : ∀ v ∈ ys.toList, ∃ a n t, v = .ref a ∧ h₄.PlainList a #[.int n t] ∧ a ≠ z := by
      intro v hv
      obtain ⟨k, hk, e⟩ := List.mem_iff_getElem.mp hv
      obtain ⟨n, hn⟩ : ∃ n, hs[k]? = some n := ⟨_, List.getElem?_eq_getElem (by rw [← hj.1]; exact hk)⟩
      obtain ⟨a, t, e1, _, e2⟩ := hj.2 k n hn
      rw [List.getElem?_eq_getElem hk, e] at e1
      refine ⟨a, n, t, Option.some.inj e1, e2.at fun o e => K₄ _ o e, fun q => ?_⟩
      obtain ⟨j, e3⟩ := e2
      rw [q, hz0] at e3
      cases e3
    have C₄ : Cx w h₄ := C.keeps fun b o e => K₄ b o (k3 b o e)
    refine countOf_gen (d := 19) (vs := ys.toList) (isZ h₄) C₄ (R _) (by simpa using hpl₃.isList.at fun o e => K₄ _ o e) ?_ ?_ ?_
    · intro v hv A' s' Q' R' K hq
      obtain ⟨a, n, t, rfl, hl, hne⟩ := at_ v hv
      show wpAny _ _ (isSame (.ref a) (.ref z) >>= fun r => pure (Value.bool r)) Q' FF s'
      have e2 : (a == z) = false := by simpa using hne
      obtain ⟨j1, ea⟩ := hl
      obtain ⟨j2, ez⟩ := hz
      refine wpAny_bind ?_
      unfold isSame
      dsimp only
      rw [e2]
      simp only [Bool.false_eq_true, if_false]
      refine wpAny_bind (wpAny_load (K _ _ ea) (wpAny_bind (wpAny_load (K _ _ ez) ?_)))
      dsimp only
      exact wpAny_pure (wpAny_pure (hq false fun h => absurd h Bool.false_ne_true))
    · intro v hv A' s' Q' R' K hq
      obtain ⟨a, n, t, rfl, hl, hne⟩ := at_ v hv
      refine eq_intsK (vs := [.int n t]) (us := [.int 0 _]) (ns := [n]) (ms := [0]) (hl.isList.at fun o e => K _ o e) (.cons _ _ .nil) (hz.isList.at fun o e => K _ o e) (.cons _ _ .nil) (by have := R'.un; omega) ?_
      have e : decide ([n] = [(0 : Int)]) = isZ h₄ (.ref a) := by
        rw [isZ_eq hl]
        by_cases h0 : n = 0 <;> simp [h0]
      rw [e]
      exact hq
    · intro t5 h₅ tk₅ K₅ g5 g5'
      rw [ones_cnt ⟨hj4.1, fun k n e => let ⟨a, t, e1, _, e2⟩ := hj4.2 k n e; ⟨a, t, e1, (by simp), e2⟩⟩]
      have k5 : Kp s.heap h₅ := fun b o e => K₅ b o (K₄ b o (k3 b o e))
      refine Subscript_ (ldC rfl (isCell_at k8 fun o e => k5 _ o e) (wpAny_Constant_int (tail_list (hkl.isList.at fun o e => k5 _ o e) (by decide) (by decide) hv0 (wpAny_eq_int ?_))))
      simp only [beq_self_eq_true]
      exact next h₅ _ k5
end
end Mine

-- LZ
namespace Mine
section
variable {w : World} {A : Around} {s : Shared} {L fa : Addr} {cd : Value}

set_option maxHeartbeats 4000000 in
theorem law_all {B : Heap} {sl : Addr} {sv : List Value} {ns : List Int} {m : Str → Option Value} {Q : Flow → Shared → Prop} (C : Cx w B) (hB : Kp B s.heap) (hcd : CodeHd B 55 51) (h51 : B.get? 51 = none) (hBL : @LE.le Nat _ B.objs.size L) (T : s.heap.get? 51 = some (tabObj #[])) (R : ∀ env, Room (A.deeper env) 20)
    (hn : s.heap.Ns L m) (hm : m (Str.ofString "script") = some (.ref sl)) (hs : B.IsList sl sv.toArray) (hns : IntsAre sv ns) (hlen : sv.length < 2 ^ 20) (hc : ∀ i : Nat, 1 ≤ i → i ≤ 8 → s.heap.IsCell (L + i : Nat) none)
    (fin : ∀ h tk m', Kp B h → (∃ ps, h.get? 51 = some (tabObj ps)) → h.Ns L m' → Q (.ret (.bool true)) { s with heap := h, toks := tk }) :
    wpAny (model PG w) (A.deeper (lawEnv L fa cd)) (execs lawBody (lawEnv L fa cd)) Q FF s := by
  refine law_P1 C hB hcd h51 hBL T R hn hm hs hns hlen hc ?_
  intro h1 tk1 m1 cl ch c0 c1 c2 t0 t1 t2 wd tw a ts KB1 T1 n1 q1 kc1 cl9 hcl kw hw1 hw2 hch ks ha u1
  have l51 : @LT.lt Nat _ 51 L := by
    obtain ⟨o, vs, file, tf, flags, tg, inF, text, tt, e1, _⟩ := id hcd
    have h55 : @LT.lt Nat _ 55 B.objs.size := Heap.lt_size e1
    exact Nat.lt_trans (by decide) (Nat.lt_of_lt_of_le h55 hBL)
  have H1 : LH B L h1 cl ch c0 c1 c2 wd a := ⟨KB1, T1, l51, kc1, cl9, ⟨t0, t1, t2, hcl⟩, ⟨tw, kw⟩, ⟨ts, ks⟩, hch, ha, ⟨hw1, hw2⟩, hBL⟩
  refine law_laid (C.keeps KB1) R n1 ?_
  intro h2 tk2 ll lv k2 n2 hll9 hll hT
  dsimp only at k2 hll9 ⊢
  have H2 := H1.keep fun b o hb _ e => k2 b o hb e
  have ks2 := isCell_at ks fun o e => k2 (L + 3 : Nat) o (Nat.ne_of_gt (Nat.lt_add_of_pos_right (by decide : 0 < 3))) e
  refine law_pairs (C.keeps H2.KB) R n2 rfl hll hT ks2 ha ?_
  intro h3 tk3 pl pv so k3 n3 hpl9 hpl hpv hperm hpw
  dsimp only at k3 hpl9 ⊢
  have H3 := H2.keep fun b o hb _ e => k3 b o hb e
  have eps : so = psOf a := uniqS hperm hpw (psOf a) (List.isPerm_iff.mp (ps_perm a ha)) (ps_sort a ha)
  rw [eps] at hpv
  have L8 : @LT.lt Nat _ (L + 8) h1.objs.size := by obtain ⟨o, e, _⟩ := u1 8 (by decide) (by decide); exact Heap.lt_size e
  have hllL : @LT.lt Nat _ L ll := Nat.lt_of_lt_of_le (Nat.lt_of_le_of_lt (Nat.le_add_right _ 8) L8) hll9
  have hll3 := hll.at fun o e => k3 _ o (Nat.ne_of_gt hllL) e
  have hT3 := hT.keep fun b o hb e => k3 b o (fun q => hb (by rw [q]; exact .head _)) e
  have ks3 := isCell_at ks2 fun o e => k3 (L + 3 : Nat) o (Nat.ne_of_gt (Nat.lt_add_of_pos_right (by decide : 0 < 3))) e
  refine law_triples (C.keeps H3.KB) R n3 rfl hll3 hT3 ks3 ha ?_
  intro h4 tk4 tl tv so4 k4 n4 htl9 htl htv hperm4 hpw4
  dsimp only at k4 htl9 ⊢
  have H4 := H3.keep fun b o hb _ e => k4 b o hb e
  have ets : so4 = trOf a := uniqS hperm4 hpw4 (trOf a) (List.isPerm_iff.mp (tr_perm a ha)) (tr_sort a ha)
  rw [ets] at htv
  have u2 : ∀ i : Nat, 4 ≤ i → i ≤ 8 → h2.IsCell (L + i : Nat) none := fun i a b => isCell_at (u1 i a b) fun o e => k2 (L + i : Nat) o (Nat.ne_of_gt (Nat.lt_add_of_pos_right (by omega))) e
  have u3 : ∀ i : Nat, 4 ≤ i → i ≤ 8 → h3.IsCell (L + i : Nat) none := fun i a b => isCell_at (u2 i a b) fun o e => k3 (L + i : Nat) o (Nat.ne_of_gt (Nat.lt_add_of_pos_right (by omega))) e
  have u4 : ∀ i : Nat, 4 ≤ i → i ≤ 8 → h4.IsCell (L + i : Nat) none := fun i a b => isCell_at (u3 i a b) fun o e => k4 (L + i : Nat) o (Nat.ne_of_gt (Nat.lt_add_of_pos_right (by omega))) e
  have L82 : @LT.lt Nat _ (L + 8) h2.objs.size := by obtain ⟨o, e, _⟩ := u2 8 (by decide) (by decide); exact Heap.lt_size e
  have L83 : @LT.lt Nat _ (L + 8) h3.objs.size := by obtain ⟨o, e, _⟩ := u3 8 (by decide) (by decide); exact Heap.lt_size e
  have pl9 : @LE.le Nat _ (L + 9) pl := Nat.lt_of_lt_of_le L82 hpl9
  have tl9 : @LE.le Nat _ (L + 9) tl := Nat.lt_of_lt_of_le L83 htl9
  have hplL : @LT.lt Nat _ L pl := Nat.lt_of_lt_of_le (Nat.lt_add_of_pos_right (by decide)) pl9
  have P4 : PT L h4 pl tl a := ⟨pl9, tl9, ⟨pv, hpl.at fun o e => k4 _ o (Nat.ne_of_gt hplL) e, hpv⟩, ⟨tv, htl, htv⟩⟩
  refine law_P3a C R H4 P4 n4 q1 rfl rfl ?_
  intro h5 tk5 k5
  dsimp only at k5 ⊢
  have H5 := H4.keep fun b o _ _ e => k5 b o e
  have P5 := P4.keep fun b o _ _ e => k5 b o e
  have n5 := n4.keeps k5
  refine law_P3b C R H5 P5 n5 rfl rfl (isCell_at (u4 4 (by decide) (by decide)) fun o e => k5 _ o e) (isCell_at (u4 5 (by decide) (by decide)) fun o e => k5 _ o e) ?_
  intro h6 tk6 j lt tv6 tp k6 hj kc4 kc5 lt9 hlt T6
  dsimp only at k6 ⊢
  have H6 := H5.keep fun b o hb h4 e => k6 b o (by omega) (by omega) e
  have P6 := P5.keep fun b o hb h4 e => k6 b o (by omega) (by omega) e
  have n6 := n5.at' fun o e => k6 L o (Nat.ne_of_lt (Nat.lt_add_of_pos_right (by decide))) (Nat.ne_of_lt (Nat.lt_add_of_pos_right (by decide))) e
  refine law_P3c C R H6 n6 q1 hj kc4 kc5 lt9 hlt T6 ?_
  intro h7 tk7 v k7 g7 n7
  dsimp only at k7 g7 ⊢
  have H7 := H6.keep fun b o hb _ e => k7 b o hb e
  have P7 := P6.keep fun b o hb _ e => k7 b o hb e
  have ht6 : 1 ≤ tk6 := by
    have hlen6 : 0 < (toldOf a j).length := by
      have : (toldOf a j).length = 20 := by unfold toldOf; rw [List.length_map, tr_len a ha]
      omega
    obtain ⟨t', _, e1, e2⟩ := T6.2 0 _ (List.getElem?_eq_getElem hlen6)
    exact Nat.le_of_lt (Nat.lt_of_le_of_lt e1 e2)
  refine law_P4 C R H7 P7 n7 (Nat.le_trans ht6 g7) q1 rfl rfl ?_
  intro h8 tk8 m8 el ev k8 g8 n8 r2 r3 r4 el9 hel hev
  dsimp only at k8 ⊢
  have H8 := H7.keep fun b o hb _ e => k8 b o hb e
  have P8 := P7.keep fun b o hb _ e => k8 b o hb e
  have nL : ∀ i : Nat, 0 < i → (L + i : Nat) ≠ L := fun i hi => Nat.ne_of_gt (Nat.lt_add_of_pos_right hi)
  have u8 : ∀ i : Nat, 6 ≤ i → i ≤ 8 → h8.IsCell (L + i : Nat) none := fun i a b => isCell_at (u4 i (by omega) b) fun o e => k8 (L + i : Nat) o (nL i (by omega)) (k7 (L + i : Nat) o (nL i (by omega)) (k6 (L + i : Nat) o (fun q => by have := Nat.add_left_cancel q; omega) (fun q => by have := Nat.add_left_cancel q; omega) (k5 _ o e)))
  have kc48 := isCell_at kc4 fun o e => k8 (L + 4 : Nat) o (nL 4 (by decide)) (k7 (L + 4 : Nat) o (nL 4 (by decide)) e)
  have kc58 := isCell_at kc5 fun o e => k8 (L + 5 : Nat) o (nL 5 (by decide)) (k7 (L + 5 : Nat) o (nL 5 (by decide)) e)
  have lv : ∀ {h : Heap} {c : Nat} {v : Option Value}, h.IsCell c v → ∃ o, h.get? c = some o := fun H => let ⟨o, e, _⟩ := H; ⟨o, e⟩
  have live8 : ∀ b ∈ frameX L, ∃ o, h8.get? b = some o := by
    intro b hb
    simp only [frameX, List.mem_cons, List.not_mem_nil, or_false] at hb
    obtain ⟨_, kk2⟩ := H8.k2
    obtain ⟨_, kk3⟩ := H8.k3
    rcases hb with h | h | h | h | h | h | h | h | h
    · obtain ⟨o, _, _, e, _⟩ := id n8; exact ⟨o, by rw [h]; exact e⟩
    · rw [h]; exact lv H8.k1
    · rw [h]; exact lv kk2
    · rw [h]; exact lv kk3
    · rw [h]; exact lv kc48
    · rw [h]; exact lv kc58
    · rw [h]; exact lv (u8 6 (by decide) (by decide))
    · rw [h]; exact lv (u8 7 (by decide) (by decide))
    · rw [h]; exact lv (u8 8 (by decide) (by decide))
  refine law_P5 C hcd h51 R H8 n8 live8 (u8 6 (by decide) (by decide)) ?_
  intro h9 tk9 fl fv fs k9 T9 g9 n9 fl9 hfl hfs hfv
  dsimp only at k9 g9 ⊢
  have a9 : ∀ i : Nat, (L + i : Nat) ≠ 51 := fun i => Nat.ne_of_gt (Nat.lt_of_lt_of_le l51 (Nat.le_add_right _ _))
  have H9 := H8.keep51 h51 T9 fun b o h1 h2 h4 e => k9 b o h1 h2 (by omega) e
  have g51 : ∀ b : Nat, @LE.le Nat _ (L + 9) b → b ≠ 51 ∧ b ≠ L ∧ b ≠ L + 6 := fun b hb => by
    have hb' : (L : Nat) + 9 ≤ b := hb
    refine ⟨Nat.ne_of_gt (Nat.lt_of_lt_of_le l51 (Nat.le_trans (Nat.le_add_right _ 9) hb)), Nat.ne_of_gt (Nat.lt_of_lt_of_le (Nat.lt_add_of_pos_right (by decide)) hb), Nat.ne_of_gt (Nat.lt_of_lt_of_le (Nat.add_lt_add_left (by decide) _) hb)⟩
  obtain ⟨pv8, hpl8, hpv8⟩ := P8.p
  obtain ⟨tv8, htl8, htv8⟩ := P8.t
  have P9 : PT L h9 pl tl a := ⟨pl9, tl9, ⟨pv8, hpl8.at fun o e => k9 pl o (g51 pl pl9).1 (g51 pl pl9).2.1 (g51 pl pl9).2.2 e, hpv8⟩, ⟨tv8, htl8.at fun o e => k9 tl o (g51 tl tl9).1 (g51 tl tl9).2.1 (g51 tl tl9).2.2 e, htv8⟩⟩
  have hel9 := hel.at fun o e => k9 el o (g51 el el9).1 (g51 el el9).2.1 (g51 el el9).2.2 e
  have u9 : ∀ i : Nat, 7 ≤ i → i ≤ 8 → h9.IsCell (L + i : Nat) none := fun i a b => isCell_at (u8 i (by omega) b) fun o e => k9 (L + i : Nat) o (a9 i) (nL i (by omega)) (fun q => by have := Nat.add_left_cancel q; omega) e
  refine law_P6 C R H9 P9 n9 (Nat.le_trans g8 g9) r2 r3 r4 rfl el9 hel9 hev fl9 hfl hfs hfv (u9 7 (by decide) (by decide)) ?_
  intro h10 tk10 m10 hl hv l tm k10 g10 n10 r10 kc7 hl9 hhl T10 hnd hlt
  dsimp only at k10 ⊢
  have H10 := H9.keep fun b o hb h4 e => k10 b o hb (by omega) e
  refine law_P7a C H10.KB hBL R n10 kc7 hl9 hhl T10 (isCell_at (u9 8 (by decide) (by decide)) fun o e => k10 (L + 8 : Nat) o (nL 8 (by decide)) (fun q => by have := Nat.add_left_cancel q; omega) e) ?_
  intro h11 tk11 kl kv k11 kc8 hkl9 hkl hkv
  dsimp only at k11 hkl9 ⊢
  have H11 := H10.keep fun b o hb h4 e => k11 b o (by omega) e
  obtain ⟨s1, s2⟩ := held_sums hnd hlt
  have n11 := n10.at' fun o e => k11 L o (Nat.ne_of_lt (Nat.lt_add_of_pos_right (by decide))) e
  refine law_P7b (C.keeps H11.KB) R n11 r10 kc8 hkl hkv s1 s2 ?_
  intro h12 tk12 k12
  dsimp only at k12 ⊢
  have H12 := H11.keep fun b o _ _ e => k12 b o e
  have kc7' := isCell_at kc7 fun o e => k12 _ o (k11 (L + 7 : Nat) o (fun q => by have := Nat.add_left_cancel q; omega) e)
  have hl8 : (hl : Nat) ≠ L + 8 := Nat.ne_of_gt (Nat.lt_of_lt_of_le (Nat.lt_succ_self _) hl9)
  refine law_P7c (C.keeps H12.KB) R (n11.keeps k12) kc7' (hhl.at fun o e => k12 _ o (k11 hl o hl8 e)) T10.ints (by rw [fold_len]; rfl) (isCell_at kc8 fun o e => k12 _ o e) (hkl.at fun o e => k12 _ o e) hkv ?_
  intro h13 tk13 k13
  dsimp only at k13 ⊢
  have T13 := H12.T.keeps k13
  refine fin h13 tk13 _ (fun b o e => k13 b o (H12.KB b o e)) ?_ ((n11.keeps k12).keeps k13)
  rcases T13 with e | ⟨c', e, _⟩
  · exact ⟨_, e⟩
  · exact ⟨_, e⟩
end
end Mine

-- ZZ4
set_option maxHeartbeats 8000000
namespace Mine
theorem room_caller (env : Env) : Room (callerA.deeper env) 20 :=
  ⟨rfl, (by show 1 + claimMargin + 1 + 20 < _; decide), (by show 4 + 3 + 8 * 20 + 100 < _; decide)⟩
theorem ghost_none51 {h : Heap} : (ghostOf h [(55, 51)]).get? 51 = none := hideAll_none _ (.head _)
theorem ghost_le {h : Heap} : @LE.le Nat _ (ghostOf h [(55, 51)]).objs.size h.objs.size := Nat.le_of_eq (hideAll_size _ _)
theorem cells_of {h : Heap} {L : Nat} {o1 o2 o3 o4 o5 o6 o7 o8 : Obj} (e1 : h.get? (L + 1 : Nat) = some o1) (e2 : h.get? (L + 1 + 1 : Nat) = some o2) (e3 : h.get? (L + 1 + 1 + 1 : Nat) = some o3) (e4 : h.get? (L + 1 + 1 + 1 + 1 : Nat) = some o4)
    (e5 : h.get? (L + 1 + 1 + 1 + 1 + 1 : Nat) = some o5) (e6 : h.get? (L + 1 + 1 + 1 + 1 + 1 + 1 : Nat) = some o6) (e7 : h.get? (L + 1 + 1 + 1 + 1 + 1 + 1 + 1 : Nat) = some o7) (e8 : h.get? (L + 1 + 1 + 1 + 1 + 1 + 1 + 1 + 1 : Nat) = some o8)
    (d1 : o1.data = .cell none) (d2 : o2.data = .cell none) (d3 : o3.data = .cell none) (d4 : o4.data = .cell none) (d5 : o5.data = .cell none) (d6 : o6.data = .cell none) (d7 : o7.data = .cell none) (d8 : o8.data = .cell none) :
    ∀ i : Nat, 1 ≤ i → i ≤ 8 → h.IsCell (L + i : Nat) none := by
  intro i h1 h2
  obtain ⟨j, rfl⟩ := Nat.exists_eq_add_of_le' h1
  rcases lt8 (Nat.lt_of_succ_le h2) with rfl | rfl | rfl | rfl | rfl | rfl | rfl | rfl
  · exact ⟨o1, e1, d1⟩
  · exact ⟨o2, e2, d2⟩
  · exact ⟨o3, e3, d3⟩
  · exact ⟨o4, e4, d4⟩
  · exact ⟨o5, e5, d5⟩
  · exact ⟨o6, e6, d6⟩
  · exact ⟨o7, e7, d7⟩
  · exact ⟨o8, e8, d8⟩
theorem len_lt {sv : List Value} {ns : List Int} (hI : IntsAre sv ns) (hc : ¬ ((63 : Nat) : Int) < (ns.length : Int)) : sv.length < 2 ^ 20 := by
  rw [IntsAre.length hI]
  omega

theorem lawX : PySem.Challenge.rw_xi0002_01.Holds := by
  refine hd ?_
  w_strict k_go0
  rename_i ww s0 s1 mg mb G Y fa o pm cd doc ho hcd hg X V T B TE TW ns hs hlay0 hL hr hl2 w12 w11 sl sv w8 hLs ra w1 r0 hI hrw hcond hcond2 hD h1 tk1 o8 o7 o6 o5 o4 o3 o2 o1 d1 d2 d3 d4 d5 d6 d7 d8 X0 X1 T1 K1 F1 N1 l0
  refine mono_ff (law_all (B := ghostOf s1.heap [(55, 51)]) (sl := sl) (sv := sv) (ns := ns) ⟨X1, _, _, _, _, _, T1⟩ F1.keep codeHd ghost_none51 ghost_le ?T room_caller F1.ns ?hm lifted hI (len_lt hI hcond) ?hc ?fin)
  case T => exact N1.get (List.mem_of_getElem? (show _ = _ from (rfl : _[8]? = some _)))
  case hm => rfl
  case hc =>
    refine cells_of (o1 := o1) (o2 := o2) (o3 := o3) (o4 := o4) (o5 := o5) (o6 := o6) (o7 := o7) (o8 := o8) (N1.get ?_) (N1.get ?_) (N1.get ?_) (N1.get ?_) (N1.get ?_) (N1.get ?_) (N1.get ?_) (N1.get ?_) d8 d7 d6 d5 d4 d3 d2 d1
    · exact List.mem_of_getElem? (show _ = _ from (rfl : _[7]? = some _))
    · exact List.mem_of_getElem? (show _ = _ from (rfl : _[6]? = some _))
    · exact List.mem_of_getElem? (show _ = _ from (rfl : _[5]? = some _))
    · exact List.mem_of_getElem? (show _ = _ from (rfl : _[4]? = some _))
    · exact List.mem_of_getElem? (show _ = _ from (rfl : _[3]? = some _))
    · exact List.mem_of_getElem? (show _ = _ from (rfl : _[2]? = some _))
    · exact List.mem_of_getElem? (show _ = _ from (rfl : _[1]? = some _))
    · exact List.mem_of_getElem? (show _ = _ from (rfl : _[0]? = some _))
  case fin =>
    intro h tk m' k t n
    refine ⟨?_, ?_⟩
    · refine goodW_bool (L := s1.heap.objs.size) (m := m') ⟨n, k, ?above⟩ hg (raisesW_false ?ra) ?po
      case above => exact ghost_le
      case ra => wrow_none_raised
      case po => wrow_post
    · exact ⟨t, True.intro⟩
end Mine

set_option maxHeartbeats 8000000 in
theorem PySem.Challenge.cw_xi0002_01_holds : PySem.Challenge.rw_xi0002_01.Holds := by
  exact Mine.lawX
