import PyProof.Rows.All
import Wide.All
import OpenK.AllK
import Wide.FinOn
import PySem.Challenge.RW_fe0347_01
/- One proof, joined from separately built texts. Each `section` below is one text. -/
open PySem PySem.W PyProof.Rows
set_option Elab.async false
set_option rowWalk.seconds 0
set_option maxRecDepth 100000
set_option maxHeartbeats 8000000
namespace Mine
open_top hd for PySem.Challenge.rw_fe0347_01
end Mine
section
namespace Mine
abbrev PR : Program := PySem.Challenge.rw_fe0347_01.row.prog
def Fit (A : Around) (d u : Nat) : Prop := A.handled = none ∧ A.depth ≤ d ∧ A.units ≤ u
abbrev AA (d u : Nat) : Around := { handled := none, depth := d, frames := none, guards := none, units := u }
theorem fit_code {M : Model} {A : Around} {d u : Nat} {c : Code} {R : Result → Shared → Prop} {s : Shared} (hA : Fit A d u)
    (h : codeAny M (AA d u) c R s) : codeAny M A c R s := by
  intro Γ p hc hb
  exact h Γ p hc ⟨hb.1.trans hA.1, Nat.le_trans hb.2.1 hA.2.1, (fun _ e => by cases e), (fun _ e => by cases e), Nat.le_trans hb.2.2.2.2 hA.2.2⟩
def Hold (P : Prop) : Prop := P
theorem hold {P : Prop} (h : Hold P) : P := h
theorem Hold.out {P : Prop} (h : P) : Hold P := h

theorem enter {w : World} {A : Around} {s : Shared} {K : Frag} {R : Result → Shared → Prop} {name qual : Str} {params : Arguments} {body : List Stmt} {scope : Scope} {dV kV doc pm cdv ct oc : Value} {an od : Option Addr} {osl : Array (Option Value)} {f : Addr} {args : Args} {binds : List (Str × Value)}
    (X : K.In s.heap) (hlim : s.heap.NoLimit)
    (ho : K.lookup f = some ⟨oc, od, .func (fnOf name qual params body scope dV kV doc pm an cdv ct), osl⟩) (hcd : codeIn K cdv qual = true) (hroom : A.depth < recursionLimit)
    (hbind : BindsTo s (fnOf name qual params body scope dV kV doc pm an cdv ct) args binds) (hloc : ∀ y ∈ binds, scope.names.lookup y.1 = some .local)
    (hco : scope.isCoroutine = false) (hgen : scope.isGenerator = false) (hk : scope.kind = .function)
    (hcell : ∀ x ∈ scope.names, x.2 ≠ .cell)
    (h : ∀ L' h₁, Fr s.heap L' h₁ (fun y => binds.reverse.lookup y) → News s.heap L' h₁ [] →
      wpAny (model PR w) (A.deeper (envOf qual scope L' f cdv)) (execs body (envOf qual scope L' f cdv))
        (fun fl s' => R (.ok (.ret (match fl with | .ret v => v | _ => .none))) s') (fun _ _ => False)
        { s with heap := h₁, toks := s.toks + binds.length }) : codeAny (model PR w) A (.call (.ref f) args) R s := by
  refine codeAny_call_def (fd := fnOf name qual params body scope dV kV doc pm an cdv ct) (body := body) (binds := binds) hroom (X _ _ ho) rfl hlim (codeRec_of X hcd) rfl hbind hcell hloc (fun h₁ hns hk₁ => ?_) hco hgen hk
  exact wpAny_mono (h s.heap.objs.size h₁ ⟨hns, hk₁, Nat.le_refl _⟩ News.nil) (fun _ _ x => x) (fun _ _ x => x.elim)

theorem enterC {w : World} {A : Around} {s : Shared} {K : Frag} {R : Result → Shared → Prop} {name qual : Str} {params : Arguments} {body : List Stmt} {scope : Scope} {dV kV doc pm cdv ct oc : Value} {an od : Option Addr} {osl : Array (Option Value)} {f : Addr} {args : Args} {binds : List (Str × Value)}
    (X : K.In s.heap) (hlim : s.heap.NoLimit)
    (ho : K.lookup f = some ⟨oc, od, .func (fnOf name qual params body scope dV kV doc pm an cdv ct), osl⟩) (hcd : codeIn K cdv qual = true) (hroom : A.depth < recursionLimit)
    (hbind : BindsTo s (fnOf name qual params body scope dV kV doc pm an cdv ct) args binds)
    (hkind : (binds.all fun y => scope.names.lookup y.1 == some .local || scope.names.lookup y.1 == some .cell) = true)
    (hnd : ((cellsFrom 0 scope.names []).map (·.1)).Nodup)
    (hco : scope.isCoroutine = false) (hgen : scope.isGenerator = false) (hk : scope.kind = .function)
    (h : ∀ L' h₁ tk cells, Fr s.heap L' h₁ (bindL (envOfC qual scope L' f cdv).kindOf binds fun _ => none) → News s.heap L' h₁ cells →
      CellsAre (bindC (envOfC qual scope L' f cdv).kindOf binds fun _ => none) (cellsFrom (L' + 1) scope.names []) cells →
      wpAny (model PR w) (A.deeper (envOfC qual scope L' f cdv)) (execs body (envOfC qual scope L' f cdv))
        (fun fl s' => R (.ok (.ret (match fl with | .ret v => v | _ => .none))) s') (fun _ _ => False)
        { s with heap := h₁, toks := tk }) : codeAny (model PR w) A (.call (.ref f) args) R s := by
  refine codeAny_call_function hroom (X _ _ ho) rfl hco hgen rfl (codeRec_of X hcd) (hbind _ _ _ _ ?_)
  refine wpAny_newFunctionEnv_cells hk (kindsX hkind _) fun env' he s' x => ?_
  subst he
  refine ⟨hlim.keeps x.toInCall.keep, codeAny_func ?_⟩
  obtain ⟨h₁, tk, rfl, _⟩ := x.done
  have hk₁ := x.toInCall.keep
  obtain ⟨cells, NC, Y⟩ := Cl.news (h₀ := s.heap) (Nat.le_refl _) fun n c hm => ⟨x.cell n c (lookup_of_mem_nodup (cellsFrom_names scope.names 0 (s.heap.objs.size + 1) [] [] rfl ▸ hnd) hm), x.above n c hm⟩
  exact wpAny_mono (h s.heap.objs.size h₁ tk cells ⟨x.toInCall.ns, hk₁, Nat.le_refl _⟩ NC Y) (fun _ _ x => x) (fun _ _ x => x.elim)
end Mine
end
section
set_option maxRecDepth 100000
set_option maxHeartbeats 8000000
namespace Mine
theorem quiet_LB2 : True := by
  w_top off
  trivial
theorem filled (w : World) : hd.heap_39 w.params = hd.heap_39 w.params ∧ PySem.Challenge.rw_fe0347_01 = PySem.Challenge.rw_fe0347_01 := by
  k_fill
  exact ⟨rfl, rfl⟩
theorem fr_as {h₀ h : Heap} {L : Addr} {m m' : Str → Option Value} (F : Fr h₀ L h m) (e : ∀ y, m y = m' y) : Fr h₀ L h m' := by
  have : m = m' := funext e
  exact this ▸ F
def m2 (a b : String) (va vb : Value) : Str → Option Value := fun y => if y = Str.ofString b then some vb else if y = Str.ofString a then some va else none
theorem look2 (a b : String) (va vb : Value) (y : Str) : List.lookup y [(Str.ofString b, vb), (Str.ofString a, va)] = m2 a b va vb y := by
  unfold m2
  by_cases h1 : y = Str.ofString b
  · simp [List.lookup, h1]
  · have h1' : (y == Str.ofString b) = false := by simpa using h1
    by_cases h2 : y = Str.ofString a
    · subst h2; simp [List.lookup, h1', h1]
    · have h2' : (y == Str.ofString a) = false := by simpa using h2
      simp [List.lookup, h1', h2', h1, h2]
theorem m2_b (a b : String) (va vb v : Value) (y : Str) : (if y = Str.ofString b then some v else m2 a b va vb y) = m2 a b va v y := by
  unfold m2
  by_cases h1 : y = Str.ofString b <;> simp [h1]

def Gives (w : World) (A : Around) (f : Addr) (args : List Value) (s : Shared) (P : Value → Heap → Prop) : Prop :=
  ∀ R : Result → Shared → Prop, (∀ v h' tk, (∀ b o, s.heap.get? b = some o → h'.get? b = some o) → P v h' → R (.ok (.ret v)) { s with heap := h', toks := tk }) →
    codeAny (model PR w) A (.call (.ref f) ⟨args, []⟩) R s
theorem call_gives {w : World} {A : Around} {f : Addr} {vs : List Value} {s : Shared} {P : Value → Heap → Prop} {h₀ : Heap} {L : Addr} {m : Str → Option Value} {news : List (Addr × Obj)} {Q E : Value → Shared → Prop}
    (G : Gives w A f vs s P) (F : Fr h₀ L s.heap m) (N : News h₀ L s.heap news)
    (h : ∀ v h' tk, (∀ b o, s.heap.get? b = some o → h'.get? b = some o) → P v h' → Fr h₀ L h' m → News h₀ L h' news → Q v { s with heap := h', toks := tk }) : wpAny (model PR w) A (call (.ref f) vs) Q E s :=
  wpAny_call (G _ fun v h' tk hk hp => h v h' tk hk hp (F.keeps hk) (N.grown hk))

def digAt (x : Str) (j : Nat) : Bool := !(Builtin.Str.occurrences (Str.ofString "0123456789") (Txt.item x j) 0 (Str.ofString "0123456789").length 1).isEmpty
def pastF (x : Str) : Nat → Nat → Nat
  | 0, j => j
  | f + 1, j => if digAt x j then pastF x f (j + 1) else j
def past (x : Str) (k : Nat) : Nat := pastF x (x.length - k) k
theorem past_end {x : Str} {j : Nat} (h : ¬ j < x.length) : past x j = j := by
  unfold past; rw [show x.length - j = 0 by omega]; rfl
theorem past_no {x : Str} {j : Nat} (h : digAt x j = false) : past x j = j := by
  unfold past; cases x.length - j with
  | zero => rfl
  | succ n => simp [pastF, h]
theorem past_yes {x : Str} {j : Nat} (hj : j < x.length) (h : digAt x j = true) : past x j = past x (j + 1) := by
  unfold past; rw [show x.length - j = (x.length - (j + 1)) + 1 by omega]; simp [pastF, h]
theorem pastF_ge (x : Str) : ∀ f j, j ≤ pastF x f j
  | 0, j => Nat.le_refl j
  | f + 1, j => by
    unfold pastF; split
    · exact Nat.le_trans (Nat.le_succ j) (pastF_ge x f (j + 1))
    · exact Nat.le_refl j
theorem past_ge (x : Str) (j : Nat) : j ≤ past x j := pastF_ge x _ j

section
local macro_rules | `(tactic| walk_at "exec While") => `(tactic| (refine hold ?_))
theorem past_c {w : World} {p : Program} {loose : List Str} {mean : ExcName → Option Value} {mg mb : Str → Option Value} {A : Around} {s : Shared} {x : Str} {k : Int} {t1 t2 : Tok}
    (X : (hd.heap_39 w.params).In s.heap) (T : Top p loose mean mg mb s.heap) (hA : Fit A 360 200) (hx : x.length < 100) (hk : 0 ≤ k) :
    Gives w A 144 [.str x t1, .int k t2] s (fun v _ => ∃ t, v = .int (past x k.toNat) t) := by
  intro R hR
  refine fit_code hA ?_
  obtain ⟨k, rfl⟩ := Int.eq_ofNat_of_zero_le hk
  refine enter X T.nolimit (by rfl) (by rfl) (by decide) (BindsTo.of_eq rfl) (locs rfl) rfl rfl rfl (by decide) (fun L h₁ F N => ?_)
  replace F := fr_as F (m' := m2 "row" "k" (.str x t1) (.int k t2)) (look2 "row" "k" _ _)
  (try dsimp only)
  (try k_unmd)
  k_fold
  k_steps
  refine Hold.out ?_
  refine While_inv2 (L := L) (fun n m' _ => ∃ (j : Nat) (t : Tok), m' = m2 "row" "k" (.str x t1) (.int j t) ∧ n = x.length - j ∧ past x j = past x k) F N ⟨k, t2, rfl, rfl, rfl⟩ ?_
  rintro n _ news h₂ tk F' N' ⟨j, t, rfl, hn, hp⟩
  (try dsimp only)
  k_unmd
  k_fold
  k_steps
  · have := past_no (x := x) (j := j) (by unfold digAt; rw [‹(Builtin.Str.occurrences _ _ _ _ _).isEmpty = true›]; rfl)
    rw [this] at hp; rw [hp]
    exact hR _ _ _ (Fr.keep (by assumption)) ⟨_, rfl⟩
  · have := past_yes (x := x) (j := j) (by omega) (by unfold digAt; rw [‹(Builtin.Str.occurrences _ _ _ _ _).isEmpty = false›]; rfl)
    rename_i F3 N3
    exact ⟨_, _, _, news, _, rfl, fr_as F3 (m2_b _ _ _ _ _), N3, (by rw [hn]; omega : x.length - (j + 1) < n), j + 1, _, rfl, rfl, by rw [← this, hp]⟩
  · have := past_end (x := x) (j := j) (by omega)
    rw [this] at hp; rw [hp]
    exact hR _ _ _ (Fr.keep (by assumption)) ⟨_, rfl⟩
end
end Mine
end
section
namespace Mine
def Kp (h h' : Heap) : Prop := ∀ b o, h.get? b = some o → h'.get? b = some o
/-- an address off the three that move in a comprehension: its block's names, its iterator, the list that grows -/
def Off (C D I : Addr) (l : List (Addr × Obj)) : Prop := ∀ p ∈ l, p.1 ≠ C ∧ p.1 ≠ D ∧ p.1 ≠ I
/-- what a turn's part hands on -/
def Part (h₀ : Heap) (L : Addr) (m : Str → Option Value) (s s' : Shared) (K : List (Addr × Obj) → Prop) : Prop :=
  ∃ h' tk news', s' = { s with heap := h', toks := tk } ∧ Fr h₀ L h' m ∧ News h₀ L h' news' ∧ K news'
theorem Part.intro {h₀ h' : Heap} {L : Addr} {m : Str → Option Value} {s : Shared} {tk : Nat} {news' : List (Addr × Obj)} {K : List (Addr × Obj) → Prop} (F : Fr h₀ L h' m) (N : News h₀ L h' news') (k : K news') :
    Part h₀ L m s { s with heap := h', toks := tk } K := ⟨h', tk, news', rfl, F, N, k⟩
theorem news_sub {h₀ h : Heap} {L : Addr} {l l' : List (Addr × Obj)} (N : News h₀ L h l) (hs : ∀ p ∈ l', p ∈ l) : News h₀ L h l' := fun p hp => N p (hs p hp)
theorem fr_but {h₀ h h' : Heap} {L : Addr} {m : Str → Option Value} (F : Fr h₀ L h m) (k : ∀ b o, (h₀.get? b = some o ∨ b = L) → h.get? b = some o → h'.get? b = some o) : Fr h₀ L h' m := by
  obtain ⟨oL, es, ep, hL, r⟩ := F.ns
  exact ⟨⟨oL, es, ep, k _ _ (.inr rfl) hL, r⟩, fun b o e => k b o (.inl e) (F.keep b o e), F.above⟩
theorem news_but {h₀ h h' : Heap} {L : Addr} {l : List (Addr × Obj)} (N : News h₀ L h l) (k : ∀ b o, (b, o) ∈ l → h.get? b = some o → h'.get? b = some o) : News h₀ L h' l :=
  fun p hp => ⟨k _ _ hp (N p hp).1, (N p hp).2⟩

section
variable {prog : Program} {w : World} {A : Around} {env : Env}

theorem in_I {c d i : Addr × Obj} {l l' : List (Addr × Obj)} {p : Addr × Obj} (h : p ∈ i :: l') (k : ∀ q ∈ l', q ∈ l) : p ∈ c :: d :: i :: l := by
  rcases List.mem_cons.mp h with rfl | h
  · exact .tail _ (.tail _ (.head _))
  · exact .tail _ (.tail _ (.tail _ (k _ h)))
theorem in_3 {c d i : Addr × Obj} {l : List (Addr × Obj)} {p : Addr × Obj} (h : p ∈ l) : p ∈ c :: d :: i :: l := .tail _ (.tail _ (.tail _ h))
theorem comp_loop {R : Result → Shared → Prop} {s : Shared} {elt iter : Expr} {x : Str} {px : Pos} {ifs : List Expr} {scope : Scope} {pos : Pos} {I D C L : Addr} {fp : List Addr} {n : Nat} {P : Nat → Value → Prop} {St : Nat → Heap → Prop}
    {cenv : Env} {m₀ m : Str → Option Value} {h₀ : Heap} {news : List (Addr × Obj)} (W : Walks prog w A I fp [I] n P St) (J : Nat → List Value → List (Addr × Obj) → Prop)
    (hSt : ∀ i h, St i h → (h.get? I).isSome = true)
    (hfp : ∀ b ∈ fp, b = I ∨ (∃ o, h₀.get? b = some o) ∨ ∃ o, (b, o) ∈ news)
    (hlen : ∀ i ys ex, J i ys ex → ys.length ≤ i) (hce : cenv.locals = C)
    (hx : cenv.kindOf x = some .local) (hp : (cenv.scope.kind == .class || (cenv.scope.kind == .module && cenv.locals != cenv.globals)) = false)
    (hDC : D ≠ C) (hIC : I ≠ C) (hID : I ≠ D) (hCL : C ≠ L) (hDL : D ≠ L) (hIL : I ≠ L) (hC0 : h₀.get? C = none) (hD0 : h₀.get? D = none) (hI0 : h₀.get? I = none)
    (hoff : Off C D I news) (hst : St 0 s.heap) (hacc : s.heap.PlainList D #[]) (hn : s.heap.Ns C m₀) (F : Fr h₀ L s.heap m) (N : News h₀ L s.heap news) (h0 : J 0 [] [])
    (turn : ∀ i v ys ex s₂ m₂ oC oD oI E', i < n → P i v → J i ys ex → s₂.heap.Ns C m₂ → m₂ x = some v → Fr h₀ L s₂.heap m → News h₀ L s₂.heap ((C, oC) :: (D, oD) :: (I, oI) :: (ex ++ news)) → Off C D I ex →
      wpAny (model prog w) A (forIn ifs true fun c r => if r = true then do let ok ← isTrue c cenv (eval c cenv); pure (ForInStep.yield ok) else pure (ForInStep.yield r))
        (fun ok s₃ => Hold (Part h₀ L m s₂ s₃ (fun nw => ∀ p ∈ (C, oC) :: (D, oD) :: (I, oI) :: (ex ++ news), p ∈ nw) ∧ if ok = true then
            wpAny (model prog w) A (eval elt cenv) (fun y s₄ => Hold (Part h₀ L m s₃ s₄ fun nw => ∃ ex', (∀ p ∈ (C, oC) :: (D, oD) :: (I, oI) :: (ex' ++ news), p ∈ nw) ∧ Off C D I ex' ∧ J (i + 1) (ys ++ [y]) ex')) E' s₃ else J (i + 1) ys ex)) E' s₂)
    (hR : ∀ h' tk m' ys ex, h'.Ns C m' → h'.PlainList D ys → J n ys.toList ex → Fr h₀ L h' m → News h₀ L h' (ex ++ news) → Off C D I ex → R (.ok .next) { s with heap := h', toks := tk })
    (hsz : n ≤ sizeLine) :
    codeAny (model prog w) A (.compLoop (.ListComp elt [⟨.Name x px, iter, ifs, 0⟩] scope pos) 0 (.ref I) (.ref D) cenv) R s := by
  subst hce
  have ne0 : ∀ b o, h₀.get? b = some o → b ≠ cenv.locals ∧ b ≠ D ∧ b ≠ I := fun b o e => ⟨fun q => (by rw [q, hC0] at e; cases e), fun q => (by rw [q, hD0] at e; cases e), fun q => (by rw [q, hI0] at e; cases e)⟩
  refine codeAny_compLoop_tests
    (fun k s' => ∃ h' tk m' ys ex i, s' = { s with heap := h', toks := tk } ∧ St i h' ∧ h'.PlainList D ys ∧ h'.Ns cenv.locals m' ∧ J i ys.toList ex ∧ Fr h₀ L h' m ∧ News h₀ L h' (ex ++ news) ∧ Off cenv.locals D I ex ∧ i ≤ n ∧ k = n + 1 - i) ?_ (n + 1)
    ⟨s.heap, s.toks, m₀, #[], [], 0, rfl, hst, hacc, hn, h0, F, N, (fun _ h => nomatch h), Nat.zero_le _, rfl⟩
  rintro k s' ⟨H, tk, m', ys, ex, i, rfl, hst', hacc', hn', hJ', F', N', hox, hi, rfl⟩
  have offA : Off cenv.locals D I (ex ++ news) := fun p hp => (List.mem_append.mp hp).elim (hox p) (hoff p)
  by_cases hlt : i < n
  · refine W.item i _ _ _ hlt hst' fun v h₁ tk₁ hPv hst₁ hk₁ => ?_
    refine wpAny_assign_Name (wpAny_storeName_local hx (hn'.at' fun o e => hk₁ _ o (by simpa using Ne.symm hIC) e) (fun h₂ hn₂ hs₂ => ?_) hp)
    have up : ∀ b o, b ≠ cenv.locals → b ≠ I → H.get? b = some o → h₂.get? b = some o := fun b o hbC hbI e => hs₂.extBut b o hbC (hk₁ b o (by simpa using hbI) e)
    have hst₂ : St (i + 1) h₂ := W.frame _ _ _ hst₁ fun b hb o e => hs₂.extBut b o (fun h => by
      rcases hfp b hb with q | ⟨o', q⟩ | ⟨o', q⟩
      · exact hIC (q ▸ h)
      · exact (ne0 _ _ q).1 h
      · exact (hoff _ q).1 h) e
    have hacc₂ : h₂.PlainList D ys := hacc'.at fun o e => up _ o hDC (Ne.symm hID) e
    obtain ⟨oI, eI⟩ := Option.isSome_iff_exists.mp (hSt _ _ hst₂)
    obtain ⟨oC, esC, epC, eC, rC⟩ := id hn₂
    obtain ⟨nD, eD⟩ := id hacc₂
    have F₂ : Fr h₀ L h₂ m := fr_but F' fun b o q e => up b o (q.elim (fun q => (ne0 _ _ q).1) fun q => q ▸ Ne.symm hCL) (q.elim (fun q => (ne0 _ _ q).2.2) fun q => q ▸ Ne.symm hIL) e
    have N₂ : News h₀ L h₂ ((cenv.locals, oC) :: (D, _) :: (I, oI) :: (ex ++ news)) := fun p hp => by
      rcases List.mem_cons.mp hp with rfl | hp
      · exact ⟨eC, hCL, hC0⟩
      rcases List.mem_cons.mp hp with rfl | hp
      · exact ⟨eD, hDL, hD0⟩
      rcases List.mem_cons.mp hp with rfl | hp
      · exact ⟨eI, hIL, hI0⟩
      exact ⟨up _ _ (offA p hp).1 (offA p hp).2.2 (N' p hp).1, (N' p hp).2⟩
    have keepSt : ∀ g nw, News h₀ L g nw → (∀ p ∈ (I, oI) :: news, p ∈ nw) → Fr h₀ L g m → St (i + 1) g := fun g nw Ng hs Fg => W.frame _ _ _ hst₂ fun b hb o e => by
      rcases hfp b hb with rfl | ⟨o', q⟩ | ⟨o', q⟩
      · rw [eI] at e; cases e; exact (Ng _ (hs _ (.head _))).1
      · have := F₂.keep _ _ q; rw [e] at this; cases this; exact Fg.keep _ _ q
      · have := (N₂ _ (List.mem_cons_of_mem _ (List.mem_cons_of_mem _ (List.mem_cons_of_mem _ (List.mem_append_right _ q))))).1
        rw [e] at this; cases this; exact (Ng _ (hs _ (List.mem_cons_of_mem _ q))).1
    refine wpAny_mono (turn i v ys.toList ex _ _ oC _ oI _ hlt hPv hJ' hn₂ (by simp) F₂ N₂ hox) (fun ok s₃ h₃ => ?_) fun _ _ e => e
    obtain ⟨⟨h₃', tk₃, nw₃, rfl, F₃, N₃, sub₃⟩, hb⟩ := h₃
    cases ok with
    | false =>
      simp only [Bool.false_eq_true, if_false] at hb ⊢
      exact ⟨n + 1 - (i + 1), by omega, h₃', tk₃, _, ys, ex, i + 1, rfl, keepSt _ nw₃ N₃ (fun p hp => sub₃ p (in_I hp fun _ h => List.mem_append_right _ h)) F₃, ⟨nD, (N₃ _ (sub₃ _ (.tail _ (.head _)))).1⟩, ⟨oC, esC, epC, (N₃ _ (sub₃ _ (.head _))).1, rC⟩, hb, F₃, news_sub N₃ (fun p hp => sub₃ p (in_3 hp)), hox, hlt, rfl⟩
    | true =>
      simp only [if_true] at hb ⊢
      refine wpAny_mono hb (fun y s₄ h₄ => ?_) fun _ _ e => e
      obtain ⟨h₄', tk₄, nw₄, rfl, F₄, N₄, ex', sub₄, hox', hJ₄⟩ := h₄
      have hys : ys.size ≤ sizeLine := by
        have := hlen _ _ _ hJ'
        rw [Array.length_toList] at this
        omega
      refine wpAny_list_append_plain (hsz := hys) ⟨nD, (N₄ _ (sub₄ _ (.tail _ (.head _)))).1⟩ fun h₅ hl₅ hs₅ => ?_
      have offB : Off cenv.locals D I (ex' ++ news) := fun p hp => (List.mem_append.mp hp).elim (hox' p) (hoff p)
      have F₅ : Fr h₀ L h₅ m := fr_but F₄ fun b o q e => hs₅.extBut b o (q.elim (fun q => (ne0 _ _ q).2.1) fun q => q ▸ Ne.symm hDL) e
      have N₅ : News h₀ L h₅ ((I, oI) :: (ex' ++ news)) := fun p hp =>
        have hm := sub₄ p (in_I hp fun _ h => h)
        ⟨hs₅.extBut _ _ (by
          rcases List.mem_cons.mp hp with rfl | hp
          · exact hID
          · exact (offB p hp).2.1) (N₄ p hm).1, (N₄ p hm).2⟩
      refine ⟨n + 1 - (i + 1), by omega, h₅, tk₄, _, ys.push y, ex', i + 1, rfl, keepSt _ _ N₅ (fun p hp => by
          rcases List.mem_cons.mp hp with rfl | hp
          · exact .head _
          · exact .tail _ (List.mem_append_right _ hp)) F₅, hl₅, ⟨oC, esC, epC, hs₅.extBut _ _ (Ne.symm hDC) (N₄ _ (sub₄ _ (.head _))).1, rC⟩, ?_, F₅, news_sub N₅ (fun p hp => List.mem_cons_of_mem _ hp), hox', hlt, rfl⟩
      rw [Array.toList_push]
      exact hJ₄
  · have hin : i = n := by omega
    subst hin
    refine W.done _ _ _ hst' fun h₁ tk₁ hk₁ => ?_
    have up : ∀ b o, b ≠ I → H.get? b = some o → h₁.get? b = some o := fun b o hbI e => hk₁ b o (by simpa using hbI) e
    exact hR h₁ tk₁ m' ys ex (hn'.at' fun o e => up _ o (Ne.symm hIC) e) (hacc'.at fun o e => up _ o (Ne.symm hID) e) hJ'
      (fr_but F' fun b o q e => up b o (q.elim (fun q => (ne0 _ _ q).2.2) fun q => q ▸ Ne.symm hIL) e) (news_but N' fun b o q e => up b o (offA _ q).2.2 e) hox

/-- what every turn of a comprehension is asked -/
def Turns (prog : Program) (w : World) (A : Around) (env : Env) (scope : Scope) (cl : List (Str × Addr)) (x : Str) (ifs : List Expr) (elt : Expr) (n : Nat) (P : Nat → Value → Prop) (J : Nat → List Value → List (Addr × Obj) → Prop)
    (h₀ : Heap) (L : Addr) (m : Str → Option Value) (news : List (Addr × Obj)) : Prop :=
  ∀ C D I i v ys ex s₂ m₂ oC oD oI E', i < n → P i v → J i ys ex → s₂.heap.Ns C m₂ → m₂ x = some v → Fr h₀ L s₂.heap m → News h₀ L s₂.heap ((C, oC) :: (D, oD) :: (I, oI) :: (ex ++ news)) → Off C D I ex →
    wpAny (model prog w) A (forIn ifs true fun c r => if r = true then do let ok ← isTrue c (compEnvC scope cl C env) (eval c (compEnvC scope cl C env)); pure (ForInStep.yield ok) else pure (ForInStep.yield r))
      (fun ok s₃ => Hold (Part h₀ L m s₂ s₃ (fun nw => ∀ p ∈ (C, oC) :: (D, oD) :: (I, oI) :: (ex ++ news), p ∈ nw) ∧ if ok = true then
          wpAny (model prog w) A (eval elt (compEnvC scope cl C env)) (fun y s₄ => Hold (Part h₀ L m s₃ s₄ fun nw => ∃ ex', (∀ p ∈ (C, oC) :: (D, oD) :: (I, oI) :: (ex' ++ news), p ∈ nw) ∧ Off C D I ex' ∧ J (i + 1) (ys ++ [y]) ex')) E' s₃ else J (i + 1) ys ex)) E' s₂

theorem comp_free {E : Value → Shared → Prop} {s : Shared} {elt iter : Expr} {x : Str} {px : Pos} {ifs : List Expr} {scope : Scope} {cl : List (Str × Addr)} {pos : Pos} {Q : Value → Shared → Prop} {h₀ : Heap} {L : Addr} (J : Nat → List Value → List (Addr × Obj) → Prop)
    (hlen : ∀ i ys ex, J i ys ex → ys.length ≤ i)
    (hclos : closureFor scope env = pure cl) (hcell : ∀ y ∈ scope.names, y.2 ≠ .cell) (hkind : scope.kind = .function)
    (hnames : ∀ y ∈ scope.names, y.2 = .local → scope.names.lookup y.1 = some .local) (hx : scope.names.lookup x = some .local)
    (h : wpAny (model prog w) A (eval iter env) (fun xv s₁ => wpAny (model prog w) A (pyIter xv) (fun it s₂ => ∃ I n P St m news fp, it = .ref I ∧ (∀ i h, St i h → (h.get? I).isSome = true) ∧
      Walks prog w A I fp [I] n P St ∧ (∀ b ∈ fp, b = I ∨ (∃ o, h₀.get? b = some o) ∨ ∃ o, (b, o) ∈ news) ∧ n ≤ sizeLine ∧ St 0 s₂.heap ∧ h₀.get? I = none ∧ I ≠ L ∧ (∀ p ∈ news, p.1 ≠ I) ∧ I < s₂.heap.objs.size ∧
      Fr h₀ L s₂.heap m ∧ News h₀ L s₂.heap news ∧ J 0 [] [] ∧ Turns prog w A env scope cl x ifs elt n P J h₀ L m news ∧
      (∀ D nD h' tk ys ex, Fr h₀ L h' m → News h₀ L h' ((D, ({ cls := .type "list", data := .seq ys nD } : Obj)) :: (ex ++ news)) → (∀ p ∈ ex ++ news, p.1 ≠ D) → J n ys.toList ex → Q (.ref D) { s₂ with heap := h', toks := tk })) E s₁) E s)
    (hs : ∀ x, foldedSetIterable iter env x = pure x) :
    wpAny (model prog w) A (eval (.ListComp elt [⟨.Name x px, iter, ifs, 0⟩] scope pos) env) Q E s := by
  rw [eval_ListComp]
  refine wpAny_comprehension_free (use := none) rfl hs hclos hkind hnames (wpAny_mono h (fun xv s₁ h₁ => wpAny_mono h₁ (fun it s₂ h₂ => ?_) fun _ _ e => e) fun _ _ e => e)
  obtain ⟨I, n, P, St, m, news, fp, rfl, hSt, W, hfp, hsz, hst, hI0, hIL, hIn, hIlt, F, N, h0, hT, hQ⟩ := h₂
  refine wpAny_newObj_type (wpAny_newFunctionEnv hcell (by intro y hy; simp at hy) (fun h₁ hns₁ hsb₁ => ?_) hkind)
  dsimp only at hns₁ hsb₁ ⊢
  generalize hH2 : s₂.heap.push { cls := .type "list", dict := none, data := .seq ([] : List Value).toArray } = H2 at hns₁ hsb₁ ⊢
  have hC : H2.objs.size = s₂.heap.objs.size + 1 := by rw [← hH2, Heap.size_push]
  have hDC : s₂.heap.objs.size ≠ H2.objs.size := by rw [hC]; exact Nat.ne_of_lt (Nat.lt_succ_self _)
  have old : Kp s₂.heap h₁ := fun b o e => hsb₁.extBut b o (by rw [hC]; exact Nat.ne_of_lt (Nat.lt_succ_of_lt (Heap.lt_size e))) (Heap.get?_push_of_some _ (hH2 ▸ Heap.get?_push_of_some _ e))
  have hacc : h₁.PlainList s₂.heap.objs.size #[] := ⟨_, hsb₁.extBut _ _ hDC (Heap.get?_push_of_some _ (hH2 ▸ Heap.get?_push_size _ rfl))⟩
  have new0 : ∀ a, s₂.heap.objs.size ≤ a → h₀.get? a = none := fun a ha => by
    cases e : h₀.get? a with
    | none => rfl
    | some o' => exact absurd (Heap.lt_size (F.keep _ _ e)) (Nat.not_lt.mpr ha)
  have newN : ∀ a, s₂.heap.objs.size ≤ a → ∀ p ∈ news, p.1 ≠ a := fun a ha p hp q => absurd (Heap.lt_size (N p hp).1) (Nat.not_lt.mpr (q ▸ ha))
  have hLlt : L < s₂.heap.objs.size := F.ns.lt
  have leC : s₂.heap.objs.size ≤ H2.objs.size := by rw [hC]; exact Nat.le_succ _
  have hst₁ : St 0 h₁ := W.frame _ _ _ hst fun b _ o e => old b o e
  have loop : ∀ s₃ : Shared, s₃ = { s₂ with heap := h₁, toks := s₂.toks + ([] : List (Str × Value)).length } →
      codeAny (model prog w) A (.compLoop (.ListComp elt [⟨.Name x px, iter, ifs, 0⟩] scope pos) 0 (.ref I) (.ref s₂.heap.objs.size) (compEnvC scope cl H2.objs.size env))
        (compPost (model prog w) A E none Q (.ref s₂.heap.objs.size) H2.objs.size) s₃ := by
    rintro s₃ rfl
    refine comp_loop (cenv := compEnvC scope cl H2.objs.size env) (C := H2.objs.size) (m := m) (h₀ := h₀) (L := L) (news := news) W J hSt hfp hlen rfl (lookup_relabel_local hx) (by simp [compEnvC, relabel, hkind])
      hDC (Nat.ne_of_lt (Nat.lt_of_lt_of_le hIlt leC)) (Nat.ne_of_lt hIlt) (Nat.ne_of_gt (Nat.lt_of_lt_of_le hLlt leC)) (Nat.ne_of_gt hLlt) hIL (new0 _ leC) (new0 _ (Nat.le_refl _)) hI0
      (fun p hp => ⟨newN _ leC p hp, newN _ (Nat.le_refl _) p hp, hIn p hp⟩) hst₁ hacc hns₁ (F.keeps old) (N.grown old) h0
      (fun i v ys ex s₂ m₂ oC oD oI E' a b c d e f g k => hT H2.objs.size _ I i v ys ex s₂ m₂ oC oD oI E' a b c d e f g k) ?_ hsz
    intro h' tk m' ys ex hn hD hJn F' N' hox
    refine ⟨m', hn, fun h'' hs'' => ?_⟩
    obtain ⟨nD, eD⟩ := hD
    have offD : ∀ p ∈ ex ++ news, p.1 ≠ s₂.heap.objs.size := fun p hp => (List.mem_append.mp hp).elim (fun q => (hox p q).2.1) (newN _ (Nat.le_refl _) p)
    have offC : ∀ p ∈ ex ++ news, p.1 ≠ H2.objs.size := fun p hp => (List.mem_append.mp hp).elim (fun q => (hox p q).1) (newN _ leC p)
    have F'' : Fr h₀ L h'' m := fr_but F' fun b o q e => hs''.extBut b o (by
      rintro rfl
      rcases q with q | q
      · rw [new0 _ leC] at q; cases q
      · exact absurd (Nat.lt_of_lt_of_le hLlt leC) (q ▸ Nat.lt_irrefl _)) e
    refine hQ s₂.heap.objs.size nD h'' _ ys ex F'' (fun p hp => ?_) offD hJn
    rcases List.mem_cons.mp hp with rfl | hp
    · exact ⟨hs''.extBut _ _ hDC eD, Nat.ne_of_gt hLlt, new0 _ (Nat.le_refl _)⟩
    · exact ⟨hs''.extBut _ _ (offC p hp) (N' p hp).1, (N' p hp).2⟩
  exact codeAny_compStart_list (loop _ rfl) (W.self 0 _ _ _ hst₁ (loop _ rfl))

theorem comp_range {E : Value → Shared → Prop} {s : Shared} {elt iter : Expr} {x : Str} {px : Pos} {ifs : List Expr} {scope : Scope} {cl : List (Str × Addr)} {pos : Pos} {Q : Value → Shared → Prop} {h₀ : Heap} {L : Addr} (J : Nat → List Value → List (Addr × Obj) → Prop) (a b : Int)
    (hh : A.handled = none) (hlen : ∀ i ys ex, J i ys ex → ys.length ≤ i)
    (hclos : closureFor scope env = pure cl) (hcell : ∀ y ∈ scope.names, y.2 ≠ .cell) (hkind : scope.kind = .function)
    (hnames : ∀ y ∈ scope.names, y.2 = .local → scope.names.lookup y.1 = some .local) (hx : scope.names.lookup x = some .local)
    (hs : ∀ x, foldedSetIterable iter env x = pure x)
    (ha : 0 ≤ a) (ha' : a ≤ 100) (hb : 0 ≤ b) (hb' : b ≤ 100)
    (h : wpAny (model prog w) A (eval iter env) (fun xv s₁ => Hold (∃ r t u v m news, xv = .ref r ∧ IsRange s₁.heap r a b 1 t u v ∧ Fr h₀ L s₁.heap m ∧ News h₀ L s₁.heap news ∧ J 0 [] [] ∧
      Turns prog w A env scope cl x ifs elt (b - a).toNat (fun i v => ∃ t, v = .int (a + i) t) J h₀ L m news ∧
      (∀ D nD h' tk ys ex, Fr h₀ L h' m → News h₀ L h' ((D, ({ cls := .type "list", data := .seq ys nD } : Obj)) :: (ex ++ news)) → (∀ p ∈ ex ++ news, p.1 ≠ D) → J (b - a).toNat ys.toList ex → Q (.ref D) { s₁ with heap := h', toks := tk }))) E s) :
    wpAny (model prog w) A (eval (.ListComp elt [⟨.Name x px, iter, ifs, 0⟩] scope pos) env) Q E s := by
  refine comp_free (h₀ := h₀) (L := L) J hlen hclos hcell hkind hnames hx (wpAny_mono h (fun xv s₁ h₁ => ?_) fun _ _ e => e) hs
  obtain ⟨r, t, u, v, m, news, rfl, hr, F, N, h0, hT, hQ⟩ := h₁
  refine wpAny_pyIter_range hr (small_one (by omega) (by omega) (by omega) (by omega)) ?_
  have hn : Builtin.Range.rangeSize a b 1 = ((b - a).toNat : Int) := by rw [rangeSize_one]; split <;> omega
  have W := Walks.range (prog := prog) (w := w) hh s₁.heap.objs.size a 1 (b - a).toNat
  have kp : Kp s₁.heap (s₁.heap.push { cls := .type "range_iterator", data := .fields #[rawInt a, rawInt (Builtin.Range.rangeSize a b 1), rawInt 1] }) := fun _ _ e => Heap.get?_push_of_some _ e
  have W' : Walks prog w A s₁.heap.objs.size [s₁.heap.objs.size] [s₁.heap.objs.size] (b - a).toNat (fun i v => ∃ t, v = .int (a + i) t) (fun i h => IsRangeIter h s₁.heap.objs.size (a + (i : Nat) * 1) (((b - a).toNat : Int) - (i : Nat)) 1) := by
    simpa only [Int.mul_one] using W
  have h0I : h₀.get? s₁.heap.objs.size = none := by
    cases e : h₀.get? s₁.heap.objs.size with
    | none => rfl
    | some o' => exact absurd (Heap.lt_size (F.keep _ _ e)) (Nat.lt_irrefl _)
  refine ⟨s₁.heap.objs.size, (b - a).toNat, _, _, m, news, _, rfl, ?_, W', ?_, ?_, ?_, h0I, Nat.ne_of_gt F.ns.lt, ?_, ?_, F.keeps kp, N.grown kp, h0, hT, ?_⟩
  · intro i h hit; exact Option.isSome_iff_exists.mpr ⟨_, hit⟩
  · intro b hb; exact .inl (List.mem_singleton.mp hb)
  · rw [sizeLine_eq]; omega
  · show (s₁.heap.push _).get? _ = _
    rw [Heap.get?_push_size _ rfl, hn]
    simp
  · intro p hp q; exact absurd (Heap.lt_size (N p hp).1) (q ▸ Nat.lt_irrefl _)
  · show _ < (s₁.heap.push _).objs.size
    rw [Heap.size_push]; exact Nat.lt_succ_self _
  · intro D nD h' tk ys ex F' N' hD hJ; exact hQ D nD h' tk ys ex F' N' hD hJ

theorem comp_list {E : Value → Shared → Prop} {s : Shared} {elt iter : Expr} {x : Str} {px : Pos} {ifs : List Expr} {scope : Scope} {cl : List (Str × Addr)} {pos : Pos} {Q : Value → Shared → Prop} {h₀ : Heap} {L : Addr} (J : Nat → List Value → List (Addr × Obj) → Prop) (vs : List Value)
    (hh : A.handled = none) (hlen : ∀ i ys ex, J i ys ex → ys.length ≤ i)
    (hclos : closureFor scope env = pure cl) (hcell : ∀ y ∈ scope.names, y.2 ≠ .cell) (hkind : scope.kind = .function)
    (hnames : ∀ y ∈ scope.names, y.2 = .local → scope.names.lookup y.1 = some .local) (hx : scope.names.lookup x = some .local)
    (hs : ∀ x, foldedSetIterable iter env x = pure x) (hvs : vs.length ≤ 100)
    (h : wpAny (model prog w) A (eval iter env) (fun xv s₁ => Hold (∃ r o nn m news, xv = .ref r ∧ (r, o) ∈ news ∧ o.cls = .type "list" ∧ o.data = .seq vs.toArray nn ∧ Fr h₀ L s₁.heap m ∧ News h₀ L s₁.heap news ∧ J 0 [] [] ∧
      Turns prog w A env scope cl x ifs elt vs.length (fun i v => vs[i]? = some v) J h₀ L m news ∧
      (∀ D nD h' tk ys ex, Fr h₀ L h' m → News h₀ L h' ((D, ({ cls := .type "list", data := .seq ys nD } : Obj)) :: (ex ++ news)) → (∀ p ∈ ex ++ news, p.1 ≠ D) → J vs.length ys.toList ex → Q (.ref D) { s₁ with heap := h', toks := tk }))) E s) :
    wpAny (model prog w) A (eval (.ListComp elt [⟨.Name x px, iter, ifs, 0⟩] scope pos) env) Q E s := by
  refine comp_free (h₀ := h₀) (L := L) J hlen hclos hcell hkind hnames hx (wpAny_mono h (fun xv s₁ h₁ => ?_) fun _ _ e => e) hs
  obtain ⟨r, o, nn, m, news, rfl, hr, hcls, hdat, F, N, h0, hT, hQ⟩ := h₁
  have hl : s₁.heap.IsList r vs.toArray := ⟨o, (N _ hr).1, hcls, nn, hdat⟩
  have hlt : r < s₁.heap.objs.size := by obtain ⟨_, e, _⟩ := hl; exact Heap.lt_size e
  refine wpAny_pyIter_list hl ?_
  have W := Walks.list (prog := prog) (w := w) hh s₁.heap.objs.size r (Nat.ne_of_lt hlt) vs.toArray
  have kp : Kp s₁.heap (s₁.heap.push { cls := .type "list_iterator", data := .fields #[.ref r, .int 0 0] }) := fun _ _ e => Heap.get?_push_of_some _ e
  have W' : Walks prog w A s₁.heap.objs.size [s₁.heap.objs.size, r] [s₁.heap.objs.size] vs.length (fun i v => vs[i]? = some v) (fun i h => h.IsListIter s₁.heap.objs.size r i ∧ h.IsList r vs.toArray) := by
    have e : vs.toArray.size = vs.length := List.size_toArray ..
    rw [e] at W
    have e2 : (fun (i : Nat) (v : Value) => vs.toArray[i]? = some v) = fun i v => vs[i]? = some v := by funext i v; simp
    rw [e2] at W
    exact W
  have h0I : h₀.get? s₁.heap.objs.size = none := by
    cases e : h₀.get? s₁.heap.objs.size with
    | none => rfl
    | some o' => exact absurd (Heap.lt_size (F.keep _ _ e)) (Nat.lt_irrefl _)
  refine ⟨s₁.heap.objs.size, vs.length, _, _, m, news, _, rfl, ?_, W', ?_, ?_, ⟨⟨_, Heap.get?_push_size _ rfl, rfl, rfl⟩, hl.push _⟩, h0I, Nat.ne_of_gt F.ns.lt, ?_, ?_, F.keeps kp, N.grown kp, h0, hT, ?_⟩
  · rintro i h ⟨⟨o, e, _⟩, _⟩; exact Option.isSome_iff_exists.mpr ⟨_, e⟩
  · intro b hb
    rcases List.mem_cons.mp hb with rfl | hb
    · exact .inl rfl
    · exact .inr (.inr ⟨o, by rw [List.mem_singleton.mp hb]; exact hr⟩)
  · rw [sizeLine_eq]; omega
  · intro p hp q; exact absurd (Heap.lt_size (N p hp).1) (q ▸ Nat.lt_irrefl _)
  · show _ < (s₁.heap.push _).objs.size
    rw [Heap.size_push]; exact Nat.lt_succ_self _
  · intro D nD h' tk ys ex F' N' hD hJ; exact hQ D nD h' tk ys ex F' N' hD hJ
end
end Mine
end
section
namespace Mine
section
variable {prog : Program} {w : World} {A : Around} {env : Env}

/-- how a turn of a loop ends: the iterator stands, the rest is J's -/
def TurnEnd (h₀ : Heap) (L I : Addr) (oI : Obj) (J : (Str → Option Value) → List (Addr × Obj) → Prop) (s : Shared) (Q : Flow → Shared → Prop) (f : Flow) (s' : Shared) : Prop :=
  match f with
  | .ret v => Q (.ret v) s'
  | .brk => Q .next s'
  | _ => ∃ h' tk m' nw news', s' = { s with heap := h', toks := tk } ∧ Fr h₀ L h' m' ∧ News h₀ L h' nw ∧ (∀ p ∈ (I, oI) :: news', p ∈ nw) ∧ (∀ p ∈ news', p.1 ≠ I) ∧ J m' news'
theorem TurnEnd.next {h₀ h' : Heap} {L I : Addr} {oI : Obj} {J : (Str → Option Value) → List (Addr × Obj) → Prop} {s : Shared} {Q : Flow → Shared → Prop} {tk : Nat} {m' : Str → Option Value} {nw news' : List (Addr × Obj)}
    (F : Fr h₀ L h' m') (N : News h₀ L h' nw) (hs : ∀ p ∈ (I, oI) :: news', p ∈ nw) (ho : ∀ p ∈ news', p.1 ≠ I) (hJ : J m' news') : TurnEnd h₀ L I oI J s Q .next { s with heap := h', toks := tk } :=
  ⟨h', tk, m', nw, news', rfl, F, N, hs, ho, hJ⟩

/-- what every turn is asked -/
def LoopTurns (prog : Program) (w : World) (A : Around) (env : Env) (x : Str) (body : List Stmt) (n : Nat) (P : Nat → Value → Prop) (J : Nat → (Str → Option Value) → List (Addr × Obj) → Prop) (h₀ : Heap) (Q : Flow → Shared → Prop) (E : Value → Shared → Prop) (g : Shared) (I : Addr) : Prop :=
  ∀ i v m₁ news₁ h tk oI, i < n → P i v → J i m₁ news₁ → Fr h₀ env.locals h (fun y => if y = x then some v else m₁ y) → News h₀ env.locals h ((I, oI) :: news₁) → (∀ p ∈ news₁, p.1 ≠ I) →
    wpAny (model prog w) A (execs body env) (fun f s' => Hold (TurnEnd h₀ env.locals I oI (J (i + 1)) { g with heap := h, toks := tk } Q f s')) E { g with heap := h, toks := tk }

theorem for_loop {E : Value → Shared → Prop} {Q : Flow → Shared → Prop} {s : Shared} {x : Str} {px pos : Pos} {iter : Expr} {body : List Stmt} {h₀ : Heap} (J : Nat → (Str → Option Value) → List (Addr × Obj) → Prop)
    (hx : env.kindOf x = some .local) (hp : (env.scope.kind == .class || (env.scope.kind == .module && env.locals != env.globals)) = false)
    (hs : ∀ x, foldedSetIterable iter env x = pure x) (hE : PassesOwn (model prog w) A env E)
    (h : wpAny (model prog w) A (eval iter env) (fun xv s₁ => wpAny (model prog w) A (pyIter xv) (fun it s₂ => ∃ I n P St m news fp, it = .ref I ∧ (∀ i h, St i h → (h.get? I).isSome = true) ∧
      Walks prog w A I fp [I] n P St ∧ (∀ b ∈ fp, b = I ∨ (∃ o, h₀.get? b = some o) ∨ ∃ o, s₂.heap.get? b = some o ∧ ∀ i m' nw, J i m' nw → (b, o) ∈ nw) ∧ (∀ b ∈ fp, b ≠ env.locals) ∧ St 0 s₂.heap ∧ h₀.get? I = none ∧ (∀ p ∈ news, p.1 ≠ I) ∧
      Fr h₀ env.locals s₂.heap m ∧ News h₀ env.locals s₂.heap news ∧ J 0 m news ∧ LoopTurns prog w A env x body n P J h₀ Q E s₂ I ∧
      (∀ h' tk m' news', Fr h₀ env.locals h' m' → News h₀ env.locals h' news' → J n m' news' → Q .next { s₂ with heap := h', toks := tk })) E s₁) E s) :
    wpAny (model prog w) A (exec (.For (.Name x px) iter body [] pos) env) Q E s := by
  refine wpAny_For (wpAny_mono h (fun xv s₁ h₁ => wpAny_mono h₁ (fun it s₂ h₂ => ?_) fun _ _ e => e) fun _ _ e => e) hs
  obtain ⟨I, n, P, St, m, news, fp, rfl, hSt, W, hfp, hfL, hst, hI0, hIn, F, N, h0, hT, hQ⟩ := h₂
  have hIL : I ≠ env.locals := hfL I (W.sub _ (by simp))
  have ne0 : ∀ b o, h₀.get? b = some o → b ≠ I := fun b o e q => (by rw [q, hI0] at e; cases e)
  refine codeAny_forLoop
    (fun k s' => ∃ h' tk m' news' i, s' = { s₂ with heap := h', toks := tk } ∧ St i h' ∧ Fr h₀ env.locals h' m' ∧ News h₀ env.locals h' news' ∧ (∀ p ∈ news', p.1 ≠ I) ∧ J i m' news' ∧ i ≤ n ∧ k = n + 1 - i) ?_ (n + 1)
    ⟨s₂.heap, s₂.toks, m, news, 0, rfl, hst, F, N, hIn, h0, Nat.zero_le _, rfl⟩
  rintro k s' ⟨H, tk, m', news', i, rfl, hst', F', N', hIn', hJ, hi, rfl⟩
  by_cases hlt : i < n
  · refine W.item i _ _ _ hlt hst' fun v h₁ tk₁ hPv hst₁ hk₁ => ?_
    have hk : ∀ b o, b ≠ I → H.get? b = some o → h₁.get? b = some o := fun b o hb e => hk₁ b o (by simpa using hb) e
    refine wpAny_assign_Name (wpAny_storeName_local hx (F'.ns.at' fun o e => hk _ o (Ne.symm hIL) e) (fun h₂ hn₂ hs₂ => ?_) hp)
    have up : ∀ b o, b ≠ env.locals → b ≠ I → H.get? b = some o → h₂.get? b = some o := fun b o hbL hbI e => hs₂.extBut b o hbL (hk b o hbI e)
    have hst₂ : St (i + 1) h₂ := W.frame _ _ _ hst₁ fun b hb o e => hs₂.extBut b o (hfL b hb) e
    obtain ⟨oI, eI⟩ := Option.isSome_iff_exists.mp (hSt _ _ hst₂)
    have F₂ : Fr h₀ env.locals h₂ (fun y => if y = x then some v else m' y) :=
      ⟨hn₂, fun b o e => up b o (Nat.ne_of_lt (Nat.lt_of_lt_of_le (Heap.lt_size e) F.above)) (ne0 b o e) (F'.keep b o e), F.above⟩
    have N₂ : News h₀ env.locals h₂ ((I, oI) :: news') := fun p hp => by
      rcases List.mem_cons.mp hp with rfl | hp
      · exact ⟨eI, hIL, hI0⟩
      · exact ⟨up _ _ (N' p hp).2.1 (hIn' p hp) (N' p hp).1, (N' p hp).2⟩
    refine wpAny_mono (wpAny_passesOwn hE (hT i v m' news' h₂ _ oI hlt hPv hJ F₂ N₂ hIn')) (fun f s₃ h₃ => ?_) fun _ _ e => e
    have keepSt : ∀ g nw m₃ nx, News h₀ env.locals g nw → (∀ p ∈ (I, oI) :: nx, p ∈ nw) → Fr h₀ env.locals g m₃ → J (i + 1) m₃ nx → St (i + 1) g := fun g nw m₃ nx Ng hsub Fg hJg => W.frame _ _ _ hst₂ fun b hb o e => by
      rcases hfp b hb with rfl | ⟨o', q⟩ | ⟨o', q, r⟩
      · rw [eI] at e; cases e; exact (Ng _ (hsub _ (.head _))).1
      · have := F₂.keep _ _ q; rw [e] at this; cases this; exact Fg.keep _ _ q
      · have h1 := (N' _ (r _ _ _ hJ)).1
        have h2 : h₂.get? b = some o' := up b o' (hfL b hb) (hIn' _ (r _ _ _ hJ)) h1
        rw [e] at h2; cases h2
        exact (Ng _ (hsub _ (.tail _ (r _ _ _ hJg)))).1
    cases f with
    | ret v => exact h₃
    | brk => exact h₃
    | cont =>
      obtain ⟨h₃', tk₃, m₃, nw, nx, rfl, F₃, N₃, hsub, hno, hJ₃⟩ := h₃
      exact ⟨n + 1 - (i + 1), by omega, h₃', tk₃, m₃, nx, i + 1, rfl, keepSt _ _ _ _ N₃ hsub F₃ hJ₃, F₃, news_sub N₃ (fun p hp => hsub p (.tail _ hp)), hno, hJ₃, hlt, rfl⟩
    | next =>
      obtain ⟨h₃', tk₃, m₃, nw, nx, rfl, F₃, N₃, hsub, hno, hJ₃⟩ := h₃
      exact ⟨n + 1 - (i + 1), by omega, h₃', tk₃, m₃, nx, i + 1, rfl, keepSt _ _ _ _ N₃ hsub F₃ hJ₃, F₃, news_sub N₃ (fun p hp => hsub p (.tail _ hp)), hno, hJ₃, hlt, rfl⟩
  · have hin : i = n := by omega
    subst hin
    refine W.done _ _ _ hst' fun h₁ tk₁ hk₁ => wpAny_execs_nil ?_
    have hk : ∀ b o, b ≠ I → H.get? b = some o → h₁.get? b = some o := fun b o hb e => hk₁ b o (by simpa using hb) e
    exact hQ h₁ tk₁ m' news' (fr_but F' fun b o q e => hk b o (q.elim (fun q => ne0 b o q) fun q => q ▸ Ne.symm hIL) e) (news_but N' fun b o q e => hk b o (hIn' _ q) e) hJ

theorem for_list {E : Value → Shared → Prop} {Q : Flow → Shared → Prop} {s : Shared} {x : Str} {px pos : Pos} {iter : Expr} {body : List Stmt} {h₀ : Heap} (J : Nat → (Str → Option Value) → List (Addr × Obj) → Prop) (vs : List Value)
    (hh : A.handled = none) (hx : env.kindOf x = some .local) (hp : (env.scope.kind == .class || (env.scope.kind == .module && env.locals != env.globals)) = false)
    (hs : ∀ x, foldedSetIterable iter env x = pure x) (hE : PassesOwn (model prog w) A env E)
    (h : wpAny (model prog w) A (eval iter env) (fun xv s₁ => Hold (∃ r m news, xv = .ref r ∧ s₁.heap.IsList r vs.toArray ∧ (h₀.IsList r vs.toArray ∨ (r ≠ env.locals ∧ ∃ o, s₁.heap.get? r = some o ∧ ∀ i m' nw, J i m' nw → (r, o) ∈ nw)) ∧
      Fr h₀ env.locals s₁.heap m ∧ News h₀ env.locals s₁.heap news ∧ J 0 m news ∧
      (∀ I s₂, s₁.heap.objs.size ≤ I → LoopTurns prog w A env x body vs.length (fun i v => vs[i]? = some v) J h₀ Q E { s₁ with heap := s₂ } I) ∧
      (∀ h' tk m' news', Fr h₀ env.locals h' m' → News h₀ env.locals h' news' → J vs.length m' news' → Q .next { s₁ with heap := h', toks := tk }))) E s) :
    wpAny (model prog w) A (exec (.For (.Name x px) iter body [] pos) env) Q E s := by
  refine for_loop (h₀ := h₀) J hx hp hs hE (wpAny_mono h (fun xv s₁ h₁ => ?_) fun _ _ e => e)
  obtain ⟨r, m, news, rfl, hl, hr, F, N, h0, hT, hQ⟩ := h₁
  have hlt : r < s₁.heap.objs.size := by obtain ⟨_, e, _⟩ := hl; exact Heap.lt_size e
  refine wpAny_pyIter_list hl ?_
  have W := Walks.list (prog := prog) (w := w) hh s₁.heap.objs.size r (Nat.ne_of_lt hlt) vs.toArray
  have kp : Kp s₁.heap (s₁.heap.push { cls := .type "list_iterator", data := .fields #[.ref r, .int 0 0] }) := fun _ _ e => Heap.get?_push_of_some _ e
  have W' : Walks prog w A s₁.heap.objs.size [s₁.heap.objs.size, r] [s₁.heap.objs.size] vs.length (fun i v => vs[i]? = some v) (fun i h => h.IsListIter s₁.heap.objs.size r i ∧ h.IsList r vs.toArray) := by
    have e : vs.toArray.size = vs.length := List.size_toArray ..
    rw [e] at W
    have e2 : (fun (i : Nat) (v : Value) => vs.toArray[i]? = some v) = fun i v => vs[i]? = some v := by funext i v; simp
    rw [e2] at W
    exact W
  have h0I : h₀.get? s₁.heap.objs.size = none := by
    cases e : h₀.get? s₁.heap.objs.size with
    | none => rfl
    | some o' => exact absurd (Heap.lt_size (F.keep _ _ e)) (Nat.lt_irrefl _)
  refine ⟨s₁.heap.objs.size, vs.length, _, _, m, news, _, rfl, ?_, W', ?_, ?_, ⟨⟨_, Heap.get?_push_size _ rfl, rfl, rfl⟩, hl.push _⟩, h0I, ?_, F.keeps kp, N.grown kp, h0, hT _ _ (Nat.le_refl _), hQ⟩
  · rintro i h ⟨⟨o, e, _⟩, _⟩; exact Option.isSome_iff_exists.mpr ⟨_, e⟩
  · intro b hb
    rcases List.mem_cons.mp hb with rfl | hb
    · exact .inl rfl
    · rw [List.mem_singleton.mp hb]
      rcases hr with ⟨o, e, _⟩ | ⟨_, o, e, k⟩
      · exact .inr (.inl ⟨o, e⟩)
      · exact .inr (.inr ⟨o, kp _ _ e, k⟩)
  · intro b hb
    rcases List.mem_cons.mp hb with rfl | hb
    · exact Nat.ne_of_gt F.ns.lt
    · rw [List.mem_singleton.mp hb]
      rcases hr with ⟨o, e, _⟩ | ⟨q, _⟩
      · exact Nat.ne_of_lt (Nat.lt_of_lt_of_le (Heap.lt_size e) F.above)
      · exact q
  · intro p hp q; exact absurd (Heap.lt_size (N p hp).1) (q ▸ Nat.lt_irrefl _)

theorem for_range {E : Value → Shared → Prop} {Q : Flow → Shared → Prop} {s : Shared} {x : Str} {px pos : Pos} {iter : Expr} {body : List Stmt} {h₀ : Heap} (J : Nat → (Str → Option Value) → List (Addr × Obj) → Prop) (a b : Int)
    (hh : A.handled = none) (hx : env.kindOf x = some .local) (hp : (env.scope.kind == .class || (env.scope.kind == .module && env.locals != env.globals)) = false)
    (hs : ∀ x, foldedSetIterable iter env x = pure x) (hE : PassesOwn (model prog w) A env E)
    (ha : 0 ≤ a) (ha' : a ≤ 100) (hb : 0 ≤ b) (hb' : b ≤ 100)
    (h : wpAny (model prog w) A (eval iter env) (fun xv s₁ => Hold (∃ r t u v m news, xv = .ref r ∧ IsRange s₁.heap r a b 1 t u v ∧
      Fr h₀ env.locals s₁.heap m ∧ News h₀ env.locals s₁.heap news ∧ J 0 m news ∧
      (∀ I s₂, s₁.heap.objs.size ≤ I → LoopTurns prog w A env x body (b - a).toNat (fun i v => ∃ t, v = .int (a + i) t) J h₀ Q E { s₁ with heap := s₂ } I) ∧
      (∀ h' tk m' news', Fr h₀ env.locals h' m' → News h₀ env.locals h' news' → J (b - a).toNat m' news' → Q .next { s₁ with heap := h', toks := tk }))) E s) :
    wpAny (model prog w) A (exec (.For (.Name x px) iter body [] pos) env) Q E s := by
  refine for_loop (h₀ := h₀) J hx hp hs hE (wpAny_mono h (fun xv s₁ h₁ => ?_) fun _ _ e => e)
  obtain ⟨r, t, u, v, m, news, rfl, hr, F, N, h0, hT, hQ⟩ := h₁
  refine wpAny_pyIter_range hr (small_one (by omega) (by omega) (by omega) (by omega)) ?_
  have hn : Builtin.Range.rangeSize a b 1 = ((b - a).toNat : Int) := by rw [rangeSize_one]; split <;> omega
  have W := Walks.range (prog := prog) (w := w) hh s₁.heap.objs.size a 1 (b - a).toNat
  have kp : Kp s₁.heap (s₁.heap.push { cls := .type "range_iterator", data := .fields #[rawInt a, rawInt (Builtin.Range.rangeSize a b 1), rawInt 1] }) := fun _ _ e => Heap.get?_push_of_some _ e
  have W' : Walks prog w A s₁.heap.objs.size [s₁.heap.objs.size] [s₁.heap.objs.size] (b - a).toNat (fun i v => ∃ t, v = .int (a + i) t) (fun i h => IsRangeIter h s₁.heap.objs.size (a + (i : Nat) * 1) (((b - a).toNat : Int) - (i : Nat)) 1) := by
    simpa only [Int.mul_one] using W
  have h0I : h₀.get? s₁.heap.objs.size = none := by
    cases e : h₀.get? s₁.heap.objs.size with
    | none => rfl
    | some o' => exact absurd (Heap.lt_size (F.keep _ _ e)) (Nat.lt_irrefl _)
  refine ⟨s₁.heap.objs.size, (b - a).toNat, _, _, m, news, _, rfl, ?_, W', ?_, ?_, ?_, h0I, ?_, F.keeps kp, N.grown kp, h0, hT _ _ (Nat.le_refl _), hQ⟩
  · intro i h hit; exact Option.isSome_iff_exists.mpr ⟨_, hit⟩
  · intro b hb; exact .inl (List.mem_singleton.mp hb)
  · intro b hb; rw [List.mem_singleton.mp hb]; exact Nat.ne_of_gt F.ns.lt
  · show (s₁.heap.push _).get? _ = _
    rw [Heap.get?_push_size _ rfl, hn]
    simp
  · intro p hp q; exact absurd (Heap.lt_size (N p hp).1) (q ▸ Nat.lt_irrefl _)
end
end Mine
end
section
set_option maxRecDepth 100000
set_option maxHeartbeats 8000000
namespace Mine
local macro_rules | `(tactic| walk_at "no such step 0") => `(tactic| fail)
local macro_rules | `(tactic| walk_at "no such step 1") => `(tactic| fail)
theorem quiet_LB3 : True := by
  w_top off
  trivial

def rangeF (x : Str) (k : Int) : Option Nat :=
  if (past x k.toNat : Int) = k then none
  else if Txt.slice x (some (past x k.toNat : Int)) (some ((past x k.toNat : Int) + 1)) == Str.ofString "," then some (past x ((past x k.toNat : Int) + 1).toNat) else some (past x k.toNat)
section
local macro_rules | `(tactic| walk_at "call ref") => `(tactic| ((rename Fr _ _ _ _ => kF); (rename News _ _ _ _ => kN); (refine call_gives (past_c (Frag.In.keeps (by assumption) (Fr.keep kF)) (Top.keeps (by assumption) (Fr.keep kF)) ⟨rfl, Nat.le_of_ble_eq_true rfl, Nat.le_of_ble_eq_true rfl⟩ (by assumption) (by omega)) kF kN ?_); (intro v' h' tk' kk' hv' F' N'); (obtain ⟨t', hv'⟩ := hv'); (subst hv'); clear kF kN kk'; (try dsimp only); (try k_fold)))
theorem range_c {w : World} {p : Program} {loose : List Str} {mean : ExcName → Option Value} {mg mb : Str → Option Value} {A : Around} {s : Shared} {x : Str} {k : Int} {t1 t2 : Tok}
    (X : (hd.heap_39 w.params).In s.heap) (T : Top p loose mean mg mb s.heap) (hA : Fit A 350 170) (hx : x.length < 100) (hk : 0 ≤ k) :
    Gives w A 151 [.str x t1, .int k t2] s (fun v _ => (rangeF x k = none ∧ v = .none) ∨ ∃ (i : Nat) (t : Tok), rangeF x k = some i ∧ v = .int i t) := by
  intro R hR
  refine fit_code hA ?_
  refine enter X T.nolimit (by rfl) (by rfl) (by decide) (BindsTo.of_eq rfl) (locs rfl) rfl rfl rfl (by decide) (fun L h₁ F N => ?_)
  (try dsimp only)
  (try k_unmd)
  k_fold
  k_steps
  · refine hR _ _ _ (Fr.keep (by assumption)) (.inl ⟨?_, rfl⟩)
    unfold rangeF; rw [if_pos (by assumption)]
  · refine hR _ _ _ (Fr.keep (by assumption)) (.inr ⟨_, _, ?_, rfl⟩)
    unfold rangeF; rw [if_neg (by assumption), if_pos (by assumption)]
  · refine hR _ _ _ (Fr.keep (by assumption)) (.inr ⟨_, _, ?_, rfl⟩)
    unfold rangeF; rw [if_neg (by assumption), if_neg (ne_true_of_eq_false (by assumption))]
end
end Mine
end
section
set_option maxRecDepth 100000
set_option maxHeartbeats 8000000
namespace Mine
theorem quiet_LB4 : True := by
  w_top off
  trivial
theorem ns_of {h₀ h h' : Heap} {L C : Addr} {oC : Obj} {l' : List (Addr × Obj)} {m : Str → Option Value} (h1 : h.get? C = some oC) (N' : News h₀ L h' l') (hn : h.Ns C m) (h2 : (C, oC) ∈ l') : h'.Ns C m := by
  obtain ⟨o, es, ep, e, r⟩ := hn
  rw [h1] at e; cases e
  exact ⟨_, es, ep, (N' _ h2).1, r⟩
theorem ints_snoc {vs : List Value} {ns : List Int} (h : IntsAre vs ns) (n : Int) (t : Tok) : IntsAre (vs ++ [.int n t]) (ns ++ [n]) := by
  induction h with
  | nil => exact .cons n t .nil
  | cons k u _ ih => exact .cons k u ih
theorem comp_name {M : Model} {A : Around} {E : Value → Shared → Prop} {s : Shared} {scope : Scope} {cl : List (Str × Addr)} {C : Addr} {env : Env} {x : Str} {pos : Pos} {v : Value} {m : Str → Option Value} {Q : Value → Shared → Prop}
    (hn : s.heap.Ns C m) (hv : m x = some v) (hk : scope.kind = .function) (hx : scope.names.lookup x = some .local) (hd : (x == ("__debug__" : Str)) = false) (h : Q v s) :
    wpAny M A (eval (.Name x pos) (compEnvC scope cl C env)) Q E s :=
  wpAny_Name (wpAny_loadName_local (by simp [compEnvC, relabel, hk]) (lookup_relabel_local hx) hn hv h) hd

def oldAt (x : Str) (i : Int) : Bool := !(Builtin.Str.occurrences (Str.ofString "\t:") (Txt.item x i) 0 (Str.ofString "\t:").length 1).isEmpty || (Txt.slice x (some i) (some (i + 2)) == Str.ofString "  ")
def acd : List Str := [Str.ofString "a", Str.ofString "c", Str.ofString "d"]
def lawIs (k : Int) (x : Str) : Bool :=
  if k = 0 then (Txt.slice x none (some 4) == Str.ofString "@@ -") && (match rangeF x 4 with
    | none => false
    | some i => (Txt.slice x (some (i : Int)) (some ((i : Int) + 2)) == Str.ofString " +") && (match rangeF x ((i : Int) + 2) with
      | none => false
      | some j => Txt.slice x (some (j : Int)) (some ((j : Int) + 3)) == Str.ofString " @@"))
  else if k = 1 then x == Txt.mul (Str.ofString "*") 15
  else if k = 2 then (Txt.slice x none (some 4) == Str.ofString "*** ") && (match rangeF x 4 with
    | none => false
    | some i => Txt.slice x (some (i : Int)) none == Str.ofString " ****")
  else if k = 3 then (match rangeF x 0 with
    | none => false
    | some i => ([Str.ofString "a", Str.ofString "c", Str.ofString "d"].any fun y => y == Txt.slice x (some (i : Int)) (some ((i : Int) + 1))) && (match rangeF x ((i : Int) + 1) with
      | none => false
      | some j => ((j : Int) == (x.length : Int))))
  else if k = 4 then (match rangeF x 0 with
    | none => false
    | some i => [Str.ofString "a", Str.ofString "c", Str.ofString "d"].any fun y => y == Txt.slice x (some (i : Int)) none)
  else if k = 5 then (Txt.slice x none (some 7) == Str.ofString "Index: ") && decide ((7 : Int) < x.length)
  else if k = 6 then (Txt.slice x none (some 4) == Str.ofString "--- ") && (List.range (x.length - 5)).any fun j => oldAt x (5 + (j : Int))
  else ([Str.ofString "-", Str.ofString "+", Str.ofString " ", Str.ofString "!"].any fun y => y == Txt.slice x none (some 1)) && (Txt.slice x (some 1) (some 2) == Str.ofString " ")

section
theorem call_range {w : World} {p : Program} {loose : List Str} {mean : ExcName → Option Value} {mg mb : Str → Option Value} {A : Around} {s : Shared} {x : Str} {k : Int} {t1 t2 : Tok} {h₀ : Heap} {L : Addr} {m : Str → Option Value} {news : List (Addr × Obj)} {Q E : Value → Shared → Prop}
    (F : Fr h₀ L s.heap m) (N : News h₀ L s.heap news) (X : (hd.heap_39 w.params).In h₀) (T : Top p loose mean mg mb h₀) (hA : Fit A 350 170) (hx : x.length < 100) (hk : 0 ≤ k)
    (h1 : ∀ h' tk, rangeF x k = none → Fr h₀ L h' m → News h₀ L h' news → Q .none { s with heap := h', toks := tk })
    (h2 : ∀ (i : Nat) (t : Tok) h' tk, rangeF x k = some i → Fr h₀ L h' m → News h₀ L h' news → Q (.int i t) { s with heap := h', toks := tk }) :
    wpAny (model PR w) A (call (.ref 151) [.str x t1, .int k t2]) Q E s :=
  call_gives (range_c (X.keeps F.keep) (T.keeps F.keep) hA hx hk) F N fun v h' tk _ hP F' N' => by
    rcases hP with ⟨e, rfl⟩ | ⟨i, t, e, rfl⟩
    · exact h1 h' tk e F' N'
    · exact h2 i t h' tk e F' N'
local macro_rules | `(tactic| walk_at "call ref") => `(tactic| ((rename Fr _ _ _ _ => kF); (rename News _ _ _ _ => kN); (refine call_range kF kN (by assumption) (by assumption) ⟨rfl, Nat.le_of_ble_eq_true rfl, Nat.le_of_ble_eq_true rfl⟩ (by assumption) (by omega) ?_ ?_) <;> clear kF kN))
local macro_rules | `(tactic| walk_at "forall") => `(tactic| ((with_reducible show ∀ _ _, rangeF _ _ = none → _); intro h' tk' hq' F' N'; (try dsimp only); (try k_fold)))
local macro_rules | `(tactic| walk_at "forall") => `(tactic| ((with_reducible show ∀ _ _ _ _, rangeF _ _ = some _ → _); intro i' t' h' tk' hq' F' N'; (try dsimp only); (try k_fold)))
local macro_rules | `(tactic| walk_at "eval ListComp") => `(tactic| (refine hold ?_))
local macro_rules | `(tactic| walk_at "m_end") => `(tactic| (rename ∀ _ _ _, _ → _ → _ => hR'; refine hR' _ _ _ (Fr.keep (by assumption)) ?_; (try dsimp only); simp [lawIs, *]))
theorem is_c {w : World} {p : Program} {loose : List Str} {mean : ExcName → Option Value} {mg mb : Str → Option Value} {A : Around} {s : Shared} {x : Str} {k : Int} {t1 t2 : Tok}
    (X : (hd.heap_39 w.params).In s.heap) (T : Top p loose mean mg mb s.heap) (hA : Fit A 340 140) (hx : x.length < 100) :
    Gives w A 156 [.int k t2, .str x t1] s (fun v _ => v = .bool (lawIs k x)) := by
  intro R hR
  refine fit_code hA ?_
  refine enterC X T.nolimit (by rfl) (by rfl) (by decide) (BindsTo.of_eq rfl) (by rfl) (by decide +kernel) rfl rfl rfl (fun L h₁ tk cells F N Y => ?_)
  k_cells Y
  (try dsimp only)
  (try k_unmd)
  k_fold
  k_steps
  all_goals try (refine hR _ _ _ (Fr.keep (by assumption)) ?_; (try dsimp only); simp [lawIs, *]; done)
  all_goals try (refine hR _ _ _ (Fr.keep (by assumption)) ?_; (try dsimp only); simp only [bne, Bool.not_eq_true', Bool.not_eq_false'] at *; simp [lawIs, *]; done)
  refine Hold.out ?_
  refine comp_range (h₀ := s.heap) (L := L) (fun i ys ex => ys.length ≤ i ∧ ex = [] ∧ (∃ js, IntsAre ys js) ∧ ((ys = []) ↔ ∀ j < i, oldAt x (5 + j) = false)) 5 x.length rfl (fun _ _ _ a => a.1) (by rfl) (by decide) (by rfl) (by decide) (by rfl) (fun _ => by rfl) (by decide) (by decide) (by omega) (by omega) ?_
  k_steps
  rename_i hr F5 N5 k5
  refine Hold.out ⟨_, _, _, _, _, _, rfl, hr, F5, N5, ⟨by simp, by simp, ⟨[], .nil⟩, by simp⟩, ?_, ?_⟩
  · rintro C D I i v ys _ s₂ m₂ oC oD oI E' hi ⟨t, rfl⟩ ⟨hl, rfl, ⟨js, hjs⟩, he⟩ hn hm F6 N6 ho
    have eC : s₂.heap.get? C = some oC := (N6 _ (.head _)).1
    clear F5 N5 k5
    (try simp only [List.nil_append] at N6)
    (try k_unmd)
    (try dsimp only)
    (try k_fold)
    k_steps
    · have ht : oldAt x (5 + i) = true := by unfold oldAt; simp [*]
      refine ⟨Part.intro (by assumption) (by assumption) (fun _ h => h), ?_⟩
      rw [if_pos rfl]
      refine comp_name (ns_of eC (by assumption) hn (.head _)) hm rfl (by rfl) (by decide) ?_
      exact Part.intro (by assumption) (by assumption) ⟨[], fun _ h => h, (fun _ h => nomatch h), by rw [List.length_append, List.length_singleton]; omega, rfl, ⟨_, ints_snoc hjs _ _⟩, ⟨fun e => absurd e (by simp), fun e => absurd (e i (Nat.lt_succ_self _)) (by rw [ht]; decide)⟩⟩
    · have ht : oldAt x (5 + i) = false := by unfold oldAt; simp [*]
      refine ⟨Part.intro (by assumption) (by assumption) (fun _ h => h), ?_⟩
      rw [if_neg Bool.false_ne_true]
      refine ⟨by omega, rfl, ⟨_, hjs⟩, he.trans ⟨fun h j hj => ?_, fun h j hj => h j (Nat.lt_succ_of_lt hj)⟩⟩
      rcases Nat.lt_succ_iff_lt_or_eq.mp hj with hj | rfl
      · exact h j hj
      · exact ht
    · have ht : oldAt x (5 + i) = true := by unfold oldAt; simp [*]
      refine ⟨Part.intro (by assumption) (by assumption) (fun _ h => h), ?_⟩
      rw [if_pos rfl]
      refine comp_name (ns_of eC (by assumption) hn (.head _)) hm rfl (by rfl) (by decide) ?_
      exact Part.intro (by assumption) (by assumption) ⟨[], fun _ h => h, (fun _ h => nomatch h), by rw [List.length_append, List.length_singleton]; omega, rfl, ⟨_, ints_snoc hjs _ _⟩, ⟨fun e => absurd e (by simp), fun e => absurd (e i (Nat.lt_succ_self _)) (by rw [ht]; decide)⟩⟩
  · rintro D nD h' tk' ys _ F6 N6 hD ⟨hl, rfl, ⟨js, hjs⟩, he⟩
    clear F5 N5 k5
    simp only [List.nil_append] at N6
    (try k_unmd)
    (try dsimp only)
    (try k_fold)
    k_steps
    refine hR _ _ _ (Fr.keep (by assumption)) ?_
    have hz : (js = []) ↔ ∀ j < x.length - 5, oldAt x (5 + (j : Int)) = false := by
      have e1 : ((x.length : Int) - 5).toNat = x.length - 5 := by omega
      rw [e1] at he
      rw [← he]
      constructor
      · intro e; have := hjs.length; rw [e] at this; exact List.length_eq_zero_iff.mp this
      · intro e; have := hjs.length; rw [e] at this; exact List.length_eq_zero_iff.mp this.symm
    have e2 : (!decide (js = [])) = (List.range (x.length - 5)).any fun j => oldAt x (5 + (j : Int)) := by
      rw [Bool.eq_iff_iff]
      simp only [Bool.not_eq_true', decide_eq_false_iff_not, List.any_eq_true, List.mem_range, hz]
      constructor
      · intro h
        apply Classical.byContradiction
        intro h2
        exact h fun j hj => by
          cases e : oldAt x (5 + (j : Int)) with
          | false => rfl
          | true => exact absurd ⟨j, hj, e⟩ h2
      · rintro ⟨j, hj, e⟩ h; rw [h j hj] at e; cases e
    rw [e2]
    simp [lawIs, *]
end
end Mine
end
section
set_option maxRecDepth 100000
set_option maxHeartbeats 8000000
namespace Mine
theorem quiet_LB5 : True := by
  w_top off
  trivial
def patAt (k : Int) : Addr := if k = 0 then 60 else if k = 1 then 65 else if k = 2 then 70 else if k = 3 then 85 else if k = 4 then 80 else if k = 5 then 50 else if k = 6 then 55 else 75
theorem pattern_c {w : World} {p : Program} {loose : List Str} {mean : ExcName → Option Value} {mg mb : Str → Option Value} {A : Around} {s : Shared} {k : Int} {t2 : Tok}
    (X : (hd.heap_39 w.params).In s.heap) (T : Top p loose mean mg mb s.heap) (hA : Fit A 340 140) :
    Gives w A 130 [.int k t2] s (fun v _ => v = .ref (patAt k)) := by
  intro R hR
  refine fit_code hA ?_
  refine enter X T.nolimit (by rfl) (by rfl) (by decide) (BindsTo.of_eq rfl) (locs rfl) rfl rfl rfl (by decide) (fun L h₁ F N => ?_)
  (try dsimp only)
  (try k_unmd)
  k_fold
  k_steps
  all_goals (refine hR _ _ _ (Fr.keep (by assumption)) ?_; simp [patAt, *])
end Mine
end
section
open PySem PySem.W PyProof.Rows PySem.Builtin.Re
set_option maxRecDepth 100000
namespace Mine
/-- a pattern and its code, where they stand -/
def PatAt (h : Heap) (a tup : Addr) (code : List Nat) (g : Nat) : Prop :=
  ∃ (p : Str) (t u : Tok), h.get? a = some { cls := .type "re.Pattern", data := .fields #[.str p t, .int 32 u, .int (g : Int) 0, .none, .none, .ref tup, .int 0 0] } ∧
    h.get? tup = some { cls := .type "tuple", data := .seq (code.map fun (c : Nat) => Value.int (c : Int) 0).toArray }
def patA : Nat → Addr
  | 0 => 60
  | 1 => 65
  | 2 => 70
  | 3 => 85
  | 4 => 80
  | 5 => 50
  | 6 => 55
  | _ => 75
def patT : Nat → Addr
  | 0 => 59
  | 1 => 64
  | 2 => 69
  | 3 => 84
  | 4 => 79
  | 5 => 49
  | 6 => 54
  | _ => 74
def patG : Nat → Nat
  | 0 => 5
  | 1 => 0
  | 2 => 2
  | 3 => 5
  | 4 => 3
  | 5 => 1
  | 6 => 2
  | _ => 2
def patC : Nat → List Nat
  | 0 => [14, 4, 0, 11, 4294967295, 6, 0, 16, 64, 16, 64, 16, 32, 16, 45, 17, 0, 24, 9, 1, 4294967295, 13, 4, 8, 10, 0, 1, 17, 1, 24, 6, 0, 1, 16, 44, 1, 17, 2, 24, 9, 0, 4294967295, 13, 4, 8, 10, 0, 1, 17, 3, 16, 32, 16, 43, 17, 4, 24, 9, 1, 4294967295, 13, 4, 8, 10, 0, 1, 17, 5, 24, 6, 0, 1, 16, 44, 1, 17, 6, 24, 9, 0, 4294967295, 13, 4, 8, 10, 0, 1, 17, 7, 16, 32, 16, 64, 16, 64, 17, 8, 24, 5, 0, 4294967295, 2, 1, 17, 9, 6, 5, 1]
  | 1 => [14, 4, 0, 15, 15, 6, 0, 16, 42, 16, 42, 16, 42, 16, 42, 16, 42, 16, 42, 16, 42, 16, 42, 16, 42, 16, 42, 16, 42, 16, 42, 16, 42, 16, 42, 16, 42, 6, 5, 1]
  | 2 => [14, 4, 0, 10, 4294967295, 6, 0, 16, 42, 16, 42, 16, 42, 16, 32, 17, 0, 24, 9, 1, 4294967295, 13, 4, 8, 10, 0, 1, 17, 1, 24, 6, 0, 1, 16, 44, 1, 17, 2, 24, 9, 0, 4294967295, 13, 4, 8, 10, 0, 1, 17, 3, 16, 32, 16, 42, 16, 42, 16, 42, 16, 42, 6, 5, 1]
  | 3 => [14, 4, 0, 3, 4294967295, 6, 0, 17, 0, 24, 9, 1, 4294967295, 13, 4, 8, 10, 0, 1, 17, 1, 24, 6, 0, 1, 16, 44, 1, 17, 2, 24, 9, 0, 4294967295, 13, 4, 8, 10, 0, 1, 17, 3, 17, 4, 13, 7, 16, 97, 22, 99, 100, 0, 17, 5, 17, 6, 24, 9, 1, 4294967295, 13, 4, 8, 10, 0, 1, 17, 7, 24, 6, 0, 1, 16, 44, 1, 17, 8, 24, 9, 0, 4294967295, 13, 4, 8, 10, 0, 1, 17, 9, 6, 5, 1]
  | 4 => [14, 4, 0, 2, 4294967295, 6, 0, 17, 0, 24, 9, 1, 4294967295, 13, 4, 8, 10, 0, 1, 17, 1, 24, 6, 0, 1, 16, 44, 1, 17, 2, 24, 9, 0, 4294967295, 13, 4, 8, 10, 0, 1, 17, 3, 17, 4, 13, 7, 16, 97, 22, 99, 100, 0, 17, 5, 6, 5, 1]
  | 5 => [14, 4, 0, 8, 4294967295, 6, 0, 16, 73, 16, 110, 16, 100, 16, 101, 16, 120, 16, 58, 16, 32, 17, 0, 24, 5, 1, 4294967295, 2, 1, 17, 1, 6, 5, 1]
  | 6 => [14, 4, 0, 6, 4294967295, 6, 0, 16, 45, 16, 45, 16, 45, 16, 32, 17, 0, 26, 5, 1, 4294967295, 2, 1, 17, 1, 7, 5, 16, 9, 15, 19, 5, 16, 58, 15, 14, 12, 16, 32, 24, 6, 1, 4294967295, 16, 32, 1, 15, 2, 0, 17, 2, 24, 5, 0, 4294967295, 2, 1, 17, 3, 6, 5, 1]
  | _ => [14, 4, 0, 2, 4294967295, 6, 0, 17, 0, 13, 11, 9, 0, 10243, 0, 0, 0, 0, 0, 0, 0, 17, 1, 16, 32, 17, 2, 24, 5, 0, 4294967295, 2, 1, 17, 3, 6, 5, 1]
theorem pat_at {w : World} {h : Heap} (X : (hd.heap_39 w.params).In h) : ∀ k, k < 8 → PatAt h (patA k) (patT k) (patC k) (patG k)
  | 0, _ => ⟨_, _, _, X 60 _ rfl, X 59 _ rfl⟩
  | 1, _ => ⟨_, _, _, X 65 _ rfl, X 64 _ rfl⟩
  | 2, _ => ⟨_, _, _, X 70 _ rfl, X 69 _ rfl⟩
  | 3, _ => ⟨_, _, _, X 85 _ rfl, X 84 _ rfl⟩
  | 4, _ => ⟨_, _, _, X 80 _ rfl, X 79 _ rfl⟩
  | 5, _ => ⟨_, _, _, X 50 _ rfl, X 49 _ rfl⟩
  | 6, _ => ⟨_, _, _, X 55 _ rfl, X 54 _ rfl⟩
  | 7, _ => ⟨_, _, _, X 75 _ rfl, X 74 _ rfl⟩
  | k + 8, h => by omega
theorem slot_match : Slot "re.Pattern" "match" "re.Pattern.match" :=
  .of (owner := "re.Pattern") (n := "match") (by rw [typeLookup_type, builtinLookup_eq_fast]; kernel_rfl) (by decide +kernel) (by decide +kernel) (by decide +kernel)
    (by first | exact .inl (by decide +kernel) | exact .inr (by decide +kernel)) (by rw [isSubtype_type]; kernel_rfl)
theorem type_match : typeOf (.builtin "re.Pattern.match") = pure (.type "method_descriptor") := by show builtinType _ = _; rw [builtinType_eq_fast]; kernel_rfl
theorem entry_match : entryFor table "re.Pattern.match" = some Builtin.«re.Pattern.match» := entryFor_of_tree (by kernel_rfl)
theorem owner_pat : Manifest.owners.lookup (String.ofList ['n', 'r', 'e', 't', 't', 'a', 'P', '.', 'e', 'r'].reverse) = some Manifest.sig_re_Pattern := by kernel_rfl
theorem plainAttrs_pat : PlainAttrs "re.Pattern" :=
  ⟨⟨"object.__getattribute__", by rw [typeLookup_type, builtinLookup_eq_fast]; kernel_rfl, by decide +kernel⟩, by rw [typeLookup_type, builtinLookup_eq_fast]; kernel_rfl⟩
theorem noBool_match : typeLookup (.type "re.Match") "__bool__" = pure none := by rw [typeLookup_type, builtinLookup_eq_fast]; kernel_rfl
theorem noLen_match : typeLookup (.type "re.Match") "__len__" = pure none := by rw [typeLookup_type, builtinLookup_eq_fast]; kernel_rfl
theorem args_match (a b : Value) : argsOk "re.Pattern.match" ⟨[a, b], []⟩ := by
  unfold argsOk; rw [signature?_of (id := "re.Pattern.match") (n := ['h', 'c', 't', 'a', 'm']) (o := ['n', 'r', 'e', 't', 't', 'a', 'P', '.', 'e', 'r']) (by kernel_rfl) owner_pat]; kernel_rfl

open PySem.Sre in
theorem runFor_done : ∀ (n : Nat) (m : M), m.outcome.isSome = true → M.runFor n m = m
  | 0, _, _ => rfl
  | n + 1, m, h => by simp [M.runFor, h]
open PySem.Sre in
theorem runFor_add : ∀ (a b : Nat) (m : M), M.runFor (a + b) m = M.runFor b (M.runFor a m)
  | 0, b, m => by rw [Nat.zero_add]; rfl
  | a + 1, b, m => by
    by_cases h : m.outcome.isSome = true
    · rw [runFor_done _ m h, runFor_done (a + 1) m h, runFor_done _ m h]
    · rw [show a + 1 + b = (a + b) + 1 by omega]
      simp only [M.runFor, h]
      exact runFor_add a b _
section
variable {prog : Program} {w : World} {A : Around} {E : Value → Shared → Prop} {s : Shared}
open PySem.Sre in
theorem drive_of : ∀ (n turns : Nat) (m : M) (Q : M → Shared → Prop), n < turns → (M.runFor (4 * n) m).outcome.isSome = true → Q (M.runFor (4 * n) m) s → wpAny (model prog w) A (reDrive turns m) Q E s
  | n, 0, _, _, h, _, _ => absurd h (Nat.not_lt_zero _)
  | n, turns + 1, m, Q, ht, ho, hQ => by
    unfold reDrive
    by_cases h : (M.runFor reTurnSteps m).outcome.isSome = true
    · dsimp only
      rw [if_pos h]
      refine wpAny_pure ?_
      have e : M.runFor (4 * n) m = M.runFor reTurnSteps m := by
        cases n with
        | zero =>
          have h0 : m.outcome.isSome = true := ho
          rw [runFor_done _ m h0, runFor_done _ m h0]
        | succ n =>
          rw [show 4 * (n + 1) = 4 + 4 * n by omega, runFor_add]
          exact runFor_done _ _ h
      rw [← e]; exact hQ
    · dsimp only
      rw [if_neg h]
      refine wpAny_bind (wpAny_rule ?_)
      cases n with
      | zero =>
        have h0 : m.outcome.isSome = true := ho
        rw [runFor_done _ m h0] at h
        exact absurd h0 h
      | succ n =>
        have e : M.runFor (4 * (n + 1)) m = M.runFor (4 * n) (M.runFor reTurnSteps m) := by
          rw [show 4 * (n + 1) = 4 + 4 * n by omega, runFor_add]; rfl
        rw [e] at ho hQ
        exact drive_of n turns _ Q (by omega) ho hQ

theorem forIn_rules {α : Type} (f : α → PUnit → Sem (ForInStep PUnit)) {Q : PUnit → Shared → Prop} : ∀ (l : List α), (∀ x ∈ l, ∀ (R : ForInStep PUnit → Shared → Prop), R (.yield PUnit.unit) s → wpAny (model prog w) A (f x PUnit.unit) R E s) → Q PUnit.unit s →
    wpAny (model prog w) A (forIn l PUnit.unit f) Q E s
  | [], _, h => by rw [List.forIn_nil]; exact wpAny_pure h
  | x :: r, k, h => by
    rw [List.forIn_cons]
    refine wpAny_bind (k x (.head _) _ ?_)
    exact forIn_rules f r (fun y hy => k y (.tail _ hy)) h

open PySem.Sre in
theorem runToEnd_of {n : Nat} {m : M} {Q : Option M → Shared → Prop} (hn : n < 2 ^ 64) (b : Bool) (ho : (M.runFor (4 * n) m).outcome = some (if b then .matched else .failed))
    (hQ : Q (if b then some (M.runFor (4 * n) m) else none) s) : wpAny (model prog w) A (reRunToEnd m) Q E s := by
  unfold reRunToEnd
  refine wpAny_bind (drive_of n _ m _ hn (by rw [ho]; rfl) ?_)
  refine wpAny_bind (forIn_rules _ _ (fun i _ R hR => ?_) ?_)
  · split
    · exact wpAny_bind (wpAny_rule (wpAny_pure hR))
    · exact wpAny_pure hR
  · rw [ho]
    cases b with
    | true => exact wpAny_pure hQ
    | false => exact wpAny_pure hQ

open PySem.Sre in
def badSpan (g : Nat) (m : M) : Bool := (List.range g).any (fun g => match m.marks.getD (2 * g) none, m.marks.getD (2 * g + 1) none with | some b, some e => ((2 * g + 1 : Nat) : Int) ≤ m.lastmark && e < b | _, _ => false)
open PySem.Sre in
def reOut (code : List Nat) (g : Nat) (x : Str) : Option Bool :=
  let m := M.runFor (4 * 100) (forMatch code.toArray x.cps g 0 x.cps.size false false)
  match m.outcome with
  | some .matched => if badSpan g m then none else some true
  | some .failed => some false
  | _ => none
theorem named_one (v : Value) : reNamed "re.Pattern.match" "match" ["string", "pos", "endpos"] 1 [v] [] = pure [some v, none, none] := by
  with_unfolding_all rfl
theorem raw_code (code : List Nat) : ((code.map fun (c : Nat) => Value.int (c : Int) 0).toArray.map reRawOf).map (·.toNat) = code.toArray := by
  simp [reRawOf, Function.comp_def]

theorem flat_two {f : Nat → List Value} : ∀ {l : List Nat}, (∀ a, (f a).length ≤ 2) → (l.flatMap f).length ≤ 2 * l.length
  | [], _ => by simp
  | a :: r, h => by
    rw [List.flatMap_cons, List.length_append, List.length_cons]
    have h1 := h a
    have h2 := flat_two (l := r) h
    omega
open PySem.Sre in
theorem match_at {a tup : Addr} {code : List Nat} {g : Nat} {x : Str} {t : Tok} {b : Bool} {Q : Value → Shared → Prop} (P : PatAt s.heap a tup code g) (hx : x.length < 100) (hg : g ≤ 10) (hr : reOut code g x = some b)
    (h1 : b = true → ∀ D h' vs, (∀ b o, s.heap.get? b = some o → h'.get? b = some o) → h'.get? D = some { cls := .type "re.Match", data := .fields vs } → s.heap.objs.size ≤ D → Q (.ref D) { s with heap := h' })
    (h0 : b = false → Q .none s) : wpAny (model prog w) A (call (.builtin "re.Pattern.match") [.ref a, .str x t]) Q E s := by
  obtain ⟨p, tp, tu, ha, htup⟩ := P
  refine wpAny_call_entry slot_match ⟨_, ha, rfl⟩ entry_match ?_ (args_match _ _)
  unfold Builtin.«re.Pattern.match»
  refine wpAny_bind ?_
  unfold reTarget
  dsimp only
  rw [named_one]
  refine wpAny_bind (wpAny_pure ?_)
  dsimp only
  refine wpAny_bind (wpAny_pure (wpAny_bind (wpAny_pure ?_)))
  refine wpAny_bind (wpAny_fieldsOf ha rfl ?_)
  refine wpAny_bind (m := reTextOf (.str x t)) (wpAny_pure ?_)
  dsimp only
  rw [if_neg (by simp), if_neg (by simp [reRawNat])]
  refine wpAny_bind (m := reNoCollectionInside (.str x t) 0) (wpAny_pure ?_)
  refine wpAny_bind (wpAny_bind (wpAny_seqItems (o := { cls := .type "tuple", data := .seq (code.map fun (c : Nat) => Value.int (c : Int) 0).toArray }) (n := 0) htup rfl (wpAny_pure (wpAny_pure ?_))))
  have e1 : (min (Int.toNat 0) x.cps.size) = 0 := by simp
  have hx' : x.cps.size < 100 := hx
  have e2 : min ((2 ^ 63 - 1 : Int)).toNat x.cps.size = x.cps.size := Nat.min_eq_right (by omega)
  have e3 : reRawNat (#[Value.str p tp, Value.int 32 tu, Value.int (↑g) 0, Value.none, Value.none, Value.ref tup, Value.int 0 0].getD 2 Value.none) = g := by simp [reRawNat]
  dsimp only [Option.getD_some]
  rw [raw_code, e1, e2, e3]
  unfold reAnswer
  dsimp only
  unfold reOut at hr
  dsimp only at hr
  have ho : (M.runFor (4 * 100) (forMatch code.toArray x.cps g 0 x.cps.size false false)).outcome = some (if b then .matched else .failed) := by
    split at hr
    · rename_i e
      split at hr
      · cases hr
      · cases hr; exact e
    · rename_i e; cases hr; exact e
    · cases hr
  refine wpAny_bind (runToEnd_of (n := 100) (by decide) b ho ?_)
  cases b with
  | false => exact wpAny_bind (wpAny_pure (wpAny_pure ⟨_, rfl, h0 rfl⟩))
  | true =>
    have ho' : (M.runFor (4 * 100) (forMatch code.toArray x.cps g 0 x.cps.size false false)).outcome = some .matched := ho
    rw [ho'] at hr
    rw [if_pos rfl]
    have hb : badSpan g (M.runFor (4 * 100) (forMatch code.toArray x.cps g 0 x.cps.size false false)) = false := by
      cases e : badSpan g (M.runFor (4 * 100) (forMatch code.toArray x.cps g 0 x.cps.size false false)) with
      | false => rfl
      | true => rw [e] at hr; cases hr
    generalize M.runFor (4 * 100) (forMatch code.toArray x.cps g 0 x.cps.size false false) = m at hb ⊢
    unfold badSpan at hb
    dsimp only
    unfold reNewMatch
    dsimp only
    refine wpAny_bind ?_
    refine wpAny_ite ?_
    split
    · rename_i h; exact Bool.noConfusion (Eq.trans (Eq.symm hb) h)
    refine wpAny_bind (wpAny_newTuple ?_ ?_)
    · refine wpAny_newObj_type (wpAny_pure ⟨_, rfl, ?_⟩) (by simp [sizeOk, sizeLine_eq])
      refine h1 rfl _ _ _ (fun b o e => Heap.get?_push_of_some _ (Heap.get?_push_of_some _ e)) (Heap.get?_push_size _ rfl) ?_
      dsimp only
      rw [Heap.size_push]; exact Nat.le_succ _
    · rw [sizeLine_eq, List.length_cons, List.length_cons]
      have h2 := flat_two (l := List.range g) (f := fun g => match if ((2 * g + 1 : Nat) : Int) ≤ m.lastmark then (m.marks.getD (2 * g) none, m.marks.getD (2 * g + 1) none) else (none, none) with
        | (some b, some e) => [rawInt b, rawInt e]
        | _ => [rawInt (-1), rawInt (-1)]) (fun a => by split <;> exact Nat.le_refl _)
      rw [List.length_range] at h2
      refine Nat.le_trans (Nat.add_le_add_right (Nat.add_le_add_right h2 1) 1) (by omega)
end
end Mine
end
section
set_option maxRecDepth 100000
namespace Mine
theorem typeCall_list_0 : checkTypeCall "list" ⟨[], []⟩ = pure () := by kernel_rfl
theorem newCall_list_0 : checkBuiltinCall "list.__new__" ⟨[.type "list"], []⟩ = pure () := by kernel_rfl
section
variable {prog : Program} {w : World} {A : Around} {E : Value → Shared → Prop} {s : Shared}
theorem code_list_new0 {Q₁ : Value → Shared → Prop}
    (h : Q₁ (.ref s.heap.objs.size) { s with heap := s.heap.push { cls := .type "list", data := .seq #[] } }) :
    codeAny (model prog w) A (.call (.builtin "list.__new__") ⟨[.type "list"], []⟩) (wants Q₁ E) s := by
  refine codeAny_of_tree ?_
  show wpAny _ A.in1 (do checkBuiltinCall "list.__new__" ⟨[.type "list"], []⟩; again (.builtin "list.__new__" ⟨[.type "list"], []⟩)) _ _ s
  refine wpAny_bind (wpAny_of_eq newCall_list_0 (wpAny_pure ⟨plainId_quiet F.plain_list_new _, codeAny_builtin_stack F.entry_list_new rfl fun p st => ?_⟩))
  rw [Around.under_plainId F.plain_list_new _]
  have hsub := sub_list_self
  have hown := owner_list_new
  obtain ⟨hp, g, d, tk, os⟩ := s
  simp only [hown]
  wp_walk
  exact h
theorem init_0 {S : Addr} {R : Result → Shared → Prop} (hS : s.heap.get? S = some { cls := .type "list", data := .seq #[] })
    (hR : R (.ok (.ret .none)) { s with heap := s.heap.update S (Obj.mapSeq (fun _ => (#[] : Array Value))) }) :
    wpAny (model prog w) A.in1 (Builtin.«list.__init__» ⟨[.ref S], []⟩)
      (fun fin s' => match fin with | .done f => R (.ok f) s' | .again c' => c'.quiet = true ∧ codeAny (model prog w) A c' R s') (fun e s' => R (.error e) s') s := by
  show wpAny _ A.in1 (do let old ← Builtin.List.listItems (.ref S); Builtin.List.listUpdate (.ref S) (fun _ => #[]); letGo old.toList.reverse; ret .none) _ _ s
  refine wpAny_bind ?_
  unfold Builtin.List.listItems
  refine wpAny_bind (wpAny_seqItems hS rfl (wpAny_pure ?_))
  show wpAny _ A.in1 (updateSeq S (fun _ => #[]) >>= fun _ => letGo (#[] : Array Value).toList.reverse >>= fun _ => ret .none) _ _ s
  refine wpAny_bind (wpAny_updateSeq hS rfl ?_)
  exact wpAny_bind (wpAny_letGo (wpAny_pure hR))
theorem call_list_0 {Q : Value → Shared → Prop}
    (hQ : ∀ h', (∀ b o', s.heap.get? b = some o' → h'.get? b = some o') → (∃ n, h'.get? s.heap.objs.size = some (W.listOf #[] n)) → Q (.ref s.heap.objs.size) { s with heap := h' }) :
    wpAny (model prog w) A (call (.type "list") []) Q E s := by
  refine callType_codes (Q₁ := fun obj s₁ => obj = .ref s.heap.objs.size ∧ s₁ = { s with heap := s.heap.push { cls := .type "list", data := .seq #[] } }) F.called_list typeCall_list_0 F.entry_list_init
    (code_list_new0 ⟨rfl, rfl⟩) fun obj s₁ h₁ => ?_
  obtain ⟨rfl, rfl⟩ := h₁
  have hS : (s.heap.push { cls := .type "list", data := .seq #[] }).get? s.heap.objs.size = some { cls := .type "list", data := .seq #[] } := Heap.get?_push_size _ rfl
  refine ⟨⟨_, hS, rfl⟩, F.args_list_init_1 _, init_0 hS ⟨rfl, ?_⟩⟩
  have hS₂ := Heap.get?_update_self (Obj.mapSeq (fun _ => (#[] : Array Value))) hS rfl
  refine hQ _ (fun b o' e => ?_) ⟨_, by simpa [Obj.mapSeq] using hS₂⟩
  have hb : b ≠ s.heap.objs.size := fun e' => Nat.lt_irrefl _ (e' ▸ Heap.lt_size e)
  exact (Heap.get?_update_other _ _ (Ne.symm hb)).trans (Heap.get?_push_of_some _ e)
theorem new_list_0 {h₀ : Heap} {L : Addr} {m : Str → Option Value} {news : List (Addr × Obj)} {env : Env} {pos : Pos} {Q : Value → Shared → Prop} (F : Fr h₀ L s.heap m) (N : News h₀ L s.heap news)
    (h : ∀ D n h', Fr h₀ L h' m → News h₀ L h' ((D, W.listOf #[] n) :: news) → (∀ p ∈ news, p.1 < D) → Q (.ref D) { s with heap := h' }) :
    wpAny (model prog w) A (callWith pos (.type "list") [] (backTo pos (starEach [] env)) []) Q E s := by
  refine PyProof.Rows.callWith_type rfl (evalArgs_nil3 ?_)
  refine call_list_0 fun h' hk ⟨n, hD⟩ => h _ n h' (F.keeps hk) (fun p hp => ?_) fun p hp => Heap.lt_size (N p hp).1
  rcases List.mem_cons.mp hp with rfl | hp
  · refine ⟨hD, Nat.ne_of_gt F.ns.lt, ?_⟩
    cases e : h₀.get? s.heap.objs.size with
    | none => rfl
    | some o => exact absurd (Heap.lt_size (F.keep _ _ e)) (Nat.lt_irrefl _)
  · exact N.grown hk p hp
end
end Mine
end
section
namespace Mine
section
variable {prog : Program} {w : World} {A : Around} {E : Value → Shared → Prop} {s : Shared} {h₀ : Heap} {L l : Addr} {m : Str → Option Value} {news : List (Addr × Obj)} {value slice : PySem.Expr} {vs ws : List Value} {Q : Value → Shared → Prop}

theorem pick_upto (vs : List Value) {k : Int} (h0 : 0 ≤ k) (h1 : k ≤ vs.length) : slicePick vs.toArray none (some k) none = (vs.take k.toNat).toArray := by
  obtain ⟨k, rfl⟩ := Int.eq_ofNat_of_zero_le h0
  rw [slicePick_upto _ _ (by rw [List.size_toArray]; omega)]
  simp
theorem pick_from (vs : List Value) {k : Int} (h0 : 0 ≤ k) (h1 : k ≤ vs.length) : slicePick vs.toArray (some k) none none = (vs.drop k.toNat).toArray := by
  obtain ⟨k, rfl⟩ := Int.eq_ofNat_of_zero_le h0
  rw [slicePick_from _ _ (by rw [List.size_toArray]; omega)]
  simp
theorem pick_mid (vs : List Value) {a b : Int} (h0 : 0 ≤ a) (hab : a ≤ b) (h1 : b ≤ vs.length) : slicePick vs.toArray (some a) (some b) none = ((vs.drop a.toNat).take (b.toNat - a.toNat)).toArray := by
  obtain ⟨a, rfl⟩ := Int.eq_ofNat_of_zero_le h0
  obtain ⟨b, rfl⟩ := Int.eq_ofNat_of_zero_le (Int.le_trans h0 hab)
  rw [slicePick_run _ _ _ (by rw [List.size_toArray]; omega) (by omega)]
  simp

theorem ks_upto {k : Int} {t : Tok} (F : Fr h₀ L s.heap m) (N : News h₀ L s.heap news) (hl : s.heap.IsList l vs.toArray) (h0 : 0 ≤ k) (h1 : k ≤ vs.length) (hz : vs.length ≤ 1000)
    (h : ∀ D h', Fr h₀ L h' m → News h₀ L h' ((D, W.listOf (vs.take k.toNat).toArray 0) :: news) → (∀ p ∈ news, p.1 < D) → Q (.ref D) { s with heap := h' })
    (hs : subscripted slice false (.ref l) (.ref s.heap.objs.size) = operate [.ref s.heap.objs.size, .ref l] (getItem (.ref l) (.ref s.heap.objs.size))) (ht : ∀ r, letTemporaryGo value (.ref l) r = pure ()) :
    wpAny (model prog w) A (subscriptTail value slice (.ref l) (.ref s.heap.objs.size)) Q E { s with heap := s.heap.push { cls := .type "slice", data := .fields #[.none, .int k t, .none] } } := by
  refine kmk_slice F N hl .none (.int k t) (fun D h' F' N' l1 => h D h' F' ?_ l1) hs ht (by rw [sizeLine_eq, List.size_toArray]; omega)
  rw [← pick_upto vs h0 h1]; exact N'
theorem ks_from {k : Int} {t : Tok} (F : Fr h₀ L s.heap m) (N : News h₀ L s.heap news) (hl : s.heap.IsList l vs.toArray) (h0 : 0 ≤ k) (h1 : k ≤ vs.length) (hz : vs.length ≤ 1000)
    (h : ∀ D h', Fr h₀ L h' m → News h₀ L h' ((D, W.listOf (vs.drop k.toNat).toArray 0) :: news) → (∀ p ∈ news, p.1 < D) → Q (.ref D) { s with heap := h' })
    (hs : subscripted slice false (.ref l) (.ref s.heap.objs.size) = operate [.ref s.heap.objs.size, .ref l] (getItem (.ref l) (.ref s.heap.objs.size))) (ht : ∀ r, letTemporaryGo value (.ref l) r = pure ()) :
    wpAny (model prog w) A (subscriptTail value slice (.ref l) (.ref s.heap.objs.size)) Q E { s with heap := s.heap.push { cls := .type "slice", data := .fields #[.int k t, .none, .none] } } := by
  refine kmk_slice F N hl (.int k t) .none (fun D h' F' N' l1 => h D h' F' ?_ l1) hs ht (by rw [sizeLine_eq, List.size_toArray]; omega)
  rw [← pick_from vs h0 h1]; exact N'
theorem ks_mid {a b : Int} {t u : Tok} (F : Fr h₀ L s.heap m) (N : News h₀ L s.heap news) (hl : s.heap.IsList l vs.toArray) (h0 : 0 ≤ a) (hab : a ≤ b) (h1 : b ≤ vs.length) (hz : vs.length ≤ 1000)
    (h : ∀ D h', Fr h₀ L h' m → News h₀ L h' ((D, W.listOf ((vs.drop a.toNat).take (b.toNat - a.toNat)).toArray 0) :: news) → (∀ p ∈ news, p.1 < D) → Q (.ref D) { s with heap := h' })
    (hs : subscripted slice false (.ref l) (.ref s.heap.objs.size) = operate [.ref s.heap.objs.size, .ref l] (getItem (.ref l) (.ref s.heap.objs.size))) (ht : ∀ r, letTemporaryGo value (.ref l) r = pure ()) :
    wpAny (model prog w) A (subscriptTail value slice (.ref l) (.ref s.heap.objs.size)) Q E { s with heap := s.heap.push { cls := .type "slice", data := .fields #[.int a t, .int b u, .none] } } := by
  refine kmk_slice F N hl (.int a t) (.int b u) (fun D h' F' N' l1 => h D h' F' ?_ l1) hs ht (by rw [sizeLine_eq, List.size_toArray]; omega)
  rw [← pick_mid vs h0 hab h1]; exact N'
theorem ks_all (F : Fr h₀ L s.heap m) (N : News h₀ L s.heap news) (hl : s.heap.IsList l vs.toArray) (hz : vs.length ≤ 1000)
    (h : ∀ D h', Fr h₀ L h' m → News h₀ L h' ((D, W.listOf vs.toArray 0) :: news) → (∀ p ∈ news, p.1 < D) → Q (.ref D) { s with heap := h' })
    (hs : subscripted slice false (.ref l) (.ref s.heap.objs.size) = operate [.ref s.heap.objs.size, .ref l] (getItem (.ref l) (.ref s.heap.objs.size))) (ht : ∀ r, letTemporaryGo value (.ref l) r = pure ()) :
    wpAny (model prog w) A (subscriptTail value slice (.ref l) (.ref s.heap.objs.size)) Q E { s with heap := s.heap.push { cls := .type "slice", data := .fields #[.none, .none, .none] } } := by
  refine kmk_slice F N hl .none .none (fun D h' F' N' l1 => h D h' F' ?_ l1) hs ht (by rw [sizeLine_eq, List.size_toArray]; omega)
  rw [slicePick_all] at N'; exact N'
theorem ks_add {b : Addr} (F : Fr h₀ L s.heap m) (N : News h₀ L s.heap news) (hl : s.heap.IsList l vs.toArray) (hb : s.heap.IsList b ws.toArray) (hz : vs.length + ws.length ≤ 1000)
    (h : ∀ D h', Fr h₀ L h' m → News h₀ L h' ((D, W.listOf (vs ++ ws).toArray 0) :: news) → (∀ p ∈ news, p.1 < D) → Q (.ref D) { s with heap := h' }) :
    wpAny (model prog w) A (binaryOp .Add (.ref l) (.ref b)) Q E s :=
  add_arrays F N hl hb (fun h' F' N' => h _ h' F' N' fun p hp => Heap.lt_size (N p hp).1) (by rw [sizeLine_eq, List.size_toArray, List.size_toArray]; omega)
theorem ks_item {k : Int} {u : Tok} {xs : List Str} (hl : s.heap.IsList l vs.toArray) (hv : StrsAre vs xs) (h0 : 0 ≤ k) (h1 : k < vs.length) (hz : vs.length ≤ 1000)
    (h : ∀ t, vs[k.toNat]? = some (.str (xs.getD k.toNat Str.empty) t) → Q (.str (xs.getD k.toNat Str.empty) t) s)
    (hs : subscripted slice false (.ref l) (.int k u) = operate [.ref l, .int k u] (getItem (.ref l) (.int k u))) (hg : ∀ r, letTemporaryGo value (.ref l) r = pure ()) :
    wpAny (model prog w) A (subscriptTail value slice (.ref l) (.int k u)) Q E s := by
  have hlen := hv.len_eq
  have e : xs[k.toNat]? = some (xs.getD k.toNat Str.empty) := by
    rw [List.getD_eq_getElem?_getD, List.getElem?_eq_getElem (by omega)]; rfl
  obtain ⟨t, ht⟩ := hv.at e
  exact item_list hl h0 (by omega) (by simpa using ht) (h t ht) hs hg
end
end Mine
end
section
namespace Mine
def Sh (ys : List Str) : Prop := ∀ y ∈ ys, y.length ≤ 10
theorem sh_nil : Sh [] := fun _ h => nomatch h
theorem sh_cons {y : Str} {ys : List Str} (h : y.length ≤ 10) (k : Sh ys) : Sh (y :: ys) := fun z hz => by
  rcases List.mem_cons.mp hz with rfl | hz
  · exact h
  · exact k z hz
theorem sh_take {ys : List Str} (h : Sh ys) (n : Nat) : Sh (ys.take n) := fun y hy => h y (List.mem_of_mem_take hy)
theorem sh_drop {ys : List Str} (h : Sh ys) (n : Nat) : Sh (ys.drop n) := fun y hy => h y (List.mem_of_mem_drop hy)
theorem sh_app {ys zs : List Str} (h : Sh ys) (k : Sh zs) : Sh (ys ++ zs) := fun y hy => (List.mem_append.mp hy).elim (h y) (k y)
theorem empty_len : Str.empty.length ≤ 10 := by decide +kernel
theorem sh_getD {ys : List Str} (h : Sh ys) (n : Nat) : (ys.getD n Str.empty).length ≤ 10 := by
  rw [List.getD_eq_getElem?_getD]
  cases e : ys[n]? with
  | none => exact empty_len
  | some y => exact h y (List.mem_of_getElem? e)
theorem sh_sum : ∀ {ys : List Str}, Sh ys → (ys.map (·.length)).sum ≤ 10 * ys.length
  | [], _ => Nat.le_refl _
  | y :: r, h => by
    have h1 := h y (.head _)
    have h2 := sh_sum (ys := r) (fun z hz => h z (.tail _ hz))
    simp only [List.map_cons, List.sum_cons, List.length_cons]
    omega
theorem row_end {prog : Program} {w : World} {A : Around} {E : Value → Shared → Prop} {s : Shared} {D : Addr} {t0 : Tok} {vs : List Value} {ys : List Str} {Q : Value → Shared → Prop}
    (hl : s.heap.IsList D vs.toArray) (hv : StrsAre vs ys) (hw : Sh ys) (hn : ys.length ≤ 10) (h : ∀ t tk, Q (.str (Txt.join (Str.ofString "") ys) t) { s with toks := tk }) :
    wpAny (model prog w) A (call (.builtin "str.join") [.str (Str.ofString "") t0, .ref D]) Q E s := by
  have h1 := sh_sum hw
  exact join_listW hl (by simpa using hv) (by decide +kernel) (by omega) h
end Mine
end
section
set_option maxRecDepth 100000
set_option maxHeartbeats 8000000
namespace Mine
theorem quiet_LB6 : True := by
  w_top off
  trivial
def bend (r k : Int) (ps : List Str) : List Str :=
  if r = 0 then ps.take k.toNat ++ ps.drop (k + 1).toNat
  else if r = 1 then (ps.take k.toNat ++ [ps.getD k.toNat Str.empty]) ++ ps.drop k.toNat
  else if r = 2 then ps ++ [[Str.ofString " ", Str.ofString "x", Str.ofString "9"].getD (k.fmod 3).toNat Str.empty]
  else if r = 4 ∧ k.fmod 2 = 1 then [[Str.ofString " ", Str.ofString "x"].getD ((k.fdiv 2).fmod 2).toNat Str.empty] ++ ps
  else ps
def tabA : Nat → Addr
  | 0 => 92 | 1 => 98 | 2 => 102 | 3 => 106 | 4 => 110 | 5 => 113 | 6 => 118 | _ => 122
def tabN : Nat → List (Addr × List (Str × Tok))
  | 0 => [(86, [(Str.ofString "@@ -", 851)]), (87, [(Str.ofString "1,2", 852), (Str.ofString "7", 853)]), (88, [(Str.ofString " +", 854)]), (89, [(Str.ofString "30", 855), (Str.ofString "3,0", 856)]), (90, [(Str.ofString " @@", 857)]), (91, [(Str.ofString " ab", 858)])]
  | 1 => [(93, [(Str.ofString "***", 859)]), (94, [(Str.ofString "***", 860)]), (95, [(Str.ofString "***", 861)]), (96, [(Str.ofString "***", 862)]), (97, [(Str.ofString "***", 863)])]
  | 2 => [(99, [(Str.ofString "*** ", 864)]), (100, [(Str.ofString "1,2", 865), (Str.ofString "7", 866)]), (101, [(Str.ofString " ****", 867)])]
  | 3 => [(103, [(Str.ofString "1,2", 868), (Str.ofString "7", 869)]), (104, [(Str.ofString "c", 870), (Str.ofString "a", 871), (Str.ofString "d", 872)]), (105, [(Str.ofString "30", 873), (Str.ofString "3,0", 874)])]
  | 4 => [(107, [(Str.ofString "1", 875)]), (108, [(Str.ofString ",20", 876)]), (109, [(Str.ofString "d", 877), (Str.ofString "a", 878), (Str.ofString "c", 879)])]
  | 5 => [(111, [(Str.ofString "Index: ", 880)]), (112, [(Str.ofString "ab", 881)])]
  | 6 => [(114, [(Str.ofString "--- ", 882)]), (115, [(Str.ofString "ab", 883)]), (116, [(Str.ofString "\t", 884), (Str.ofString ":", 885), (Str.ofString "  ", 886)]), (117, [(Str.ofString "1", 887)])]
  | _ => [(119, [(Str.ofString "!", 888), (Str.ofString "-", 889), (Str.ofString "+", 890), (Str.ofString " ", 891)]), (120, [(Str.ofString " ", 892)]), (121, [(Str.ofString "ab", 893)])]
def vOf (p : Str × Tok) : Value := .str p.1 p.2
theorem tab_at {w : World} {h : Heap} (X : (hd.heap_39 w.params).In h) : ∀ k, k < 8 → h.IsList (tabA k) ((tabN k).map fun p => Value.ref p.1).toArray
  | 0, _ => ⟨_, X 92 _ rfl, rfl, _, rfl⟩
  | 1, _ => ⟨_, X 98 _ rfl, rfl, _, rfl⟩
  | 2, _ => ⟨_, X 102 _ rfl, rfl, _, rfl⟩
  | 3, _ => ⟨_, X 106 _ rfl, rfl, _, rfl⟩
  | 4, _ => ⟨_, X 110 _ rfl, rfl, _, rfl⟩
  | 5, _ => ⟨_, X 113 _ rfl, rfl, _, rfl⟩
  | 6, _ => ⟨_, X 118 _ rfl, rfl, _, rfl⟩
  | 7, _ => ⟨_, X 122 _ rfl, rfl, _, rfl⟩
  | k + 8, h => by omega
theorem all_of {α : Type} {P : α → Prop} {x : α} {l : List α} (h : P x) (k : ∀ y ∈ l, P y) : ∀ y ∈ x :: l, P y := fun y hy => by
  rcases List.mem_cons.mp hy with rfl | hy
  · exact h
  · exact k y hy
theorem all_nil {α : Type} {P : α → Prop} : ∀ y ∈ ([] : List α), P y := fun _ h => nomatch h
theorem forms_at {w : World} {h : Heap} (X : (hd.heap_39 w.params).In h) : ∀ k, k < 8 → ∀ p ∈ tabN k, h.IsList p.1 (p.2.map vOf).toArray
  | 0, _ => all_of ⟨_, X 86 _ rfl, rfl, _, rfl⟩ (all_of ⟨_, X 87 _ rfl, rfl, _, rfl⟩ (all_of ⟨_, X 88 _ rfl, rfl, _, rfl⟩ (all_of ⟨_, X 89 _ rfl, rfl, _, rfl⟩ (all_of ⟨_, X 90 _ rfl, rfl, _, rfl⟩ (all_of ⟨_, X 91 _ rfl, rfl, _, rfl⟩ all_nil)))))
  | 1, _ => all_of ⟨_, X 93 _ rfl, rfl, _, rfl⟩ (all_of ⟨_, X 94 _ rfl, rfl, _, rfl⟩ (all_of ⟨_, X 95 _ rfl, rfl, _, rfl⟩ (all_of ⟨_, X 96 _ rfl, rfl, _, rfl⟩ (all_of ⟨_, X 97 _ rfl, rfl, _, rfl⟩ all_nil))))
  | 2, _ => all_of ⟨_, X 99 _ rfl, rfl, _, rfl⟩ (all_of ⟨_, X 100 _ rfl, rfl, _, rfl⟩ (all_of ⟨_, X 101 _ rfl, rfl, _, rfl⟩ all_nil))
  | 3, _ => all_of ⟨_, X 103 _ rfl, rfl, _, rfl⟩ (all_of ⟨_, X 104 _ rfl, rfl, _, rfl⟩ (all_of ⟨_, X 105 _ rfl, rfl, _, rfl⟩ all_nil))
  | 4, _ => all_of ⟨_, X 107 _ rfl, rfl, _, rfl⟩ (all_of ⟨_, X 108 _ rfl, rfl, _, rfl⟩ (all_of ⟨_, X 109 _ rfl, rfl, _, rfl⟩ all_nil))
  | 5, _ => all_of ⟨_, X 111 _ rfl, rfl, _, rfl⟩ (all_of ⟨_, X 112 _ rfl, rfl, _, rfl⟩ all_nil)
  | 6, _ => all_of ⟨_, X 114 _ rfl, rfl, _, rfl⟩ (all_of ⟨_, X 115 _ rfl, rfl, _, rfl⟩ (all_of ⟨_, X 116 _ rfl, rfl, _, rfl⟩ (all_of ⟨_, X 117 _ rfl, rfl, _, rfl⟩ all_nil)))
  | 7, _ => all_of ⟨_, X 119 _ rfl, rfl, _, rfl⟩ (all_of ⟨_, X 120 _ rfl, rfl, _, rfl⟩ (all_of ⟨_, X 121 _ rfl, rfl, _, rfl⟩ all_nil))
  | k + 8, h => by omega
def top8 : List Value := [.ref 92, .ref 98, .ref 102, .ref 106, .ref 110, .ref 113, .ref 118, .ref 122]
theorem top_at {w : World} {h : Heap} (X : (hd.heap_39 w.params).In h) : h.IsList 123 top8.toArray := ⟨_, X 123 _ rfl, rfl, _, rfl⟩
theorem top8_at : ∀ k, k < 8 → top8.toArray[k]? = some (.ref (tabA k))
  | 0, _ => rfl | 1, _ => rfl | 2, _ => rfl | 3, _ => rfl | 4, _ => rfl | 5, _ => rfl | 6, _ => rfl | 7, _ => rfl
  | k + 8, h => by omega
theorem tab_len : ∀ k, k < 8 → 0 < (tabN k).length ∧ (tabN k).length ≤ 6
  | 0, _ => by decide | 1, _ => by decide | 2, _ => by decide | 3, _ => by decide | 4, _ => by decide | 5, _ => by decide | 6, _ => by decide | 7, _ => by decide
  | k + 8, h => by omega
theorem item_top {w : World} {A : Around} {E : Value → Shared → Prop} {s : Shared} {h₀ : Heap} {L : Addr} {m : Str → Option Value} {k : Nat} {t : Tok} {value slice : Expr} {Q : Value → Shared → Prop}
    (F : Fr h₀ L s.heap m) (X : (hd.heap_39 w.params).In h₀) (hk : k < 8) (h : Q (.ref (tabA k)) s)
    (hs : subscripted slice false (.ref 123) (.int (k : Int) t) = operate [.ref 123, .int (k : Int) t] (getItem (.ref 123) (.int (k : Int) t)) := by with_unfolding_all rfl) (hg : ∀ r, letTemporaryGo value (.ref 123) r = pure () := by intro _; with_unfolding_all rfl) :
    wpAny (model PR w) A (subscriptTail value slice (.ref 123) (.int (k : Int) t)) Q E s :=
  item_list (top_at (X.keeps F.keep)) (by omega) (by omega) (top8_at k hk) h hs hg
theorem with_map {P : Prop} {h₀ h : Heap} {L : Addr} {m : Str → Option Value} (F : Fr h₀ L h m) (k : ∀ m₀, m₀ = m → Fr h₀ L h m₀ → P) : P := k m rfl F
theorem led1 {P : Prop} {h₀ h : Heap} {L a : Addr} {o : Obj} {r : List (Addr × Obj)} (_N : News h₀ L h ((a, o) :: r)) (k : ∀ b, b = a → P) : P := k a rfl
def canonR (u : Option Value) (f : Int) (tf : Tok) (lp : Addr) (m₀ : Str → Option Value) : Str → Option Value :=
  fun y => if y = Str.ofString "forms" then u else if y = Str.ofString "form" then some (.int f tf) else if y = Str.ofString "parts" then some (.ref lp) else m₀ y
theorem canon_start {f : Int} {tf : Tok} {lp : Addr} {m₀ : Str → Option Value} (h1 : m₀ (Str.ofString "forms") = none) (h2 : m₀ (Str.ofString "form") = some (.int f tf)) (h3 : m₀ (Str.ofString "parts") = some (.ref lp)) : m₀ = canonR none f tf lp m₀ := by
  funext y
  unfold canonR
  by_cases a : y = Str.ofString "forms"
  · rw [if_pos a, a, h1]
  by_cases b : y = Str.ofString "form"
  · rw [if_neg a, if_pos b, b, h2]
  by_cases c : y = Str.ofString "parts"
  · rw [if_neg a, if_neg b, if_pos c, c, h3]
  · rw [if_neg a, if_neg b, if_neg c]
theorem len_z {prog : Program} {w : World} {A : Around} {E : Value → Shared → Prop} {s : Shared} {l : Addr} {vs : List Value} {z : Nat} {Q : Value → Shared → Prop} (hl : s.heap.IsList l vs.toArray) (hz : vs.length = z) (hb : z < 1000)
    (h : ∀ t tk, Q (.int z t) { s with toks := tk }) : wpAny (model prog w) A (call (.builtin "len") [.ref l]) Q E s := by
  subst hz
  have e : vs.toArray.size = vs.length := List.size_toArray ..
  refine len_list hl (by rw [e]; omega) ?_
  rw [e]
  exact h _ _

theorem item_pick {w : World} {A : Around} {E : Value → Shared → Prop} {s : Shared} {a : Addr} {xs : List (Str × Tok)} {zz : Nat} {i : Int} {t : Tok} {value slice : Expr} {Q : Value → Shared → Prop}
    (hl : s.heap.IsList a (xs.map vOf).toArray) (hz : (xs.map vOf).length = zz) (h0 : 0 ≤ i) (h1 : i < zz) (hb : zz < 1000) (h : Q (.str (xs.getD i.toNat (Str.empty, 0)).1 (xs.getD i.toNat (Str.empty, 0)).2) s)
    (hs : subscripted slice false (.ref a) (.int i t) = operate [.ref a, .int i t] (getItem (.ref a) (.int i t)) := by with_unfolding_all rfl) (hg : ∀ r, letTemporaryGo value (.ref a) r = pure () := by intro _; with_unfolding_all rfl) :
    wpAny (model PR w) A (subscriptTail value slice (.ref a) (.int i t)) Q E s := by
  have hx : i.toNat < xs.length := by rw [List.length_map] at hz; omega
  refine item_list hl h0 (by omega) ?_ h hs hg
  simp [vOf, List.getD, hx]
theorem forms_len : ∀ k, k < 8 → ∀ p ∈ tabN k, 0 < p.2.length ∧ p.2.length ≤ 4
  | 0, _ => by decide | 1, _ => by decide | 2, _ => by decide | 3, _ => by decide | 4, _ => by decide | 5, _ => by decide | 6, _ => by decide | 7, _ => by decide
  | k + 8, h => by omega

section
local macro_rules | `(tactic| walk_at "exec For") => `(tactic| (refine hold ?_))
local macro_rules | `(tactic| walk_at "subscriptTail") => `(tactic| ((with_reducible show wpAny _ _ (subscriptTail _ _ (Value.ref 123) _) _ _ _); (rename Fr _ _ _ _ => kF); (refine item_top kF (by assumption) (by assumption) ?_)))
local macro_rules | `(tactic| walk_at "subscriptTail") => `(tactic| ((with_reducible show wpAny _ _ (subscriptTail _ _ (Value.ref _) (Value.int _ _)) _ _ _); (refine item_pick (by is_list) (by assumption) (by l_idx) (by l_idx) (by omega) ?_)))
local macro_rules | `(tactic| walk_at "call builtin:len") => `(tactic| ((refine len_z (by is_list) (by assumption) (by omega) ?_); intro t' kk'; (try dsimp only)))
local macro_rules | `(tactic| walk_at "call builtin:list.append") => `(tactic| ((with_reducible show wpAny _ _ (call (Value.builtin _) [Value.ref _, _]) _ _ _); k_dflt (refine' append_K ?k1 ?k2 ?k3 ?_ ?z; (case k1 => k_asm); (case k2 => k_asm); (case k3 => k_upd); (case z => (rw [sizeLine_eq]; omega)); k_whole); intro h' F' N'; (try k_sweep)))
def picks : Int → List (Addr × List (Str × Tok)) → List Str
  | _, [] => []
  | f, p :: r => (p.2.getD (Int.fmod f p.2.length).toNat (Str.empty, 0)).1 :: picks (Int.fdiv f p.2.length) r
local macro_rules | `(tactic| walk_at "subscriptTail Name Slice ref ref") => `(tactic| ((with_reducible show wpAny _ _ (subscriptTail _ (PySem.Expr.Slice _ _ none _) (Value.ref _) (Value.ref _)) _ _ _); k_dflt (first | refine' ks_upto ?F ?N ?l ?a ?b ?z ?_ ?s ?t | refine' ks_from ?F ?N ?l ?a ?b ?z ?_ ?s ?t); (case F => k_asm); (case N => k_asm); (case l => first | is_list | kmk_list); (case a => omega); (case b => omega); (case z => omega); (case s => with_unfolding_all rfl); (case t => kmk_pure); intro D' h' F' N' l1; (try k_lt l1); (try k_sweep)))
local macro_rules | `(tactic| walk_at "binaryOp Add ref ref") => `(tactic| ((with_reducible show wpAny _ _ (binaryOp _ (Value.ref _) (Value.ref _)) _ _ _); k_dflt (refine' ks_add ?F ?N ?l ?b ?z ?_; (case F => k_asm); (case N => k_asm); (case l => first | is_list | kmk_list); (case b => first | is_list | kmk_list); (case z => ((try simp only [List.length_take, List.length_drop, List.length_append, List.length_cons, List.length_nil]); omega))); intro D' h' F' N' l1; (try k_lt l1); (try k_sweep)))
local macro_rules | `(tactic| walk_at "subscriptTail") => `(tactic| ((with_reducible show wpAny _ _ (subscriptTail _ _ (Value.ref _) (Value.int _ _)) _ _ _); k_dflt (refine' ks_item ?l ?v ?a ?b ?z ?_ ?s ?t; (case l => first | is_list | kmk_list); (case v => first | assumption | kct_strs); (case a => first | omega | exact Int.fmod_nonneg_of_pos _ (by decide)); (case b => ((try simp only [List.length_cons, List.length_nil]); first | omega | exact Int.fmod_lt_of_pos _ (by decide))); (case z => ((try simp only [List.length_cons, List.length_nil]); omega)); (case s => with_unfolding_all rfl); (case t => kmk_pure)); intro t' ht'; (try dsimp only)))
local macro_rules | `(tactic| walk_at "call builtin:str.join") => `(tactic| (refine hold ?_))
theorem picks_sh : ∀ (tab : List (Addr × List (Str × Tok))) (f : Int), (∀ p ∈ tab, ∀ q ∈ p.2, q.1.length ≤ 10) → Sh (picks f tab)
  | [], _, _ => sh_nil
  | p :: r, f, h => by
    refine sh_cons ?_ (picks_sh r _ fun q hq => h q (.tail _ hq))
    rw [List.getD_eq_getElem?_getD]
    cases e : p.2[(Int.fmod f p.2.length).toNat]? with
    | none => exact empty_len
    | some y => exact h p (.head _) y (List.mem_of_getElem? e)
theorem tab_sh : ∀ k, k < 8 → ∀ p ∈ tabN k, ∀ q ∈ p.2, q.1.length ≤ 10
  | 0, _ => by decide +kernel | 1, _ => by decide +kernel | 2, _ => by decide +kernel | 3, _ => by decide +kernel | 4, _ => by decide +kernel | 5, _ => by decide +kernel | 6, _ => by decide +kernel | 7, _ => by decide +kernel
  | k + 8, h => by omega
def lawRow (k : Nat) (n at_ : Int) : Str :=
  Txt.join (Str.ofString "") (bend (n.fmod 5) ((n.fdiv 5).fmod ((tabN k).length : Int)) (picks ((n.fdiv 5).fdiv ((tabN k).length : Int) + at_) (tabN k)))
theorem snoc_str {vs : List Value} {xs : List Str} (h : StrsAre vs xs) (y : Str) (t : Tok) : StrsAre (vs ++ [.str y t]) (xs ++ [y]) := h.append' (.cons y t .nil)
theorem canon_step {u u' : Option Value} {f f' : Int} {tf tf' : Tok} {lp : Addr} {m₀ : Str → Option Value} (y : Str) :
    (if y = Str.ofString "form" then some (Value.int f' tf') else if y = Str.ofString "forms" then u' else canonR u f tf lp m₀ y) = canonR u' f' tf' lp m₀ y := by
  unfold canonR
  by_cases a : y = Str.ofString "forms"
  · subst a; rfl
  · by_cases b : y = Str.ofString "form"
    · rw [if_pos b, if_neg a, if_pos b]
    · simp only [if_neg a, if_neg b]
theorem row_c {w : World} {p : Program} {loose : List Str} {mean : ExcName → Option Value} {mg mb : Str → Option Value} {A : Around} {s : Shared} {k : Nat} {n at_ : Int} {t1 t2 t3 : Tok}
    (X : (hd.heap_39 w.params).In s.heap) (T : Top p loose mean mg mb s.heap) (hA : Fit A 340 140) (h8 : k < 8) :
    Gives w A 137 [.int (k : Int) t1, .int n t2, .int at_ t3] s (fun v _ => ∃ t, v = .str (lawRow k n at_) t) := by
  intro R hR
  refine fit_code hA ?_
  have hTl := tab_at X k h8
  have hTf := forms_at X k h8
  have hTn := tab_len k h8
  obtain ⟨z, hz⟩ : ∃ z, ((tabN k).map fun p => Value.ref p.1).length = z := ⟨_, rfl⟩
  rw [← List.length_map (f := fun p : Addr × List (Str × Tok) => Value.ref p.1), hz] at hTn
  obtain ⟨hz0, hz6⟩ := hTn
  refine enter X T.nolimit (by rfl) (by rfl) (by decide) (BindsTo.of_eq rfl) (locs rfl) rfl rfl rfl (by decide) (fun L h₁ F N => ?_)
  (try dsimp only)
  (try k_unmd)
  k_fold
  k_steps
  refine Hold.out ?_
  rename Fr _ _ _ _ => F5
  rename News _ _ _ _ => N5
  refine led1 N5 fun lp hlp => ?_
  subst hlp
  refine with_map F5 fun m₀ hm₀ _ => ?_
  rename Fr _ _ _ m₀ => F6
  clear F6
  refine for_list (h₀ := s.heap) (fun i m news => ∃ u f tf ps nn xs, news = [(lp, listOf ps nn)] ∧ m = canonR u f tf lp m₀ ∧ ps.size = i ∧ StrsAre ps.toList xs ∧ picks ((n.fdiv 5).fdiv z + at_) (tabN k) = xs ++ picks f ((tabN k).drop i)) ((tabN k).map fun p => Value.ref p.1) rfl (by rfl) (by rfl) (fun _ => by rfl) (by passes_own) ?_
  k_steps
  rename Fr _ _ _ _ => F5
  rename News _ _ _ _ => N5
  have F6 := fr_as F5 (fun y => (congrFun hm₀ y).symm)
  refine Hold.out ⟨_, _, _, rfl, Fr.lst F5 hTl, .inl hTl, F6, N5, ⟨_, _, _, _, _, [], rfl, canon_start (by rw [hm₀]; rfl) (by rw [hm₀]; rfl) (by rw [hm₀]; rfl), rfl, .nil, rfl⟩, ?_, ?_⟩
  · rintro I g hIg i v m₁ news₁ h tk' oI hi hv ⟨u, f, tf, ps, nn, xs, rfl, rfl, hps, hxs, hpk⟩ F7 N7 ho
    have hi6 : i < 6 := by omega
    change Fr s.heap L h _ at F7
    change News s.heap L h _ at N7
    obtain ⟨p, hp, rfl⟩ : ∃ p, (tabN k)[i]? = some p ∧ Value.ref p.1 = v := by simpa using hv
    have hne : @Ne Nat lp I := ho _ (.head _)
    have hf1 := hTf p (List.mem_of_getElem? hp)
    obtain ⟨zz, hzz⟩ : ∃ zz, (p.2.map vOf).length = zz := ⟨_, rfl⟩
    have hf2 := forms_len k h8 p (List.mem_of_getElem? hp)
    rw [← List.length_map (f := vOf), hzz] at hf2
    obtain ⟨hf3, hf4⟩ := hf2
    (try dsimp only)
    (try k_unmd)
    k_fold
    clear F5 F6 N5
    k_steps
    rename Fr _ _ _ _ => F8
    rename News _ _ _ _ => N8
    have hdr : (tabN k).drop i = p :: (tabN k).drop (i + 1) := by
      obtain ⟨hlt, e⟩ := List.getElem?_eq_some_iff.mp hp
      rw [← e]; exact (List.drop_eq_getElem_cons hlt)
    refine TurnEnd.next (news' := [(lp, _)]) F8 N8 (fun _ h => h) (fun q hq => by rw [List.mem_singleton.mp hq]; exact hne) ⟨_, _, _, _, _, xs ++ [(p.2.getD (Int.fmod f zz).toNat (Str.empty, 0)).1], rfl, funext (canon_step (u := u) (u' := some (.ref p.1)) (f := f) (tf := tf)), ?_, ?_, ?_⟩
    · rw [Array.size_push, hps]
    · rw [Array.toList_push]; exact snoc_str hxs _ _
    · have e : p.2.length = zz := by rw [← hzz, List.length_map]
      rw [hpk, hdr, picks, e, List.append_assoc]; rfl
  · rintro h3 tk3 m3 news3 F7 N7 ⟨u, f, tf, ps, nn, xs, rfl, rfl, hps, hxs, hpk⟩
    rw [hz] at hps
    rw [List.drop_of_length_le (by rw [List.length_map]; exact Nat.le_refl _), picks, List.append_nil] at hpk
    obtain ⟨vs, rfl⟩ : ∃ vs : List Value, ps = vs.toArray := ⟨ps.toList, by simp⟩
    simp only [List.size_toArray] at hps
    simp only [List.toList_toArray] at hxs
    subst hm₀
    clear F5 F6 N5
    have hkz0 : 0 ≤ (n.fdiv 5).fmod (z : Int) := Int.fmod_nonneg_of_pos _ (by omega)
    have hkz1 : (n.fdiv 5).fmod (z : Int) < z := Int.fmod_lt_of_pos _ (by omega)
    change Fr s.heap L h3 _ at F7
    change News s.heap L h3 _ at N7
    (try dsimp only)
    (try k_unmd)
    (try k_fold)
    k_steps
    all_goals refine Hold.out ?_
    all_goals (
      have hsh : Sh xs := hpk ▸ picks_sh _ _ (tab_sh k h8)
      have hle := hxs.len_eq
      have hzl : (tabN k).length = z := by rw [← hz, List.length_map]
      refine' row_end (by first | is_list | kmk_list) ?hv ?hw ?hn ?hq
      case hv => first | exact (hxs.take' _).append' (hxs.drop' _) | exact ((hxs.take' _).append' (.cons _ _ .nil)).append' (hxs.drop' _) | exact hxs.append' (.cons _ _ .nil) | exact StrsAre.append' (.cons _ _ .nil) hxs | exact hxs
      case hw => first | exact hsh | exact sh_app (sh_take hsh _) (sh_drop hsh _) | exact sh_app (sh_app (sh_take hsh _) (sh_cons (sh_getD hsh _) sh_nil)) (sh_drop hsh _) | exact sh_app hsh (sh_cons (by decide +kernel) sh_nil) | exact sh_app (sh_cons (by decide +kernel) sh_nil) hsh
      case hn => ((try simp only [List.length_append, List.length_take, List.length_drop, List.length_cons, List.length_nil]); omega)
      case hq =>
        intro t tk
        refine hR _ _ _ (Fr.keep (by assumption)) ⟨t, ?_⟩
        unfold lawRow
        rw [hzl, hpk]
        simp [bend, *])
end
end Mine
end
section
set_option maxRecDepth 100000
set_option maxHeartbeats 8000000
namespace Mine
/-- the pattern and the law's plain reading say the same of this row -/
def okRow (k : Nat) (x : Str) : Bool := decide (x.length < 100) && (reOut (patC k) (patG k) x == some (lawIs (k : Int) x))
theorem patG_le : ∀ k, patG k ≤ 10
  | 0 => by decide | 1 => by decide | 2 => by decide | 3 => by decide | 4 => by decide | 5 => by decide | 6 => by decide | _ + 7 => by simp [patG]
abbrev matchObj (vs : Array Value) : Obj := { cls := .type "re.Match", data := .fields vs }
theorem call_match {w : World} {A : Around} {E : Value → Shared → Prop} {s : Shared} {h₀ : Heap} {L : Addr} {m : Str → Option Value} {news : List (Addr × Obj)} {k : Nat} {x : Str} {t : Tok} {Q : Value → Shared → Prop}
    (F : Fr h₀ L s.heap m) (N : News h₀ L s.heap news) (X : (hd.heap_39 w.params).In h₀) (hk : k < 8) (hok : okRow k x = true)
    (h1 : lawIs (k : Int) x = true → ∀ D h' vs, Fr h₀ L h' m → News h₀ L h' ((D, matchObj vs) :: news) → (∀ p ∈ news, p.1 < D) → Q (.ref D) { s with heap := h' })
    (h0 : lawIs (k : Int) x = false → Q .none s) : wpAny (model PR w) A (call (.builtin "re.Pattern.match") [.ref (patA k), .str x t]) Q E s := by
  unfold okRow at hok
  rw [Bool.and_eq_true, decide_eq_true_eq, beq_iff_eq] at hok
  refine match_at (pat_at (X.keeps F.keep) k hk) hok.1 (patG_le k) hok.2 (fun hb D h' vs hk' hD hs => ?_) h0
  refine h1 hb D h' vs (F.keeps hk') (fun p hp => ?_) fun p hp => Nat.lt_of_lt_of_le (Heap.lt_size (N p hp).1) hs
  rcases List.mem_cons.mp hp with rfl | hp
  · refine ⟨hD, Nat.ne_of_gt (Nat.lt_of_lt_of_le F.ns.lt hs), ?_⟩
    cases e : h₀.get? D with
    | none => rfl
    | some o => exact absurd (Heap.lt_size (F.keep _ _ e)) (Nat.not_lt.mpr hs)
  · exact N.grown hk' p hp
theorem get_match {w : World} {A : Around} {E : Value → Shared → Prop} {s : Shared} {h₀ : Heap} {L : Addr} {m : Str → Option Value} {k : Nat} {pl : Sem Bool} {Q : Value × List Value → Shared → Prop}
    (F : Fr h₀ L s.heap m) (X : (hd.heap_39 w.params).In h₀) (hk : k < 8) (h : Q (.builtin "re.Pattern.match", [.ref (patA k)]) s) : wpAny (model PR w) A (getMethod (.ref (patA k)) (Str.ofString "match") pl) Q E s := by
  obtain ⟨p, t, u, ha, _⟩ := pat_at (X.keeps F.keep) k hk
  exact getMethod_builtin ⟨_, ha, rfl⟩ plainAttrs_pat slot_match type_match (fun a e => by cases e; exact ⟨_, ha, rfl⟩) h
theorem truthy_match {w : World} {A : Around} {E : Value → Shared → Prop} {s : Shared} {h₀ : Heap} {L D : Addr} {vs : Array Value} {news : List (Addr × Obj)} {Q : Bool → Shared → Prop}
    (N : News h₀ L s.heap ((D, matchObj vs) :: news)) (h : Q true s) : wpAny (model PR w) A (truthy (.ref D)) Q E s := by
  have hT : s.TypeIs (.ref D) "re.Match" := ⟨_, (N _ (.head _)).1, rfl⟩
  unfold truthy
  refine wpAny_bind (wpAny_callSpecial?_none (name := Str.ofString "__bool__") hT noBool_match ?_)
  refine wpAny_bind (wpAny_specialOf (name := Str.ofString "__len__") hT noLen_match ?_)
  exact wpAny_pure h
def placesUp (k : Nat) (xs : List Str) (i : Nat) : List Int := ((List.range i).filter fun j => lawIs (k : Int) (xs.getD j Str.empty)).map fun (j : Nat) => (j : Int)
theorem placesUp_len (k : Nat) (xs : List Str) (i : Nat) : (placesUp k xs i).length ≤ i := by
  unfold placesUp
  rw [List.length_map]
  exact Nat.le_trans (List.length_filter_le _ _) (by rw [List.length_range]; exact Nat.le_refl _)
theorem placesUp_yes {k : Nat} {xs : List Str} {i : Nat} (h : lawIs (k : Int) (xs.getD i Str.empty) = true) : placesUp k xs (i + 1) = placesUp k xs i ++ [(i : Int)] := by
  unfold placesUp; rw [List.range_succ, List.filter_append, List.map_append, List.filter_cons, h]; simp
theorem placesUp_no {k : Nat} {xs : List Str} {i : Nat} (h : lawIs (k : Int) (xs.getD i Str.empty) = false) : placesUp k xs (i + 1) = placesUp k xs i := by
  unfold placesUp; rw [List.range_succ, List.filter_append, List.map_append, List.filter_cons, h]; simp
end Mine
end
section
set_option maxRecDepth 100000
set_option maxHeartbeats 8000000
namespace Mine
local macro_rules | `(tactic| walk_at "no such step 0") => `(tactic| fail)
local macro_rules | `(tactic| walk_at "no such step 1") => `(tactic| fail)
local macro_rules | `(tactic| walk_at "no such step 2") => `(tactic| fail)
theorem quiet_LB7 : True := by
  w_top off
  trivial
def canonF (u uk : Option Value) (m₀ : Str → Option Value) : Str → Option Value :=
  fun y => if y = Str.ofString "i" then u else if y = Str.ofString "k" then uk else m₀ y
theorem canonF_start {m₀ : Str → Option Value} (h1 : m₀ (Str.ofString "i") = none) (h2 : m₀ (Str.ofString "k") = none) : m₀ = canonF none none m₀ := by
  funext y
  unfold canonF
  by_cases a : y = Str.ofString "i"
  · rw [if_pos a, a, h1]
  by_cases b : y = Str.ofString "k"
  · rw [if_neg a, if_pos b, b, h2]
  · rw [if_neg a, if_neg b]
theorem canonF_step {u u' uk uk' : Option Value} {m₀ : Str → Option Value} (y : Str) : (if y = Str.ofString "k" then uk' else if y = Str.ofString "i" then u' else canonF u uk m₀ y) = canonF u' uk' m₀ y := by
  unfold canonF
  by_cases a : y = Str.ofString "i"
  · subst a; rfl
  by_cases b : y = Str.ofString "k"
  · rw [if_pos b, if_neg a, if_pos b]
  · simp only [if_neg a, if_neg b]
theorem canonF_step2 {u u' uk uk' uk2 : Option Value} {m₀ : Str → Option Value} (y : Str) : (if y = Str.ofString "k" then uk' else if y = Str.ofString "k" then uk2 else if y = Str.ofString "i" then u' else canonF u uk m₀ y) = canonF u' uk' m₀ y := by
  by_cases b : y = Str.ofString "k"
  · rw [if_pos b, ← canonF_step (u := u) (uk := uk) (u' := u') (uk' := uk'), if_pos b]
  · rw [if_neg b, if_neg b, ← canonF_step (u := u) (uk := uk) (u' := u') (uk' := uk'), if_neg b]
section
local macro_rules | `(tactic| walk_at "exec For Name Call cons nil") => `(tactic| (refine hold ?_))
local macro_rules | `(tactic| walk_at "exec For Name Name cons nil") => `(tactic| (refine hold ?_))
local macro_rules | `(tactic| walk_at "call builtin:len") => `(tactic| ((refine len_z (by is_list) (by assumption) (by omega) ?_); intro t' kk'; (try dsimp only)))
local macro_rules | `(tactic| walk_at "getMethod ref") => `(tactic| ((rename Fr _ _ _ _ => kF); (refine get_match kF (by assumption) (by assumption) ?_)))
local macro_rules | `(tactic| walk_at "subscriptTail Name Name ref int") => `(tactic| ((with_reducible show wpAny _ _ (subscriptTail _ _ (Value.ref _) (Value.int _ _)) _ _ _); k_dflt (refine' ks_item ?l ?v ?a ?b ?z ?_ ?s ?t; (case l => first | is_list | kmk_list); (case v => assumption); (case a => omega); (case b => omega); (case z => omega); (case s => with_unfolding_all rfl); (case t => kmk_pure)); intro t' ht'; (try dsimp only)))
local macro_rules | `(tactic| walk_at "callWith") => `(tactic| ((rename Fr _ _ _ _ => kF); (rename News _ _ _ _ => kN); (refine new_list_0 kF kN ?_); intro D' n' h' F' N' l1; clear kF kN; (try k_lt l1)))
local macro_rules | `(tactic| walk_at "call builtin:re.Pattern.match") => `(tactic| ((rename Fr _ _ _ _ => kF); (rename News _ _ _ _ => kN); (refine' call_match kF kN ?X ?k ?o ?y ?n; (case X => assumption); (case k => assumption); (case o => assumption); (case' y => intro hb D' h' vs' F' N' l1; (try dsimp only); (try k_lt l1)); (case' n => intro hb; (try dsimp only)))))
local macro_rules | `(tactic| walk_at "truthy ref") => `(tactic| (refine truthy_match (by assumption) ?_))
local macro_rules | `(tactic| walk_at "call builtin:list.append") => `(tactic| ((with_reducible show wpAny _ _ (call (Value.builtin _) [Value.ref _, _]) _ _ _); k_dflt (refine' append_K ?k1 ?k2 ?k3 ?_ ?z; (case k1 => k_asm); (case k2 => k_asm); (case k3 => k_upd); (case z => (rw [sizeLine_eq]; (try simp only [List.size_toArray]); omega)); k_whole); intro h' F' N'; (try k_sweep)))
theorem findall_c {w : World} {p : Program} {loose : List Str} {mean : ExcName → Option Value} {mg mb : Str → Option Value} {A : Around} {s : Shared} {l : Addr} {k : Nat} {vs : List Value} {xs : List Str} 
    (X : (hd.heap_39 w.params).In s.heap) (T : Top p loose mean mg mb s.heap) (hA : Fit A 340 140) (h8 : k < 8) (hl : s.heap.IsList l vs.toArray) (hv : StrsAre vs xs) (hz : xs.length ≤ 63) (hok : ∀ x ∈ xs, okRow k x = true) :
    Gives w A 38 [.ref l, .ref (patA k)] s (fun v h' => ∃ D ws nn, v = .ref D ∧ h'.get? D = some (W.listOf (List.toArray ws) nn) ∧ s.heap.get? D = none ∧ IntsAre ws (placesUp k xs xs.length)) := by
  intro R hR
  refine fit_code hA ?_
  have hz' := hv.len_eq
  refine enter X T.nolimit (by rfl) (by rfl) (by decide) (BindsTo.of_eq rfl) (locs rfl) rfl rfl rfl (by decide) (fun L h₁ F N => ?_)
  (try dsimp only)
  (try k_unmd)
  k_fold
  k_steps
  refine Hold.out ?_
  rename Fr _ _ _ _ => F5
  rename News _ _ _ _ => N5
  refine led1 N5 fun lp hlp => ?_
  subst hlp
  refine with_map F5 fun m₀ hm₀ _ => ?_
  rename Fr _ _ _ m₀ => F6
  clear F6
  refine for_range (h₀ := s.heap) (fun i m news => ∃ u uk ws nn, news = [(lp, W.listOf (List.toArray ws) nn)] ∧ m = canonF u uk m₀ ∧ IntsAre ws (placesUp k xs i)) 0 xs.length rfl (by rfl) (by rfl) (fun _ => by rfl) (by passes_own) (by decide) (by decide) (by omega) (by omega) ?_
  k_steps
  rename Fr _ _ _ _ => F5
  rename News _ _ _ _ => N5
  rename IsRange _ _ _ _ _ _ _ _ => hr
  refine Hold.out ⟨_, _, _, _, _, _, rfl, hr, fr_as F5 (fun y => (congrFun hm₀ y).symm), N5, ⟨none, none, [], _, rfl, canonF_start (by rw [hm₀]; rfl) (by rw [hm₀]; rfl), .nil⟩, ?_, ?_⟩
  · rintro I g hIg i v m₁ news₁ h tk' oI hi ⟨t, rfl⟩ ⟨u, uk, ws, nn, rfl, rfl, hws⟩ F7 N7 ho
    have hwl : ws.length ≤ i := by rw [hws.length]; exact placesUp_len k xs i
    have hix : i < xs.length := by omega
    have hne : @Ne Nat lp I := ho _ (.head _)
    change Fr s.heap L h _ at F7
    change News s.heap L h _ at N7
    rw [Int.zero_add] at F7
    have hx : okRow k (xs.getD (i : Int).toNat Str.empty) = true := by
      refine hok _ ?_
      rw [Int.toNat_natCast, List.getD_eq_getElem?_getD, List.getElem?_eq_getElem hix]
      exact List.getElem_mem hix
    subst hm₀
    clear F5 N5
    (try dsimp only)
    (try k_unmd)
    (try k_fold)
    k_steps
    all_goals (rename Fr _ _ _ _ => F8; rename News _ _ _ _ => N8)
    · rename lawIs k _ = false => hb
      have hb' : lawIs k (xs.getD i Str.empty) = false := hb
      refine TurnEnd.next (news' := [(lp, _)]) F8 N8 (fun _ h => h) (fun q hq => by rw [List.mem_singleton.mp hq]; exact hne) ⟨_, _, ws, _, rfl, funext fun y => canonF_step y, ?_⟩
      rw [placesUp_no hb']
      exact hws
    · rename lawIs k _ = true => hb
      have hb' : lawIs k (xs.getD i Str.empty) = true := hb
      have hm : ∀ {x a b : Addr × Obj} {l : List (Addr × Obj)}, ∀ q ∈ [a, b], q ∈ x :: a :: b :: l := by
        intro x a b l q hq
        rcases List.mem_cons.mp hq with rfl | hq
        · exact .tail _ (.head _)
        · rw [List.mem_singleton.mp hq]; exact .tail _ (.tail _ (.head _))
      refine TurnEnd.next (news' := [(lp, _)]) F8 N8 hm (fun q hq => by rw [List.mem_singleton.mp hq]; exact hne) ⟨_, _, ws ++ [.int i t], nn + 1, ?_, funext fun y => canonF_step2 y, ?_⟩
      · rw [← show (List.toArray ws).push (Value.int i t) = List.toArray (ws ++ [.int i t]) from List.push_toArray ..]
      · rw [placesUp_yes hb']
        exact ints_snoc hws _ _
  · rintro h3 tk3 m3 news3 F7 N7 ⟨u, uk, ws, nn, rfl, rfl, hws⟩
    have ez : ((xs.length : Int) - 0).toNat = xs.length := by omega
    rw [ez] at hws
    subst hm₀
    clear F5 N5
    change Fr s.heap L h3 _ at F7
    change News s.heap L h3 _ at N7
    have hg := (N7 _ (.head _)).1
    have hn0 := (N7 _ (.head _)).2.2
    (try dsimp only)
    (try k_unmd)
    (try k_fold)
    k_steps
    refine hR _ _ _ (Fr.keep (by assumption)) ⟨lp, ws, nn, rfl, ?_, hn0, hws⟩
    exact hg
end
end Mine
end
section
set_option maxRecDepth 100000
set_option maxHeartbeats 8000000
namespace Mine
theorem quiet_LB8 : True := by
  w_top off
  trivial
theorem placesUp_lt {k : Nat} {xs : List Str} {n : Nat} {x : Int} (h : x ∈ placesUp k xs n) : 0 ≤ x ∧ x < n := by
  unfold placesUp at h
  obtain ⟨j, hj, rfl⟩ := List.mem_map.mp h
  have := List.mem_range.mp (List.mem_filter.mp hj).1
  exact ⟨Int.natCast_nonneg _, Int.ofNat_lt.mpr this⟩
theorem placesUp_sorted (k : Nat) (xs : List Str) : ∀ n, (placesUp k xs n).Pairwise (· ≤ ·)
  | 0 => .nil
  | n + 1 => by
    cases e : lawIs (k : Int) (xs.getD n Str.empty) with
    | true =>
      rw [placesUp_yes e]
      exact List.pairwise_append.mpr ⟨placesUp_sorted k xs n, List.pairwise_singleton _ _, fun a ha b hb => by rw [List.mem_singleton.mp hb]; exact Int.le_of_lt (placesUp_lt ha).2⟩
    | false => rw [placesUp_no e]; exact placesUp_sorted k xs n
def runs (vs : List Value) : Option Int → List Int → List (List Value)
  | none, [] => [vs]
  | some k, [] => [vs.drop k.toNat]
  | none, i :: r => ((vs.drop (0 : Int).toNat).take (i.toNat - (0 : Int).toNat)) :: runs vs (some i) r
  | some k, i :: r => ((vs.drop k.toNat).take (i.toNat - k.toNat)) :: runs vs (some i) r
def cellOf (c : Addr × List Value) : Addr × Obj := (c.1, W.listOf c.2.toArray 0)
def refOf (c : Addr × List Value) : Value := .ref c.1
def canonS (u uk : Option Value) (m₀ : Str → Option Value) : Str → Option Value :=
  fun y => if y = Str.ofString "i" then u else if y = Str.ofString "k" then uk else m₀ y
theorem canonS_step {u u' uk uk' : Option Value} {m₀ : Str → Option Value} (y : Str) : (if y = Str.ofString "k" then uk' else if y = Str.ofString "i" then u' else canonS u uk m₀ y) = canonS u' uk' m₀ y := by
  unfold canonS
  by_cases a : y = Str.ofString "i"
  · subst a; rfl
  by_cases b : y = Str.ofString "k"
  · rw [if_pos b, if_neg a, if_pos b]
  · simp only [if_neg a, if_neg b]
theorem canonS_start {uk : Option Value} {m₀ : Str → Option Value} (h1 : m₀ (Str.ofString "i") = none) (h2 : m₀ (Str.ofString "k") = uk) : m₀ = canonS none uk m₀ := by
  funext y
  unfold canonS
  by_cases a : y = Str.ofString "i"
  · rw [if_pos a, a, h1]
  by_cases b : y = Str.ofString "k"
  · rw [if_neg a, if_pos b, b, h2]
  · rw [if_neg a, if_neg b]
theorem call_find {w : World} {p : Program} {loose : List Str} {mean : ExcName → Option Value} {mg mb : Str → Option Value} {A : Around} {s : Shared} {l : Addr} {k : Nat} {vs : List Value} {xs : List Str} {h₀ : Heap} {L : Addr} {m : Str → Option Value} {news : List (Addr × Obj)} {Q E : Value → Shared → Prop}
    (F : Fr h₀ L s.heap m) (N : News h₀ L s.heap news) (X : (hd.heap_39 w.params).In h₀) (T : Top p loose mean mg mb h₀) (hA : Fit A 340 140) (h8 : k < 8) (hl : s.heap.IsList l vs.toArray) (hv : StrsAre vs xs) (hz : xs.length ≤ 63) (hok : ∀ x ∈ xs, okRow k x = true)
    (h : ∀ D ws nn h' tk, IntsAre ws (placesUp k xs xs.length) → Fr h₀ L h' m → News h₀ L h' ((D, W.listOf (List.toArray ws) nn) :: news) → (∀ p ∈ news, p.1 ≠ D) → Q (.ref D) { s with heap := h', toks := tk }) :
    wpAny (model PR w) A (call (.ref 38) [.ref l, .ref (patA k)]) Q E s :=
  call_gives (findall_c (X.keeps F.keep) (T.keeps F.keep) hA h8 hl hv hz hok) F N fun v h' tk hk hP F' N' => by
    obtain ⟨D, ws, nn, rfl, hD, hD0, hws⟩ := hP
    refine h D ws nn h' tk hws F' (fun q hq => ?_) fun q hq e => ?_
    · rcases List.mem_cons.mp hq with rfl | hq
      · refine ⟨hD, fun e => ?_, ?_⟩
        · obtain ⟨oL, es, ep, hL, r⟩ := F.ns
          rw [← e, hD0] at hL; cases hL
        · cases e : h₀.get? D with
          | none => rfl
          | some o => rw [F.keep _ _ e] at hD0; cases hD0
      · exact N' q hq
    · rw [← e, (N q hq).1] at hD0; cases hD0
theorem cells_mem {a b c : Addr × Obj} {D : Addr} {g : List Value} {cs : List (Addr × List Value)} : ∀ q ∈ a :: b :: c :: (cs ++ [(D, g)]).map cellOf, q ∈ (D, W.listOf (List.toArray g) 0) :: a :: b :: c :: cs.map cellOf := by
  intro q hq
  rw [List.map_append] at hq
  rcases List.mem_cons.mp hq with rfl | hq
  · exact .tail _ (.head _)
  rcases List.mem_cons.mp hq with rfl | hq
  · exact .tail _ (.tail _ (.head _))
  rcases List.mem_cons.mp hq with rfl | hq
  · exact .tail _ (.tail _ (.tail _ (.head _)))
  rcases List.mem_append.mp hq with hq | hq
  · exact .tail _ (.tail _ (.tail _ (.tail _ hq)))
  · rw [List.mem_singleton.mp hq]; exact .head _
theorem cells_ne {D x : Addr} {g : List Value} {cs : List (Addr × List Value)} (h : ∀ p ∈ cs.map cellOf, p.1 ≠ x) (hD : @Ne Nat D x) : ∀ p ∈ (cs ++ [(D, g)]).map cellOf, p.1 ≠ x := by
  intro q hq
  rw [List.map_append] at hq
  rcases List.mem_append.mp hq with hq | hq
  · exact h q hq
  · rw [List.mem_singleton.mp hq]; exact hD
theorem cells_nodup {D : Addr} {g : List Value} {cs : List (Addr × List Value)} (h : (cs.map (·.1)).Nodup) (hD : ∀ p ∈ cs.map cellOf, @LT.lt Nat _ p.1 D) : ((cs ++ [(D, g)]).map (·.1)).Nodup := by
  rw [List.map_append, List.nodup_append]
  refine ⟨h, List.pairwise_singleton _ _, fun a ha b hb => ?_⟩
  rw [List.mem_singleton.mp hb]
  obtain ⟨c, hc, rfl⟩ := List.mem_map.mp ha
  exact Nat.ne_of_lt (hD _ (List.mem_map_of_mem hc))
theorem refs_push {D : Addr} {g : List Value} {cs : List (Addr × List Value)} : ((cs ++ [(D, g)]).map refOf).toArray = (cs.map refOf).toArray.push (.ref D) := by
  rw [List.map_append]; exact (List.push_toArray ..).symm
section
local macro_rules | `(tactic| k_all) => `(tactic| assumption)
local macro_rules | `(tactic| walk_at "exec For Name Name cons nil") => `(tactic| (refine hold ?_))
local macro_rules | `(tactic| walk_at "callWith") => `(tactic| ((with_reducible show wpAny _ _ (callWith _ (.type "list") [] _ _) _ _ _); (rename Fr _ _ _ _ => kF); (rename News _ _ _ _ => kN); (refine new_list_0 kF kN ?_); intro D' n' h' F' N' l1; clear kF kN; (try k_lt l1)))
local macro_rules | `(tactic| walk_at "call ref") => `(tactic| ((rename Fr _ _ _ _ => kF); (rename News _ _ _ _ => kN); (refine call_find kF kN (by assumption) (by assumption) ⟨rfl, Nat.le_of_ble_eq_true rfl, Nat.le_of_ble_eq_true rfl⟩ (by assumption) (by is_list) (by assumption) (by assumption) (by assumption) ?_); clear kF kN; intro D' ws' n' h' tk' hw' F' N' l1; (try dsimp only)))
local macro_rules | `(tactic| walk_at "call builtin:list.append") => `(tactic| ((with_reducible show wpAny _ _ (call (Value.builtin _) [Value.ref _, _]) _ _ _); k_dflt (refine' append_K ?k1 ?k2 ?k3 ?_ ?z; (case k1 => k_asm); (case k2 => k_asm); (case k3 => k_upd); (case z => (rw [sizeLine_eq]; (try simp only [List.size_toArray, List.length_map]); omega)); k_whole); intro h' F' N'; (try k_sweep)))
local macro_rules | `(tactic| walk_at "subscriptTail Name Slice ref ref") => `(tactic| ((with_reducible show wpAny _ _ (subscriptTail _ (PySem.Expr.Slice _ _ none _) (Value.ref _) (Value.ref _)) _ _ _); k_dflt (first | (refine' ks_mid ?F ?N ?l ?a ?ab ?b ?z ?_ ?s ?t; (case ab => omega)) | refine' ks_from ?F ?N ?l ?a ?b ?z ?_ ?s ?t | refine' ks_all ?F ?N ?l ?z ?_ ?s ?t); (case F => k_asm); (case N => k_asm); (case l => first | is_list | kmk_list); (try case a => omega); (try case b => omega); (case z => omega); (case s => with_unfolding_all rfl); (case t => kmk_pure); intro D' h' F' N' l1; have l2' := l1; (try k_lt l1); (try k_sweep)))
theorem split_c {w : World} {p : Program} {loose : List Str} {mean : ExcName → Option Value} {mg mb : Str → Option Value} {A : Around} {s : Shared} {l : Addr} {k : Nat} {vs : List Value} {xs : List Str} 
    (X : (hd.heap_39 w.params).In s.heap) (T : Top p loose mean mg mb s.heap) (hA : Fit A 330 110) (h8 : k < 8) (hl : s.heap.IsList l vs.toArray) (hv : StrsAre vs xs) (hz : xs.length ≤ 63) (hok : ∀ x ∈ xs, okRow k x = true) :
    Gives w A 45 [.ref l, .ref (patA k)] s (fun v h' => ∃ (D : Addr) (cs : List (Addr × List Value)) (nn : Nat), v = .ref D ∧ h'.get? D = some (W.listOf (List.toArray (cs.map refOf)) nn) ∧ s.heap.get? D = none ∧
      (∀ c ∈ cs, h'.get? c.1 = some (W.listOf (List.toArray c.2) 0) ∧ s.heap.get? c.1 = none ∧ c.1 ≠ D) ∧ (cs.map (·.1)).Nodup ∧ cs.map (·.2) = runs vs none (placesUp k xs xs.length)) := by
  intro R hR
  refine fit_code hA ?_
  have hz' := hv.len_eq
  refine enter X T.nolimit (by rfl) (by rfl) (by decide) (BindsTo.of_eq rfl) (locs rfl) rfl rfl rfl (by decide) (fun L h₁ F N => ?_)
  (try dsimp only)
  (try k_unmd)
  k_fold
  k_steps
  refine Hold.out ?_
  rename_i lp nl _ _ _ r ws nr _ _ hws hne5 _ _ F5 N5
  obtain ⟨ps, hps⟩ : ∃ ps, placesUp k xs xs.length = ps := ⟨_, rfl⟩
  have hps0 : ∀ x ∈ ps, 0 ≤ x ∧ x < xs.length := fun x hx => placesUp_lt (hps ▸ hx)
  have hps1 : ps.Pairwise (· ≤ ·) := hps ▸ placesUp_sorted k xs xs.length
  have hpsn : ps.length ≤ 63 := hps ▸ Nat.le_trans (placesUp_len k xs _) hz
  rw [hps] at hws hR
  have hwl := hws.length
  have hrl : @Ne Nat lp r := hne5 _ (.head _)
  refine with_map F5 fun m₀ hm₀ _ => ?_
  rename Fr _ _ _ m₀ => F6
  clear F6
  refine for_list (h₀ := s.heap) (fun i m news => ∃ (u uk : Option Value) (cur : Option Int) (cs : List (Addr × List Value)) (nn : Nat), news = (r, W.listOf (List.toArray ws) nr) :: (lp, W.listOf (List.toArray (cs.map refOf)) nn) :: cs.map cellOf ∧ m = canonS u uk m₀ ∧ (cs.map (·.1)).Nodup ∧ (∀ p ∈ cs.map cellOf, p.1 ≠ lp) ∧ cs.length = i ∧
    (cur = none ∧ uk = some .none ∨ ∃ (c : Int) (t : Tok), cur = some c ∧ uk = some (.int c t) ∧ 0 ≤ c ∧ c ≤ xs.length ∧ ∀ y ∈ ps.drop i, c ≤ y) ∧ runs vs none ps = cs.map (·.2) ++ runs vs cur (ps.drop i)) ws rfl (by rfl) (by rfl) (fun _ => by rfl) (by passes_own) ?_
  k_steps
  refine Hold.out ⟨r, _, _, rfl, ?_, .inr ⟨(N5 _ (.head _)).2.1, _, (N5 _ (.head _)).1, ?_⟩, fr_as F5 (fun y => (congrFun hm₀ y).symm), N5, ⟨none, _, none, [], nl, rfl, canonS_start (by rw [hm₀]; rfl) (by rw [hm₀]; rfl), List.nodup_nil, (fun _ h => nomatch h), rfl, .inl ⟨rfl, rfl⟩, rfl⟩, ?_, ?_⟩
  · first | is_list | kmk_list
  · rintro i m' nw ⟨u, uk, cur, cs, nn, rfl, _⟩
    exact .head _
  · rintro I g hIg i v m₁ news₁ h tk' oI hi hv ⟨u, uk, cur, cs, nn, rfl, rfl, hnd, hlp, hcl, hcur, hrun⟩ F7 N7 ho
    obtain ⟨x, tx, rfl, hx⟩ := hws.at i v hv
    have hxm : x ∈ ps := List.mem_of_getElem? hx
    obtain ⟨hx0, hx1⟩ := hps0 x hxm
    have hdr : ps.drop i = x :: ps.drop (i + 1) := by
      obtain ⟨hlt, e⟩ := List.getElem?_eq_some_iff.mp hx
      rw [← e]; exact (List.drop_eq_getElem_cons hlt)
    have hmo : ∀ y ∈ ps.drop (i + 1), x ≤ y := by
      have := hps1.sublist (List.drop_sublist i ps)
      rw [hdr] at this
      exact (List.pairwise_cons.mp this).1
    have hrI : @Ne Nat r I := ho _ (.head _)
    have hlI : @Ne Nat lp I := ho _ (.tail _ (.head _))
    change Fr s.heap L h _ at F7
    change News s.heap L h _ at N7
    rw [hdr] at hrun hcur
    have hcl' : cs.length ≤ 63 := by omega
    clear F5 N5
    rcases hcur with ⟨rfl, rfl⟩ | ⟨c, tc, rfl, rfl, hc0, hcn, hcle⟩
    · subst hm₀
      (try dsimp only)
      (try k_unmd)
      (try k_fold)
      k_steps
      rename Fr _ _ _ _ => F8
      rename News _ _ _ _ => N8
      rename (∀ (p : Addr × Obj), p ∈ (I, oI) :: _ → _) => l2
      have hID := l2 _ (.head _)
      have hrD := l2 _ (.tail _ (.head _))
      have hpD := l2 _ (.tail _ (.tail _ (.head _)))
      refine TurnEnd.next (news' := (r, _) :: (lp, _) :: (cs ++ [(_, _)]).map cellOf) F8 N8 cells_mem (fun q hq => ?_) ⟨_, _, some x, cs ++ [(_, (vs.drop (0 : Int).toNat).take (x.toNat - (0 : Int).toNat))], nn + 1, ?_, funext fun y => canonS_step y, cells_nodup hnd (fun p hp => l2 p (.tail _ (.tail _ (.tail _ hp)))), cells_ne hlp (Nat.ne_of_gt hpD), (by rw [List.length_append, hcl]; rfl), .inr ⟨x, tx, rfl, rfl, hx0, by omega, hmo⟩, ?_⟩
      · rcases List.mem_cons.mp hq with rfl | hq
        · exact hrI
        rcases List.mem_cons.mp hq with rfl | hq
        · exact hlI
        exact cells_ne (fun p hp => ho p (.tail _ (.tail _ hp))) (Nat.ne_of_gt hID) q hq
      · rw [refs_push]
      · rw [hrun, List.map_append, List.append_assoc]; rfl
    · have hcx : c ≤ x := hcle x (.head _)
      subst hm₀
      (try dsimp only)
      (try k_unmd)
      (try k_fold)
      k_steps
      rename Fr _ _ _ _ => F8
      rename News _ _ _ _ => N8
      rename (∀ (p : Addr × Obj), p ∈ (I, oI) :: _ → _) => l2
      have hID := l2 _ (.head _)
      have hrD := l2 _ (.tail _ (.head _))
      have hpD := l2 _ (.tail _ (.tail _ (.head _)))
      refine TurnEnd.next (news' := (r, _) :: (lp, _) :: (cs ++ [(_, _)]).map cellOf) F8 N8 cells_mem (fun q hq => ?_) ⟨_, _, some x, cs ++ [(_, (vs.drop c.toNat).take (x.toNat - c.toNat))], nn + 1, ?_, funext fun y => canonS_step y, cells_nodup hnd (fun p hp => l2 p (.tail _ (.tail _ (.tail _ hp)))), cells_ne hlp (Nat.ne_of_gt hpD), (by rw [List.length_append, hcl]; rfl), .inr ⟨x, tx, rfl, rfl, hx0, by omega, hmo⟩, ?_⟩
      · rcases List.mem_cons.mp hq with rfl | hq
        · exact hrI
        rcases List.mem_cons.mp hq with rfl | hq
        · exact hlI
        exact cells_ne (fun p hp => ho p (.tail _ (.tail _ hp))) (Nat.ne_of_gt hID) q hq
      · rw [refs_push]
      · rw [hrun, List.map_append, List.append_assoc]; rfl
  · rintro h3 tk3 m3 news3 F7 N7 ⟨u, uk, cur, cs, nn, rfl, rfl, hnd, hlp, hcl, hcur, hrun⟩
    rw [hwl] at hrun hcur
    rw [List.drop_length] at hrun hcur
    have hcl' : cs.length ≤ 63 := by omega
    clear F5 N5
    subst hm₀
    change Fr s.heap L h3 _ at F7
    change News s.heap L h3 _ at N7
    rcases hcur with ⟨rfl, rfl⟩ | ⟨c, tc, rfl, rfl, hc0, hcn, hcle⟩
    · (try dsimp only)
      (try k_unmd)
      (try k_fold)
      k_steps
      rename News _ _ _ _ => N8
      rename (∀ (p : Addr × Obj), p ∈ (r, _) :: _ → _) => l2
      have hpD := l2 _ (.tail _ (.head _))
      refine hR _ _ _ (Fr.keep (by assumption)) ⟨lp, cs ++ [(_, vs)], nn + 1, rfl, ?_, (N8 _ (.tail _ (.tail _ (.head _)))).2.2, fun c hc => ?_, cells_nodup hnd (fun p hp => l2 p (.tail _ (.tail _ hp))), ?_⟩
      · rw [refs_push]
        exact (N8 _ (.tail _ (.tail _ (.head _)))).1
      · have hm := List.mem_map_of_mem (f := cellOf) hc
        have hN := N8 _ (by
          rw [List.map_append] at hm
          rcases List.mem_append.mp hm with hm | hm
          · exact .tail _ (.tail _ (.tail _ hm))
          · rw [List.mem_singleton.mp hm]; exact .head _)
        exact ⟨hN.1, hN.2.2, cells_ne hlp (Nat.ne_of_gt hpD) _ hm⟩
      · rw [hrun, List.map_append]; rfl
    · (try dsimp only)
      (try k_unmd)
      (try k_fold)
      k_steps
      rename News _ _ _ _ => N8
      rename (∀ (p : Addr × Obj), p ∈ (r, _) :: _ → _) => l2
      have hpD := l2 _ (.tail _ (.head _))
      refine hR _ _ _ (Fr.keep (by assumption)) ⟨lp, cs ++ [(_, vs.drop c.toNat)], nn + 1, rfl, ?_, (N8 _ (.tail _ (.tail _ (.head _)))).2.2, fun c hc => ?_, cells_nodup hnd (fun p hp => l2 p (.tail _ (.tail _ hp))), ?_⟩
      · rw [refs_push]
        exact (N8 _ (.tail _ (.tail _ (.head _)))).1
      · have hm := List.mem_map_of_mem (f := cellOf) hc
        have hN := N8 _ (by
          rw [List.map_append] at hm
          rcases List.mem_append.mp hm with hm | hm
          · exact .tail _ (.tail _ (.tail _ hm))
          · rw [List.mem_singleton.mp hm]; exact .head _)
        exact ⟨hN.1, hN.2.2, cells_ne hlp (Nat.ne_of_gt hpD) _ hm⟩
      · rw [hrun, List.map_append]; rfl
end
end Mine
end
section
namespace Mine
section
variable {prog : Program} {w : World} {A : Around} {env : Env}
theorem used_free {E : Value → Shared → Prop} {s : Shared} {elt iter : Expr} {x : Str} {px : Pos} {ifs : List Expr} {scope : Scope} {cl : List (Str × Addr)} {pos spos : Pos} {y : Str} {py : Pos} {Q : Flow → Shared → Prop} {h₀ : Heap} {L : Addr} (J : Nat → List Value → List (Addr × Obj) → Prop)
    (hlen : ∀ i ys ex, J i ys ex → ys.length ≤ i)
    (hsw : swapsWith (.ListComp elt [⟨.Name x px, iter, ifs, 0⟩] scope pos) (some (.Name y py)) spos.line env = pure true) (hL : env.locals = L)
    (hy : env.kindOf y = some .local) (hp : (env.scope.kind == .class || (env.scope.kind == .module && env.locals != env.globals)) = false)
    (hclos : closureFor scope env = pure cl) (hcell : ∀ y ∈ scope.names, y.2 ≠ .cell) (hkind : scope.kind = .function)
    (hnames : ∀ y ∈ scope.names, y.2 = .local → scope.names.lookup y.1 = some .local) (hx : scope.names.lookup x = some .local)
    (h : wpAny (model prog w) A (eval iter env) (fun xv s₁ => wpAny (model prog w) A (pyIter xv) (fun it s₂ => ∃ I n P St m news fp, it = .ref I ∧ (∀ i h, St i h → (h.get? I).isSome = true) ∧
      Walks prog w A I fp [I] n P St ∧ (∀ b ∈ fp, b = I ∨ (∃ o, h₀.get? b = some o) ∨ ∃ o, (b, o) ∈ news) ∧ n ≤ sizeLine ∧ St 0 s₂.heap ∧ h₀.get? I = none ∧ I ≠ L ∧ (∀ p ∈ news, p.1 ≠ I) ∧ I < s₂.heap.objs.size ∧
      Fr h₀ L s₂.heap m ∧ News h₀ L s₂.heap news ∧ J 0 [] [] ∧ Turns prog w A env scope cl x ifs elt n P J h₀ L m news ∧
      (∀ D nD h' tk ys ex, Fr h₀ L h' (fun z => if z = y then some (.ref D) else m z) → News h₀ L h' ((D, ({ cls := .type "list", data := .seq ys nD } : Obj)) :: (ex ++ news)) → (∀ p ∈ ex ++ news, p.1 ≠ D) → J n ys.toList ex → Q .next { s₂ with heap := h', toks := tk })) E s₁) E s)
    (hs : ∀ x, foldedSetIterable iter env x = pure x) :
    wpAny (model prog w) A (exec (.Assign [.Name y py] (.ListComp elt [⟨.Name x px, iter, ifs, 0⟩] scope pos) spos) env) Q E s := by
  subst hL
  rw [exec_Assign_Name_used _ _ _ _ hsw]
  refine wpAny_bind (wpAny_standAt (wpAny_bind ?_))
  show wpAny _ A (do let _ ← comprehension (.ListComp elt [⟨.Name x px, iter, ifs, 0⟩] scope pos) scope env _ (newList []) false (eval iter env) (some (assign (.Name y py) env))) _ _ s
  refine wpAny_bind (wpAny_mono (wpAny_comprehension_free (use := some (assign (.Name y py) env)) (Q := fun _ s' => Q .next s') rfl hs hclos hkind hnames
    (wpAny_mono h (fun xv s₁ h₁ => wpAny_mono h₁ (fun it s₂ h₂ => ?_) fun _ _ e => e) fun _ _ e => e)) (fun _ s' hq => wpAny_pure (wpAny_pure hq)) fun _ _ e => e)
  obtain ⟨I, n, P, St, m, news, fp, rfl, hSt, W, hfp, hsz, hst, hI0, hIL, hIn, hIlt, F, N, h0, hT, hQ⟩ := h₂
  refine wpAny_newObj_type (wpAny_newFunctionEnv hcell (by intro y hy; simp at hy) (fun h₁ hns₁ hsb₁ => ?_) hkind)
  dsimp only at hns₁ hsb₁ ⊢
  generalize hH2 : s₂.heap.push { cls := .type "list", dict := none, data := .seq ([] : List Value).toArray } = H2 at hns₁ hsb₁ ⊢
  have hC : H2.objs.size = s₂.heap.objs.size + 1 := by rw [← hH2, Heap.size_push]
  have hDC : s₂.heap.objs.size ≠ H2.objs.size := by rw [hC]; exact Nat.ne_of_lt (Nat.lt_succ_self _)
  have old : Kp s₂.heap h₁ := fun b o e => hsb₁.extBut b o (by rw [hC]; exact Nat.ne_of_lt (Nat.lt_succ_of_lt (Heap.lt_size e))) (Heap.get?_push_of_some _ (hH2 ▸ Heap.get?_push_of_some _ e))
  have hacc : h₁.PlainList s₂.heap.objs.size #[] := ⟨_, hsb₁.extBut _ _ hDC (Heap.get?_push_of_some _ (hH2 ▸ Heap.get?_push_size _ rfl))⟩
  have new0 : ∀ a, s₂.heap.objs.size ≤ a → h₀.get? a = none := fun a ha => by
    cases e : h₀.get? a with
    | none => rfl
    | some o' => exact absurd (Heap.lt_size (F.keep _ _ e)) (Nat.not_lt.mpr ha)
  have newN : ∀ a, s₂.heap.objs.size ≤ a → ∀ p ∈ news, p.1 ≠ a := fun a ha p hp q => absurd (Heap.lt_size (N p hp).1) (Nat.not_lt.mpr (q ▸ ha))
  have hLlt : env.locals < s₂.heap.objs.size := F.ns.lt
  have leC : s₂.heap.objs.size ≤ H2.objs.size := by rw [hC]; exact Nat.le_succ _
  have hst₁ : St 0 h₁ := W.frame _ _ _ hst fun b _ o e => old b o e
  have loop : ∀ s₃ : Shared, s₃ = { s₂ with heap := h₁, toks := s₂.toks + ([] : List (Str × Value)).length } →
      codeAny (model prog w) A (.compLoop (.ListComp elt [⟨.Name x px, iter, ifs, 0⟩] scope pos) 0 (.ref I) (.ref s₂.heap.objs.size) (compEnvC scope cl H2.objs.size env))
        (compPost (model prog w) A E (some (assign (.Name y py) env)) (fun _ s' => Q .next s') (.ref s₂.heap.objs.size) H2.objs.size) s₃ := by
    rintro s₃ rfl
    refine comp_loop (cenv := compEnvC scope cl H2.objs.size env) (C := H2.objs.size) (m := m) (h₀ := h₀) (L := env.locals) (news := news) W J hSt hfp hlen rfl (lookup_relabel_local hx) (by simp [compEnvC, relabel, hkind])
      hDC (Nat.ne_of_lt (Nat.lt_of_lt_of_le hIlt leC)) (Nat.ne_of_lt hIlt) (Nat.ne_of_gt (Nat.lt_of_lt_of_le hLlt leC)) (Nat.ne_of_gt hLlt) hIL (new0 _ leC) (new0 _ (Nat.le_refl _)) hI0
      (fun p hp => ⟨newN _ leC p hp, newN _ (Nat.le_refl _) p hp, hIn p hp⟩) hst₁ hacc hns₁ (F.keeps old) (N.grown old) h0
      (fun i v ys ex s₂ m₂ oC oD oI E' a b c d e f g k => hT H2.objs.size _ I i v ys ex s₂ m₂ oC oD oI E' a b c d e f g k) ?_ hsz
    intro h' tk m' ys ex hn hD hJn F' N' hox
    show wpAny _ A (assign (.Name y py) env (.ref s₂.heap.objs.size)) _ _ _
    refine wpAny_assign_Name (wpAny_storeName_local hy F'.ns (fun h₂ hn₂ hs₂ => ?_) hp)
    have hCL : H2.objs.size ≠ env.locals := Nat.ne_of_gt (Nat.lt_of_lt_of_le hLlt leC)
    refine ⟨m', hn.sameBut hs₂ hCL, fun h'' hs'' => ?_⟩
    obtain ⟨nD, eD⟩ := hD
    have offD : ∀ p ∈ ex ++ news, p.1 ≠ s₂.heap.objs.size := fun p hp => (List.mem_append.mp hp).elim (fun q => (hox p q).2.1) (newN _ (Nat.le_refl _) p)
    have offC : ∀ p ∈ ex ++ news, p.1 ≠ H2.objs.size := fun p hp => (List.mem_append.mp hp).elim (fun q => (hox p q).1) (newN _ leC p)
    have up : ∀ b o, b ≠ env.locals → b ≠ H2.objs.size → h'.get? b = some o → h''.get? b = some o := fun b o hbL hbC e => hs''.extBut b o hbC (hs₂.extBut b o hbL e)
    have F'' : Fr h₀ env.locals h'' (fun z => if z = y then some (.ref s₂.heap.objs.size) else m z) := ⟨hn₂.sameBut hs'' (Ne.symm hCL), fun b o e => up b o
      (fun q => absurd (Nat.lt_of_lt_of_le (Heap.lt_size e) F.above) (q ▸ Nat.lt_irrefl _)) (fun q => by rw [q, new0 _ leC] at e; cases e) (F'.keep b o e), F.above⟩
    refine hQ s₂.heap.objs.size nD h'' _ ys ex F'' (fun p hp => ?_) offD hJn
    rcases List.mem_cons.mp hp with rfl | hp
    · exact ⟨up _ _ (Nat.ne_of_gt hLlt) hDC eD, Nat.ne_of_gt hLlt, new0 _ (Nat.le_refl _)⟩
    · exact ⟨up _ _ (N' p hp).2.1 (offC p hp) (N' p hp).1, (N' p hp).2⟩
  exact codeAny_compStart_list (loop _ rfl) (W.self 0 _ _ _ hst₁ (loop _ rfl))

theorem used_range {E : Value → Shared → Prop} {s : Shared} {elt iter : Expr} {x : Str} {px : Pos} {ifs : List Expr} {scope : Scope} {cl : List (Str × Addr)} {pos spos : Pos} {y : Str} {py : Pos} {Q : Flow → Shared → Prop} {h₀ : Heap} {L : Addr} (J : Nat → List Value → List (Addr × Obj) → Prop) (a b : Int)
    (hh : A.handled = none) (hlen : ∀ i ys ex, J i ys ex → ys.length ≤ i)
    (hsw : swapsWith (.ListComp elt [⟨.Name x px, iter, ifs, 0⟩] scope pos) (some (.Name y py)) spos.line env = pure true) (hL : env.locals = L)
    (hy : env.kindOf y = some .local) (hp : (env.scope.kind == .class || (env.scope.kind == .module && env.locals != env.globals)) = false)
    (hclos : closureFor scope env = pure cl) (hcell : ∀ y ∈ scope.names, y.2 ≠ .cell) (hkind : scope.kind = .function)
    (hnames : ∀ y ∈ scope.names, y.2 = .local → scope.names.lookup y.1 = some .local) (hx : scope.names.lookup x = some .local)
    (hs : ∀ x, foldedSetIterable iter env x = pure x)
    (ha : 0 ≤ a) (ha' : a ≤ 100) (hb : 0 ≤ b) (hb' : b ≤ 100)
    (h : wpAny (model prog w) A (eval iter env) (fun xv s₁ => Hold (∃ r t u v m news, xv = .ref r ∧ IsRange s₁.heap r a b 1 t u v ∧ Fr h₀ L s₁.heap m ∧ News h₀ L s₁.heap news ∧ J 0 [] [] ∧
      Turns prog w A env scope cl x ifs elt (b - a).toNat (fun i v => ∃ t, v = .int (a + i) t) J h₀ L m news ∧
      (∀ D nD h' tk ys ex, Fr h₀ L h' (fun z => if z = y then some (.ref D) else m z) → News h₀ L h' ((D, ({ cls := .type "list", data := .seq ys nD } : Obj)) :: (ex ++ news)) → (∀ p ∈ ex ++ news, p.1 ≠ D) → J (b - a).toNat ys.toList ex → Q .next { s₁ with heap := h', toks := tk }))) E s) :
    wpAny (model prog w) A (exec (.Assign [.Name y py] (.ListComp elt [⟨.Name x px, iter, ifs, 0⟩] scope pos) spos) env) Q E s := by
  refine used_free (h₀ := h₀) (L := L) J hlen hsw hL hy hp hclos hcell hkind hnames hx (wpAny_mono h (fun xv s₁ h₁ => ?_) fun _ _ e => e) hs
  obtain ⟨r, t, u, v, m, news, rfl, hr, F, N, h0, hT, hQ⟩ := h₁
  refine wpAny_pyIter_range hr (small_one (by omega) (by omega) (by omega) (by omega)) ?_
  have hn : Builtin.Range.rangeSize a b 1 = ((b - a).toNat : Int) := by rw [rangeSize_one]; split <;> omega
  have W := Walks.range (prog := prog) (w := w) hh s₁.heap.objs.size a 1 (b - a).toNat
  have kp : Kp s₁.heap (s₁.heap.push { cls := .type "range_iterator", data := .fields #[rawInt a, rawInt (Builtin.Range.rangeSize a b 1), rawInt 1] }) := fun _ _ e => Heap.get?_push_of_some _ e
  have W' : Walks prog w A s₁.heap.objs.size [s₁.heap.objs.size] [s₁.heap.objs.size] (b - a).toNat (fun i v => ∃ t, v = .int (a + i) t) (fun i h => IsRangeIter h s₁.heap.objs.size (a + (i : Nat) * 1) (((b - a).toNat : Int) - (i : Nat)) 1) := by
    simpa only [Int.mul_one] using W
  have h0I : h₀.get? s₁.heap.objs.size = none := by
    cases e : h₀.get? s₁.heap.objs.size with
    | none => rfl
    | some o' => exact absurd (Heap.lt_size (F.keep _ _ e)) (Nat.lt_irrefl _)
  refine ⟨s₁.heap.objs.size, (b - a).toNat, _, _, m, news, _, rfl, ?_, W', ?_, ?_, ?_, h0I, Nat.ne_of_gt F.ns.lt, ?_, ?_, F.keeps kp, N.grown kp, h0, hT, ?_⟩
  · intro i h hit; exact Option.isSome_iff_exists.mpr ⟨_, hit⟩
  · intro b hb; exact .inl (List.mem_singleton.mp hb)
  · rw [sizeLine_eq]; omega
  · show (s₁.heap.push _).get? _ = _
    rw [Heap.get?_push_size _ rfl, hn]
    simp
  · intro p hp q; exact absurd (Heap.lt_size (N p hp).1) (q ▸ Nat.lt_irrefl _)
  · show _ < (s₁.heap.push _).objs.size
    rw [Heap.size_push]; exact Nat.lt_succ_self _
  · intro D nD h' tk ys ex F' N' hD hJ; exact hQ D nD h' tk ys ex F' N' hD hJ

theorem used_list {E : Value → Shared → Prop} {s : Shared} {elt iter : Expr} {x : Str} {px : Pos} {ifs : List Expr} {scope : Scope} {cl : List (Str × Addr)} {pos spos : Pos} {y : Str} {py : Pos} {Q : Flow → Shared → Prop} {h₀ : Heap} {L : Addr} (J : Nat → List Value → List (Addr × Obj) → Prop) (vs : List Value)
    (hh : A.handled = none) (hlen : ∀ i ys ex, J i ys ex → ys.length ≤ i)
    (hsw : swapsWith (.ListComp elt [⟨.Name x px, iter, ifs, 0⟩] scope pos) (some (.Name y py)) spos.line env = pure true) (hL : env.locals = L)
    (hy : env.kindOf y = some .local) (hp : (env.scope.kind == .class || (env.scope.kind == .module && env.locals != env.globals)) = false)
    (hclos : closureFor scope env = pure cl) (hcell : ∀ y ∈ scope.names, y.2 ≠ .cell) (hkind : scope.kind = .function)
    (hnames : ∀ y ∈ scope.names, y.2 = .local → scope.names.lookup y.1 = some .local) (hx : scope.names.lookup x = some .local)
    (hs : ∀ x, foldedSetIterable iter env x = pure x) (hvs : vs.length ≤ 100)
    (h : wpAny (model prog w) A (eval iter env) (fun xv s₁ => Hold (∃ r o nn m news, xv = .ref r ∧ (r, o) ∈ news ∧ o.cls = .type "list" ∧ o.data = .seq vs.toArray nn ∧ Fr h₀ L s₁.heap m ∧ News h₀ L s₁.heap news ∧ J 0 [] [] ∧
      Turns prog w A env scope cl x ifs elt vs.length (fun i v => vs[i]? = some v) J h₀ L m news ∧
      (∀ D nD h' tk ys ex, Fr h₀ L h' (fun z => if z = y then some (.ref D) else m z) → News h₀ L h' ((D, ({ cls := .type "list", data := .seq ys nD } : Obj)) :: (ex ++ news)) → (∀ p ∈ ex ++ news, p.1 ≠ D) → J vs.length ys.toList ex → Q .next { s₁ with heap := h', toks := tk }))) E s) :
    wpAny (model prog w) A (exec (.Assign [.Name y py] (.ListComp elt [⟨.Name x px, iter, ifs, 0⟩] scope pos) spos) env) Q E s := by
  refine used_free (h₀ := h₀) (L := L) J hlen hsw hL hy hp hclos hcell hkind hnames hx (wpAny_mono h (fun xv s₁ h₁ => ?_) fun _ _ e => e) hs
  obtain ⟨r, o, nn, m, news, rfl, hr, hcls, hdat, F, N, h0, hT, hQ⟩ := h₁
  have hl : s₁.heap.IsList r vs.toArray := ⟨o, (N _ hr).1, hcls, nn, hdat⟩
  have hlt : r < s₁.heap.objs.size := by obtain ⟨_, e, _⟩ := hl; exact Heap.lt_size e
  refine wpAny_pyIter_list hl ?_
  have W := Walks.list (prog := prog) (w := w) hh s₁.heap.objs.size r (Nat.ne_of_lt hlt) vs.toArray
  have kp : Kp s₁.heap (s₁.heap.push { cls := .type "list_iterator", data := .fields #[.ref r, .int 0 0] }) := fun _ _ e => Heap.get?_push_of_some _ e
  have W' : Walks prog w A s₁.heap.objs.size [s₁.heap.objs.size, r] [s₁.heap.objs.size] vs.length (fun i v => vs[i]? = some v) (fun i h => h.IsListIter s₁.heap.objs.size r i ∧ h.IsList r vs.toArray) := by
    have e : vs.toArray.size = vs.length := List.size_toArray ..
    rw [e] at W
    have e2 : (fun (i : Nat) (v : Value) => vs.toArray[i]? = some v) = fun i v => vs[i]? = some v := by funext i v; simp
    rw [e2] at W
    exact W
  have h0I : h₀.get? s₁.heap.objs.size = none := by
    cases e : h₀.get? s₁.heap.objs.size with
    | none => rfl
    | some o' => exact absurd (Heap.lt_size (F.keep _ _ e)) (Nat.lt_irrefl _)
  refine ⟨s₁.heap.objs.size, vs.length, _, _, m, news, _, rfl, ?_, W', ?_, ?_, ⟨⟨_, Heap.get?_push_size _ rfl, rfl, rfl⟩, hl.push _⟩, h0I, Nat.ne_of_gt F.ns.lt, ?_, ?_, F.keeps kp, N.grown kp, h0, hT, ?_⟩
  · rintro i h ⟨⟨o, e, _⟩, _⟩; exact Option.isSome_iff_exists.mpr ⟨_, e⟩
  · intro b hb
    rcases List.mem_cons.mp hb with rfl | hb
    · exact .inl rfl
    · exact .inr (.inr ⟨o, by rw [List.mem_singleton.mp hb]; exact hr⟩)
  · rw [sizeLine_eq]; omega
  · intro p hp q; exact absurd (Heap.lt_size (N p hp).1) (q ▸ Nat.lt_irrefl _)
  · show _ < (s₁.heap.push _).objs.size
    rw [Heap.size_push]; exact Nat.lt_succ_self _
  · intro D nD h' tk ys ex F' N' hD hJ; exact hQ D nD h' tk ys ex F' N' hD hJ
end
end Mine
end
section
namespace Mine
def cutAt (ps : List Int) (n : Nat) (j : Nat) : Int := (ps ++ [(n : Int)]).getD j 0
theorem cutAt_lt {ps : List Int} {n j : Nat} (h : j < ps.length) : cutAt ps n j = ps[j] := by
  unfold cutAt; rw [List.getD_eq_getElem?_getD, List.getElem?_append_left h, List.getElem?_eq_getElem h]; rfl
theorem cutAt_end {ps : List Int} {n : Nat} : cutAt ps n ps.length = n := by
  unfold cutAt; rw [List.getD_eq_getElem?_getD, List.getElem?_append_right (Nat.le_refl _), Nat.sub_self]; rfl
theorem cutAt_bd {ps : List Int} {n j : Nat} (hp : ∀ x ∈ ps, 0 ≤ x ∧ x < n) (h : j ≤ ps.length) : 0 ≤ cutAt ps n j ∧ cutAt ps n j ≤ n := by
  rcases Nat.lt_or_eq_of_le h with h | rfl
  · rw [cutAt_lt h]; have := hp _ (List.getElem_mem h); omega
  · rw [cutAt_end]; omega
theorem cutAt_mono {ps : List Int} {n j : Nat} (hp : ∀ x ∈ ps, 0 ≤ x ∧ x < n) (hs : ps.Pairwise (· ≤ ·)) (h : j < ps.length) : cutAt ps n j ≤ cutAt ps n (j + 1) := by
  rw [cutAt_lt h]
  rcases Nat.lt_or_eq_of_le (Nat.succ_le_of_lt h) with h2 | h2
  · rw [cutAt_lt h2]; exact List.pairwise_iff_getElem.mp hs j (j + 1) h h2 (Nat.lt_succ_self _)
  · rw [show j + 1 = ps.length from h2, cutAt_end]; have := hp _ (List.getElem_mem h); omega
end Mine
end
section
namespace Mine
def seg (vs : List Value) (a b : Int) : List Value := (vs.drop a.toNat).take (b.toNat - a.toNat)
def segsOf (vs : List Value) : List Int → List (List Value)
  | a :: b :: r => seg vs a b :: segsOf vs (b :: r)
  | _ => []
theorem runs_some (vs : List Value) : ∀ (ps : List Int) (k : Int), runs vs (some k) ps = segsOf vs (k :: (ps ++ [(vs.length : Int)]))
  | [], k => by
    show [vs.drop k.toNat] = [seg vs k vs.length]
    unfold seg
    rw [List.take_of_length_le]
    rw [List.length_drop]; omega
  | i :: r, k => by
    show (vs.drop k.toNat).take (i.toNat - k.toNat) :: runs vs (some i) r = seg vs k i :: segsOf vs (i :: (r ++ [(vs.length : Int)]))
    rw [runs_some vs r i]; rfl
theorem segsOf_eq (vs : List Value) : ∀ l : List Int, segsOf vs l = (List.range (l.length - 1)).map fun j => seg vs (l.getD j 0) (l.getD (j + 1) 0)
  | [] => rfl
  | [a] => rfl
  | a :: b :: r => by
    rw [segsOf, segsOf_eq vs (b :: r)]
    show _ = (List.range (r.length + 1)).map _
    rw [List.range_succ_eq_map, List.map_cons, List.map_map]
    rfl
theorem runs_due (vs : List Value) (ps : List Int) : runs vs none ps = vs.take (cutAt ps vs.length 0).toNat :: (List.range ps.length).map fun j => seg vs (cutAt ps vs.length j) (cutAt ps vs.length (j + 1)) := by
  have key : ∀ l : List Int, l = ps ++ [(vs.length : Int)] → segsOf vs l = (List.range ps.length).map fun j => seg vs (cutAt ps vs.length j) (cutAt ps vs.length (j + 1)) := by
    rintro l rfl
    rw [segsOf_eq, List.length_append, List.length_singleton]; rfl
  cases ps with
  | nil =>
    show [vs] = [vs.take _]
    rw [show (cutAt [] vs.length 0).toNat = vs.length from Int.toNat_natCast _, List.take_length]
  | cons i r =>
    show (vs.drop 0).take (i.toNat - 0) :: runs vs (some i) r = _
    rw [runs_some, ← key _ rfl]; rfl
end Mine
end
section
namespace Mine
section
variable {prog : Program} {w : World} {A : Around} {E : Value → Shared → Prop} {s : Shared} {l : Addr} {value slice : PySem.Expr} {vs : List Value} {Q : Value → Shared → Prop}
theorem cut_item {ps : List Int} {n : Nat} {t u : Tok} {j : Int} (hl : s.heap.IsList l (vs ++ [Value.int (n : Int) t]).toArray) (hi : IntsAre vs ps) (h0 : 0 ≤ j) (h1 : j ≤ ps.length) (hz : vs.length ≤ 100)
    (h : ∀ t', Q (.int (cutAt ps n j.toNat) t') s)
    (hs : subscripted slice false (.ref l) (.int j u) = operate [.ref l, .int j u] (getItem (.ref l) (.int j u))) (hg : ∀ r, letTemporaryGo value (.ref l) r = pure ()) :
    wpAny (model prog w) A (subscriptTail value slice (.ref l) (.int j u)) Q E s := by
  have hlen := hi.length
  have h2 : IntsAre (vs ++ [Value.int (n : Int) t]) (ps ++ [(n : Int)]) := ints_snoc hi _ _
  have hlt : j.toNat < (vs ++ [Value.int (n : Int) t]).length := by rw [List.length_append, List.length_singleton]; omega
  obtain ⟨x, tx, hv, hx⟩ := h2.at j.toNat _ (List.getElem?_eq_getElem hlt)
  have hc : cutAt ps n j.toNat = x := by
    unfold cutAt; rw [List.getD_eq_getElem?_getD, hx]; rfl
  refine item_list hl h0 (by omega) (x := .int x tx) (by rw [List.getElem?_toArray, List.getElem?_eq_getElem hlt, hv]) (hc ▸ h tx) hs hg
end
end Mine
end
section
namespace Mine
section
variable {prog : Program} {w : World} {A : Around} {E : Value → Shared → Prop} {s : Shared} {l : Addr} {value slice : PySem.Expr} {vs : List Value} {Q : Value → Shared → Prop}
theorem cut_item0 {ps : List Int} {n : Nat} {t u : Tok} (hl : s.heap.IsList l (vs ++ [Value.int (n : Int) t]).toArray) (hi : IntsAre vs ps) (hp : ∀ x ∈ ps, 0 ≤ x ∧ x < n) (hz : vs.length ≤ 100)
    (h : ∀ c t', c = cutAt ps n 0 → 0 ≤ c → c ≤ n → Q (.int c t') s)
    (hs : subscripted slice false (.ref l) (.int 0 u) = operate [.ref l, .int 0 u] (getItem (.ref l) (.int 0 u))) (hg : ∀ r, letTemporaryGo value (.ref l) r = pure ()) :
    wpAny (model prog w) A (subscriptTail value slice (.ref l) (.int 0 u)) Q E s :=
  cut_item hl hi (Int.le_refl _) (Int.natCast_nonneg _) hz (fun t' => h _ t' rfl (cutAt_bd hp (Nat.zero_le _)).1 (cutAt_bd hp (Nat.zero_le _)).2) hs hg
theorem cut_itemN {ps : List Int} {n i : Nat} {t u : Tok} (hl : s.heap.IsList l (vs ++ [Value.int (n : Int) t]).toArray) (hi : IntsAre vs ps) (hp : ∀ x ∈ ps, 0 ≤ x ∧ x < n) (hlt : i < ps.length) (hz : vs.length ≤ 100)
    (h : ∀ c t', c = cutAt ps n i → 0 ≤ c → c ≤ n → Q (.int c t') s)
    (hs : subscripted slice false (.ref l) (.int (i : Int) u) = operate [.ref l, .int (i : Int) u] (getItem (.ref l) (.int (i : Int) u))) (hg : ∀ r, letTemporaryGo value (.ref l) r = pure ()) :
    wpAny (model prog w) A (subscriptTail value slice (.ref l) (.int (i : Int) u)) Q E s :=
  cut_item hl hi (Int.natCast_nonneg _) (by omega) hz (fun t' => h _ t' rfl (cutAt_bd hp (Nat.le_of_lt hlt)).1 (cutAt_bd hp (Nat.le_of_lt hlt)).2) hs hg
theorem cut_itemS {ps : List Int} {n i : Nat} {t u : Tok} (hl : s.heap.IsList l (vs ++ [Value.int (n : Int) t]).toArray) (hi : IntsAre vs ps) (hp : ∀ x ∈ ps, 0 ≤ x ∧ x < n) (ho : ps.Pairwise (· ≤ ·)) (hlt : i < ps.length) (hz : vs.length ≤ 100)
    (h : ∀ c t', c = cutAt ps n (i + 1) → cutAt ps n i ≤ c → c ≤ n → Q (.int c t') s)
    (hs : subscripted slice false (.ref l) (.int ((i : Int) + 1) u) = operate [.ref l, .int ((i : Int) + 1) u] (getItem (.ref l) (.int ((i : Int) + 1) u))) (hg : ∀ r, letTemporaryGo value (.ref l) r = pure ()) :
    wpAny (model prog w) A (subscriptTail value slice (.ref l) (.int ((i : Int) + 1) u)) Q E s :=
  cut_item hl hi (by omega) (by omega) hz (fun t' => h _ t' (by rw [show ((i : Int) + 1).toNat = i + 1 by omega]) (by rw [show ((i : Int) + 1).toNat = i + 1 by omega]; exact cutAt_mono hp ho hlt) (by rw [show ((i : Int) + 1).toNat = i + 1 by omega]; exact (cutAt_bd hp hlt).2)) hs hg
end
end Mine
end
section
namespace Mine
def strOf : Value → PyData
  | .str x _ => .str x
  | _ => .none
def dataOf (vs : List Value) : PyData := .list (vs.map strOf)
theorem reads_strs {h : Heap} : ∀ {vs : List Value} {xs : List Str}, StrsAre vs xs → ReadsAll h vs (vs.map strOf) []
  | _, _, .nil => .nil
  | _, _, .cons x t r => .cons (.str x t) (reads_strs r)
theorem lay_strs : ∀ {vs : List Value} {xs : List Str}, StrsAre vs xs → (∀ x ∈ xs, PyData.strOk x = true) → PyData.canLayAll0 (vs.map strOf) = true
  | _, _, .nil, _ => rfl
  | _, _, .cons x t r, h => by
    rw [List.map_cons, PyData.canLayAll0, lay_strs r fun y hy => h y (.tail _ hy), Bool.and_true]
    exact h x (.head _)
theorem deep_strs : ∀ vs : List Value, PyData.depthAll (vs.map strOf) = 0
  | [] => rfl
  | v :: r => by
    rw [List.map_cons, PyData.depthAll, deep_strs r]
    cases v <;> rfl
theorem reads_cell {h : Heap} {a : Addr} {vs : List Value} {xs : List Str} (hl : h.IsList a vs.toArray) (hv : StrsAre vs xs) : Reads h (.ref a) (dataOf vs) [a] := by
  obtain ⟨o, e, hc, n, hd⟩ := hl
  exact reads_list_at e hc hd (reads_strs hv)
/-- a cell of strings -/
def StrCell (h : Heap) (c : Addr × List Value) : Prop := h.IsList c.1 c.2.toArray ∧ ∃ xs, StrsAre c.2 xs
theorem reads_cells {h : Heap} : ∀ {cs : List (Addr × List Value)}, (∀ c ∈ cs, StrCell h c) → ReadsAll h (cs.map refOf) ((cs.map (·.2)).map dataOf) (cs.map (·.1))
  | [], _ => .nil
  | c :: r, H => by
    obtain ⟨hl, xs, hv⟩ := H c (.head _)
    exact .cons (reads_cell hl hv) (reads_cells fun d hd => H d (.tail _ hd))
def OkVals (vs : List Value) : Prop := ∃ xs, StrsAre vs xs ∧ ∀ x ∈ xs, PyData.strOk x = true
theorem lay_lists : ∀ {L : List (List Value)}, (∀ vs ∈ L, OkVals vs) → PyData.canLayAll0 (L.map dataOf) = true
  | [], _ => rfl
  | vs :: r, H => by
    obtain ⟨xs, hv, hx⟩ := H vs (.head _)
    rw [List.map_cons, PyData.canLayAll0, lay_lists fun u hu => H u (.tail _ hu), Bool.and_true]
    exact lay_strs hv hx
theorem deep_lists : ∀ L : List (List Value), PyData.depthAll (L.map dataOf) ≤ 1
  | [] => Nat.zero_le _
  | vs :: r => by
    rw [List.map_cons, PyData.depthAll, dataOf, PyData.depth, deep_strs]
    exact Nat.max_le.mpr ⟨Nat.le_refl _, deep_lists r⟩
theorem shaped_list {vs : List Value} (H : OkVals vs) : SeqAt.shaped (dataOf vs) = true := by
  obtain ⟨xs, hv, hx⟩ := H
  refine Bool.and_eq_true_iff.mpr ⟨lay_strs hv hx, decide_eq_true ?_⟩
  rw [dataOf, PyData.depth, deep_strs]; decide
theorem shaped_lists {L : List (List Value)} (H : ∀ vs ∈ L, OkVals vs) : SeqAt.shaped (.list (L.map dataOf)) = true := by
  refine Bool.and_eq_true_iff.mpr ⟨lay_lists H, decide_eq_true ?_⟩
  rw [PyData.depth]
  have := deep_lists L
  omega
theorem eqv_shaped {d : PyData} (h : SeqAt.shaped d = true) : PyData.eqv d d = true := SeqAt.eqv_refl d (SeqAt.canLay_of_shaped h)
section
variable {prog : Program} {w : World} {A : Around} {E : Value → Shared → Prop} {s : Shared} {a b : Addr} {Q : Value → Shared → Prop}
theorem ne_strs_same {vs : List Value} (ha : s.heap.IsList a vs.toArray) (hb : s.heap.IsList b vs.toArray) (hv : OkVals vs) (hu : A.units + 64 < cLine) (h : Q (.bool false) s) :
    wpAny (model prog w) A (compareOp .NotEq (.ref a) (.ref b)) Q E s := by
  have hs := shaped_list hv
  obtain ⟨xs, hv, _⟩ := hv
  exact ne_dataH (reads_cell ha hv) (reads_cell hb hv) hs hs hu (by rw [eqv_shaped hs]; exact h)
theorem eq_strs_same {vs : List Value} (ha : s.heap.IsList a vs.toArray) (hb : s.heap.IsList b vs.toArray) (hv : OkVals vs) (hu : A.units + 64 < cLine) (h : Q (.bool true) s) :
    wpAny (model prog w) A (compareOp .Eq (.ref a) (.ref b)) Q E s := by
  have hs := shaped_list hv
  obtain ⟨xs, hv, _⟩ := hv
  exact eq_dataH (reads_cell ha hv) (reads_cell hb hv) hs hs hu (by rw [eqv_shaped hs]; exact h)
theorem ne_lists_same {cs ds : List (Addr × List Value)} (ha : s.heap.IsList a (cs.map refOf).toArray) (hb : s.heap.IsList b (ds.map refOf).toArray) (hc : ∀ c ∈ cs, s.heap.IsList c.1 c.2.toArray) (hd : ∀ c ∈ ds, s.heap.IsList c.1 c.2.toArray)
    (e : cs.map (·.2) = ds.map (·.2)) (hv : ∀ vs ∈ cs.map (·.2), OkVals vs) (hu : A.units + 64 < cLine) (h : Q (.bool false) s) :
    wpAny (model prog w) A (compareOp .NotEq (.ref a) (.ref b)) Q E s := by
  have hs := shaped_lists hv
  have rc : ReadsAll s.heap (cs.map refOf) ((cs.map (·.2)).map dataOf) (cs.map (·.1)) := reads_cells fun c m => ⟨hc c m, by obtain ⟨xs, k, _⟩ := hv _ (List.mem_map_of_mem (f := fun c : Addr × List Value => c.2) m); exact ⟨xs, k⟩⟩
  have rd : ReadsAll s.heap (ds.map refOf) ((ds.map (·.2)).map dataOf) (ds.map (·.1)) := reads_cells fun c m => ⟨hd c m, by obtain ⟨xs, k, _⟩ := hv _ (e ▸ List.mem_map_of_mem (f := fun c : Addr × List Value => c.2) m); exact ⟨xs, k⟩⟩
  obtain ⟨o, e1, c1, n1, d1⟩ := ha
  obtain ⟨o', e2, c2, n2, d2⟩ := hb
  rw [← e] at rd
  exact ne_dataH (reads_list_at e1 c1 d1 rc) (reads_list_at e2 c2 d2 rd) hs hs hu (by rw [eqv_shaped hs]; exact h)
theorem eq_lists_same {cs ds : List (Addr × List Value)} (ha : s.heap.IsList a (cs.map refOf).toArray) (hb : s.heap.IsList b (ds.map refOf).toArray) (hc : ∀ c ∈ cs, s.heap.IsList c.1 c.2.toArray) (hd : ∀ c ∈ ds, s.heap.IsList c.1 c.2.toArray)
    (e : cs.map (·.2) = ds.map (·.2)) (hv : ∀ vs ∈ cs.map (·.2), OkVals vs) (hu : A.units + 64 < cLine) (h : Q (.bool true) s) :
    wpAny (model prog w) A (compareOp .Eq (.ref a) (.ref b)) Q E s := by
  have hs := shaped_lists hv
  have rc : ReadsAll s.heap (cs.map refOf) ((cs.map (·.2)).map dataOf) (cs.map (·.1)) := reads_cells fun c m => ⟨hc c m, by obtain ⟨xs, k, _⟩ := hv _ (List.mem_map_of_mem (f := fun c : Addr × List Value => c.2) m); exact ⟨xs, k⟩⟩
  have rd : ReadsAll s.heap (ds.map refOf) ((ds.map (·.2)).map dataOf) (ds.map (·.1)) := reads_cells fun c m => ⟨hd c m, by obtain ⟨xs, k, _⟩ := hv _ (e ▸ List.mem_map_of_mem (f := fun c : Addr × List Value => c.2) m); exact ⟨xs, k⟩⟩
  obtain ⟨o, e1, c1, n1, d1⟩ := ha
  obtain ⟨o', e2, c2, n2, d2⟩ := hb
  rw [← e] at rd
  exact eq_dataH (reads_list_at e1 c1 d1 rc) (reads_list_at e2 c2 d2 rd) hs hs hu (by rw [eqv_shaped hs]; exact h)
end
theorem okVals_take {vs : List Value} (n : Nat) : OkVals vs → OkVals (vs.take n) := by
  rintro ⟨xs, hv, hx⟩
  refine ⟨xs.take n, ?_, fun x hm => hx x (List.mem_of_mem_take hm)⟩
  clear hx
  induction hv generalizing n with
  | nil => rw [List.take_nil, List.take_nil]; exact .nil
  | cons x t r ih =>
    cases n with
    | zero => exact .nil
    | succ n => exact .cons x t (ih n)
theorem okVals_drop {vs : List Value} (n : Nat) : OkVals vs → OkVals (vs.drop n) := by
  rintro ⟨xs, hv, hx⟩
  refine ⟨xs.drop n, ?_, fun x hm => hx x (List.mem_of_mem_drop hm)⟩
  clear hx
  induction hv generalizing n with
  | nil => rw [List.drop_nil, List.drop_nil]; exact .nil
  | cons x t r ih =>
    cases n with
    | zero => exact .cons x t r
    | succ n => exact ih n
theorem runs_ok {vs : List Value} (H : OkVals vs) : ∀ (ps : List Int) (k : Option Int), ∀ us ∈ runs vs k ps, OkVals us
  | [], none, us, h => by rw [List.mem_singleton.mp h]; exact H
  | [], some k, us, h => by rw [List.mem_singleton.mp h]; exact okVals_drop _ H
  | i :: r, none, us, h => by
    rcases List.mem_cons.mp h with rfl | h
    · exact okVals_take _ (okVals_drop _ H)
    · exact runs_ok H r _ us h
  | i :: r, some k, us, h => by
    rcases List.mem_cons.mp h with rfl | h
    · exact okVals_take _ (okVals_drop _ H)
    · exact runs_ok H r _ us h
end Mine
end
section
namespace Mine
section
variable {prog : Program} {w : World} {A : Around} {E : Value → Shared → Prop} {s : Shared} {a b : Addr} {Q : Value → Shared → Prop} {h₀ : Heap} {L : Addr} {m : Str → Option Value} {news : List (Addr × Obj)}
theorem cells_list {h : Heap} {cs : List (Addr × List Value)} (N : News h₀ L h news) (hs : ∀ p ∈ cs.map cellOf, p ∈ news) : ∀ c ∈ cs, h.IsList c.1 c.2.toArray := fun c hc =>
  ⟨_, (N _ (hs _ (List.mem_map_of_mem (f := cellOf) hc))).1, rfl, _, rfl⟩
theorem due_cells {h : Heap} {D : Addr} {v0 : List Value} {ds : List (Addr × List Value)} (h0 : h.IsList D v0.toArray) (hd : ∀ c ∈ ds, h.IsList c.1 c.2.toArray) : ∀ c ∈ (D, v0) :: ds, h.IsList c.1 c.2.toArray := by
  intro c hc
  rcases List.mem_cons.mp hc with rfl | hc
  · exact h0
  · exact hd c hc
theorem ne_due {D : Addr} {v0 : List Value} {cs ds : List (Addr × List Value)} (ha : s.heap.IsList a (cs.map refOf).toArray) (hb : s.heap.IsList b (Value.ref D :: ds.map refOf).toArray) (h0 : s.heap.IsList D v0.toArray) (hc : ∀ c ∈ cs, s.heap.IsList c.1 c.2.toArray) (hd : ∀ c ∈ ds, s.heap.IsList c.1 c.2.toArray)
    (e : cs.map (·.2) = v0 :: ds.map (·.2)) (hv : ∀ vs ∈ cs.map (·.2), OkVals vs) (hu : A.units + 64 < cLine) (h : Q (.bool false) s) :
    wpAny (model prog w) A (compareOp .NotEq (.ref a) (.ref b)) Q E s :=
  ne_lists_same (ds := (D, v0) :: ds) ha hb hc (due_cells h0 hd) e hv hu h
theorem eq_due {D : Addr} {v0 : List Value} {cs ds : List (Addr × List Value)} (ha : s.heap.IsList a (cs.map refOf).toArray) (hb : s.heap.IsList b (Value.ref D :: ds.map refOf).toArray) (h0 : s.heap.IsList D v0.toArray) (hc : ∀ c ∈ cs, s.heap.IsList c.1 c.2.toArray) (hd : ∀ c ∈ ds, s.heap.IsList c.1 c.2.toArray)
    (e : cs.map (·.2) = v0 :: ds.map (·.2)) (hv : ∀ vs ∈ cs.map (·.2), OkVals vs) (hu : A.units + 64 < cLine) (h : Q (.bool true) s) :
    wpAny (model prog w) A (compareOp .Eq (.ref a) (.ref b)) Q E s :=
  eq_lists_same (ds := (D, v0) :: ds) ha hb hc (due_cells h0 hd) e hv hu h
theorem eq_empty {vs : List Value} (ha : s.heap.IsList a vs.toArray) (hb : s.heap.IsList b (List.toArray [])) (hv : OkVals vs) (hu : A.units + 64 < cLine) (h : Q (.bool vs.isEmpty) s) :
    wpAny (model prog w) A (compareOp .Eq (.ref a) (.ref b)) Q E s := by
  have hs := shaped_list hv
  obtain ⟨xs, hx, _⟩ := hv
  refine eq_dataH (reads_cell ha hx) (reads_cell hb .nil) hs (by decide) hu ?_
  cases vs with
  | nil => exact h
  | cons v r => exact h
theorem cell_append {D : Addr} {vs : List Value} {nn : Nat} {x : Value} {rest : List (Addr × Obj)} (F : Fr h₀ L s.heap m) (N : News h₀ L s.heap news) (hD : (D, W.listOf vs.toArray nn) ∈ news) (hz : vs.length ≤ 1000) (hsub : ∀ p ∈ rest, p ∈ news) (hne : ∀ p ∈ rest, p.1 ≠ D)
    (h : ∀ h', Fr h₀ L h' m → News h₀ L h' rest → Q .none { s with heap := h' }) : wpAny (model prog w) A (call (.builtin "list.append") [.ref D, x]) Q E s :=
  append_at (hsz := by rw [sizeLine_eq, List.size_toArray]; omega) (N.get hD) fun h' hs _ => h h' (F.change hs (N _ hD).2.1 (N _ hD).2.2) fun p hp => ⟨hs.extBut _ _ (hne p hp) (N p (hsub p hp)).1, (N p (hsub p hp)).2⟩
theorem cell_del {D : Addr} {v : Value} {vs : List Value} {nn : Nat} {u : Tok} {rest : List (Addr × Obj)} {Q : Unit → Shared → Prop} (F : Fr h₀ L s.heap m) (N : News h₀ L s.heap news) (hD : (D, W.listOf (v :: vs).toArray nn) ∈ news) (hz : (v :: vs).length ≤ 1000) (hsub : ∀ p ∈ rest, p ∈ news) (hne : ∀ p ∈ rest, p.1 ≠ D)
    (h : ∀ h', Fr h₀ L h' m → News h₀ L h' rest → Q () { s with heap := h' }) : wpAny (model prog w) A (delItem (.ref D) (.int 0 u)) Q E s :=
  delItem_at (k := 0) (hsz := by rw [sizeLine_eq, List.size_toArray]; omega) (N.get hD) (by decide) (by
    rw [List.size_toArray, List.length_cons]; simp [seqIndex?]) fun h' hs _ => h h' (F.change hs (N _ hD).2.1 (N _ hD).2.2) fun p hp => ⟨hs.extBut _ _ (hne p hp) (N p (hsub p hp)).1, (N p (hsub p hp)).2⟩
end
theorem split_led {P : Prop} {h₀ h : Heap} {L : Addr} {a : Addr × Obj} {x y : List (Addr × Obj)} (N : News h₀ L h (a :: (x ++ y))) (k : ∀ K, K = a :: x → News h₀ L h (K ++ y) → P) : P := k _ rfl N
theorem news_rot {h₀ h : Heap} {L : Addr} {i : Addr × Obj} {K r : List (Addr × Obj)} {c : Addr × List Value} {cs : List (Addr × List Value)} (e : cs.map cellOf = r) (N : News h₀ L h (i :: (K ++ (c :: cs).map cellOf))) : News h₀ L h ((c.1, W.listOf c.2.toArray 0) :: i :: (K ++ r)) := news_sub N fun p hp => by
  subst e
  rw [List.map_cons]
  simp only [List.mem_cons, List.mem_append] at hp ⊢
  rcases hp with h | h | h | h
  · exact .inr (.inr (.inl h))
  · exact .inl h
  · exact .inr (.inl h)
  · exact .inr (.inr (.inr h))
theorem part_map {u v : Option Value} {m₀ : Str → Option Value} : (fun y => if y = Str.ofString "part" then v else (fun y => if y = Str.ofString "part" then u else m₀ y) y) = fun y => if y = Str.ofString "part" then v else m₀ y := by
  funext y
  by_cases a : y = Str.ofString "part"
  · rw [if_pos a, if_pos a]
  · rw [if_neg a, if_neg a]; exact if_neg a
theorem part_start {m₀ : Str → Option Value} : m₀ = fun y => if y = Str.ofString "part" then m₀ (Str.ofString "part") else m₀ y := by
  funext y
  by_cases a : y = Str.ofString "part"
  · rw [if_pos a, a]
  · rw [if_neg a]
theorem drop_at {α : Type} {l : List α} {i : Nat} {x : α} (h : l[i]? = some x) : l.drop i = x :: l.drop (i + 1) := by
  obtain ⟨hlt, e⟩ := List.getElem?_eq_some_iff.mp h
  rw [← e]; exact List.drop_eq_getElem_cons hlt
theorem nodup_after {cs : List (Addr × List Value)} {i : Nat} {c : Addr × List Value} (h : (cs.map (·.1)).Nodup) (hc : cs[i]? = some c) : ∀ p ∈ (cs.drop (i + 1)).map cellOf, p.1 ≠ c.1 := by
  intro p hp e
  obtain ⟨d, hd, rfl⟩ := List.mem_map.mp hp
  have h2 : ((cs.drop i).map (·.1)).Nodup := by rw [List.map_drop]; exact h.sublist (List.drop_sublist _ _)
  rw [drop_at hc, List.map_cons] at h2
  exact (List.nodup_cons.mp h2).1 (List.mem_map.mpr ⟨d, hd, e⟩)
end Mine
end
section
set_option maxRecDepth 100000
set_option maxHeartbeats 8000000
namespace Mine
def cart : List (List Str) → List (List Str)
  | [] => [[]]
  | l :: r => l.flatMap fun x => (cart r).map (x :: ·)
theorem picks_cart : ∀ (tab : List (Addr × List (Str × Tok))) (f : Int), (∀ p ∈ tab, 0 < p.2.length) → picks f tab ∈ cart (tab.map fun p => p.2.map (·.1))
  | [], _, _ => .head _
  | p :: r, f, h => by
    have hp : (0 : Int) < (p.2.length : Int) := Int.ofNat_lt.mpr (h p (.head _))
    have h0 := Int.fmod_nonneg_of_pos f hp
    have h1 := Int.fmod_lt_of_pos f hp
    have hlt : (Int.fmod f p.2.length).toNat < p.2.length := by omega
    refine List.mem_flatMap.mpr ⟨(p.2.getD (Int.fmod f p.2.length).toNat (Str.empty, 0)).1, ?_, ?_⟩
    · rw [List.getD_eq_getElem?_getD, List.getElem?_eq_getElem hlt]
      exact List.mem_map_of_mem (List.getElem_mem hlt)
    · exact List.mem_map_of_mem (picks_cart r _ fun q hq => h q (.tail _ hq))
def tabC : Nat → List (List Str)
  | 0 => [[⟨#[64,64,32,45]⟩], [⟨#[49,44,50]⟩, ⟨#[55]⟩], [⟨#[32,43]⟩], [⟨#[51,48]⟩, ⟨#[51,44,48]⟩], [⟨#[32,64,64]⟩], [⟨#[32,97,98]⟩]]
  | 1 => [[⟨#[42,42,42]⟩], [⟨#[42,42,42]⟩], [⟨#[42,42,42]⟩], [⟨#[42,42,42]⟩], [⟨#[42,42,42]⟩]]
  | 2 => [[⟨#[42,42,42,32]⟩], [⟨#[49,44,50]⟩, ⟨#[55]⟩], [⟨#[32,42,42,42,42]⟩]]
  | 3 => [[⟨#[49,44,50]⟩, ⟨#[55]⟩], [⟨#[99]⟩, ⟨#[97]⟩, ⟨#[100]⟩], [⟨#[51,48]⟩, ⟨#[51,44,48]⟩]]
  | 4 => [[⟨#[49]⟩], [⟨#[44,50,48]⟩], [⟨#[100]⟩, ⟨#[97]⟩, ⟨#[99]⟩]]
  | 5 => [[⟨#[73,110,100,101,120,58,32]⟩], [⟨#[97,98]⟩]]
  | 6 => [[⟨#[45,45,45,32]⟩], [⟨#[97,98]⟩], [⟨#[9]⟩, ⟨#[58]⟩, ⟨#[32,32]⟩], [⟨#[49]⟩]]
  | _ => [[⟨#[33]⟩, ⟨#[45]⟩, ⟨#[43]⟩, ⟨#[32]⟩], [⟨#[32]⟩], [⟨#[97,98]⟩]]
theorem tabC_eq : ∀ k, k < 8 → ((tabN k).map fun p => p.2.map (·.1)) = tabC k
  | 0, _ => by decide +kernel
  | 1, _ => by decide +kernel
  | 2, _ => by decide +kernel
  | 3, _ => by decide +kernel
  | 4, _ => by decide +kernel
  | 5, _ => by decide +kernel
  | 6, _ => by decide +kernel
  | 7, _ => by decide +kernel
  | k + 8, h => by omega
def bendC (r k : Int) (ps : List Str) : List Str :=
  if r = 0 then ps.take k.toNat ++ ps.drop (k + 1).toNat
  else if r = 1 then (ps.take k.toNat ++ [ps.getD k.toNat Str.empty]) ++ ps.drop k.toNat
  else if r = 2 then ps ++ [([⟨#[32]⟩, ⟨#[120]⟩, ⟨#[57]⟩] : List Str).getD (k.fmod 3).toNat Str.empty]
  else if r = 4 ∧ k.fmod 2 = 1 then [([⟨#[32]⟩, ⟨#[120]⟩] : List Str).getD ((k.fdiv 2).fmod 2).toNat Str.empty] ++ ps
  else ps
theorem bend_eq (r k : Int) (ps : List Str) : bend r k ps = bendC r k ps := by
  unfold bend bendC
  rw [show Str.ofString " " = ⟨#[32]⟩ by decide +kernel, show Str.ofString "x" = ⟨#[120]⟩ by decide +kernel, show Str.ofString "9" = ⟨#[57]⟩ by decide +kernel]
def okStr (k : Nat) (x : Str) : Bool := okRow k x && PyData.strOk x
def textsOf (k r : Nat) : List Str := (List.range (tabC k).length).flatMap fun (kk : Nat) => (cart (tabC k)).map fun ps => Txt.join ⟨#[]⟩ (bendC (r : Int) (kk : Int) ps)
def AllOk (k : Nat) (l : List Str) : Prop := ∀ x ∈ l, okStr k x = true
theorem an {k : Nat} : AllOk k [] := fun _ h => nomatch h
theorem ac {k : Nat} {x : Str} {l : List Str} (h : okStr k x = true) (t : AllOk k l) : AllOk k (x :: l) := fun y hy => by
  rcases List.mem_cons.mp hy with rfl | hy
  · exact h
  · exact t y hy
def t0_0 : Str := ⟨#[49,44,50,32,43,51,48,32,64,64,32,97,98]⟩
theorem h0_0 : okStr 0 t0_0 = true := by decide +kernel
def t0_1 : Str := ⟨#[49,44,50,32,43,51,44,48,32,64,64,32,97,98]⟩
theorem h0_1 : okStr 0 t0_1 = true := by decide +kernel
def t0_2 : Str := ⟨#[55,32,43,51,48,32,64,64,32,97,98]⟩
theorem h0_2 : okStr 0 t0_2 = true := by decide +kernel
def t0_3 : Str := ⟨#[55,32,43,51,44,48,32,64,64,32,97,98]⟩
theorem h0_3 : okStr 0 t0_3 = true := by decide +kernel
def t0_4 : Str := ⟨#[64,64,32,45,32,43,51,48,32,64,64,32,97,98]⟩
theorem h0_4 : okStr 0 t0_4 = true := by decide +kernel
def t0_5 : Str := ⟨#[64,64,32,45,32,43,51,44,48,32,64,64,32,97,98]⟩
theorem h0_5 : okStr 0 t0_5 = true := by decide +kernel
def t0_6 : Str := ⟨#[64,64,32,45,49,44,50,51,48,32,64,64,32,97,98]⟩
theorem h0_6 : okStr 0 t0_6 = true := by decide +kernel
def t0_7 : Str := ⟨#[64,64,32,45,49,44,50,51,44,48,32,64,64,32,97,98]⟩
theorem h0_7 : okStr 0 t0_7 = true := by decide +kernel
def t0_8 : Str := ⟨#[64,64,32,45,55,51,48,32,64,64,32,97,98]⟩
theorem h0_8 : okStr 0 t0_8 = true := by decide +kernel
def t0_9 : Str := ⟨#[64,64,32,45,55,51,44,48,32,64,64,32,97,98]⟩
theorem h0_9 : okStr 0 t0_9 = true := by decide +kernel
def t0_10 : Str := ⟨#[64,64,32,45,49,44,50,32,43,32,64,64,32,97,98]⟩
theorem h0_10 : okStr 0 t0_10 = true := by decide +kernel
def t0_11 : Str := ⟨#[64,64,32,45,55,32,43,32,64,64,32,97,98]⟩
theorem h0_11 : okStr 0 t0_11 = true := by decide +kernel
def t0_12 : Str := ⟨#[64,64,32,45,49,44,50,32,43,51,48,32,97,98]⟩
theorem h0_12 : okStr 0 t0_12 = true := by decide +kernel
def t0_13 : Str := ⟨#[64,64,32,45,49,44,50,32,43,51,44,48,32,97,98]⟩
theorem h0_13 : okStr 0 t0_13 = true := by decide +kernel
def t0_14 : Str := ⟨#[64,64,32,45,55,32,43,51,48,32,97,98]⟩
theorem h0_14 : okStr 0 t0_14 = true := by decide +kernel
def t0_15 : Str := ⟨#[64,64,32,45,55,32,43,51,44,48,32,97,98]⟩
theorem h0_15 : okStr 0 t0_15 = true := by decide +kernel
def t0_16 : Str := ⟨#[64,64,32,45,49,44,50,32,43,51,48,32,64,64]⟩
theorem h0_16 : okStr 0 t0_16 = true := by decide +kernel
def t0_17 : Str := ⟨#[64,64,32,45,49,44,50,32,43,51,44,48,32,64,64]⟩
theorem h0_17 : okStr 0 t0_17 = true := by decide +kernel
def t0_18 : Str := ⟨#[64,64,32,45,55,32,43,51,48,32,64,64]⟩
theorem h0_18 : okStr 0 t0_18 = true := by decide +kernel
def t0_19 : Str := ⟨#[64,64,32,45,55,32,43,51,44,48,32,64,64]⟩
theorem h0_19 : okStr 0 t0_19 = true := by decide +kernel
def t0_20 : Str := ⟨#[64,64,32,45,64,64,32,45,49,44,50,32,43,51,48,32,64,64,32,97,98]⟩
theorem h0_20 : okStr 0 t0_20 = true := by decide +kernel
def t0_21 : Str := ⟨#[64,64,32,45,64,64,32,45,49,44,50,32,43,51,44,48,32,64,64,32,97,98]⟩
theorem h0_21 : okStr 0 t0_21 = true := by decide +kernel
def t0_22 : Str := ⟨#[64,64,32,45,64,64,32,45,55,32,43,51,48,32,64,64,32,97,98]⟩
theorem h0_22 : okStr 0 t0_22 = true := by decide +kernel
def t0_23 : Str := ⟨#[64,64,32,45,64,64,32,45,55,32,43,51,44,48,32,64,64,32,97,98]⟩
theorem h0_23 : okStr 0 t0_23 = true := by decide +kernel
def t0_24 : Str := ⟨#[64,64,32,45,49,44,50,49,44,50,32,43,51,48,32,64,64,32,97,98]⟩
theorem h0_24 : okStr 0 t0_24 = true := by decide +kernel
def t0_25 : Str := ⟨#[64,64,32,45,49,44,50,49,44,50,32,43,51,44,48,32,64,64,32,97,98]⟩
theorem h0_25 : okStr 0 t0_25 = true := by decide +kernel
def t0_26 : Str := ⟨#[64,64,32,45,55,55,32,43,51,48,32,64,64,32,97,98]⟩
theorem h0_26 : okStr 0 t0_26 = true := by decide +kernel
def t0_27 : Str := ⟨#[64,64,32,45,55,55,32,43,51,44,48,32,64,64,32,97,98]⟩
theorem h0_27 : okStr 0 t0_27 = true := by decide +kernel
def t0_28 : Str := ⟨#[64,64,32,45,49,44,50,32,43,32,43,51,48,32,64,64,32,97,98]⟩
theorem h0_28 : okStr 0 t0_28 = true := by decide +kernel
def t0_29 : Str := ⟨#[64,64,32,45,49,44,50,32,43,32,43,51,44,48,32,64,64,32,97,98]⟩
theorem h0_29 : okStr 0 t0_29 = true := by decide +kernel
def t0_30 : Str := ⟨#[64,64,32,45,55,32,43,32,43,51,48,32,64,64,32,97,98]⟩
theorem h0_30 : okStr 0 t0_30 = true := by decide +kernel
def t0_31 : Str := ⟨#[64,64,32,45,55,32,43,32,43,51,44,48,32,64,64,32,97,98]⟩
theorem h0_31 : okStr 0 t0_31 = true := by decide +kernel
def t0_32 : Str := ⟨#[64,64,32,45,49,44,50,32,43,51,48,51,48,32,64,64,32,97,98]⟩
theorem h0_32 : okStr 0 t0_32 = true := by decide +kernel
def t0_33 : Str := ⟨#[64,64,32,45,49,44,50,32,43,51,44,48,51,44,48,32,64,64,32,97,98]⟩
theorem h0_33 : okStr 0 t0_33 = true := by decide +kernel
def t0_34 : Str := ⟨#[64,64,32,45,55,32,43,51,48,51,48,32,64,64,32,97,98]⟩
theorem h0_34 : okStr 0 t0_34 = true := by decide +kernel
def t0_35 : Str := ⟨#[64,64,32,45,55,32,43,51,44,48,51,44,48,32,64,64,32,97,98]⟩
theorem h0_35 : okStr 0 t0_35 = true := by decide +kernel
def t0_36 : Str := ⟨#[64,64,32,45,49,44,50,32,43,51,48,32,64,64,32,64,64,32,97,98]⟩
theorem h0_36 : okStr 0 t0_36 = true := by decide +kernel
def t0_37 : Str := ⟨#[64,64,32,45,49,44,50,32,43,51,44,48,32,64,64,32,64,64,32,97,98]⟩
theorem h0_37 : okStr 0 t0_37 = true := by decide +kernel
def t0_38 : Str := ⟨#[64,64,32,45,55,32,43,51,48,32,64,64,32,64,64,32,97,98]⟩
theorem h0_38 : okStr 0 t0_38 = true := by decide +kernel
def t0_39 : Str := ⟨#[64,64,32,45,55,32,43,51,44,48,32,64,64,32,64,64,32,97,98]⟩
theorem h0_39 : okStr 0 t0_39 = true := by decide +kernel
def t0_40 : Str := ⟨#[64,64,32,45,49,44,50,32,43,51,48,32,64,64,32,97,98,32,97,98]⟩
theorem h0_40 : okStr 0 t0_40 = true := by decide +kernel
def t0_41 : Str := ⟨#[64,64,32,45,49,44,50,32,43,51,44,48,32,64,64,32,97,98,32,97,98]⟩
theorem h0_41 : okStr 0 t0_41 = true := by decide +kernel
def t0_42 : Str := ⟨#[64,64,32,45,55,32,43,51,48,32,64,64,32,97,98,32,97,98]⟩
theorem h0_42 : okStr 0 t0_42 = true := by decide +kernel
def t0_43 : Str := ⟨#[64,64,32,45,55,32,43,51,44,48,32,64,64,32,97,98,32,97,98]⟩
theorem h0_43 : okStr 0 t0_43 = true := by decide +kernel
def t0_44 : Str := ⟨#[64,64,32,45,49,44,50,32,43,51,48,32,64,64,32,97,98,32]⟩
theorem h0_44 : okStr 0 t0_44 = true := by decide +kernel
def t0_45 : Str := ⟨#[64,64,32,45,49,44,50,32,43,51,44,48,32,64,64,32,97,98,32]⟩
theorem h0_45 : okStr 0 t0_45 = true := by decide +kernel
def t0_46 : Str := ⟨#[64,64,32,45,55,32,43,51,48,32,64,64,32,97,98,32]⟩
theorem h0_46 : okStr 0 t0_46 = true := by decide +kernel
def t0_47 : Str := ⟨#[64,64,32,45,55,32,43,51,44,48,32,64,64,32,97,98,32]⟩
theorem h0_47 : okStr 0 t0_47 = true := by decide +kernel
def t0_48 : Str := ⟨#[64,64,32,45,49,44,50,32,43,51,48,32,64,64,32,97,98,120]⟩
theorem h0_48 : okStr 0 t0_48 = true := by decide +kernel
def t0_49 : Str := ⟨#[64,64,32,45,49,44,50,32,43,51,44,48,32,64,64,32,97,98,120]⟩
theorem h0_49 : okStr 0 t0_49 = true := by decide +kernel
def t0_50 : Str := ⟨#[64,64,32,45,55,32,43,51,48,32,64,64,32,97,98,120]⟩
theorem h0_50 : okStr 0 t0_50 = true := by decide +kernel
def t0_51 : Str := ⟨#[64,64,32,45,55,32,43,51,44,48,32,64,64,32,97,98,120]⟩
theorem h0_51 : okStr 0 t0_51 = true := by decide +kernel
def t0_52 : Str := ⟨#[64,64,32,45,49,44,50,32,43,51,48,32,64,64,32,97,98,57]⟩
theorem h0_52 : okStr 0 t0_52 = true := by decide +kernel
def t0_53 : Str := ⟨#[64,64,32,45,49,44,50,32,43,51,44,48,32,64,64,32,97,98,57]⟩
theorem h0_53 : okStr 0 t0_53 = true := by decide +kernel
def t0_54 : Str := ⟨#[64,64,32,45,55,32,43,51,48,32,64,64,32,97,98,57]⟩
theorem h0_54 : okStr 0 t0_54 = true := by decide +kernel
def t0_55 : Str := ⟨#[64,64,32,45,55,32,43,51,44,48,32,64,64,32,97,98,57]⟩
theorem h0_55 : okStr 0 t0_55 = true := by decide +kernel
def t0_56 : Str := ⟨#[64,64,32,45,49,44,50,32,43,51,48,32,64,64,32,97,98]⟩
theorem h0_56 : okStr 0 t0_56 = true := by decide +kernel
def t0_57 : Str := ⟨#[64,64,32,45,49,44,50,32,43,51,44,48,32,64,64,32,97,98]⟩
theorem h0_57 : okStr 0 t0_57 = true := by decide +kernel
def t0_58 : Str := ⟨#[64,64,32,45,55,32,43,51,48,32,64,64,32,97,98]⟩
theorem h0_58 : okStr 0 t0_58 = true := by decide +kernel
def t0_59 : Str := ⟨#[64,64,32,45,55,32,43,51,44,48,32,64,64,32,97,98]⟩
theorem h0_59 : okStr 0 t0_59 = true := by decide +kernel
def t0_60 : Str := ⟨#[32,64,64,32,45,49,44,50,32,43,51,48,32,64,64,32,97,98]⟩
theorem h0_60 : okStr 0 t0_60 = true := by decide +kernel
def t0_61 : Str := ⟨#[32,64,64,32,45,49,44,50,32,43,51,44,48,32,64,64,32,97,98]⟩
theorem h0_61 : okStr 0 t0_61 = true := by decide +kernel
def t0_62 : Str := ⟨#[32,64,64,32,45,55,32,43,51,48,32,64,64,32,97,98]⟩
theorem h0_62 : okStr 0 t0_62 = true := by decide +kernel
def t0_63 : Str := ⟨#[32,64,64,32,45,55,32,43,51,44,48,32,64,64,32,97,98]⟩
theorem h0_63 : okStr 0 t0_63 = true := by decide +kernel
def t0_64 : Str := ⟨#[120,64,64,32,45,49,44,50,32,43,51,48,32,64,64,32,97,98]⟩
theorem h0_64 : okStr 0 t0_64 = true := by decide +kernel
def t0_65 : Str := ⟨#[120,64,64,32,45,49,44,50,32,43,51,44,48,32,64,64,32,97,98]⟩
theorem h0_65 : okStr 0 t0_65 = true := by decide +kernel
def t0_66 : Str := ⟨#[120,64,64,32,45,55,32,43,51,48,32,64,64,32,97,98]⟩
theorem h0_66 : okStr 0 t0_66 = true := by decide +kernel
def t0_67 : Str := ⟨#[120,64,64,32,45,55,32,43,51,44,48,32,64,64,32,97,98]⟩
theorem h0_67 : okStr 0 t0_67 = true := by decide +kernel
def lits_0_0 : List Str := [t0_0, t0_1, t0_2, t0_3, t0_4, t0_5, t0_4, t0_5, t0_6, t0_7, t0_8, t0_9, t0_10, t0_10, t0_11, t0_11, t0_12, t0_13, t0_14, t0_15, t0_16, t0_17, t0_18, t0_19]
theorem eq_0_0 : textsOf 0 0 = lits_0_0 := by decide +kernel
theorem ok_0_0 : AllOk 0 lits_0_0 := ac h0_0 <| ac h0_1 <| ac h0_2 <| ac h0_3 <| ac h0_4 <| ac h0_5 <| ac h0_4 <| ac h0_5 <| ac h0_6 <| ac h0_7 <| ac h0_8 <| ac h0_9 <| ac h0_10 <| ac h0_10 <| ac h0_11 <| ac h0_11 <| ac h0_12 <| ac h0_13 <| ac h0_14 <| ac h0_15 <| ac h0_16 <| ac h0_17 <| ac h0_18 <| ac h0_19 <| an
def lits_0_1 : List Str := [t0_20, t0_21, t0_22, t0_23, t0_24, t0_25, t0_26, t0_27, t0_28, t0_29, t0_30, t0_31, t0_32, t0_33, t0_34, t0_35, t0_36, t0_37, t0_38, t0_39, t0_40, t0_41, t0_42, t0_43]
theorem eq_0_1 : textsOf 0 1 = lits_0_1 := by decide +kernel
theorem ok_0_1 : AllOk 0 lits_0_1 := ac h0_20 <| ac h0_21 <| ac h0_22 <| ac h0_23 <| ac h0_24 <| ac h0_25 <| ac h0_26 <| ac h0_27 <| ac h0_28 <| ac h0_29 <| ac h0_30 <| ac h0_31 <| ac h0_32 <| ac h0_33 <| ac h0_34 <| ac h0_35 <| ac h0_36 <| ac h0_37 <| ac h0_38 <| ac h0_39 <| ac h0_40 <| ac h0_41 <| ac h0_42 <| ac h0_43 <| an
def lits_0_2 : List Str := [t0_44, t0_45, t0_46, t0_47, t0_48, t0_49, t0_50, t0_51, t0_52, t0_53, t0_54, t0_55, t0_44, t0_45, t0_46, t0_47, t0_48, t0_49, t0_50, t0_51, t0_52, t0_53, t0_54, t0_55]
theorem eq_0_2 : textsOf 0 2 = lits_0_2 := by decide +kernel
theorem ok_0_2 : AllOk 0 lits_0_2 := ac h0_44 <| ac h0_45 <| ac h0_46 <| ac h0_47 <| ac h0_48 <| ac h0_49 <| ac h0_50 <| ac h0_51 <| ac h0_52 <| ac h0_53 <| ac h0_54 <| ac h0_55 <| ac h0_44 <| ac h0_45 <| ac h0_46 <| ac h0_47 <| ac h0_48 <| ac h0_49 <| ac h0_50 <| ac h0_51 <| ac h0_52 <| ac h0_53 <| ac h0_54 <| ac h0_55 <| an
def lits_0_3 : List Str := [t0_56, t0_57, t0_58, t0_59, t0_56, t0_57, t0_58, t0_59, t0_56, t0_57, t0_58, t0_59, t0_56, t0_57, t0_58, t0_59, t0_56, t0_57, t0_58, t0_59, t0_56, t0_57, t0_58, t0_59]
theorem eq_0_3 : textsOf 0 3 = lits_0_3 := by decide +kernel
theorem ok_0_3 : AllOk 0 lits_0_3 := ac h0_56 <| ac h0_57 <| ac h0_58 <| ac h0_59 <| ac h0_56 <| ac h0_57 <| ac h0_58 <| ac h0_59 <| ac h0_56 <| ac h0_57 <| ac h0_58 <| ac h0_59 <| ac h0_56 <| ac h0_57 <| ac h0_58 <| ac h0_59 <| ac h0_56 <| ac h0_57 <| ac h0_58 <| ac h0_59 <| ac h0_56 <| ac h0_57 <| ac h0_58 <| ac h0_59 <| an
def lits_0_4 : List Str := [t0_56, t0_57, t0_58, t0_59, t0_60, t0_61, t0_62, t0_63, t0_56, t0_57, t0_58, t0_59, t0_64, t0_65, t0_66, t0_67, t0_56, t0_57, t0_58, t0_59, t0_60, t0_61, t0_62, t0_63]
theorem eq_0_4 : textsOf 0 4 = lits_0_4 := by decide +kernel
theorem ok_0_4 : AllOk 0 lits_0_4 := ac h0_56 <| ac h0_57 <| ac h0_58 <| ac h0_59 <| ac h0_60 <| ac h0_61 <| ac h0_62 <| ac h0_63 <| ac h0_56 <| ac h0_57 <| ac h0_58 <| ac h0_59 <| ac h0_64 <| ac h0_65 <| ac h0_66 <| ac h0_67 <| ac h0_56 <| ac h0_57 <| ac h0_58 <| ac h0_59 <| ac h0_60 <| ac h0_61 <| ac h0_62 <| ac h0_63 <| an
def t1_0 : Str := ⟨#[42,42,42,42,42,42,42,42,42,42,42,42]⟩
theorem h1_0 : okStr 1 t1_0 = true := by decide +kernel
def t1_1 : Str := ⟨#[42,42,42,42,42,42,42,42,42,42,42,42,42,42,42,42,42,42]⟩
theorem h1_1 : okStr 1 t1_1 = true := by decide +kernel
def t1_2 : Str := ⟨#[42,42,42,42,42,42,42,42,42,42,42,42,42,42,42,32]⟩
theorem h1_2 : okStr 1 t1_2 = true := by decide +kernel
def t1_3 : Str := ⟨#[42,42,42,42,42,42,42,42,42,42,42,42,42,42,42,120]⟩
theorem h1_3 : okStr 1 t1_3 = true := by decide +kernel
def t1_4 : Str := ⟨#[42,42,42,42,42,42,42,42,42,42,42,42,42,42,42,57]⟩
theorem h1_4 : okStr 1 t1_4 = true := by decide +kernel
def t1_5 : Str := ⟨#[42,42,42,42,42,42,42,42,42,42,42,42,42,42,42]⟩
theorem h1_5 : okStr 1 t1_5 = true := by decide +kernel
def t1_6 : Str := ⟨#[32,42,42,42,42,42,42,42,42,42,42,42,42,42,42,42]⟩
theorem h1_6 : okStr 1 t1_6 = true := by decide +kernel
def t1_7 : Str := ⟨#[120,42,42,42,42,42,42,42,42,42,42,42,42,42,42,42]⟩
theorem h1_7 : okStr 1 t1_7 = true := by decide +kernel
def lits_1_0 : List Str := [t1_0, t1_0, t1_0, t1_0, t1_0]
theorem eq_1_0 : textsOf 1 0 = lits_1_0 := by decide +kernel
theorem ok_1_0 : AllOk 1 lits_1_0 := ac h1_0 <| ac h1_0 <| ac h1_0 <| ac h1_0 <| ac h1_0 <| an
def lits_1_1 : List Str := [t1_1, t1_1, t1_1, t1_1, t1_1]
theorem eq_1_1 : textsOf 1 1 = lits_1_1 := by decide +kernel
theorem ok_1_1 : AllOk 1 lits_1_1 := ac h1_1 <| ac h1_1 <| ac h1_1 <| ac h1_1 <| ac h1_1 <| an
def lits_1_2 : List Str := [t1_2, t1_3, t1_4, t1_2, t1_3]
theorem eq_1_2 : textsOf 1 2 = lits_1_2 := by decide +kernel
theorem ok_1_2 : AllOk 1 lits_1_2 := ac h1_2 <| ac h1_3 <| ac h1_4 <| ac h1_2 <| ac h1_3 <| an
def lits_1_3 : List Str := [t1_5, t1_5, t1_5, t1_5, t1_5]
theorem eq_1_3 : textsOf 1 3 = lits_1_3 := by decide +kernel
theorem ok_1_3 : AllOk 1 lits_1_3 := ac h1_5 <| ac h1_5 <| ac h1_5 <| ac h1_5 <| ac h1_5 <| an
def lits_1_4 : List Str := [t1_5, t1_6, t1_5, t1_7, t1_5]
theorem eq_1_4 : textsOf 1 4 = lits_1_4 := by decide +kernel
theorem ok_1_4 : AllOk 1 lits_1_4 := ac h1_5 <| ac h1_6 <| ac h1_5 <| ac h1_7 <| ac h1_5 <| an
def t2_0 : Str := ⟨#[49,44,50,32,42,42,42,42]⟩
theorem h2_0 : okStr 2 t2_0 = true := by decide +kernel
def t2_1 : Str := ⟨#[55,32,42,42,42,42]⟩
theorem h2_1 : okStr 2 t2_1 = true := by decide +kernel
def t2_2 : Str := ⟨#[42,42,42,32,32,42,42,42,42]⟩
theorem h2_2 : okStr 2 t2_2 = true := by decide +kernel
def t2_3 : Str := ⟨#[42,42,42,32,49,44,50]⟩
theorem h2_3 : okStr 2 t2_3 = true := by decide +kernel
def t2_4 : Str := ⟨#[42,42,42,32,55]⟩
theorem h2_4 : okStr 2 t2_4 = true := by decide +kernel
def t2_5 : Str := ⟨#[42,42,42,32,42,42,42,32,49,44,50,32,42,42,42,42]⟩
theorem h2_5 : okStr 2 t2_5 = true := by decide +kernel
def t2_6 : Str := ⟨#[42,42,42,32,42,42,42,32,55,32,42,42,42,42]⟩
theorem h2_6 : okStr 2 t2_6 = true := by decide +kernel
def t2_7 : Str := ⟨#[42,42,42,32,49,44,50,49,44,50,32,42,42,42,42]⟩
theorem h2_7 : okStr 2 t2_7 = true := by decide +kernel
def t2_8 : Str := ⟨#[42,42,42,32,55,55,32,42,42,42,42]⟩
theorem h2_8 : okStr 2 t2_8 = true := by decide +kernel
def t2_9 : Str := ⟨#[42,42,42,32,49,44,50,32,42,42,42,42,32,42,42,42,42]⟩
theorem h2_9 : okStr 2 t2_9 = true := by decide +kernel
def t2_10 : Str := ⟨#[42,42,42,32,55,32,42,42,42,42,32,42,42,42,42]⟩
theorem h2_10 : okStr 2 t2_10 = true := by decide +kernel
def t2_11 : Str := ⟨#[42,42,42,32,49,44,50,32,42,42,42,42,32]⟩
theorem h2_11 : okStr 2 t2_11 = true := by decide +kernel
def t2_12 : Str := ⟨#[42,42,42,32,55,32,42,42,42,42,32]⟩
theorem h2_12 : okStr 2 t2_12 = true := by decide +kernel
def t2_13 : Str := ⟨#[42,42,42,32,49,44,50,32,42,42,42,42,120]⟩
theorem h2_13 : okStr 2 t2_13 = true := by decide +kernel
def t2_14 : Str := ⟨#[42,42,42,32,55,32,42,42,42,42,120]⟩
theorem h2_14 : okStr 2 t2_14 = true := by decide +kernel
def t2_15 : Str := ⟨#[42,42,42,32,49,44,50,32,42,42,42,42,57]⟩
theorem h2_15 : okStr 2 t2_15 = true := by decide +kernel
def t2_16 : Str := ⟨#[42,42,42,32,55,32,42,42,42,42,57]⟩
theorem h2_16 : okStr 2 t2_16 = true := by decide +kernel
def t2_17 : Str := ⟨#[42,42,42,32,49,44,50,32,42,42,42,42]⟩
theorem h2_17 : okStr 2 t2_17 = true := by decide +kernel
def t2_18 : Str := ⟨#[42,42,42,32,55,32,42,42,42,42]⟩
theorem h2_18 : okStr 2 t2_18 = true := by decide +kernel
def t2_19 : Str := ⟨#[32,42,42,42,32,49,44,50,32,42,42,42,42]⟩
theorem h2_19 : okStr 2 t2_19 = true := by decide +kernel
def t2_20 : Str := ⟨#[32,42,42,42,32,55,32,42,42,42,42]⟩
theorem h2_20 : okStr 2 t2_20 = true := by decide +kernel
def lits_2_0 : List Str := [t2_0, t2_1, t2_2, t2_2, t2_3, t2_4]
theorem eq_2_0 : textsOf 2 0 = lits_2_0 := by decide +kernel
theorem ok_2_0 : AllOk 2 lits_2_0 := ac h2_0 <| ac h2_1 <| ac h2_2 <| ac h2_2 <| ac h2_3 <| ac h2_4 <| an
def lits_2_1 : List Str := [t2_5, t2_6, t2_7, t2_8, t2_9, t2_10]
theorem eq_2_1 : textsOf 2 1 = lits_2_1 := by decide +kernel
theorem ok_2_1 : AllOk 2 lits_2_1 := ac h2_5 <| ac h2_6 <| ac h2_7 <| ac h2_8 <| ac h2_9 <| ac h2_10 <| an
def lits_2_2 : List Str := [t2_11, t2_12, t2_13, t2_14, t2_15, t2_16]
theorem eq_2_2 : textsOf 2 2 = lits_2_2 := by decide +kernel
theorem ok_2_2 : AllOk 2 lits_2_2 := ac h2_11 <| ac h2_12 <| ac h2_13 <| ac h2_14 <| ac h2_15 <| ac h2_16 <| an
def lits_2_3 : List Str := [t2_17, t2_18, t2_17, t2_18, t2_17, t2_18]
theorem eq_2_3 : textsOf 2 3 = lits_2_3 := by decide +kernel
theorem ok_2_3 : AllOk 2 lits_2_3 := ac h2_17 <| ac h2_18 <| ac h2_17 <| ac h2_18 <| ac h2_17 <| ac h2_18 <| an
def lits_2_4 : List Str := [t2_17, t2_18, t2_19, t2_20, t2_17, t2_18]
theorem eq_2_4 : textsOf 2 4 = lits_2_4 := by decide +kernel
theorem ok_2_4 : AllOk 2 lits_2_4 := ac h2_17 <| ac h2_18 <| ac h2_19 <| ac h2_20 <| ac h2_17 <| ac h2_18 <| an
def t3_0 : Str := ⟨#[99,51,48]⟩
theorem h3_0 : okStr 3 t3_0 = true := by decide +kernel
def t3_1 : Str := ⟨#[99,51,44,48]⟩
theorem h3_1 : okStr 3 t3_1 = true := by decide +kernel
def t3_2 : Str := ⟨#[97,51,48]⟩
theorem h3_2 : okStr 3 t3_2 = true := by decide +kernel
def t3_3 : Str := ⟨#[97,51,44,48]⟩
theorem h3_3 : okStr 3 t3_3 = true := by decide +kernel
def t3_4 : Str := ⟨#[100,51,48]⟩
theorem h3_4 : okStr 3 t3_4 = true := by decide +kernel
def t3_5 : Str := ⟨#[100,51,44,48]⟩
theorem h3_5 : okStr 3 t3_5 = true := by decide +kernel
def t3_6 : Str := ⟨#[49,44,50,51,48]⟩
theorem h3_6 : okStr 3 t3_6 = true := by decide +kernel
def t3_7 : Str := ⟨#[49,44,50,51,44,48]⟩
theorem h3_7 : okStr 3 t3_7 = true := by decide +kernel
def t3_8 : Str := ⟨#[55,51,48]⟩
theorem h3_8 : okStr 3 t3_8 = true := by decide +kernel
def t3_9 : Str := ⟨#[55,51,44,48]⟩
theorem h3_9 : okStr 3 t3_9 = true := by decide +kernel
def t3_10 : Str := ⟨#[49,44,50,99]⟩
theorem h3_10 : okStr 3 t3_10 = true := by decide +kernel
def t3_11 : Str := ⟨#[49,44,50,97]⟩
theorem h3_11 : okStr 3 t3_11 = true := by decide +kernel
def t3_12 : Str := ⟨#[49,44,50,100]⟩
theorem h3_12 : okStr 3 t3_12 = true := by decide +kernel
def t3_13 : Str := ⟨#[55,99]⟩
theorem h3_13 : okStr 3 t3_13 = true := by decide +kernel
def t3_14 : Str := ⟨#[55,97]⟩
theorem h3_14 : okStr 3 t3_14 = true := by decide +kernel
def t3_15 : Str := ⟨#[55,100]⟩
theorem h3_15 : okStr 3 t3_15 = true := by decide +kernel
def t3_16 : Str := ⟨#[49,44,50,49,44,50,99,51,48]⟩
theorem h3_16 : okStr 3 t3_16 = true := by decide +kernel
def t3_17 : Str := ⟨#[49,44,50,49,44,50,99,51,44,48]⟩
theorem h3_17 : okStr 3 t3_17 = true := by decide +kernel
def t3_18 : Str := ⟨#[49,44,50,49,44,50,97,51,48]⟩
theorem h3_18 : okStr 3 t3_18 = true := by decide +kernel
def t3_19 : Str := ⟨#[49,44,50,49,44,50,97,51,44,48]⟩
theorem h3_19 : okStr 3 t3_19 = true := by decide +kernel
def t3_20 : Str := ⟨#[49,44,50,49,44,50,100,51,48]⟩
theorem h3_20 : okStr 3 t3_20 = true := by decide +kernel
def t3_21 : Str := ⟨#[49,44,50,49,44,50,100,51,44,48]⟩
theorem h3_21 : okStr 3 t3_21 = true := by decide +kernel
def t3_22 : Str := ⟨#[55,55,99,51,48]⟩
theorem h3_22 : okStr 3 t3_22 = true := by decide +kernel
def t3_23 : Str := ⟨#[55,55,99,51,44,48]⟩
theorem h3_23 : okStr 3 t3_23 = true := by decide +kernel
def t3_24 : Str := ⟨#[55,55,97,51,48]⟩
theorem h3_24 : okStr 3 t3_24 = true := by decide +kernel
def t3_25 : Str := ⟨#[55,55,97,51,44,48]⟩
theorem h3_25 : okStr 3 t3_25 = true := by decide +kernel
def t3_26 : Str := ⟨#[55,55,100,51,48]⟩
theorem h3_26 : okStr 3 t3_26 = true := by decide +kernel
def t3_27 : Str := ⟨#[55,55,100,51,44,48]⟩
theorem h3_27 : okStr 3 t3_27 = true := by decide +kernel
def t3_28 : Str := ⟨#[49,44,50,99,99,51,48]⟩
theorem h3_28 : okStr 3 t3_28 = true := by decide +kernel
def t3_29 : Str := ⟨#[49,44,50,99,99,51,44,48]⟩
theorem h3_29 : okStr 3 t3_29 = true := by decide +kernel
def t3_30 : Str := ⟨#[49,44,50,97,97,51,48]⟩
theorem h3_30 : okStr 3 t3_30 = true := by decide +kernel
def t3_31 : Str := ⟨#[49,44,50,97,97,51,44,48]⟩
theorem h3_31 : okStr 3 t3_31 = true := by decide +kernel
def t3_32 : Str := ⟨#[49,44,50,100,100,51,48]⟩
theorem h3_32 : okStr 3 t3_32 = true := by decide +kernel
def t3_33 : Str := ⟨#[49,44,50,100,100,51,44,48]⟩
theorem h3_33 : okStr 3 t3_33 = true := by decide +kernel
def t3_34 : Str := ⟨#[55,99,99,51,48]⟩
theorem h3_34 : okStr 3 t3_34 = true := by decide +kernel
def t3_35 : Str := ⟨#[55,99,99,51,44,48]⟩
theorem h3_35 : okStr 3 t3_35 = true := by decide +kernel
def t3_36 : Str := ⟨#[55,97,97,51,48]⟩
theorem h3_36 : okStr 3 t3_36 = true := by decide +kernel
def t3_37 : Str := ⟨#[55,97,97,51,44,48]⟩
theorem h3_37 : okStr 3 t3_37 = true := by decide +kernel
def t3_38 : Str := ⟨#[55,100,100,51,48]⟩
theorem h3_38 : okStr 3 t3_38 = true := by decide +kernel
def t3_39 : Str := ⟨#[55,100,100,51,44,48]⟩
theorem h3_39 : okStr 3 t3_39 = true := by decide +kernel
def t3_40 : Str := ⟨#[49,44,50,99,51,48,51,48]⟩
theorem h3_40 : okStr 3 t3_40 = true := by decide +kernel
def t3_41 : Str := ⟨#[49,44,50,99,51,44,48,51,44,48]⟩
theorem h3_41 : okStr 3 t3_41 = true := by decide +kernel
def t3_42 : Str := ⟨#[49,44,50,97,51,48,51,48]⟩
theorem h3_42 : okStr 3 t3_42 = true := by decide +kernel
def t3_43 : Str := ⟨#[49,44,50,97,51,44,48,51,44,48]⟩
theorem h3_43 : okStr 3 t3_43 = true := by decide +kernel
def t3_44 : Str := ⟨#[49,44,50,100,51,48,51,48]⟩
theorem h3_44 : okStr 3 t3_44 = true := by decide +kernel
def t3_45 : Str := ⟨#[49,44,50,100,51,44,48,51,44,48]⟩
theorem h3_45 : okStr 3 t3_45 = true := by decide +kernel
def t3_46 : Str := ⟨#[55,99,51,48,51,48]⟩
theorem h3_46 : okStr 3 t3_46 = true := by decide +kernel
def t3_47 : Str := ⟨#[55,99,51,44,48,51,44,48]⟩
theorem h3_47 : okStr 3 t3_47 = true := by decide +kernel
def t3_48 : Str := ⟨#[55,97,51,48,51,48]⟩
theorem h3_48 : okStr 3 t3_48 = true := by decide +kernel
def t3_49 : Str := ⟨#[55,97,51,44,48,51,44,48]⟩
theorem h3_49 : okStr 3 t3_49 = true := by decide +kernel
def t3_50 : Str := ⟨#[55,100,51,48,51,48]⟩
theorem h3_50 : okStr 3 t3_50 = true := by decide +kernel
def t3_51 : Str := ⟨#[55,100,51,44,48,51,44,48]⟩
theorem h3_51 : okStr 3 t3_51 = true := by decide +kernel
def t3_52 : Str := ⟨#[49,44,50,99,51,48,32]⟩
theorem h3_52 : okStr 3 t3_52 = true := by decide +kernel
def t3_53 : Str := ⟨#[49,44,50,99,51,44,48,32]⟩
theorem h3_53 : okStr 3 t3_53 = true := by decide +kernel
def t3_54 : Str := ⟨#[49,44,50,97,51,48,32]⟩
theorem h3_54 : okStr 3 t3_54 = true := by decide +kernel
def t3_55 : Str := ⟨#[49,44,50,97,51,44,48,32]⟩
theorem h3_55 : okStr 3 t3_55 = true := by decide +kernel
def t3_56 : Str := ⟨#[49,44,50,100,51,48,32]⟩
theorem h3_56 : okStr 3 t3_56 = true := by decide +kernel
def t3_57 : Str := ⟨#[49,44,50,100,51,44,48,32]⟩
theorem h3_57 : okStr 3 t3_57 = true := by decide +kernel
def t3_58 : Str := ⟨#[55,99,51,48,32]⟩
theorem h3_58 : okStr 3 t3_58 = true := by decide +kernel
def t3_59 : Str := ⟨#[55,99,51,44,48,32]⟩
theorem h3_59 : okStr 3 t3_59 = true := by decide +kernel
def t3_60 : Str := ⟨#[55,97,51,48,32]⟩
theorem h3_60 : okStr 3 t3_60 = true := by decide +kernel
def t3_61 : Str := ⟨#[55,97,51,44,48,32]⟩
theorem h3_61 : okStr 3 t3_61 = true := by decide +kernel
def t3_62 : Str := ⟨#[55,100,51,48,32]⟩
theorem h3_62 : okStr 3 t3_62 = true := by decide +kernel
def t3_63 : Str := ⟨#[55,100,51,44,48,32]⟩
theorem h3_63 : okStr 3 t3_63 = true := by decide +kernel
def t3_64 : Str := ⟨#[49,44,50,99,51,48,120]⟩
theorem h3_64 : okStr 3 t3_64 = true := by decide +kernel
def t3_65 : Str := ⟨#[49,44,50,99,51,44,48,120]⟩
theorem h3_65 : okStr 3 t3_65 = true := by decide +kernel
def t3_66 : Str := ⟨#[49,44,50,97,51,48,120]⟩
theorem h3_66 : okStr 3 t3_66 = true := by decide +kernel
def t3_67 : Str := ⟨#[49,44,50,97,51,44,48,120]⟩
theorem h3_67 : okStr 3 t3_67 = true := by decide +kernel
def t3_68 : Str := ⟨#[49,44,50,100,51,48,120]⟩
theorem h3_68 : okStr 3 t3_68 = true := by decide +kernel
def t3_69 : Str := ⟨#[49,44,50,100,51,44,48,120]⟩
theorem h3_69 : okStr 3 t3_69 = true := by decide +kernel
def t3_70 : Str := ⟨#[55,99,51,48,120]⟩
theorem h3_70 : okStr 3 t3_70 = true := by decide +kernel
def t3_71 : Str := ⟨#[55,99,51,44,48,120]⟩
theorem h3_71 : okStr 3 t3_71 = true := by decide +kernel
def t3_72 : Str := ⟨#[55,97,51,48,120]⟩
theorem h3_72 : okStr 3 t3_72 = true := by decide +kernel
def t3_73 : Str := ⟨#[55,97,51,44,48,120]⟩
theorem h3_73 : okStr 3 t3_73 = true := by decide +kernel
def t3_74 : Str := ⟨#[55,100,51,48,120]⟩
theorem h3_74 : okStr 3 t3_74 = true := by decide +kernel
def t3_75 : Str := ⟨#[55,100,51,44,48,120]⟩
theorem h3_75 : okStr 3 t3_75 = true := by decide +kernel
def t3_76 : Str := ⟨#[49,44,50,99,51,48,57]⟩
theorem h3_76 : okStr 3 t3_76 = true := by decide +kernel
def t3_77 : Str := ⟨#[49,44,50,99,51,44,48,57]⟩
theorem h3_77 : okStr 3 t3_77 = true := by decide +kernel
def t3_78 : Str := ⟨#[49,44,50,97,51,48,57]⟩
theorem h3_78 : okStr 3 t3_78 = true := by decide +kernel
def t3_79 : Str := ⟨#[49,44,50,97,51,44,48,57]⟩
theorem h3_79 : okStr 3 t3_79 = true := by decide +kernel
def t3_80 : Str := ⟨#[49,44,50,100,51,48,57]⟩
theorem h3_80 : okStr 3 t3_80 = true := by decide +kernel
def t3_81 : Str := ⟨#[49,44,50,100,51,44,48,57]⟩
theorem h3_81 : okStr 3 t3_81 = true := by decide +kernel
def t3_82 : Str := ⟨#[55,99,51,48,57]⟩
theorem h3_82 : okStr 3 t3_82 = true := by decide +kernel
def t3_83 : Str := ⟨#[55,99,51,44,48,57]⟩
theorem h3_83 : okStr 3 t3_83 = true := by decide +kernel
def t3_84 : Str := ⟨#[55,97,51,48,57]⟩
theorem h3_84 : okStr 3 t3_84 = true := by decide +kernel
def t3_85 : Str := ⟨#[55,97,51,44,48,57]⟩
theorem h3_85 : okStr 3 t3_85 = true := by decide +kernel
def t3_86 : Str := ⟨#[55,100,51,48,57]⟩
theorem h3_86 : okStr 3 t3_86 = true := by decide +kernel
def t3_87 : Str := ⟨#[55,100,51,44,48,57]⟩
theorem h3_87 : okStr 3 t3_87 = true := by decide +kernel
def t3_88 : Str := ⟨#[49,44,50,99,51,48]⟩
theorem h3_88 : okStr 3 t3_88 = true := by decide +kernel
def t3_89 : Str := ⟨#[49,44,50,99,51,44,48]⟩
theorem h3_89 : okStr 3 t3_89 = true := by decide +kernel
def t3_90 : Str := ⟨#[49,44,50,97,51,48]⟩
theorem h3_90 : okStr 3 t3_90 = true := by decide +kernel
def t3_91 : Str := ⟨#[49,44,50,97,51,44,48]⟩
theorem h3_91 : okStr 3 t3_91 = true := by decide +kernel
def t3_92 : Str := ⟨#[49,44,50,100,51,48]⟩
theorem h3_92 : okStr 3 t3_92 = true := by decide +kernel
def t3_93 : Str := ⟨#[49,44,50,100,51,44,48]⟩
theorem h3_93 : okStr 3 t3_93 = true := by decide +kernel
def t3_94 : Str := ⟨#[55,99,51,48]⟩
theorem h3_94 : okStr 3 t3_94 = true := by decide +kernel
def t3_95 : Str := ⟨#[55,99,51,44,48]⟩
theorem h3_95 : okStr 3 t3_95 = true := by decide +kernel
def t3_96 : Str := ⟨#[55,97,51,48]⟩
theorem h3_96 : okStr 3 t3_96 = true := by decide +kernel
def t3_97 : Str := ⟨#[55,97,51,44,48]⟩
theorem h3_97 : okStr 3 t3_97 = true := by decide +kernel
def t3_98 : Str := ⟨#[55,100,51,48]⟩
theorem h3_98 : okStr 3 t3_98 = true := by decide +kernel
def t3_99 : Str := ⟨#[55,100,51,44,48]⟩
theorem h3_99 : okStr 3 t3_99 = true := by decide +kernel
def t3_100 : Str := ⟨#[32,49,44,50,99,51,48]⟩
theorem h3_100 : okStr 3 t3_100 = true := by decide +kernel
def t3_101 : Str := ⟨#[32,49,44,50,99,51,44,48]⟩
theorem h3_101 : okStr 3 t3_101 = true := by decide +kernel
def t3_102 : Str := ⟨#[32,49,44,50,97,51,48]⟩
theorem h3_102 : okStr 3 t3_102 = true := by decide +kernel
def t3_103 : Str := ⟨#[32,49,44,50,97,51,44,48]⟩
theorem h3_103 : okStr 3 t3_103 = true := by decide +kernel
def t3_104 : Str := ⟨#[32,49,44,50,100,51,48]⟩
theorem h3_104 : okStr 3 t3_104 = true := by decide +kernel
def t3_105 : Str := ⟨#[32,49,44,50,100,51,44,48]⟩
theorem h3_105 : okStr 3 t3_105 = true := by decide +kernel
def t3_106 : Str := ⟨#[32,55,99,51,48]⟩
theorem h3_106 : okStr 3 t3_106 = true := by decide +kernel
def t3_107 : Str := ⟨#[32,55,99,51,44,48]⟩
theorem h3_107 : okStr 3 t3_107 = true := by decide +kernel
def t3_108 : Str := ⟨#[32,55,97,51,48]⟩
theorem h3_108 : okStr 3 t3_108 = true := by decide +kernel
def t3_109 : Str := ⟨#[32,55,97,51,44,48]⟩
theorem h3_109 : okStr 3 t3_109 = true := by decide +kernel
def t3_110 : Str := ⟨#[32,55,100,51,48]⟩
theorem h3_110 : okStr 3 t3_110 = true := by decide +kernel
def t3_111 : Str := ⟨#[32,55,100,51,44,48]⟩
theorem h3_111 : okStr 3 t3_111 = true := by decide +kernel
def lits_3_0 : List Str := [t3_0, t3_1, t3_2, t3_3, t3_4, t3_5, t3_0, t3_1, t3_2, t3_3, t3_4, t3_5, t3_6, t3_7, t3_6, t3_7, t3_6, t3_7, t3_8, t3_9, t3_8, t3_9, t3_8, t3_9, t3_10, t3_10, t3_11, t3_11, t3_12, t3_12, t3_13, t3_13, t3_14, t3_14, t3_15, t3_15]
theorem eq_3_0 : textsOf 3 0 = lits_3_0 := by decide +kernel
theorem ok_3_0 : AllOk 3 lits_3_0 := ac h3_0 <| ac h3_1 <| ac h3_2 <| ac h3_3 <| ac h3_4 <| ac h3_5 <| ac h3_0 <| ac h3_1 <| ac h3_2 <| ac h3_3 <| ac h3_4 <| ac h3_5 <| ac h3_6 <| ac h3_7 <| ac h3_6 <| ac h3_7 <| ac h3_6 <| ac h3_7 <| ac h3_8 <| ac h3_9 <| ac h3_8 <| ac h3_9 <| ac h3_8 <| ac h3_9 <| ac h3_10 <| ac h3_10 <| ac h3_11 <| ac h3_11 <| ac h3_12 <| ac h3_12 <| ac h3_13 <| ac h3_13 <| ac h3_14 <| ac h3_14 <| ac h3_15 <| ac h3_15 <| an
def lits_3_1 : List Str := [t3_16, t3_17, t3_18, t3_19, t3_20, t3_21, t3_22, t3_23, t3_24, t3_25, t3_26, t3_27, t3_28, t3_29, t3_30, t3_31, t3_32, t3_33, t3_34, t3_35, t3_36, t3_37, t3_38, t3_39, t3_40, t3_41, t3_42, t3_43, t3_44, t3_45, t3_46, t3_47, t3_48, t3_49, t3_50, t3_51]
theorem eq_3_1 : textsOf 3 1 = lits_3_1 := by decide +kernel
theorem ok_3_1 : AllOk 3 lits_3_1 := ac h3_16 <| ac h3_17 <| ac h3_18 <| ac h3_19 <| ac h3_20 <| ac h3_21 <| ac h3_22 <| ac h3_23 <| ac h3_24 <| ac h3_25 <| ac h3_26 <| ac h3_27 <| ac h3_28 <| ac h3_29 <| ac h3_30 <| ac h3_31 <| ac h3_32 <| ac h3_33 <| ac h3_34 <| ac h3_35 <| ac h3_36 <| ac h3_37 <| ac h3_38 <| ac h3_39 <| ac h3_40 <| ac h3_41 <| ac h3_42 <| ac h3_43 <| ac h3_44 <| ac h3_45 <| ac h3_46 <| ac h3_47 <| ac h3_48 <| ac h3_49 <| ac h3_50 <| ac h3_51 <| an
def lits_3_2 : List Str := [t3_52, t3_53, t3_54, t3_55, t3_56, t3_57, t3_58, t3_59, t3_60, t3_61, t3_62, t3_63, t3_64, t3_65, t3_66, t3_67, t3_68, t3_69, t3_70, t3_71, t3_72, t3_73, t3_74, t3_75, t3_76, t3_77, t3_78, t3_79, t3_80, t3_81, t3_82, t3_83, t3_84, t3_85, t3_86, t3_87]
theorem eq_3_2 : textsOf 3 2 = lits_3_2 := by decide +kernel
theorem ok_3_2 : AllOk 3 lits_3_2 := ac h3_52 <| ac h3_53 <| ac h3_54 <| ac h3_55 <| ac h3_56 <| ac h3_57 <| ac h3_58 <| ac h3_59 <| ac h3_60 <| ac h3_61 <| ac h3_62 <| ac h3_63 <| ac h3_64 <| ac h3_65 <| ac h3_66 <| ac h3_67 <| ac h3_68 <| ac h3_69 <| ac h3_70 <| ac h3_71 <| ac h3_72 <| ac h3_73 <| ac h3_74 <| ac h3_75 <| ac h3_76 <| ac h3_77 <| ac h3_78 <| ac h3_79 <| ac h3_80 <| ac h3_81 <| ac h3_82 <| ac h3_83 <| ac h3_84 <| ac h3_85 <| ac h3_86 <| ac h3_87 <| an
def lits_3_3 : List Str := [t3_88, t3_89, t3_90, t3_91, t3_92, t3_93, t3_94, t3_95, t3_96, t3_97, t3_98, t3_99, t3_88, t3_89, t3_90, t3_91, t3_92, t3_93, t3_94, t3_95, t3_96, t3_97, t3_98, t3_99, t3_88, t3_89, t3_90, t3_91, t3_92, t3_93, t3_94, t3_95, t3_96, t3_97, t3_98, t3_99]
theorem eq_3_3 : textsOf 3 3 = lits_3_3 := by decide +kernel
theorem ok_3_3 : AllOk 3 lits_3_3 := ac h3_88 <| ac h3_89 <| ac h3_90 <| ac h3_91 <| ac h3_92 <| ac h3_93 <| ac h3_94 <| ac h3_95 <| ac h3_96 <| ac h3_97 <| ac h3_98 <| ac h3_99 <| ac h3_88 <| ac h3_89 <| ac h3_90 <| ac h3_91 <| ac h3_92 <| ac h3_93 <| ac h3_94 <| ac h3_95 <| ac h3_96 <| ac h3_97 <| ac h3_98 <| ac h3_99 <| ac h3_88 <| ac h3_89 <| ac h3_90 <| ac h3_91 <| ac h3_92 <| ac h3_93 <| ac h3_94 <| ac h3_95 <| ac h3_96 <| ac h3_97 <| ac h3_98 <| ac h3_99 <| an
def lits_3_4 : List Str := [t3_88, t3_89, t3_90, t3_91, t3_92, t3_93, t3_94, t3_95, t3_96, t3_97, t3_98, t3_99, t3_100, t3_101, t3_102, t3_103, t3_104, t3_105, t3_106, t3_107, t3_108, t3_109, t3_110, t3_111, t3_88, t3_89, t3_90, t3_91, t3_92, t3_93, t3_94, t3_95, t3_96, t3_97, t3_98, t3_99]
theorem eq_3_4 : textsOf 3 4 = lits_3_4 := by decide +kernel
theorem ok_3_4 : AllOk 3 lits_3_4 := ac h3_88 <| ac h3_89 <| ac h3_90 <| ac h3_91 <| ac h3_92 <| ac h3_93 <| ac h3_94 <| ac h3_95 <| ac h3_96 <| ac h3_97 <| ac h3_98 <| ac h3_99 <| ac h3_100 <| ac h3_101 <| ac h3_102 <| ac h3_103 <| ac h3_104 <| ac h3_105 <| ac h3_106 <| ac h3_107 <| ac h3_108 <| ac h3_109 <| ac h3_110 <| ac h3_111 <| ac h3_88 <| ac h3_89 <| ac h3_90 <| ac h3_91 <| ac h3_92 <| ac h3_93 <| ac h3_94 <| ac h3_95 <| ac h3_96 <| ac h3_97 <| ac h3_98 <| ac h3_99 <| an
def t4_0 : Str := ⟨#[44,50,48,100]⟩
theorem h4_0 : okStr 4 t4_0 = true := by decide +kernel
def t4_1 : Str := ⟨#[44,50,48,97]⟩
theorem h4_1 : okStr 4 t4_1 = true := by decide +kernel
def t4_2 : Str := ⟨#[44,50,48,99]⟩
theorem h4_2 : okStr 4 t4_2 = true := by decide +kernel
def t4_3 : Str := ⟨#[49,100]⟩
theorem h4_3 : okStr 4 t4_3 = true := by decide +kernel
def t4_4 : Str := ⟨#[49,97]⟩
theorem h4_4 : okStr 4 t4_4 = true := by decide +kernel
def t4_5 : Str := ⟨#[49,99]⟩
theorem h4_5 : okStr 4 t4_5 = true := by decide +kernel
def t4_6 : Str := ⟨#[49,44,50,48]⟩
theorem h4_6 : okStr 4 t4_6 = true := by decide +kernel
def t4_7 : Str := ⟨#[49,49,44,50,48,100]⟩
theorem h4_7 : okStr 4 t4_7 = true := by decide +kernel
def t4_8 : Str := ⟨#[49,49,44,50,48,97]⟩
theorem h4_8 : okStr 4 t4_8 = true := by decide +kernel
def t4_9 : Str := ⟨#[49,49,44,50,48,99]⟩
theorem h4_9 : okStr 4 t4_9 = true := by decide +kernel
def t4_10 : Str := ⟨#[49,44,50,48,44,50,48,100]⟩
theorem h4_10 : okStr 4 t4_10 = true := by decide +kernel
def t4_11 : Str := ⟨#[49,44,50,48,44,50,48,97]⟩
theorem h4_11 : okStr 4 t4_11 = true := by decide +kernel
def t4_12 : Str := ⟨#[49,44,50,48,44,50,48,99]⟩
theorem h4_12 : okStr 4 t4_12 = true := by decide +kernel
def t4_13 : Str := ⟨#[49,44,50,48,100,100]⟩
theorem h4_13 : okStr 4 t4_13 = true := by decide +kernel
def t4_14 : Str := ⟨#[49,44,50,48,97,97]⟩
theorem h4_14 : okStr 4 t4_14 = true := by decide +kernel
def t4_15 : Str := ⟨#[49,44,50,48,99,99]⟩
theorem h4_15 : okStr 4 t4_15 = true := by decide +kernel
def t4_16 : Str := ⟨#[49,44,50,48,100,32]⟩
theorem h4_16 : okStr 4 t4_16 = true := by decide +kernel
def t4_17 : Str := ⟨#[49,44,50,48,97,32]⟩
theorem h4_17 : okStr 4 t4_17 = true := by decide +kernel
def t4_18 : Str := ⟨#[49,44,50,48,99,32]⟩
theorem h4_18 : okStr 4 t4_18 = true := by decide +kernel
def t4_19 : Str := ⟨#[49,44,50,48,100,120]⟩
theorem h4_19 : okStr 4 t4_19 = true := by decide +kernel
def t4_20 : Str := ⟨#[49,44,50,48,97,120]⟩
theorem h4_20 : okStr 4 t4_20 = true := by decide +kernel
def t4_21 : Str := ⟨#[49,44,50,48,99,120]⟩
theorem h4_21 : okStr 4 t4_21 = true := by decide +kernel
def t4_22 : Str := ⟨#[49,44,50,48,100,57]⟩
theorem h4_22 : okStr 4 t4_22 = true := by decide +kernel
def t4_23 : Str := ⟨#[49,44,50,48,97,57]⟩
theorem h4_23 : okStr 4 t4_23 = true := by decide +kernel
def t4_24 : Str := ⟨#[49,44,50,48,99,57]⟩
theorem h4_24 : okStr 4 t4_24 = true := by decide +kernel
def t4_25 : Str := ⟨#[49,44,50,48,100]⟩
theorem h4_25 : okStr 4 t4_25 = true := by decide +kernel
def t4_26 : Str := ⟨#[49,44,50,48,97]⟩
theorem h4_26 : okStr 4 t4_26 = true := by decide +kernel
def t4_27 : Str := ⟨#[49,44,50,48,99]⟩
theorem h4_27 : okStr 4 t4_27 = true := by decide +kernel
def t4_28 : Str := ⟨#[32,49,44,50,48,100]⟩
theorem h4_28 : okStr 4 t4_28 = true := by decide +kernel
def t4_29 : Str := ⟨#[32,49,44,50,48,97]⟩
theorem h4_29 : okStr 4 t4_29 = true := by decide +kernel
def t4_30 : Str := ⟨#[32,49,44,50,48,99]⟩
theorem h4_30 : okStr 4 t4_30 = true := by decide +kernel
def lits_4_0 : List Str := [t4_0, t4_1, t4_2, t4_3, t4_4, t4_5, t4_6, t4_6, t4_6]
theorem eq_4_0 : textsOf 4 0 = lits_4_0 := by decide +kernel
theorem ok_4_0 : AllOk 4 lits_4_0 := ac h4_0 <| ac h4_1 <| ac h4_2 <| ac h4_3 <| ac h4_4 <| ac h4_5 <| ac h4_6 <| ac h4_6 <| ac h4_6 <| an
def lits_4_1 : List Str := [t4_7, t4_8, t4_9, t4_10, t4_11, t4_12, t4_13, t4_14, t4_15]
theorem eq_4_1 : textsOf 4 1 = lits_4_1 := by decide +kernel
theorem ok_4_1 : AllOk 4 lits_4_1 := ac h4_7 <| ac h4_8 <| ac h4_9 <| ac h4_10 <| ac h4_11 <| ac h4_12 <| ac h4_13 <| ac h4_14 <| ac h4_15 <| an
def lits_4_2 : List Str := [t4_16, t4_17, t4_18, t4_19, t4_20, t4_21, t4_22, t4_23, t4_24]
theorem eq_4_2 : textsOf 4 2 = lits_4_2 := by decide +kernel
theorem ok_4_2 : AllOk 4 lits_4_2 := ac h4_16 <| ac h4_17 <| ac h4_18 <| ac h4_19 <| ac h4_20 <| ac h4_21 <| ac h4_22 <| ac h4_23 <| ac h4_24 <| an
def lits_4_3 : List Str := [t4_25, t4_26, t4_27, t4_25, t4_26, t4_27, t4_25, t4_26, t4_27]
theorem eq_4_3 : textsOf 4 3 = lits_4_3 := by decide +kernel
theorem ok_4_3 : AllOk 4 lits_4_3 := ac h4_25 <| ac h4_26 <| ac h4_27 <| ac h4_25 <| ac h4_26 <| ac h4_27 <| ac h4_25 <| ac h4_26 <| ac h4_27 <| an
def lits_4_4 : List Str := [t4_25, t4_26, t4_27, t4_28, t4_29, t4_30, t4_25, t4_26, t4_27]
theorem eq_4_4 : textsOf 4 4 = lits_4_4 := by decide +kernel
theorem ok_4_4 : AllOk 4 lits_4_4 := ac h4_25 <| ac h4_26 <| ac h4_27 <| ac h4_28 <| ac h4_29 <| ac h4_30 <| ac h4_25 <| ac h4_26 <| ac h4_27 <| an
def t5_0 : Str := ⟨#[97,98]⟩
theorem h5_0 : okStr 5 t5_0 = true := by decide +kernel
def t5_1 : Str := ⟨#[73,110,100,101,120,58,32]⟩
theorem h5_1 : okStr 5 t5_1 = true := by decide +kernel
def t5_2 : Str := ⟨#[73,110,100,101,120,58,32,73,110,100,101,120,58,32,97,98]⟩
theorem h5_2 : okStr 5 t5_2 = true := by decide +kernel
def t5_3 : Str := ⟨#[73,110,100,101,120,58,32,97,98,97,98]⟩
theorem h5_3 : okStr 5 t5_3 = true := by decide +kernel
def t5_4 : Str := ⟨#[73,110,100,101,120,58,32,97,98,32]⟩
theorem h5_4 : okStr 5 t5_4 = true := by decide +kernel
def t5_5 : Str := ⟨#[73,110,100,101,120,58,32,97,98,120]⟩
theorem h5_5 : okStr 5 t5_5 = true := by decide +kernel
def t5_6 : Str := ⟨#[73,110,100,101,120,58,32,97,98]⟩
theorem h5_6 : okStr 5 t5_6 = true := by decide +kernel
def t5_7 : Str := ⟨#[32,73,110,100,101,120,58,32,97,98]⟩
theorem h5_7 : okStr 5 t5_7 = true := by decide +kernel
def lits_5_0 : List Str := [t5_0, t5_1]
theorem eq_5_0 : textsOf 5 0 = lits_5_0 := by decide +kernel
theorem ok_5_0 : AllOk 5 lits_5_0 := ac h5_0 <| ac h5_1 <| an
def lits_5_1 : List Str := [t5_2, t5_3]
theorem eq_5_1 : textsOf 5 1 = lits_5_1 := by decide +kernel
theorem ok_5_1 : AllOk 5 lits_5_1 := ac h5_2 <| ac h5_3 <| an
def lits_5_2 : List Str := [t5_4, t5_5]
theorem eq_5_2 : textsOf 5 2 = lits_5_2 := by decide +kernel
theorem ok_5_2 : AllOk 5 lits_5_2 := ac h5_4 <| ac h5_5 <| an
def lits_5_3 : List Str := [t5_6, t5_6]
theorem eq_5_3 : textsOf 5 3 = lits_5_3 := by decide +kernel
theorem ok_5_3 : AllOk 5 lits_5_3 := ac h5_6 <| ac h5_6 <| an
def lits_5_4 : List Str := [t5_6, t5_7]
theorem eq_5_4 : textsOf 5 4 = lits_5_4 := by decide +kernel
theorem ok_5_4 : AllOk 5 lits_5_4 := ac h5_6 <| ac h5_7 <| an
def t6_0 : Str := ⟨#[97,98,9,49]⟩
theorem h6_0 : okStr 6 t6_0 = true := by decide +kernel
def t6_1 : Str := ⟨#[97,98,58,49]⟩
theorem h6_1 : okStr 6 t6_1 = true := by decide +kernel
def t6_2 : Str := ⟨#[97,98,32,32,49]⟩
theorem h6_2 : okStr 6 t6_2 = true := by decide +kernel
def t6_3 : Str := ⟨#[45,45,45,32,9,49]⟩
theorem h6_3 : okStr 6 t6_3 = true := by decide +kernel
def t6_4 : Str := ⟨#[45,45,45,32,58,49]⟩
theorem h6_4 : okStr 6 t6_4 = true := by decide +kernel
def t6_5 : Str := ⟨#[45,45,45,32,32,32,49]⟩
theorem h6_5 : okStr 6 t6_5 = true := by decide +kernel
def t6_6 : Str := ⟨#[45,45,45,32,97,98,49]⟩
theorem h6_6 : okStr 6 t6_6 = true := by decide +kernel
def t6_7 : Str := ⟨#[45,45,45,32,97,98,9]⟩
theorem h6_7 : okStr 6 t6_7 = true := by decide +kernel
def t6_8 : Str := ⟨#[45,45,45,32,97,98,58]⟩
theorem h6_8 : okStr 6 t6_8 = true := by decide +kernel
def t6_9 : Str := ⟨#[45,45,45,32,97,98,32,32]⟩
theorem h6_9 : okStr 6 t6_9 = true := by decide +kernel
def t6_10 : Str := ⟨#[45,45,45,32,45,45,45,32,97,98,9,49]⟩
theorem h6_10 : okStr 6 t6_10 = true := by decide +kernel
def t6_11 : Str := ⟨#[45,45,45,32,45,45,45,32,97,98,58,49]⟩
theorem h6_11 : okStr 6 t6_11 = true := by decide +kernel
def t6_12 : Str := ⟨#[45,45,45,32,45,45,45,32,97,98,32,32,49]⟩
theorem h6_12 : okStr 6 t6_12 = true := by decide +kernel
def t6_13 : Str := ⟨#[45,45,45,32,97,98,97,98,9,49]⟩
theorem h6_13 : okStr 6 t6_13 = true := by decide +kernel
def t6_14 : Str := ⟨#[45,45,45,32,97,98,97,98,58,49]⟩
theorem h6_14 : okStr 6 t6_14 = true := by decide +kernel
def t6_15 : Str := ⟨#[45,45,45,32,97,98,97,98,32,32,49]⟩
theorem h6_15 : okStr 6 t6_15 = true := by decide +kernel
def t6_16 : Str := ⟨#[45,45,45,32,97,98,9,9,49]⟩
theorem h6_16 : okStr 6 t6_16 = true := by decide +kernel
def t6_17 : Str := ⟨#[45,45,45,32,97,98,58,58,49]⟩
theorem h6_17 : okStr 6 t6_17 = true := by decide +kernel
def t6_18 : Str := ⟨#[45,45,45,32,97,98,32,32,32,32,49]⟩
theorem h6_18 : okStr 6 t6_18 = true := by decide +kernel
def t6_19 : Str := ⟨#[45,45,45,32,97,98,9,49,49]⟩
theorem h6_19 : okStr 6 t6_19 = true := by decide +kernel
def t6_20 : Str := ⟨#[45,45,45,32,97,98,58,49,49]⟩
theorem h6_20 : okStr 6 t6_20 = true := by decide +kernel
def t6_21 : Str := ⟨#[45,45,45,32,97,98,32,32,49,49]⟩
theorem h6_21 : okStr 6 t6_21 = true := by decide +kernel
def t6_22 : Str := ⟨#[45,45,45,32,97,98,9,49,32]⟩
theorem h6_22 : okStr 6 t6_22 = true := by decide +kernel
def t6_23 : Str := ⟨#[45,45,45,32,97,98,58,49,32]⟩
theorem h6_23 : okStr 6 t6_23 = true := by decide +kernel
def t6_24 : Str := ⟨#[45,45,45,32,97,98,32,32,49,32]⟩
theorem h6_24 : okStr 6 t6_24 = true := by decide +kernel
def t6_25 : Str := ⟨#[45,45,45,32,97,98,9,49,120]⟩
theorem h6_25 : okStr 6 t6_25 = true := by decide +kernel
def t6_26 : Str := ⟨#[45,45,45,32,97,98,58,49,120]⟩
theorem h6_26 : okStr 6 t6_26 = true := by decide +kernel
def t6_27 : Str := ⟨#[45,45,45,32,97,98,32,32,49,120]⟩
theorem h6_27 : okStr 6 t6_27 = true := by decide +kernel
def t6_28 : Str := ⟨#[45,45,45,32,97,98,9,49,57]⟩
theorem h6_28 : okStr 6 t6_28 = true := by decide +kernel
def t6_29 : Str := ⟨#[45,45,45,32,97,98,58,49,57]⟩
theorem h6_29 : okStr 6 t6_29 = true := by decide +kernel
def t6_30 : Str := ⟨#[45,45,45,32,97,98,32,32,49,57]⟩
theorem h6_30 : okStr 6 t6_30 = true := by decide +kernel
def t6_31 : Str := ⟨#[45,45,45,32,97,98,9,49]⟩
theorem h6_31 : okStr 6 t6_31 = true := by decide +kernel
def t6_32 : Str := ⟨#[45,45,45,32,97,98,58,49]⟩
theorem h6_32 : okStr 6 t6_32 = true := by decide +kernel
def t6_33 : Str := ⟨#[45,45,45,32,97,98,32,32,49]⟩
theorem h6_33 : okStr 6 t6_33 = true := by decide +kernel
def t6_34 : Str := ⟨#[32,45,45,45,32,97,98,9,49]⟩
theorem h6_34 : okStr 6 t6_34 = true := by decide +kernel
def t6_35 : Str := ⟨#[32,45,45,45,32,97,98,58,49]⟩
theorem h6_35 : okStr 6 t6_35 = true := by decide +kernel
def t6_36 : Str := ⟨#[32,45,45,45,32,97,98,32,32,49]⟩
theorem h6_36 : okStr 6 t6_36 = true := by decide +kernel
def t6_37 : Str := ⟨#[120,45,45,45,32,97,98,9,49]⟩
theorem h6_37 : okStr 6 t6_37 = true := by decide +kernel
def t6_38 : Str := ⟨#[120,45,45,45,32,97,98,58,49]⟩
theorem h6_38 : okStr 6 t6_38 = true := by decide +kernel
def t6_39 : Str := ⟨#[120,45,45,45,32,97,98,32,32,49]⟩
theorem h6_39 : okStr 6 t6_39 = true := by decide +kernel
def lits_6_0 : List Str := [t6_0, t6_1, t6_2, t6_3, t6_4, t6_5, t6_6, t6_6, t6_6, t6_7, t6_8, t6_9]
theorem eq_6_0 : textsOf 6 0 = lits_6_0 := by decide +kernel
theorem ok_6_0 : AllOk 6 lits_6_0 := ac h6_0 <| ac h6_1 <| ac h6_2 <| ac h6_3 <| ac h6_4 <| ac h6_5 <| ac h6_6 <| ac h6_6 <| ac h6_6 <| ac h6_7 <| ac h6_8 <| ac h6_9 <| an
def lits_6_1 : List Str := [t6_10, t6_11, t6_12, t6_13, t6_14, t6_15, t6_16, t6_17, t6_18, t6_19, t6_20, t6_21]
theorem eq_6_1 : textsOf 6 1 = lits_6_1 := by decide +kernel
theorem ok_6_1 : AllOk 6 lits_6_1 := ac h6_10 <| ac h6_11 <| ac h6_12 <| ac h6_13 <| ac h6_14 <| ac h6_15 <| ac h6_16 <| ac h6_17 <| ac h6_18 <| ac h6_19 <| ac h6_20 <| ac h6_21 <| an
def lits_6_2 : List Str := [t6_22, t6_23, t6_24, t6_25, t6_26, t6_27, t6_28, t6_29, t6_30, t6_22, t6_23, t6_24]
theorem eq_6_2 : textsOf 6 2 = lits_6_2 := by decide +kernel
theorem ok_6_2 : AllOk 6 lits_6_2 := ac h6_22 <| ac h6_23 <| ac h6_24 <| ac h6_25 <| ac h6_26 <| ac h6_27 <| ac h6_28 <| ac h6_29 <| ac h6_30 <| ac h6_22 <| ac h6_23 <| ac h6_24 <| an
def lits_6_3 : List Str := [t6_31, t6_32, t6_33, t6_31, t6_32, t6_33, t6_31, t6_32, t6_33, t6_31, t6_32, t6_33]
theorem eq_6_3 : textsOf 6 3 = lits_6_3 := by decide +kernel
theorem ok_6_3 : AllOk 6 lits_6_3 := ac h6_31 <| ac h6_32 <| ac h6_33 <| ac h6_31 <| ac h6_32 <| ac h6_33 <| ac h6_31 <| ac h6_32 <| ac h6_33 <| ac h6_31 <| ac h6_32 <| ac h6_33 <| an
def lits_6_4 : List Str := [t6_31, t6_32, t6_33, t6_34, t6_35, t6_36, t6_31, t6_32, t6_33, t6_37, t6_38, t6_39]
theorem eq_6_4 : textsOf 6 4 = lits_6_4 := by decide +kernel
theorem ok_6_4 : AllOk 6 lits_6_4 := ac h6_31 <| ac h6_32 <| ac h6_33 <| ac h6_34 <| ac h6_35 <| ac h6_36 <| ac h6_31 <| ac h6_32 <| ac h6_33 <| ac h6_37 <| ac h6_38 <| ac h6_39 <| an
def t7_0 : Str := ⟨#[32,97,98]⟩
theorem h7_0 : okStr 7 t7_0 = true := by decide +kernel
def t7_1 : Str := ⟨#[33,97,98]⟩
theorem h7_1 : okStr 7 t7_1 = true := by decide +kernel
def t7_2 : Str := ⟨#[45,97,98]⟩
theorem h7_2 : okStr 7 t7_2 = true := by decide +kernel
def t7_3 : Str := ⟨#[43,97,98]⟩
theorem h7_3 : okStr 7 t7_3 = true := by decide +kernel
def t7_4 : Str := ⟨#[33,32]⟩
theorem h7_4 : okStr 7 t7_4 = true := by decide +kernel
def t7_5 : Str := ⟨#[45,32]⟩
theorem h7_5 : okStr 7 t7_5 = true := by decide +kernel
def t7_6 : Str := ⟨#[43,32]⟩
theorem h7_6 : okStr 7 t7_6 = true := by decide +kernel
def t7_7 : Str := ⟨#[32,32]⟩
theorem h7_7 : okStr 7 t7_7 = true := by decide +kernel
def t7_8 : Str := ⟨#[33,33,32,97,98]⟩
theorem h7_8 : okStr 7 t7_8 = true := by decide +kernel
def t7_9 : Str := ⟨#[45,45,32,97,98]⟩
theorem h7_9 : okStr 7 t7_9 = true := by decide +kernel
def t7_10 : Str := ⟨#[43,43,32,97,98]⟩
theorem h7_10 : okStr 7 t7_10 = true := by decide +kernel
def t7_11 : Str := ⟨#[32,32,32,97,98]⟩
theorem h7_11 : okStr 7 t7_11 = true := by decide +kernel
def t7_12 : Str := ⟨#[33,32,32,97,98]⟩
theorem h7_12 : okStr 7 t7_12 = true := by decide +kernel
def t7_13 : Str := ⟨#[45,32,32,97,98]⟩
theorem h7_13 : okStr 7 t7_13 = true := by decide +kernel
def t7_14 : Str := ⟨#[43,32,32,97,98]⟩
theorem h7_14 : okStr 7 t7_14 = true := by decide +kernel
def t7_15 : Str := ⟨#[33,32,97,98,97,98]⟩
theorem h7_15 : okStr 7 t7_15 = true := by decide +kernel
def t7_16 : Str := ⟨#[45,32,97,98,97,98]⟩
theorem h7_16 : okStr 7 t7_16 = true := by decide +kernel
def t7_17 : Str := ⟨#[43,32,97,98,97,98]⟩
theorem h7_17 : okStr 7 t7_17 = true := by decide +kernel
def t7_18 : Str := ⟨#[32,32,97,98,97,98]⟩
theorem h7_18 : okStr 7 t7_18 = true := by decide +kernel
def t7_19 : Str := ⟨#[33,32,97,98,32]⟩
theorem h7_19 : okStr 7 t7_19 = true := by decide +kernel
def t7_20 : Str := ⟨#[45,32,97,98,32]⟩
theorem h7_20 : okStr 7 t7_20 = true := by decide +kernel
def t7_21 : Str := ⟨#[43,32,97,98,32]⟩
theorem h7_21 : okStr 7 t7_21 = true := by decide +kernel
def t7_22 : Str := ⟨#[32,32,97,98,32]⟩
theorem h7_22 : okStr 7 t7_22 = true := by decide +kernel
def t7_23 : Str := ⟨#[33,32,97,98,120]⟩
theorem h7_23 : okStr 7 t7_23 = true := by decide +kernel
def t7_24 : Str := ⟨#[45,32,97,98,120]⟩
theorem h7_24 : okStr 7 t7_24 = true := by decide +kernel
def t7_25 : Str := ⟨#[43,32,97,98,120]⟩
theorem h7_25 : okStr 7 t7_25 = true := by decide +kernel
def t7_26 : Str := ⟨#[32,32,97,98,120]⟩
theorem h7_26 : okStr 7 t7_26 = true := by decide +kernel
def t7_27 : Str := ⟨#[33,32,97,98,57]⟩
theorem h7_27 : okStr 7 t7_27 = true := by decide +kernel
def t7_28 : Str := ⟨#[45,32,97,98,57]⟩
theorem h7_28 : okStr 7 t7_28 = true := by decide +kernel
def t7_29 : Str := ⟨#[43,32,97,98,57]⟩
theorem h7_29 : okStr 7 t7_29 = true := by decide +kernel
def t7_30 : Str := ⟨#[32,32,97,98,57]⟩
theorem h7_30 : okStr 7 t7_30 = true := by decide +kernel
def t7_31 : Str := ⟨#[33,32,97,98]⟩
theorem h7_31 : okStr 7 t7_31 = true := by decide +kernel
def t7_32 : Str := ⟨#[45,32,97,98]⟩
theorem h7_32 : okStr 7 t7_32 = true := by decide +kernel
def t7_33 : Str := ⟨#[43,32,97,98]⟩
theorem h7_33 : okStr 7 t7_33 = true := by decide +kernel
def t7_34 : Str := ⟨#[32,32,97,98]⟩
theorem h7_34 : okStr 7 t7_34 = true := by decide +kernel
def t7_35 : Str := ⟨#[32,33,32,97,98]⟩
theorem h7_35 : okStr 7 t7_35 = true := by decide +kernel
def t7_36 : Str := ⟨#[32,45,32,97,98]⟩
theorem h7_36 : okStr 7 t7_36 = true := by decide +kernel
def t7_37 : Str := ⟨#[32,43,32,97,98]⟩
theorem h7_37 : okStr 7 t7_37 = true := by decide +kernel
def lits_7_0 : List Str := [t7_0, t7_0, t7_0, t7_0, t7_1, t7_2, t7_3, t7_0, t7_4, t7_5, t7_6, t7_7]
theorem eq_7_0 : textsOf 7 0 = lits_7_0 := by decide +kernel
theorem ok_7_0 : AllOk 7 lits_7_0 := ac h7_0 <| ac h7_0 <| ac h7_0 <| ac h7_0 <| ac h7_1 <| ac h7_2 <| ac h7_3 <| ac h7_0 <| ac h7_4 <| ac h7_5 <| ac h7_6 <| ac h7_7 <| an
def lits_7_1 : List Str := [t7_8, t7_9, t7_10, t7_11, t7_12, t7_13, t7_14, t7_11, t7_15, t7_16, t7_17, t7_18]
theorem eq_7_1 : textsOf 7 1 = lits_7_1 := by decide +kernel
theorem ok_7_1 : AllOk 7 lits_7_1 := ac h7_8 <| ac h7_9 <| ac h7_10 <| ac h7_11 <| ac h7_12 <| ac h7_13 <| ac h7_14 <| ac h7_11 <| ac h7_15 <| ac h7_16 <| ac h7_17 <| ac h7_18 <| an
def lits_7_2 : List Str := [t7_19, t7_20, t7_21, t7_22, t7_23, t7_24, t7_25, t7_26, t7_27, t7_28, t7_29, t7_30]
theorem eq_7_2 : textsOf 7 2 = lits_7_2 := by decide +kernel
theorem ok_7_2 : AllOk 7 lits_7_2 := ac h7_19 <| ac h7_20 <| ac h7_21 <| ac h7_22 <| ac h7_23 <| ac h7_24 <| ac h7_25 <| ac h7_26 <| ac h7_27 <| ac h7_28 <| ac h7_29 <| ac h7_30 <| an
def lits_7_3 : List Str := [t7_31, t7_32, t7_33, t7_34, t7_31, t7_32, t7_33, t7_34, t7_31, t7_32, t7_33, t7_34]
theorem eq_7_3 : textsOf 7 3 = lits_7_3 := by decide +kernel
theorem ok_7_3 : AllOk 7 lits_7_3 := ac h7_31 <| ac h7_32 <| ac h7_33 <| ac h7_34 <| ac h7_31 <| ac h7_32 <| ac h7_33 <| ac h7_34 <| ac h7_31 <| ac h7_32 <| ac h7_33 <| ac h7_34 <| an
def lits_7_4 : List Str := [t7_31, t7_32, t7_33, t7_34, t7_35, t7_36, t7_37, t7_11, t7_31, t7_32, t7_33, t7_34]
theorem eq_7_4 : textsOf 7 4 = lits_7_4 := by decide +kernel
theorem ok_7_4 : AllOk 7 lits_7_4 := ac h7_31 <| ac h7_32 <| ac h7_33 <| ac h7_34 <| ac h7_35 <| ac h7_36 <| ac h7_37 <| ac h7_11 <| ac h7_31 <| ac h7_32 <| ac h7_33 <| ac h7_34 <| an
theorem all_ok : ∀ k r, k < 8 → r < 5 → AllOk k (textsOf k r)
  | 0, 0, _, _ => eq_0_0 ▸ ok_0_0
  | 0, 1, _, _ => eq_0_1 ▸ ok_0_1
  | 0, 2, _, _ => eq_0_2 ▸ ok_0_2
  | 0, 3, _, _ => eq_0_3 ▸ ok_0_3
  | 0, 4, _, _ => eq_0_4 ▸ ok_0_4
  | 1, 0, _, _ => eq_1_0 ▸ ok_1_0
  | 1, 1, _, _ => eq_1_1 ▸ ok_1_1
  | 1, 2, _, _ => eq_1_2 ▸ ok_1_2
  | 1, 3, _, _ => eq_1_3 ▸ ok_1_3
  | 1, 4, _, _ => eq_1_4 ▸ ok_1_4
  | 2, 0, _, _ => eq_2_0 ▸ ok_2_0
  | 2, 1, _, _ => eq_2_1 ▸ ok_2_1
  | 2, 2, _, _ => eq_2_2 ▸ ok_2_2
  | 2, 3, _, _ => eq_2_3 ▸ ok_2_3
  | 2, 4, _, _ => eq_2_4 ▸ ok_2_4
  | 3, 0, _, _ => eq_3_0 ▸ ok_3_0
  | 3, 1, _, _ => eq_3_1 ▸ ok_3_1
  | 3, 2, _, _ => eq_3_2 ▸ ok_3_2
  | 3, 3, _, _ => eq_3_3 ▸ ok_3_3
  | 3, 4, _, _ => eq_3_4 ▸ ok_3_4
  | 4, 0, _, _ => eq_4_0 ▸ ok_4_0
  | 4, 1, _, _ => eq_4_1 ▸ ok_4_1
  | 4, 2, _, _ => eq_4_2 ▸ ok_4_2
  | 4, 3, _, _ => eq_4_3 ▸ ok_4_3
  | 4, 4, _, _ => eq_4_4 ▸ ok_4_4
  | 5, 0, _, _ => eq_5_0 ▸ ok_5_0
  | 5, 1, _, _ => eq_5_1 ▸ ok_5_1
  | 5, 2, _, _ => eq_5_2 ▸ ok_5_2
  | 5, 3, _, _ => eq_5_3 ▸ ok_5_3
  | 5, 4, _, _ => eq_5_4 ▸ ok_5_4
  | 6, 0, _, _ => eq_6_0 ▸ ok_6_0
  | 6, 1, _, _ => eq_6_1 ▸ ok_6_1
  | 6, 2, _, _ => eq_6_2 ▸ ok_6_2
  | 6, 3, _, _ => eq_6_3 ▸ ok_6_3
  | 6, 4, _, _ => eq_6_4 ▸ ok_6_4
  | 7, 0, _, _ => eq_7_0 ▸ ok_7_0
  | 7, 1, _, _ => eq_7_1 ▸ ok_7_1
  | 7, 2, _, _ => eq_7_2 ▸ ok_7_2
  | 7, 3, _, _ => eq_7_3 ▸ ok_7_3
  | 7, 4, _, _ => eq_7_4 ▸ ok_7_4
  | k + 8, _, h, _ => by omega
  | 0, r + 5, _, h => by omega
  | 1, r + 5, _, h => by omega
  | 2, r + 5, _, h => by omega
  | 3, r + 5, _, h => by omega
  | 4, r + 5, _, h => by omega
  | 5, r + 5, _, h => by omega
  | 6, r + 5, _, h => by omega
  | 7, r + 5, _, h => by omega
theorem rows_both (k : Nat) (n at_ : Int) (h8 : k < 8) : okStr k (lawRow k n at_) = true := by
  obtain ⟨r, hr, hr5⟩ : ∃ r : Nat, n.fmod 5 = (r : Int) ∧ r < 5 := ⟨(n.fmod 5).toNat, by have := Int.fmod_nonneg_of_pos n (show (0 : Int) < 5 by decide); omega, by have := Int.fmod_nonneg_of_pos n (show (0 : Int) < 5 by decide); have := Int.fmod_lt_of_pos n (show (0 : Int) < 5 by decide); omega⟩
  have hz : (0 : Int) < ((tabN k).length : Int) := Int.ofNat_lt.mpr (tab_len k h8).1
  obtain ⟨kk, hk, hk5⟩ : ∃ kk : Nat, (n.fdiv 5).fmod ((tabN k).length : Int) = (kk : Int) ∧ kk < (tabN k).length := ⟨((n.fdiv 5).fmod ((tabN k).length : Int)).toNat, by have := Int.fmod_nonneg_of_pos (n.fdiv 5) hz; omega, by have := Int.fmod_nonneg_of_pos (n.fdiv 5) hz; have := Int.fmod_lt_of_pos (n.fdiv 5) hz; omega⟩
  have hp := picks_cart (tabN k) ((n.fdiv 5).fdiv ((tabN k).length : Int) + at_) fun p hp => (forms_len k h8 p hp).1
  rw [tabC_eq k h8] at hp
  have ha := all_ok k r h8 hr5
  have h2 := ha _ (List.mem_flatMap.mpr ⟨kk, List.mem_range.mpr (by rw [← tabC_eq k h8, List.length_map]; exact hk5), List.mem_map_of_mem hp⟩)
  unfold lawRow
  rw [hr, hk, bend_eq, show Str.ofString "" = ⟨#[]⟩ by decide +kernel]
  exact h2
theorem rows_ok (k : Nat) (n at_ : Int) (h8 : k < 8) : okRow k (lawRow k n at_) = true := (Bool.and_eq_true_iff.mp (rows_both k n at_ h8)).1
theorem rows_str (k : Nat) (n at_ : Int) (h8 : k < 8) : PyData.strOk (lawRow k n at_) = true := (Bool.and_eq_true_iff.mp (rows_both k n at_ h8)).2
end Mine
end
section
set_option maxRecDepth 100000
set_option maxHeartbeats 8000000
namespace Mine
theorem quiet_M8 : True := by
  w_top off
  trivial
def Ap (a b : Nat) : Prop := a ≠ b
theorem Ap.out {a b : Nat} (h : Ap a b) : a ≠ b := h
theorem Ap.sym {a b : Nat} (h : Ap a b) : b ≠ a := Ne.symm h
def AllNe (d : Addr) : List (Addr × Obj) → Prop
  | [] => True
  | p :: r => Ap p.1 d ∧ AllNe d r
theorem allNe_of {d : Addr} : ∀ {l : List (Addr × Obj)}, (∀ p ∈ l, p.1 ≠ d) → AllNe d l
  | [], _ => trivial
  | p :: _, h => ⟨h p (.head _), allNe_of fun q hq => h q (.tail _ hq)⟩
def Stop (P : Prop) : Prop := P
theorem cut_eval {prog : Program} {w : World} {A : Around} {env : Env} {e : PySem.Expr} {Q E : Value → Shared → Prop} {s : Shared} {h₀ : Heap} {L : Addr} {m : Str → Option Value} {news : List (Addr × Obj)} (P : List (Addr × Obj) → Value → List (Addr × Obj) → Prop) (F : Fr h₀ L s.heap m) (N : News h₀ L s.heap news)
    (h1 : wpAny (model prog w) A (eval e env) (fun v s' => Stop (∃ h' tk nw, s' = { s with heap := h', toks := tk } ∧ Fr h₀ L h' m ∧ News h₀ L h' nw ∧ P news v nw)) E s)
    (h2 : ∀ v h' tk nw, Fr h₀ L h' m → News h₀ L h' nw → P news v nw → Q v { s with heap := h', toks := tk }) : wpAny (model prog w) A (eval e env) Q E s := by
  refine wpAny_mono h1 (fun v s' h => ?_) (fun _ _ e => e)
  obtain ⟨h', tk, nw, rfl, F', N', hP⟩ := h
  exact h2 v h' tk nw F' N' hP
theorem Stop.out {P : Prop} (h : P) : Stop P := h
theorem ne_ints_same {prog : Program} {w : World} {A : Around} {E : Value → Shared → Prop} {s : Shared} {a b : Addr} {vs us : List Value} {ns : List Int} {Q : Value → Shared → Prop} (hl : s.heap.IsList a vs.toArray) (hi : IntsAre vs ns) (hl' : s.heap.IsList b us.toArray) (hi' : IntsAre us ns) (hu : A.units + 64 < cLine)
    (h : Q (.bool false) s) : wpAny (model prog w) A (compareOp .NotEq (.ref a) (.ref b)) Q E s :=
  ne_intsK hl hi hl' hi' hu (by rw [decide_eq_true rfl]; exact h)
section
variable {w : World} {p : Program} {loose : List Str} {mean : ExcName → Option Value} {mg mb : Str → Option Value} {A : Around} {s : Shared} {h₀ : Heap} {L : Addr} {m : Str → Option Value} {news : List (Addr × Obj)} {Q E : Value → Shared → Prop} {k : Nat}
theorem call_row {n at_ : Int} {t1 t2 t3 : Tok} (F : Fr h₀ L s.heap m) (N : News h₀ L s.heap news) (X : (hd.heap_39 w.params).In h₀) (T : Top p loose mean mg mb h₀) (hA : Fit A 340 140) (h8 : k < 8)
    (h : ∀ (t : Tok) h' tk, Fr h₀ L h' m → News h₀ L h' news → Q (.str (lawRow k n at_) t) { s with heap := h', toks := tk }) :
    wpAny (model PR w) A (call (.ref 137) [.int (k : Int) t1, .int n t2, .int at_ t3]) Q E s :=
  call_gives (row_c (X.keeps F.keep) (T.keeps F.keep) hA h8) F N fun v h' tk _ hP F' N' => by
    obtain ⟨t, rfl⟩ := hP
    exact h t h' tk F' N'
theorem call_pattern {t1 : Tok} (F : Fr h₀ L s.heap m) (N : News h₀ L s.heap news) (X : (hd.heap_39 w.params).In h₀) (T : Top p loose mean mg mb h₀) (hA : Fit A 340 140) (h8 : k < 8)
    (h : ∀ (pa : Addr) h' tk, pa = patA k → Fr h₀ L h' m → News h₀ L h' news → Q (.ref pa) { s with heap := h', toks := tk }) :
    wpAny (model PR w) A (call (.ref 130) [.int (k : Int) t1]) Q E s :=
  call_gives (pattern_c (k := (k : Int)) (X.keeps F.keep) (T.keeps F.keep) hA) F N fun v h' tk _ hP F' N' => by
    rw [hP, show patAt (k : Int) = patA k from ?_]
    · exact h _ h' tk rfl F' N'
    · rcases k with _ | _ | _ | _ | _ | _ | _ | _ | k
      all_goals first | rfl | omega
theorem call_find' {l pa : Addr} {vs : List Value} {xs : List Str} (F : Fr h₀ L s.heap m) (N : News h₀ L s.heap news) (X : (hd.heap_39 w.params).In h₀) (T : Top p loose mean mg mb h₀) (hA : Fit A 340 140) (h8 : k < 8) (hp : pa = patA k) (hl : s.heap.IsList l vs.toArray) (hv : StrsAre vs xs) (hz : xs.length ≤ 63) (hok : ∀ x ∈ xs, okRow k x = true)
    (h : ∀ D ws nn h' tk, IntsAre ws (placesUp k xs xs.length) → Fr h₀ L h' m → News h₀ L h' ((D, W.listOf (List.toArray ws) nn) :: news) → (∀ p ∈ news, p.1 ≠ D) → Q (.ref D) { s with heap := h', toks := tk }) :
    wpAny (model PR w) A (call (.ref 38) [.ref l, .ref pa]) Q E s := by
  rw [hp]; exact call_find F N X T hA h8 hl hv hz hok h
theorem call_split {l pa : Addr} {vs : List Value} {xs : List Str} (F : Fr h₀ L s.heap m) (N : News h₀ L s.heap news) (X : (hd.heap_39 w.params).In h₀) (T : Top p loose mean mg mb h₀) (hA : Fit A 330 110) (h8 : k < 8) (hp : pa = patA k) (hl : s.heap.IsList l vs.toArray) (hv : StrsAre vs xs) (hz : xs.length ≤ 63) (hok : ∀ x ∈ xs, okRow k x = true)
    (h : ∀ (D : Addr) (cs : List (Addr × List Value)) (nn : Nat) h' tk, (cs.map (·.1)).Nodup → cs.map (·.2) = runs vs none (placesUp k xs xs.length) → Fr h₀ L h' m → News h₀ L h' ((D, W.listOf (List.toArray (cs.map refOf)) nn) :: (news ++ cs.map cellOf)) →
      (∀ p ∈ news, p.1 ≠ D) → (∀ p ∈ cs.map cellOf, p.1 ≠ D) → (∀ c ∈ cs, ∀ p ∈ news, p.1 ≠ c.1) → Q (.ref D) { s with heap := h', toks := tk }) :
    wpAny (model PR w) A (call (.ref 45) [.ref l, .ref pa]) Q E s :=
  call_gives (hp ▸ split_c (X.keeps F.keep) (T.keeps F.keep) hA h8 hl hv hz hok) F N fun v h' tk hk hP F' N' => by
    obtain ⟨D, cs, nn, rfl, hD, hD0, hcs, hnd, hseg⟩ := hP
    have apart : ∀ {b : Addr}, s.heap.get? b = none → b ≠ L ∧ h₀.get? b = none ∧ ∀ p ∈ news, p.1 ≠ b := by
      intro b hb
      refine ⟨fun e => ?_, ?_, fun p hp e => ?_⟩
      · obtain ⟨oL, es, ep, hL, r⟩ := F.ns
        rw [← e, hb] at hL; cases hL
      · cases e : h₀.get? b with
        | none => rfl
        | some o => rw [F.keep _ _ e] at hb; cases hb
      · rw [← e, (N p hp).1] at hb; cases hb
    refine h D cs nn h' tk hnd hseg F' (fun q hq => ?_) (apart hD0).2.2 (fun p hp => ?_) fun c hc => (apart (hcs c hc).2.1).2.2
    · rcases List.mem_cons.mp hq with rfl | hq
      · exact ⟨hD, (apart hD0).1, (apart hD0).2.1⟩
      rcases List.mem_append.mp hq with hq | hq
      · exact N' q hq
      · obtain ⟨c, hc, rfl⟩ := List.mem_map.mp hq
        exact ⟨(hcs c hc).1, (apart (hcs c hc).2.1).1, (apart (hcs c hc).2.1).2.1⟩
    · obtain ⟨c, hc, rfl⟩ := List.mem_map.mp hp
      exact (hcs c hc).2.2
theorem call_is {t1 t2 : Tok} {x : Str} (F : Fr h₀ L s.heap m) (N : News h₀ L s.heap news) (X : (hd.heap_39 w.params).In h₀) (T : Top p loose mean mg mb h₀) (hA : Fit A 340 140) (hx : x.length < 100)
    (h : ∀ h' tk, Fr h₀ L h' m → News h₀ L h' news → Q (.bool (lawIs (k : Int) x)) { s with heap := h', toks := tk }) :
    wpAny (model PR w) A (call (.ref 156) [.int (k : Int) t1, .str x t2]) Q E s :=
  call_gives (is_c (X.keeps F.keep) (T.keeps F.keep) hA hx) F N fun v h' tk _ hP F' N' => by
    rw [hP]
    exact h h' tk F' N'
end
theorem news_swap {h₀ h : Heap} {L : Addr} {c d i : Addr × Obj} {ex news : List (Addr × Obj)} (N : News h₀ L h (c :: d :: i :: (ex ++ news))) : News h₀ L h (c :: d :: i :: (news ++ ex)) := news_sub N fun p hp => by
  simp only [List.mem_cons, List.mem_append] at hp ⊢
  rcases hp with h | h | h | h | h <;> simp [h]
theorem in_swap {c d i p : Addr × Obj} {ex news : List (Addr × Obj)} (hp : p ∈ c :: d :: i :: (ex ++ news)) : p ∈ c :: d :: i :: (news ++ ex) := by
  simp only [List.mem_cons, List.mem_append] at hp ⊢
  rcases hp with h | h | h | h | h <;> simp [h]
theorem news_swap1 {h₀ h : Heap} {L : Addr} {c : Addr × Obj} {ex news : List (Addr × Obj)} (N : News h₀ L h (c :: (ex ++ news))) : News h₀ L h (c :: (news ++ ex)) := news_sub N fun p hp => by
  simp only [List.mem_cons, List.mem_append] at hp ⊢
  rcases hp with h | h | h <;> simp [h]
theorem in_grow {c d i p : Addr × Obj} {D : Addr} {g : List Value} {ds : List (Addr × List Value)} {news : List (Addr × Obj)} (hp : p ∈ c :: d :: i :: ((ds ++ [(D, g)]).map cellOf ++ news)) : p ∈ (D, W.listOf g.toArray 0) :: c :: d :: i :: (news ++ ds.map cellOf) := by
  rw [List.map_append] at hp
  simp only [List.mem_cons, List.mem_append, List.map_cons, List.map_nil, List.not_mem_nil, or_false] at hp ⊢
  rcases hp with h | h | h | (h | h) | h
  · simp [h]
  · simp [h]
  · simp [h]
  · simp [h]
  · exact .inl h
  · simp [h]
theorem off_grow {C D I E : Addr} {g : List Value} {ds : List (Addr × List Value)} (h : Off C D I (ds.map cellOf)) (h1 : @Ne Nat E C) (h2 : @Ne Nat E D) (h3 : @Ne Nat E I) : Off C D I ((ds ++ [(E, g)]).map cellOf) := by
  intro p hp
  rw [List.map_append] at hp
  rcases List.mem_append.mp hp with hp | hp
  · exact h p hp
  · rw [List.mem_singleton.mp hp]; exact ⟨h1, h2, h3⟩
theorem runs_len (vs : List Value) : ∀ (ps : List Int) (k : Option Int), ∀ us ∈ runs vs k ps, us.length ≤ vs.length
  | [], none, us, h => by rw [List.mem_singleton.mp h]; exact Nat.le_refl _
  | [], some k, us, h => by rw [List.mem_singleton.mp h, List.length_drop]; omega
  | i :: r, none, us, h => by
    rcases List.mem_cons.mp h with rfl | h
    · rw [List.length_take, List.length_drop]; omega
    · exact runs_len vs r _ us h
  | i :: r, some k, us, h => by
    rcases List.mem_cons.mp h with rfl | h
    · rw [List.length_take, List.length_drop]; omega
    · exact runs_len vs r _ us h
theorem led_back {h₀ h : Heap} {L : Addr} {K x y l : List (Addr × Obj)} (e : K = x) (N : News h₀ L h l) (hl : l = x ++ y) : News h₀ L h (K ++ y) := by rw [e, ← hl]; exact N
section
local macro_rules | `(tactic| k_ne) => `(tactic| (refine neN ?_; (try dsimp only); first | exact Ap.out (by assumption) | exact Ap.sym (by assumption)))
local macro_rules | `(tactic| walk_at "call ref") => `(tactic| (refine hold ?_))
local macro_rules | `(tactic| walk_at "eval IfExp") => `(tactic| ((fail_if_success (with_reducible show wpAny _ _ _ (fun _ _ => Stop _) _ _)); (refine hold ?_)))
local macro_rules | `(tactic| walk_at "call ref") => `(tactic| ((rename Fr _ _ _ _ => kF); (rename News _ _ _ _ => kN); k_dflt (refine call_row kF kN (by assumption) (by assumption) ⟨rfl, Nat.le_of_ble_eq_true rfl, Nat.le_of_ble_eq_true rfl⟩ (by assumption) ?_); clear kF kN; intro t' h' tk' F' N'; (try dsimp only)))
local macro_rules | `(tactic| walk_at "call ref") => `(tactic| ((rename Fr _ _ _ _ => kF); (rename News _ _ _ _ => kN); k_dflt (refine call_pattern kF kN (by assumption) (by assumption) ⟨rfl, Nat.le_of_ble_eq_true rfl, Nat.le_of_ble_eq_true rfl⟩ (by assumption) ?_); clear kF kN; intro pa' h' tk' hpa' F' N'; (try dsimp only)))
local macro_rules | `(tactic| walk_at "call ref") => `(tactic| ((rename Fr _ _ _ _ => kF); (rename News _ _ _ _ => kN); k_dflt (refine call_is kF kN (by assumption) (by assumption) ⟨rfl, Nat.le_of_ble_eq_true rfl, Nat.le_of_ble_eq_true rfl⟩ (by assumption) ?_); clear kF kN; intro h' tk' F' N'; (try dsimp only)))
local macro_rules | `(tactic| walk_at "call ref") => `(tactic| ((rename Fr _ _ _ _ => kF); (rename News _ _ _ _ => kN); k_dflt (refine call_find' kF kN (by assumption) (by assumption) ⟨rfl, Nat.le_of_ble_eq_true rfl, Nat.le_of_ble_eq_true rfl⟩ (by assumption) (by assumption) (by kmk_list) (by assumption) (by assumption) (by assumption) ?_); clear kF kN; intro D' ws' n' h' tk' hw' F' N' l1; replace l1 := allNe_of l1; (try simp only [AllNe, and_true, List.nil_append, List.cons_append] at l1); (repeat (rcases l1 with ⟨_, l1⟩)); (try dsimp only)))
local macro_rules | `(tactic| walk_at "exec Assign cons ListComp") => `(tactic| (refine hold ?_))
local macro_rules | `(tactic| walk_at "call builtin:len") => `(tactic| (k_dflt (refine len_z (by kmk_list) (by assumption) (by omega) ?_); intro t' kk'; (try dsimp only)))
local macro_rules | `(tactic| walk_at "subscriptTail Name Name ref int") => `(tactic| (k_dflt (refine' ks_item ?l1 ?v1 ?a1 ?b1 ?z1 ?_ ?s1 ?t1; (case l1 => kmk_list); (case v1 => assumption); (case a1 => omega); (case b1 => omega); (case z1 => omega); (case s1 => with_unfolding_all rfl); (case t1 => kmk_pure)); intro t' ht'; (try dsimp only)))
local macro_rules | `(tactic| walk_at "compareOp NotEq ref ref") => `(tactic| ((rename OkVals _ => kO); (refine hold ?_)))
local macro_rules | `(tactic| walk_at "compareOp NotEq ref ref") => `(tactic| (k_dflt (refine' ne_ints_same ?l1 ?i1 ?l2 ?i2 ?u1 ?_; (case l1 => kmk_list); (case i1 => assumption); (case l2 => kmk_list); (case i2 => assumption); (case u1 => first | decide | exact Nat.le_of_ble_eq_true rfl))))
local macro_rules | `(tactic| walk_at "binaryOp Add ref ref") => `(tactic| (k_dflt (refine' ks_add ?F1 ?N1 ?l1 ?b1 ?z1 ?_; (case F1 => k_asm); (case N1 => k_asm); (case l1 => kmk_list); (case b1 => kmk_list); (case z1 => ((try simp only [List.length_take, List.length_drop, List.length_append, List.length_cons, List.length_nil, List.length_map]); omega))); intro D' h' F' N' l1; (try k_lt l1); (try k_sweep)))
local macro_rules | `(tactic| walk_at "exec Assign") => `(tactic| ((show wpAny _ _ (exec (Stmt.Assign [PySem.Expr.Name (Str.ofString "due") _] _ _) _) _ _ _); (refine hold ?_)))
local macro_rules | `(tactic| walk_at "eval ListComp") => `(tactic| (refine hold ?_))
local macro_rules | `(tactic| walk_at "subscriptTail Name Constant ref int") => `(tactic| (k_dflt (refine' cut_item0 ?l1 ?i1 ?p1 ?z1 ?_ ?s1 ?t1; (case l1 => kmk_list); (case i1 => assumption); (case p1 => assumption); (case z1 => omega); (case s1 => with_unfolding_all rfl); (case t1 => kmk_pure)); intro c' t' hc' hc0 hcn; (try dsimp only)))
local macro_rules | `(tactic| walk_at "subscriptTail Name Name ref int") => `(tactic| (k_dflt (refine' cut_itemN ?l1 ?i1 ?p1 ?o1 ?z1 ?_ ?s1 ?t1; (case l1 => kmk_list); (case i1 => assumption); (case p1 => assumption); (case o1 => omega); (case z1 => omega); (case s1 => with_unfolding_all rfl); (case t1 => kmk_pure)); intro c' t' hc' hc0 hcn; (try dsimp only)))
local macro_rules | `(tactic| walk_at "subscriptTail Name BinOp ref int") => `(tactic| (k_dflt (refine' cut_itemS ?l1 ?i1 ?p1 ?q1 ?o1 ?z1 ?_ ?s1 ?t1; (case l1 => kmk_list); (case i1 => assumption); (case p1 => assumption); (case q1 => assumption); (case o1 => omega); (case z1 => omega); (case s1 => with_unfolding_all rfl); (case t1 => kmk_pure)); intro c' t' hc' hc0 hcn; (try dsimp only)))
local macro_rules | `(tactic| walk_at "subscriptTail Name Slice ref ref") => `(tactic| (k_dflt (first | (refine' ks_mid ?F1 ?N1 ?l1 ?a1 ?ab1 ?b1 ?z1 ?_ ?s1 ?t1; (case ab1 => omega)) | refine' ks_upto ?F1 ?N1 ?l1 ?a1 ?b1 ?z1 ?_ ?s1 ?t1); (case F1 => k_asm); (case N1 => k_asm); (case l1 => kmk_list); (case a1 => omega); (case b1 => omega); (case z1 => omega); (case s1 => with_unfolding_all rfl); (case t1 => kmk_pure); intro D' h' F' N' l1; (try k_lt l1); (try k_sweep)))
local macro_rules | `(tactic| walk_at "call ref") => `(tactic| ((show wpAny _ _ (call (Value.ref 45) _) _ _ _); (refine hold ?_)))
local macro_rules | `(tactic| walk_at "compareOp Eq ref ref") => `(tactic| ((rename OkVals _ => kO); (refine hold ?_)))
local macro_rules | `(tactic| walk_at "exec For Name Name cons nil") => `(tactic| (refine hold ?_))
local macro_rules | `(tactic| walk_at "call builtin:list.append") => `(tactic| ((rename OkVals _ => kO); (refine hold ?_)))
local macro_rules | `(tactic| walk_at "delItem ref int") => `(tactic| ((rename OkVals _ => kO); (refine hold ?_)))
theorem cw : PySem.Challenge.rw_fe0347_01.Holds := hd (by
  k_go0
  (all_goals try k_fold)
  rename Fr _ _ _ _ => F0
  rename News _ _ _ _ => N0
  rename IntsAre _ _ => hI
  rename Heap.IsList _ _ _ => hL
  k_steps
  rename Fr _ _ _ _ => F1
  rename News _ _ _ _ => N1
  refine Hold.out ?_
  refine cut_eval (fun news v nw => nw = news ∧ ∃ n t, v = .int n t) F1 N1 ?_ ?_
  · k_steps
    · rename Fr _ _ _ _ => F2
      rename News _ _ _ _ => N2
      exact Stop.out ⟨_, _, _, rfl, F2, news_sub N2 fun _ h => .tail _ h, rfl, _, _, rfl⟩
    · exfalso
      rename decide _ = false => he
      exact of_decide_eq_false he (List.eq_nil_of_length_eq_zero (by omega))
    · rename Fr _ _ _ _ => F2
      rename News _ _ _ _ => N2
      exact Stop.out ⟨_, _, _, rfl, F2, news_sub N2 fun _ h => .tail _ h, rfl, _, _, rfl⟩
  rintro v h1 tk1 nw F2 N2 ⟨rfl, n, t, rfl⟩
  clear F1 N1
  (try dsimp only)
  (try k_unmd)
  (try k_fold)
  k_steps
  rename Fr _ _ _ _ => F3
  rename News _ _ _ _ => N3
  refine Hold.out ?_
  refine cut_eval (fun news v nw => ∃ D vs ns nn, v = .ref D ∧ nw = (D, W.listOf (List.toArray vs) nn) :: news ∧ IntsAre vs ns ∧ ns.length ≤ 16 ∧ ∀ p ∈ news, p.1 ≠ D) F3 N3 ?_ ?_
  · k_steps
    · rename Fr _ _ _ _ => F4
      rename News _ _ _ _ => N4
      rename IntsAre _ _ => hI4
      refine Stop.out ⟨_, _, _, rfl, F4, N4, _, _, _, _, rfl, rfl, hI4, ?_, ?_⟩
      · rw [List.length_take]; omega
      · intro p hp
        rename (@LT.lt Nat _ _ _ ∧ _) => l1
        simp only [List.mem_cons, List.not_mem_nil, or_false] at hp
        rcases hp with rfl | rfl | rfl | rfl
        all_goals (refine neN ?_; (try dsimp only); omega)
    · rename Fr _ _ _ _ => F4
      rename News _ _ _ _ => N4
      refine Stop.out ⟨_, _, _, rfl, F4, N4, _, [_, _, _, _], _, _, rfl, rfl, .cons _ _ (.cons _ _ (.cons _ _ (.cons _ _ .nil))), (by decide), ?_⟩
      · intro p hp
        rename (@LT.lt Nat _ _ _ ∧ _) => l1
        simp only [List.mem_cons, List.not_mem_nil, or_false] at hp
        rcases hp with rfl | rfl | rfl | rfl
        all_goals (refine neN ?_; (try dsimp only); omega)
  rintro v h1 tk1 nw F4 N4 ⟨D1, us, ns, nn, rfl, rfl, hns, hn16, hne1⟩
  clear F3 N3
  (try dsimp only)
  (try k_unmd)
  (try k_fold)
  k_steps
  rename Shared => s1
  rename (_ = Data.cell (some (Value.int _ _))) => hcS
  rename (_ = Data.cell (some (Value.ref D1))) => hcN
  rename Fr _ _ _ _ => F5
  rename News _ _ _ _ => N5
  obtain ⟨k, hk8, hk⟩ : ∃ k : Nat, k < 8 ∧ n.fmod 8 = (k : Int) := ⟨(n.fmod 8).toNat, by have := Int.fmod_lt_of_pos n (show (0 : Int) < 8 by decide); have := Int.fmod_nonneg_of_pos n (show (0 : Int) < 8 by decide); omega, by have := Int.fmod_nonneg_of_pos n (show (0 : Int) < 8 by decide); omega⟩
  rw [hk] at hcS
  have hul := hns.length
  have hne1' := allNe_of hne1
  simp only [AllNe, and_true, List.nil_append, List.cons_append] at hne1'; (repeat (rcases hne1' with ⟨_, hne1'⟩))
  clear hne1
  refine Hold.out (wpAny_Assign_Name ?_)
  refine comp_range (h₀ := s1.heap) (L := s1.heap.objs.size) (fun i ys ex => ys.length ≤ i ∧ ex = [] ∧ StrsAre ys ((List.range i).map fun (j : Nat) => lawRow k (ns.getD j 0) j)) 0 ns.length rfl (fun _ _ _ a => a.1) (by rfl) (by decide) (by rfl) (by decide) (by rfl) (fun _ => by rfl) (by decide) (by decide) (by omega) (by omega) ?_
  k_steps
  rename IsRange _ _ _ _ _ _ _ _ => hr
  rename Fr _ _ _ _ => F6
  rename News _ _ _ _ => N6
  refine Hold.out ⟨_, _, _, _, _, _, rfl, hr, F6, N6, ?_, ?_, ?_⟩
  · exact ⟨Nat.le_refl _, trivial, .nil⟩
  · rintro C D I i v ys _ s₂ m₂ oC oD oI E' hi ⟨t, rfl⟩ ⟨hl, rfl, hys⟩ hn hm F7 N7 ho
    have eC : s₂.heap.get? C = some oC := (N7 _ (.head _)).1
    (try clear F5 N5); (try clear F6 N6)
    rw [Int.zero_add] at hm
    (try simp only [List.nil_append] at N7)
    (try k_unmd)
    (try dsimp only)
    (try k_fold)
    k_steps
    rename Fr _ _ _ _ => F8
    rename News _ _ _ _ => N8
    refine Hold.out ⟨Part.intro F8 N8 (fun _ h => h), ?_⟩
    rw [if_pos rfl]
    k_steps
    rename Fr _ _ _ _ => F9
    rename News _ _ _ _ => N9
    refine Hold.out (Part.intro F9 N9 ⟨[], fun _ h => h, (fun _ h => nomatch h), by rw [List.length_append, List.length_singleton]; omega, rfl, ?_⟩)
    rw [List.range_succ, List.map_append]
    have e0 : ((i : Int)).toNat = i := Int.toNat_natCast i
    refine StrsAre.append' hys (e0 ▸ ?_)
    exact .cons _ _ .nil
  · rintro D2 nD h' tk' ys _ F7 N7 hD ⟨hl, rfl, hys⟩
    have hD' := allNe_of hD
    simp only [AllNe, and_true, List.nil_append, List.cons_append] at hD'; (repeat (rcases hD' with ⟨_, hD'⟩))
    clear hD
    (try clear F5 N5); (try clear F6 N6)
    obtain ⟨rvs, rfl⟩ : ∃ rvs : List Value, ys = List.toArray rvs := ⟨ys.toList, by simp⟩
    obtain ⟨xs, hxs⟩ : ∃ xs, ((List.range ((ns.length : Int) - 0).toNat).map fun (j : Nat) => lawRow k (ns.getD j 0) j) = xs := ⟨_, rfl⟩
    rw [List.toList_toArray, hxs] at hys
    have hxl : xs.length = ns.length := by rw [← hxs, List.length_map, List.length_range]; omega
    have hok : ∀ x ∈ xs, okRow k x = true := fun x hx => by
      rw [← hxs] at hx
      obtain ⟨j, _, rfl⟩ := List.mem_map.mp hx
      exact rows_ok _ _ _ hk8
    have hst : ∀ x ∈ xs, PyData.strOk x = true := fun x hx => by
      rw [← hxs] at hx
      obtain ⟨j, _, rfl⟩ := List.mem_map.mp hx
      exact rows_str _ _ _ hk8
    clear hxs hl
    (try simp only [List.nil_append] at N7)
    (try k_unmd)
    (try dsimp only)
    (try k_fold)
    k_steps
    rename Fr _ _ _ _ => F9
    rename News _ _ _ _ => N9
    rename _ = patA k => hpa
    have hrl := hys.len_eq
    refine Hold.out ?_
    refine used_range (h₀ := s1.heap) (L := s1.heap.objs.size) (fun i ys ex => ys.length ≤ i ∧ ex = [] ∧ IntsAre ys (placesUp k xs i)) 0 xs.length rfl (fun _ _ _ a => a.1) (by rfl) rfl (by rfl) (by rfl) (by rfl) (by decide) (by rfl) (by decide) (by rfl) (fun _ => by rfl) (by decide) (by decide) (by omega) (by omega) ?_
    k_steps
    rename IsRange _ _ _ _ _ _ _ _ => hr
    rename Fr _ _ _ _ => F10
    rename News _ _ _ _ => N10
    (try simp only [List.cons_append, List.nil_append] at N10)
    refine Hold.out ⟨_, _, _, _, _, _, rfl, hr, F10, N10, ?_, ?_, ?_⟩
    · exact ⟨Nat.le_refl _, trivial, .nil⟩
    · rintro C D I i v ys _ s₂ m₂ oC oD oI E' hi ⟨t, rfl⟩ ⟨hl, rfl, hys'⟩ hn hm F7 N7 ho
      have eC : s₂.heap.get? C = some oC := (N7 _ (.head _)).1
      (try clear F9 N9); (try clear F10 N10)
      rw [Int.zero_add] at hm
      have hix : i < xs.length := by omega
      have h100 : (xs.getD (i : Int).toNat Str.empty).length < 100 := by
        have := hok (xs.getD i Str.empty) (by
          rw [List.getD_eq_getElem?_getD, List.getElem?_eq_getElem hix]
          exact List.getElem_mem hix)
        unfold okRow at this
        rw [Bool.and_eq_true, decide_eq_true_eq] at this
        exact this.1
      (try simp only [List.nil_append] at N7)
      (try k_unmd)
      (try dsimp only)
      (try k_fold)
      k_steps
      rename Fr _ _ _ _ => F8
      rename News _ _ _ _ => N8
      refine Hold.out ⟨Part.intro F8 N8 (fun _ h => h), ?_⟩
      cases hb : lawIs (k : Int) (xs.getD (i : Int).toNat Str.empty) with
      | true =>
        have hb' : lawIs (k : Int) (xs.getD i Str.empty) = true := hb
        rw [if_pos rfl]
        refine comp_name (ns_of eC N8 hn (.head _)) hm rfl (by rfl) (by decide) ?_
        refine Hold.out (Part.intro F8 N8 ⟨[], fun _ h => h, (fun _ h => nomatch h), by rw [List.length_append, List.length_singleton]; omega, rfl, ?_⟩)
        rw [placesUp_yes hb']
        exact ints_snoc hys' _ _
      | false =>
        have hb' : lawIs (k : Int) (xs.getD i Str.empty) = false := hb
        rw [if_neg Bool.false_ne_true]
        exact ⟨by omega, rfl, by rw [placesUp_no hb']; exact hys'⟩
    · rintro D3 nD3 h' tk' ys2 _ F7 N7 hD3 ⟨hl, rfl, hI3⟩
      have hD3' := allNe_of hD3
      simp only [AllNe, and_true, List.nil_append, List.cons_append] at hD3'; (repeat (rcases hD3' with ⟨_, hD3'⟩))
      clear hD3
      (try clear F9 N9); (try clear F10 N10)
      obtain ⟨pvs, rfl⟩ : ∃ pvs : List Value, ys2 = List.toArray pvs := ⟨ys2.toList, by simp⟩
      have ez : ((xs.length : Int) - 0).toNat = xs.length := by omega
      rw [List.toList_toArray, ez] at hI3
      have hpl : pvs.length ≤ 63 := by have := hI3.length; have := placesUp_len k xs xs.length; omega
      have hpc : pvs.length = (placesUp k xs xs.length).length := hI3.length
      (try simp only [List.nil_append] at N7)
      (try k_unmd)
      (try dsimp only)
      (try k_fold)
      k_steps
      rename Fr _ _ _ _ => F8
      rename News _ _ _ _ => N8
      have h63 : xs.length ≤ 63 := by omega
      refine Hold.out ?_
      refine used_list (h₀ := s1.heap) (L := s1.heap.objs.size) (fun i ys ex => ys.length ≤ i ∧ ex = [] ∧ ys = rvs.take i) rvs rfl (fun _ _ _ a => a.1) (by rfl) rfl (by rfl) (by rfl) (by rfl) (by decide) (by rfl) (by decide) (by rfl) (fun _ => by rfl) (by omega) ?_
      k_steps
      rename Fr _ _ _ _ => F11
      rename News _ _ _ _ => N11
      (try simp only [List.cons_append, List.nil_append] at N11)
      refine Hold.out ⟨_, _, _, _, _, rfl, by k_mem, rfl, rfl, F11, N11, ?_, ?_, ?_⟩
      · first | exact ⟨Nat.le_refl _, trivial, trivial⟩ | exact ⟨Nat.le_refl _, rfl, rfl⟩
      · rintro C D I i v ys _ s₂ m₂ oC oD oI E' hi hv ⟨hl, rfl, rfl⟩ hn hm F7 N7 ho
        have eC : s₂.heap.get? C = some oC := (N7 _ (.head _)).1
        (try clear F8 N8); (try clear F11 N11)
        (try simp only [List.nil_append] at N7)
        (try k_unmd)
        (try dsimp only)
        (try k_fold)
        k_steps
        rename Fr _ _ _ _ => F8
        rename News _ _ _ _ => N8
        refine Hold.out ⟨Part.intro F8 N8 (fun _ h => h), ?_⟩
        rw [if_pos rfl]
        k_steps
        rename Fr _ _ _ _ => F9
        rename News _ _ _ _ => N9
        refine Hold.out (Part.intro F9 N9 ⟨[], fun _ h => h, (fun _ h => nomatch h), by rw [List.length_append, List.length_singleton]; omega, rfl, ?_⟩)
        rw [List.take_add_one, hv]; rfl
      · rintro D4 nD4 h' tk' ys3 _ F7 N7 hD4 ⟨hl, rfl, hg⟩
        have hD4' := allNe_of hD4
        simp only [AllNe, and_true, List.nil_append, List.cons_append] at hD4'; (repeat (rcases hD4' with ⟨_, hD4'⟩))
        clear hD4
        (try clear F8 N8); (try clear F11 N11)
        rw [List.take_length] at hg
        obtain ⟨gvs, rfl⟩ : ∃ gvs : List Value, ys3 = List.toArray gvs := ⟨ys3.toList, by simp⟩
        rw [List.toList_toArray] at hg
        subst hg
        (try simp only [List.nil_append] at N7)
        (try k_unmd)
        (try dsimp only)
        (try k_fold)
        k_steps
        rename Fr _ _ _ _ => F12
        rename News _ _ _ _ => N12
        refine Hold.out (wpAny_Assign_Name ?_)
        obtain ⟨ps, hps⟩ : ∃ ps, placesUp k xs xs.length = ps := ⟨_, rfl⟩
        have hps0 : ∀ x ∈ ps, 0 ≤ x ∧ x < xs.length := fun x hx => placesUp_lt (hps ▸ hx)
        have hps1 : ps.Pairwise (· ≤ ·) := hps ▸ placesUp_sorted k xs xs.length
        have hpsn : ps.length ≤ 63 := hps ▸ Nat.le_trans (placesUp_len k xs _) h63
        rw [hps] at hI3 hpc
        k_steps
        rename Fr _ _ _ _ => F13
        rename News _ _ _ _ => N13
        refine Hold.out ?_
        refine comp_range (h₀ := s1.heap) (L := s1.heap.objs.size) (fun i ys ex => ∃ ds : List (Addr × List Value), ds.length = i ∧ ex = ds.map cellOf ∧ ys = ds.map refOf ∧ ds.map (·.2) = (List.range i).map fun j => seg gvs (cutAt ps xs.length j) (cutAt ps xs.length (j + 1))) 0 ps.length rfl (fun _ _ _ ⟨ds, a, _, b, _⟩ => by rw [b, List.length_map, a]; exact Nat.le_refl _) (by rfl) (by decide) (by rfl) (by decide) (by rfl) (fun _ => by rfl) (by decide) (by decide) (by omega) (by omega) ?_
        k_steps
        rename IsRange _ _ _ _ _ _ _ _ => hr
        rename Fr _ _ _ _ => F14
        rename News _ _ _ _ => N14
        (try simp only [List.cons_append, List.nil_append] at N14)
        refine Hold.out ⟨_, _, _, _, _, _, rfl, hr, F14, N14, ?_, ?_, ?_⟩
        · exact ⟨[], rfl, rfl, rfl, rfl⟩
        · rintro C D I i v ys _ s₂ m₂ oC oD oI E' hi ⟨t, rfl⟩ ⟨ds, hdl, rfl, rfl, hds⟩ hn hm F7 N7 ho
          have eC : s₂.heap.get? C = some oC := (N7 _ (.head _)).1
          (try clear F13 N13); (try clear F14 N14)
          replace N7 := news_swap N7
          rw [Int.zero_add] at hm
          have hix : i < ps.length := by omega
          (try simp only [List.cons_append, List.nil_append] at N7)
          (try k_unmd)
          (try dsimp only)
          (try k_fold)
          k_steps
          rename Fr _ _ _ _ => F8
          rename News _ _ _ _ => N8
          refine Hold.out ⟨Part.intro F8 N8 (fun p hp => in_swap hp), ?_⟩
          rw [if_pos rfl]
          k_steps
          rename Fr _ _ _ _ => F9
          rename News _ _ _ _ => N9
          rename (_ = cutAt ps xs.length i) => hc1
          rename (_ = cutAt ps xs.length (i + 1)) => hc2
          rename (@LT.lt Nat _ _ _ ∧ _) => l1
          subst hc1 hc2
          refine Hold.out (Part.intro F9 N9 ⟨(ds ++ [(_, seg gvs (cutAt ps xs.length i) (cutAt ps xs.length (i + 1)))]).map cellOf, fun p hp => (by have := in_grow hp; exact this), off_grow ho (Nat.ne_of_gt l1.1) (Nat.ne_of_gt l1.2.1) (Nat.ne_of_gt l1.2.2.1), ds ++ [(_, seg gvs (cutAt ps xs.length i) (cutAt ps xs.length (i + 1)))], by rw [List.length_append, hdl]; rfl, rfl, by rw [List.map_append]; rfl, ?_⟩)
          rw [List.map_append, hds, List.range_succ, List.map_append]; rfl
        · rintro D5 nD5 h' tk' ys5 _ F7 N7 hD5 ⟨ds, hdl, rfl, hdr, hds⟩
          (try clear F13 N13); (try clear F14 N14)
          obtain rfl : ys5 = (ds.map refOf).toArray := by rw [← hdr]
          replace N7 := news_swap1 N7
          have hD5a : ∀ p ∈ ds.map cellOf, p.1 ≠ D5 := fun p hp => hD5 p (List.mem_append_left _ hp)
          have hD5' := allNe_of fun p hp => hD5 p (List.mem_append_right _ hp)
          simp only [AllNe, and_true, List.nil_append, List.cons_append] at hD5'; (repeat (rcases hD5' with ⟨_, hD5'⟩))
          clear hD5
          have ezp : ((ps.length : Int) - 0).toNat = ps.length := by omega
          rw [ezp] at hdl hds
          (try simp only [List.cons_append, List.nil_append] at N7)
          (try k_unmd)
          (try dsimp only)
          (try k_fold)
          k_dflt (refine' ks_add ?F1 ?N1 ?l1 ?b1 ?z1 ?_; (case F1 => k_asm); (case N1 => k_asm); (case l1 => kmk_list); (case b1 => kmk_list); (case z1 => ((try simp only [List.length_take, List.length_drop, List.length_append, List.length_cons, List.length_nil, List.length_map]); omega)))
          intro D' h' F' N' l1
          (try k_lt l1); (try k_sweep)
          k_steps
          rename Fr _ _ _ _ => F15
          rename News _ _ _ _ => N15
          refine Hold.out ?_
          k_dflt (refine call_split F15 N15 (by assumption) (by assumption) ⟨rfl, Nat.le_of_ble_eq_true rfl, Nat.le_of_ble_eq_true rfl⟩ (by assumption) (by assumption) (by kmk_list) (by assumption) (by assumption) (by assumption) ?_)
          clear F15 N15
          intro D6 cs n6 h6 tk6 hnd6 hsg6 F16 N16 hd1 hd2 hd3
          have hov : OkVals gvs := ⟨xs, hys, hst⟩
          have hes : cs.map (·.2) = gvs.take (cutAt ps xs.length 0).toNat :: ds.map (·.2) := by rw [hsg6, hps, runs_due, hrl, hds]
          have hok6 : ∀ vs ∈ cs.map (·.2), OkVals vs := hsg6 ▸ runs_ok hov _ _
          have hlen6 : ∀ vs ∈ cs.map (·.2), vs.length ≤ 100 := fun vs hv => Nat.le_trans (runs_len gvs _ _ vs (hsg6 ▸ hv)) (by omega)
          refine split_led N16 fun K hK NK => ?_
          clear NK
          have hdK : ∀ c ∈ cs, ∀ p ∈ K, p.1 ≠ c.1 := by
            intro c hc p hp
            rw [hK] at hp
            rcases List.mem_cons.mp hp with rfl | hp
            · exact Ne.symm (hd2 _ (List.mem_map_of_mem (f := cellOf) hc))
            · exact hd3 c hc p hp
          clear hd1 hd2 hd3
          (try dsimp only)
          (try simp only [List.cons_append, List.nil_append] at N16)
          k_steps
          rename Fr _ _ _ _ => F17
          rename News _ _ _ _ => N17
          refine Hold.out ?_
          rename (_ = cutAt ps xs.length 0) => hc0
          subst hc0
          refine ne_due (ds := ds) (v0 := gvs.take (cutAt ps xs.length 0).toNat) (by kmk_list) (by kmk_list) (by kmk_list) (cells_list N17 (by intro p hp; (repeat (first | exact List.mem_append_right _ hp | exact List.mem_append_left _ hp | refine List.Mem.tail _ ?_)))) (cells_list N17 (by intro p hp; (repeat (first | exact List.mem_append_right _ hp | exact List.mem_append_left _ hp | refine List.Mem.tail _ ?_)))) hes hok6 (by first | decide | exact Nat.le_of_ble_eq_true rfl) ?_
          k_steps
          rename Fr _ _ _ _ => F18
          rename News _ _ _ _ => N18
          refine Hold.out (ne_strs_same (vs := gvs) (by kmk_list) (by kmk_list) (by assumption) (by first | decide | exact Nat.le_of_ble_eq_true rfl) ?_)
          k_steps
          rename Fr _ _ _ _ => F19
          rename News _ _ _ _ => N19
          refine Hold.out ?_
          refine with_map F19 fun m₀ hm₀ FX => ?_
          clear FX
          have hD6 : (D6, W.listOf (List.toArray (cs.map refOf)) n6) ∈ K := by rw [hK]; exact .head _
          refine for_list (h₀ := s1.heap) (fun i m news => (∃ u, m = fun y => if y = Str.ofString "part" then u else m₀ y) ∧ news = K ++ (cs.drop i).map cellOf) (cs.map refOf) rfl (by rfl) (by rfl) (fun _ => by rfl) (by passes_own) ?_
          k_steps
          rename Fr _ _ _ _ => F20
          rename News _ _ _ _ => N20
          have F21 := fr_as F20 (fun y => (congrFun hm₀ y).symm)
          have N21 := led_back (y := cs.map cellOf) hK N20 rfl
          have z6 := N21 _ (List.mem_append_left _ hD6)
          refine Hold.out ⟨D6, m₀, K ++ cs.map cellOf, rfl, ⟨_, z6.1, rfl, _, rfl⟩, .inr ⟨z6.2.1, _, z6.1, fun i m' nw hJ => hJ.2 ▸ List.mem_append_left _ hD6⟩, F21, N21, ⟨⟨_, part_start⟩, rfl⟩, ?_, ?_⟩
          · rintro I g hIg i v m₁ news₁ h tk' oI hi hv ⟨⟨u, rfl⟩, rfl⟩ F7 N7 ho
            change Fr s1.heap s1.heap.objs.size h _ at F7
            change News s1.heap s1.heap.objs.size h _ at N7
            (try clear F19); (try clear F20); (try clear F21); (try clear z6); (try clear N19); (try clear N20); (try clear N21)
            obtain ⟨c, hc, rfl⟩ : ∃ c, cs[i]? = some c ∧ refOf c = v := by simpa using hv
            have hcm : c ∈ cs := List.mem_of_getElem? hc
            rw [drop_at hc] at N7 ho
            obtain ⟨r, hr⟩ : ∃ r, (cs.drop (i + 1)).map cellOf = r := ⟨_, rfl⟩
            have hrc : ∀ p ∈ K ++ r, p.1 ≠ c.1 := by
              intro p hp
              rcases List.mem_append.mp hp with hp | hp
              · exact hdK c hcm p hp
              · exact nodup_after hnd6 hc p (hr ▸ hp)
            have hIc : @Ne Nat c.1 I := ho (cellOf c) (List.mem_append_right _ (.head _))
            have hoI : ∀ p ∈ K ++ r, p.1 ≠ I := fun p hp => ho p (by
              rcases List.mem_append.mp hp with h | h
              · exact List.mem_append_left _ h
              · exact List.mem_append_right _ (.tail _ (hr ▸ h)))
            replace N7 := news_rot hr N7
            obtain ⟨T, hT⟩ : ∃ T, K ++ r = T := ⟨_, rfl⟩
            rw [hT] at N7 hrc hoI
            have hokc : OkVals c.2 := hok6 _ (List.mem_map_of_mem (f := fun c : Addr × List Value => c.2) hcm)
            have hlc : c.2.length ≤ 100 := hlen6 _ (List.mem_map_of_mem (f := fun c : Addr × List Value => c.2) hcm)
            obtain ⟨a, us⟩ := c
            change Fr s1.heap s1.heap.objs.size h (fun y => if y = Str.ofString "part" then some (Value.ref a) else _) at F7
            change OkVals us at hokc
            change us.length ≤ 100 at hlc
            change News s1.heap s1.heap.objs.size h ((a, W.listOf us.toArray 0) :: (I, oI) :: T) at N7
            (try dsimp only)
            (try k_unmd)
            (try k_fold)
            k_steps
            rename Fr _ _ _ _ => F8
            rename News _ _ _ _ => N8
            rename OkVals us => hokc
            refine Hold.out (eq_empty (by kmk_list) (by kmk_list) hokc (by first | decide | exact Nat.le_of_ble_eq_true rfl) ?_)
            rcases us with _ | ⟨x, us⟩
            · (try dsimp only [List.isEmpty_nil])
              k_steps
              rename Fr _ _ _ _ => F9
              rename News _ _ _ _ => N9
              refine Hold.out (cell_append (rest := (I, oI) :: T) F9 N9 (.tail _ (.head _)) (Nat.zero_le _) (fun p hp => .tail _ (.tail _ hp)) (fun p hp => ?_) ?_)
              · rcases List.mem_cons.mp hp with rfl | hp
                · exact Ne.symm hIc
                · exact hrc p hp
              intro h9 F10 N10
              (try clear F8); (try clear N8); (try clear F9); (try clear N9)
              (try dsimp only)
              k_steps
              rename Fr _ _ _ _ => F11
              rename News _ _ _ _ => N11
              refine Hold.out (TurnEnd.next (news' := T) F11 N11 (fun _ h => h) hoI ⟨⟨_, part_map⟩, ?_⟩)
              rw [← hT, ← hr]
            · (try dsimp only [List.isEmpty_cons])
              k_steps
              rename Fr _ _ _ _ => F9
              rename News _ _ _ _ => N9
              refine Hold.out (cell_del (rest := (I, oI) :: T) F9 N9 (.tail _ (.head _)) (Nat.le_trans hlc (by decide)) (fun p hp => .tail _ (.tail _ hp)) (fun p hp => ?_) ?_)
              · rcases List.mem_cons.mp hp with rfl | hp
                · exact Ne.symm hIc
                · exact hrc p hp
              intro h9 F10 N10
              (try clear F8); (try clear N8); (try clear F9); (try clear N9)
              (try dsimp only)
              k_steps
              rename Fr _ _ _ _ => F11
              rename News _ _ _ _ => N11
              refine Hold.out (TurnEnd.next (news' := T) F11 N11 (fun _ h => h) hoI ⟨⟨_, part_map⟩, ?_⟩)
              rw [← hT, ← hr]
          · rintro h3 tk3 m3 news3 F7 N7 ⟨⟨u, rfl⟩, rfl⟩
            change Fr s1.heap s1.heap.objs.size h3 _ at F7
            change News s1.heap s1.heap.objs.size h3 _ at N7
            (try clear F19); (try clear F20); (try clear F21); (try clear z6); (try clear N19); (try clear N20); (try clear N21); (try clear hdK); (try clear hD6)
            rw [List.drop_of_length_le (by rw [List.length_map]; exact Nat.le_refl _), List.map_nil, List.append_nil] at N7
            subst hK
            subst hm₀
            (try dsimp only)
            (try k_unmd)
            (try k_fold)
            k_steps
            rename Fr _ _ _ _ => F8
            rename News _ _ _ _ => N8
            refine Hold.out (eq_strs_same (vs := gvs) (by kmk_list) (by kmk_list) (by assumption) (by first | decide | exact Nat.le_of_ble_eq_true rfl) ?_)
            k_steps
            rename Fr _ _ _ _ => F9
            rename News _ _ _ _ => N9
            refine Hold.out ?_
            k_dflt (refine call_split F9 N9 (by assumption) (by assumption) ⟨rfl, Nat.le_of_ble_eq_true rfl, Nat.le_of_ble_eq_true rfl⟩ (by assumption) (by assumption) (by kmk_list) (by assumption) (by assumption) (by assumption) ?_)
            (try clear F8); (try clear N8); (try clear F9); (try clear N9)
            intro D7 cs7 n7 h7 tk7 hnd7 hsg7 F10 N10 hd1 hd2 hd3
            clear hd1 hd2 hd3
            have hes7 : cs7.map (·.2) = gvs.take (cutAt ps xs.length 0).toNat :: ds.map (·.2) := by rw [hsg7, hps, runs_due, hrl, hds]
            have hok7 : ∀ vs ∈ cs7.map (·.2), OkVals vs := hes7.trans hes.symm ▸ hok6
            (try dsimp only)
            (try simp only [List.cons_append, List.nil_append] at N10)
            k_steps
            rename Fr _ _ _ _ => F11
            rename News _ _ _ _ => N11
            refine Hold.out (eq_due (ds := ds) (v0 := gvs.take (cutAt ps xs.length 0).toNat) (by kmk_list) (by kmk_list) (by kmk_list) (cells_list N11 (by intro p hp; (repeat (first | exact List.mem_append_right _ hp | exact List.mem_append_left _ hp | refine List.Mem.tail _ ?_)))) (cells_list N11 (by intro p hp; (repeat (first | exact List.mem_append_right _ hp | exact List.mem_append_left _ hp | refine List.Mem.tail _ ?_)))) hes7 hok7 (by first | decide | exact Nat.le_of_ble_eq_true rfl) ?_)
            k_steps)
end
end Mine
end
theorem PySem.Challenge.cw_fe0347_01_holds : PySem.Challenge.rw_fe0347_01.Holds := by
  exact Mine.cw
