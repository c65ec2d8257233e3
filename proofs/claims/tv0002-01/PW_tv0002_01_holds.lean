import PyProof.Rows.All
import Wide.All
import OpenK.AllK
import Wide.FinOn
import PySem.Challenge.RW_tv0002_01
open PySem PySem.W PyProof.Rows
set_option Elab.async false
set_option maxRecDepth 100000
set_option maxHeartbeats 8000000
namespace Mine
open_top hd for PySem.Challenge.rw_tv0002_01
end Mine
open PySem PySem.W PyProof.Rows PySem.Spec PySem.Calls
set_option linter.unusedVariables false
set_option linter.unusedSimpArgs false
namespace Mine
section -- Base
abbrev Led := List (Addr × Obj)
def Ctr (w : World) (mean : ExcName → Option Value) (mg mb : Str → Option Value) (f : Addr) (vs : List Value) (news : Led) (dk uk : Nat) (Post : Value → Led → Prop) : Prop :=
  ∀ (dp un : Nat) (gd : Option (List Code)) (cn : Str) (cs : Scope) (a : Addr) (ccd : Value) (cl : List (Str × Addr)) (outer : List PySem.Env) (A₀ : Around) (base h₀ : Heap) (L : Addr) (m : Str → Option Value) (s : Shared) (Q E : Value → Shared → Prop),
    Below A₀ base outer h₀ → Fr h₀ L s.heap m → (hd.heap_39 w.params).In h₀ → News h₀ L s.heap news → Top hd.view_39 (looseW hd.view_39 []) mean mg mb h₀ → cs.kind = .function → dp + dk < recursionLimit → un + uk < cLine →
    (∀ v led h' tk', Post v led → Fr h₀ L h' m → News h₀ L h' led → Q v { s with heap := h', toks := tk' }) →
    wpAny (model Challenge.rw_tv0002_01.row.toRowW.prog w) (ktrTop dp un gd cn cs L a ccd cl outer) (call (.ref f) vs) Q E s
def coll (x y : Str) : Int := b2i (decide (y.cps.toList < x.cps.toList)) - b2i (decide (x.cps.toList < y.cps.toList))


end
section -- Lib
section
variable {prog : Program} {w : World} {A : Around} {s : Shared} {h₀ : Heap} {L : Addr} {m : Str → Option Value} {env : PySem.Env}

/-- a turn's end over the same ledger -/
def TurnOk (h₀ : Heap) (L : Addr) (m : Str → Option Value) (s₁ : Shared) (led : Led) (J : Prop) (s₂ : Shared) : Prop :=
  ∃ h' tk, s₂ = { s₁ with heap := h', toks := tk } ∧ Fr h₀ L h' m ∧ News h₀ L h' led ∧ J
theorem TurnOk.intro {s₁ : Shared} {led led' : Led} {J : Prop} {h' : Heap} {tk : Nat} (F : Fr h₀ L h' m) (N : News h₀ L h' led') (hs : ∀ p ∈ led, p ∈ led') (j : J) :
    TurnOk h₀ L m s₁ led J { s₁ with heap := h', toks := tk } := ⟨h', tk, rfl, F, fun p hp => N p (hs p hp), j⟩

theorem restT_fix {ct elt : Expr} {x : Str} {scope : Scope} {cl : List (Str × Addr)} {S : Led → Prop} {P : Nat → Value → Prop} {Fin : List Value → Led → Prop} (nw : Led) (n : Nat) (J : Nat → List Value → Prop) (hS : S nw)
    (turn : ∀ i ys v I oI C oC D m₂ h tk (E' : Value → Shared → Prop), i < n → J i ys → P i v → LCg.NsObj oC m₂ → m₂ x = some v → Fr h₀ L h m → News h₀ L h ((I, oI) :: (C, oC) :: (D, LCg.lst ys) :: nw) →
      wpAny (model prog w) A (isTrue ct (compEnvC scope cl C env) (eval ct (compEnvC scope cl C env))) (fun ok s' => if ok = true then
        wpAny (model prog w) A (eval elt (compEnvC scope cl C env)) (fun y s'' => TurnOk h₀ L m { s with heap := h, toks := tk } ((I, oI) :: (C, oC) :: (D, LCg.lst ys) :: nw) (J (i + 1) (ys ++ [y])) s'') E' s'
        else TurnOk h₀ L m { s with heap := h, toks := tk } ((I, oI) :: (C, oC) :: (D, LCg.lst ys) :: nw) (J (i + 1) ys) s') E' { s with heap := h, toks := tk })
    (fin : ∀ ys, J n ys → Fin ys nw) :
    ∀ k i ys, i + k = n → J i ys → LCt.CompRestT prog w A h₀ L m env ct elt x scope cl s S P Fin k i ys nw := by
  intro k
  induction k with
  | zero => intro i ys hi hJ; subst hi; exact fin ys hJ
  | succ k ih =>
    intro i ys hi hJ v I oI C oC D m₂ h tk E' hP hC hx F N off ne
    refine wpAny_mono (turn i ys v I oI C oC D m₂ h tk E' (by omega) hJ hP hC hx F N) (fun ok s' hok => ?_) fun _ _ e => e
    cases ok with
    | true =>
      simp only [if_true] at hok ⊢
      refine wpAny_mono hok (fun y s'' ht => ?_) fun _ _ e => e
      obtain ⟨h', tk', rfl, F', N', j⟩ := ht
      exact ⟨h', tk', nw, rfl, F', N', off, hS, ih (i + 1) _ (by omega) j⟩
    | false =>
      simp only [Bool.false_eq_true, if_false] at hok ⊢
      obtain ⟨h', tk', rfl, F', N', j⟩ := hok
      exact ⟨h', tk', nw, rfl, F', N', off, hS, ih (i + 1) _ (by omega) j⟩

theorem restU_fix {elt : Expr} {x : Str} {scope : Scope} {cl : List (Str × Addr)} {S : Led → Prop} {P : Nat → Value → Prop} {Fin : List Value → Led → Prop} (nw : Led) (n : Nat) (J : Nat → List Value → Prop) (hS : S nw)
    (turn : ∀ i ys v I oI C oC D m₂ h tk (E' : Value → Shared → Prop), i < n → J i ys → P i v → LCg.NsObj oC m₂ → m₂ x = some v → Fr h₀ L h m → News h₀ L h ((I, oI) :: (C, oC) :: (D, LCg.lst ys) :: nw) →
        wpAny (model prog w) A (eval elt (compEnvC scope cl C env)) (fun y s'' => TurnOk h₀ L m { s with heap := h, toks := tk } ((I, oI) :: (C, oC) :: (D, LCg.lst ys) :: nw) (J (i + 1) (ys ++ [y])) s'') E' { s with heap := h, toks := tk })
    (fin : ∀ ys, J n ys → Fin ys nw) :
    ∀ k i ys, i + k = n → J i ys → LCg.CompRest prog w A h₀ L m env elt x scope cl s S P Fin k i ys nw := by
  intro k
  induction k with
  | zero => intro i ys hi hJ; subst hi; exact fin ys hJ
  | succ k ih =>
    intro i ys hi hJ v I oI C oC D m₂ h tk E' hP hC hx F N off ne
    refine wpAny_mono (turn i ys v I oI C oC D m₂ h tk E' (by omega) hJ hP hC hx F N) (fun y s'' ht => ?_) fun _ _ e => e
    obtain ⟨h', tk', rfl, F', N', j⟩ := ht
    exact ⟨h', tk', nw, rfl, F', N', off, hS, ih (i + 1) _ (by omega) j⟩
end
theorem Ctr.use {w : World} {mean : ExcName → Option Value} {mg mb : Str → Option Value} {f : Addr} {vs : List Value} {news : Led} {dk uk : Nat} {Post : Value → Led → Prop} {dp un : Nat} {gd : Option (List Code)} {cn : Str} {cs : Scope} {a : Addr} {ccd : Value} {cl : List (Str × Addr)} {outer : List PySem.Env} {A₀ : Around} {base h₀ : Heap} {L : Addr} {m : Str → Option Value} {s : Shared} {Q E : Value → Shared → Prop}
    (C : Ctr w mean mg mb f vs news dk uk Post) (B : Below A₀ base outer h₀) (F : Fr h₀ L s.heap m) (X : (hd.heap_39 w.params).In h₀) (N : News h₀ L s.heap news) (T : Top hd.view_39 (looseW hd.view_39 []) mean mg mb h₀) (hk : cs.kind = .function) (hd : dp + dk < recursionLimit) (hu : un + uk < cLine)
    (ret : ∀ v led h' tk', Post v led → Fr h₀ L h' m → News h₀ L h' led → Q v { s with heap := h', toks := tk' }) :
    wpAny (model Challenge.rw_tv0002_01.row.toRowW.prog w) (ktrTop dp un gd cn cs L a ccd cl outer) (call (.ref f) vs) Q E s := C _ _ _ _ _ _ _ _ _ _ _ _ _ _ _ _ _ B F X N T hk hd hu ret
theorem drop1 {h₀ h : Heap} {L : Addr} {x : Addr × Obj} {l l' : Led} (N : News h₀ L h (x :: l')) (hs : ∀ p ∈ l, p ∈ l') : News h₀ L h (x :: l) := fun p hp => by
  rcases List.mem_cons.mp hp with rfl | hp
  · exact N _ List.mem_cons_self
  · exact N _ (List.mem_cons_of_mem _ (hs p hp))
theorem off1_of_lt {b : Addr} : ∀ {l : Led}, AllLt b l → LCg.Off1 b l
  | [], _ => trivial
  | _ :: _, h => ⟨Nat.ne_of_lt h.1, off1_of_lt h.2⟩
theorem ints_snoc {vs : List Value} {ns : List Int} {i : Nat} {a : Int} {t : Tok} (h : IntsAre vs (ns.take i)) (e : ns[i]? = some a) : IntsAre (vs ++ [.int a t]) (ns.take (i + 1)) := by
  rw [List.take_add_one, e]
  exact IntsAre.append h (.cons a t .nil)
end
section -- CompStr
section
variable {prog : Program} {w : World} {A : Around} {E : Value → Shared → Prop} {s : Shared} {h₀ : Heap} {L : Addr} {m : Str → Option Value} {env : PySem.Env}
theorem ListComp_S {elt iter : Expr} {x : Str} {px : Pos} {scope : Scope} {cl : List (Str × Addr)} {pos : Pos} {Q : Value → Shared → Prop} (_F₀ : Fr h₀ L s.heap m)
    (hclos : closureFor scope env = pure cl) (hcell : ∀ y ∈ scope.names, y.2 ≠ .cell) (hkind : scope.kind = .function)
    (hnames : ∀ y ∈ scope.names, y.2 = .local → scope.names.lookup y.1 = some .local) (hx : scope.names.lookup x = some .local)
    (h : wpAny (model prog w) A (eval iter env) (fun xv s₁ => ∃ tx tt news, xv = .str tx tt ∧ A.handled = none ∧ Fr h₀ L s₁.heap m ∧ News h₀ L s₁.heap news ∧ tx.cps.size ≤ sizeLine ∧
      ∀ g, LCg.CompRest prog w A h₀ L m env elt x scope cl { s₁ with heap := g } (fun _ => True) (SignAt tx) (LCg.FinE h₀ L m { s₁ with heap := g } Q) tx.cps.size 0 [] news) E s)
    (hs : ∀ x, foldedSetIterable iter env x = pure x := by intro _; rfl) :
    wpAny (model prog w) A (eval (.ListComp elt [⟨.Name x px, iter, [], 0⟩] scope pos) env) Q E s := by
  rw [eval_ListComp]
  refine wpAny_comprehension_free (use := none) rfl hs hclos hkind hnames (wpAny_mono h (fun xv s₁ h₁ => ?_) fun _ _ e => e)
  obtain ⟨tx, tt, news, rfl, hh, F, N, hsz, R⟩ := h₁
  have go : ∀ (cls : String) (o : Obj), (∀ I, Walks prog w A I [I] [I] tx.cps.size (SignAt tx) (fun i h => h.IsStrIter I cls tx tt i)) → (s₁.heap.push o).IsStrIter s₁.heap.objs.size cls tx tt 0 →
      wpAny (model prog w) A (newList []) (fun acc s₃ => wpAny (model prog w) A (newFunctionEnv scope env.globals cl [] env.qual none .none (some env)) (fun cenv s₄ =>
      codeAny (model prog w) A (.compStart (.ListComp elt [⟨.Name x px, iter, [], 0⟩] scope pos) 0 (.ref s₁.heap.objs.size) acc { cenv with scope := relabel scope env }) (compPost (model prog w) A E none Q acc cenv.locals) s₄) E s₃) E { s₁ with heap := s₁.heap.push o } := by
    intro cls o W h0
    refine LCg.block_U (RR := fun acc C => compPost (model prog w) A E none Q acc C) (h₀ := h₀) (L := L) (m := m) (S := fun _ => True) (news := news) (Fin := LCg.FinE h₀ L m { s₁ with heap := s₁.heap.push o } Q) (W s₁.heap.objs.size) hsz (fun i h st => by obtain ⟨o, e, _⟩ := st; exact ⟨o, e⟩) (fun i h h' o nw st e e' _ _ _ => by obtain ⟨o', q, r⟩ := st; rw [e] at q; cases q; exact ⟨o, e', r⟩) hcell hkind hx h0 (fun b hb => ?_)
      (F.keeps fun _ _ e => Heap.get?_push_of_some _ e) (N.grown fun _ _ e => Heap.get?_push_of_some _ e) (Nat.ne_of_lt F.ns.lt) (next_is_new F) (fun p hp => Nat.ne_of_lt (Heap.lt_size (N p hp).1)) trivial (R _) ?_
    · rw [List.mem_singleton.mp hb]
      show s₁.heap.objs.size < (s₁.heap.push _).objs.size
      rw [Heap.size_push]; exact Nat.lt_succ_self _
    · intro D C h' tk m' ys news' F' N' o1 hn hC₀ hD₀ hCL hDL hCD offC fin
      refine ⟨m', hn, fun h'' hs'' => fin D h'' tk (F'.change hs'' hCL hC₀) (fun p hp => ?_) o1⟩
      refine ⟨hs''.extBut _ _ ?_ (N' p hp).1, (N' p hp).2⟩
      rcases List.mem_cons.mp hp with rfl | hp
      · exact Ne.symm hCD
      · exact offC p hp
  cases ha : tx.cps.all (· < 128)
  · exact wpAny_pyIter_wide ha (go "str_iterator" _ (fun I => Walks.strWide hh I tx tt) ⟨_, Heap.get?_push_size _ rfl, rfl, rfl⟩)
  · exact wpAny_pyIter_ascii ha (go "str_ascii_iterator" _ (fun I => Walks.strAscii hh I tx tt) ⟨_, Heap.get?_push_size _ rfl, rfl, rfl⟩)
end
end
section -- ListCmp
open PySem.AutoSeq1 (wpAny_loadPart')
open PySem.MeetsSeq PySem.MeetsSeq2 PySem.MeetsSeq3 PySem.SeqAt

def ltL : List Int → List Int → Bool
  | [], [] => false
  | [], _ :: _ => true
  | _ :: _, [] => false
  | x :: xs, y :: ys => if x = y then ltL xs ys else decide (x < y)

theorem gt_rc {prog : Program} {w : World} {A : Around} {E : Value → Shared → Prop} {s : Shared} {a b : Int} {t u : Tok} {Q : Value → Shared → Prop} (h : Q (.bool (decide (b < a))) s) : wpAny (model prog w) A (richCompare .Gt (.int a t) (.int b u)) Q E s := gt_int h
theorem lt_rc {prog : Program} {w : World} {A : Around} {E : Value → Shared → Prop} {s : Shared} {a b : Int} {t u : Tok} {Q : Value → Shared → Prop} (h : Q (.bool (decide (a < b))) s) : wpAny (model prog w) A (richCompare .Lt (.int a t) (.int b u)) Q E s := lt_int h
theorem gt_loop (l b : Addr) (vs us : List Value) (ns ms : List Int) (n n2 : Nat) (dd dd2 : Option Addr) (sl sl2 : Array (Option Value)) (hi : IntsAre vs ns) (hi' : IntsAre us ms) (k : Nat) :
    ∀ i : Nat, vs.length - i = k → i ≤ vs.length → i ≤ us.length → Meets (Builtin.«list.__eq__.loop» ⟨[.ref l, .ref b, rawInt i, rawInt 4], []⟩)
      (fun A R s => s.heap.get? l = some { cls := .type "list", dict := dd, data := .seq vs.toArray n, slots := sl } ∧ s.heap.get? b = some { cls := .type "list", dict := dd2, data := .seq us.toArray n2, slots := sl2 } ∧
        R (.ok (.ret (.bool (ltL (ms.drop i) (ns.drop i))))) s) := by
  have e1 := hi.length
  have e2 := hi'.length
  induction k with
  | zero =>
    intro i hk hle hle2 prog w A R s h
    obtain ⟨hp, g, d, tk, os⟩ := s; obtain ⟨hl, hb, h⟩ := h
    wp_walk using wpAny_loadPart' hl, wpAny_loadPart' hb
    have hi1 : vs.toArray[((i : Nat) : Int).toNat]? = none := by simp; omega
    rw [hi1]
    wp_walk using wpAny_loadPart' hl, wpAny_loadPart' hb
    have hd : ns.drop i = [] := by simp; omega
    rw [hd] at h
    have e : decide (vs.toArray.size > us.toArray.size) = ltL (ms.drop i) [] := by
      have : ltL (ms.drop i) [] = false := by cases ms.drop i <;> rfl
      rw [this]; simp; omega
    show R (.ok (.ret (.bool (decide (vs.toArray.size > us.toArray.size))))) _
    rw [e]; exact h
  | succ k ih =>
    intro i hk hle hle2 prog w A R s h
    obtain ⟨hp, g, d, tk, os⟩ := s; obtain ⟨hl, hb, h⟩ := h
    have hlt : i < vs.length := by omega
    have hn : i < ns.length := by omega
    obtain ⟨t, ht⟩ := hi.get i ns[i] (by simp [hn])
    have hi1 : vs.toArray[((i : Nat) : Int).toNat]? = some (.int ns[i] t) := by simpa using ht
    wp_walk using wpAny_loadPart' hl, wpAny_loadPart' hb
    rw [hi1]
    rcases Nat.lt_or_ge i us.length with hlt2 | hge
    · have hm : i < ms.length := by omega
      obtain ⟨u, hu⟩ := hi'.get i ms[i] (by simp [hm])
      have hi2 : us.toArray[((i : Nat) : Int).toNat]? = some (.int ms[i] u) := by simpa using hu
      rw [hi2]
      have hc : ((i : Int) + 1) = ((i + 1 : Nat) : Int) := by push_cast; rfl
      have hd : ns.drop i = ns[i] :: ns.drop (i + 1) := by simp
      have hd2 : ms.drop i = ms[i] :: ms.drop (i + 1) := by simp
      rw [hd, hd2] at h
      wp_walk
      refine (EqGives.int ns[i] ms[i] t u).at _ _ prog w _ _ ?_
      by_cases hb' : ns[i] = ms[i]
      · have : (ns[i] == ms[i]) = true := by simpa using hb'
        rw [this]
        simp only [ltL, hb'.symm, if_true] at h
        wp_walk
        rw [hc]
        exact ⟨plainId_quiet plain_eq_loop _, codeAny_builtin entry_eq_loop (by
          rw [Around.under_plainId plain_eq_loop _]
          exact ih (i + 1) (by omega) (by omega) (by omega) prog w A R _ ⟨hl, hb, h⟩)⟩
      · have : (ns[i] == ms[i]) = false := by simpa using hb'
        rw [this]
        have hne : ¬ ms[i] = ns[i] := fun e => hb' e.symm
        simp only [ltL, hne, if_false] at h
        wp_walk using wpAny_loadPart' hl, wpAny_loadPart' hb
        rw [hi1, hi2]
        wp_walk using gt_rc
        exact h
    · have hi2 : us.toArray[((i : Nat) : Int).toNat]? = none := by simp; omega
      rw [hi2]
      wp_walk using wpAny_loadPart' hl, wpAny_loadPart' hb
      have hd2 : ms.drop i = [] := by simp; omega
      have hd : ns.drop i = ns[i] :: ns.drop (i + 1) := by simp
      rw [hd, hd2] at h
      have e : decide (vs.toArray.size > us.toArray.size) = true := by simp; omega
      show R (.ok (.ret (.bool (decide (vs.toArray.size > us.toArray.size))))) _
      rw [e]; exact h
theorem lt_loop (l b : Addr) (vs us : List Value) (ns ms : List Int) (n n2 : Nat) (dd dd2 : Option Addr) (sl sl2 : Array (Option Value)) (hi : IntsAre vs ns) (hi' : IntsAre us ms) (k : Nat) :
    ∀ i : Nat, vs.length - i = k → i ≤ vs.length → i ≤ us.length → Meets (Builtin.«list.__eq__.loop» ⟨[.ref l, .ref b, rawInt i, rawInt 0], []⟩)
      (fun A R s => s.heap.get? l = some { cls := .type "list", dict := dd, data := .seq vs.toArray n, slots := sl } ∧ s.heap.get? b = some { cls := .type "list", dict := dd2, data := .seq us.toArray n2, slots := sl2 } ∧
        R (.ok (.ret (.bool (ltL (ns.drop i) (ms.drop i))))) s) := by
  have e1 := hi.length
  have e2 := hi'.length
  induction k with
  | zero =>
    intro i hk hle hle2 prog w A R s h
    obtain ⟨hp, g, d, tk, os⟩ := s; obtain ⟨hl, hb, h⟩ := h
    wp_walk using wpAny_loadPart' hl, wpAny_loadPart' hb
    have hi1 : vs.toArray[((i : Nat) : Int).toNat]? = none := by simp; omega
    rw [hi1]
    wp_walk using wpAny_loadPart' hl, wpAny_loadPart' hb
    have hd : ns.drop i = [] := by simp; omega
    rw [hd] at h
    have e : decide (vs.toArray.size < us.toArray.size) = ltL [] (ms.drop i) := by
      have hl' : (ms.drop i).length = us.length - i := by simp; omega
      cases hq : ms.drop i with
      | nil => rw [hq] at hl'; simp at hl'; simp [ltL]; omega
      | cons _ _ => rw [hq] at hl'; simp at hl'; simp [ltL]; omega
    show R (.ok (.ret (.bool (decide (vs.toArray.size < us.toArray.size))))) _
    rw [e]; exact h
  | succ k ih =>
    intro i hk hle hle2 prog w A R s h
    obtain ⟨hp, g, d, tk, os⟩ := s; obtain ⟨hl, hb, h⟩ := h
    have hlt : i < vs.length := by omega
    have hn : i < ns.length := by omega
    obtain ⟨t, ht⟩ := hi.get i ns[i] (by simp [hn])
    have hi1 : vs.toArray[((i : Nat) : Int).toNat]? = some (.int ns[i] t) := by simpa using ht
    wp_walk using wpAny_loadPart' hl, wpAny_loadPart' hb
    rw [hi1]
    rcases Nat.lt_or_ge i us.length with hlt2 | hge
    · have hm : i < ms.length := by omega
      obtain ⟨u, hu⟩ := hi'.get i ms[i] (by simp [hm])
      have hi2 : us.toArray[((i : Nat) : Int).toNat]? = some (.int ms[i] u) := by simpa using hu
      rw [hi2]
      have hc : ((i : Int) + 1) = ((i + 1 : Nat) : Int) := by push_cast; rfl
      have hd : ns.drop i = ns[i] :: ns.drop (i + 1) := by simp
      have hd2 : ms.drop i = ms[i] :: ms.drop (i + 1) := by simp
      rw [hd, hd2] at h
      wp_walk
      refine (EqGives.int ns[i] ms[i] t u).at _ _ prog w _ _ ?_
      by_cases hb' : ns[i] = ms[i]
      · have : (ns[i] == ms[i]) = true := by simpa using hb'
        rw [this]
        simp only [ltL, hb', if_true] at h
        wp_walk
        rw [hc]
        exact ⟨plainId_quiet plain_eq_loop _, codeAny_builtin entry_eq_loop (by
          rw [Around.under_plainId plain_eq_loop _]
          exact ih (i + 1) (by omega) (by omega) (by omega) prog w A R _ ⟨hl, hb, h⟩)⟩
      · have : (ns[i] == ms[i]) = false := by simpa using hb'
        rw [this]
        simp only [ltL, hb', if_false] at h
        wp_walk using wpAny_loadPart' hl, wpAny_loadPart' hb
        rw [hi1, hi2]
        wp_walk using lt_rc
        exact h
    · have hi2 : us.toArray[((i : Nat) : Int).toNat]? = none := by simp; omega
      rw [hi2]
      wp_walk using wpAny_loadPart' hl, wpAny_loadPart' hb
      have hd2 : ms.drop i = [] := by simp; omega
      have hd : ns.drop i = ns[i] :: ns.drop (i + 1) := by simp
      rw [hd, hd2] at h
      have e : decide (vs.toArray.size < us.toArray.size) = false := by simp; omega
      show R (.ok (.ret (.bool (decide (vs.toArray.size < us.toArray.size))))) _
      rw [e]; exact h

theorem list_gt (l b : Addr) (vs us : List Value) (ns ms : List Int) (n n2 : Nat) (dd dd2 : Option Addr) (sl sl2 : Array (Option Value)) (hi : IntsAre vs ns) (hi' : IntsAre us ms) :
    Meets (Builtin.«list.__gt__» ⟨[.ref l, .ref b], []⟩)
      (fun A R s => s.heap.get? l = some { cls := .type "list", dict := dd, data := .seq vs.toArray n, slots := sl } ∧ s.heap.get? b = some { cls := .type "list", dict := dd2, data := .seq us.toArray n2, slots := sl2 } ∧
        R (.ok (.ret (.bool (ltL ms ns)))) s) := by
  intro prog w A R s h
  obtain ⟨hp, g, d, tk, os⟩ := s; obtain ⟨hl, hb, h⟩ := h
  have f3 := AutoSeq1.sub_list_list
  wp_walk using wpAny_loadPart' hl, wpAny_loadPart' hb
  exact ⟨plainId_quiet plain_eq_loop _, codeAny_builtin entry_eq_loop (by
    rw [Around.under_plainId plain_eq_loop _]
    exact gt_loop l b vs us ns ms n n2 dd dd2 sl sl2 hi hi' _ 0 rfl (Nat.zero_le _) (Nat.zero_le _) prog w A R _ ⟨hl, hb, by simpa using h⟩)⟩
theorem list_lt (l b : Addr) (vs us : List Value) (ns ms : List Int) (n n2 : Nat) (dd dd2 : Option Addr) (sl sl2 : Array (Option Value)) (hi : IntsAre vs ns) (hi' : IntsAre us ms) :
    Meets (Builtin.«list.__lt__» ⟨[.ref l, .ref b], []⟩)
      (fun A R s => s.heap.get? l = some { cls := .type "list", dict := dd, data := .seq vs.toArray n, slots := sl } ∧ s.heap.get? b = some { cls := .type "list", dict := dd2, data := .seq us.toArray n2, slots := sl2 } ∧
        R (.ok (.ret (.bool (ltL ns ms)))) s) := by
  intro prog w A R s h
  obtain ⟨hp, g, d, tk, os⟩ := s; obtain ⟨hl, hb, h⟩ := h
  have f3 := AutoSeq1.sub_list_list
  wp_walk using wpAny_loadPart' hl, wpAny_loadPart' hb
  exact ⟨plainId_quiet plain_eq_loop _, codeAny_builtin entry_eq_loop (by
    rw [Around.under_plainId plain_eq_loop _]
    exact lt_loop l b vs us ns ms n n2 dd dd2 sl sl2 hi hi' _ 0 rfl (Nat.zero_le _) (Nat.zero_le _) prog w A R _ ⟨hl, hb, by simpa using h⟩)⟩
section
variable {prog : Program} {w : World} {A : Around} {E : Value → Shared → Prop} {s : Shared}
theorem gt_intsM {l b : Addr} {vs us : List Value} {ns ms : List Int} {Q : Value → Shared → Prop} (hl : s.heap.IsList l vs.toArray) (hi : IntsAre vs ns) (hb : s.heap.IsList b us.toArray) (hi' : IntsAre us ms) (hu : A.units < cLine)
    (h : Q (.bool (ltL ms ns)) s) : wpAny (model prog w) A (compareOp .Gt (.ref l) (.ref b)) Q E s := by
  obtain ⟨⟨cls, dd, data, sl⟩, ho, hc, n, hd⟩ := id hl
  obtain ⟨⟨cls2, dd2, data2, sl2⟩, ho2, hc2, n2, hd2⟩ := id hb
  simp only at hc hd hc2 hd2
  subst hc hd hc2 hd2
  exact richCompare_meets_room (op := .Gt) ⟨_, ho, rfl⟩ ⟨_, ho2, rfl⟩ F.slot_list_gt F.entry_list_gt (F.args_list_gt_2 _ _) (list_gt l b vs us ns ms n n2 dd dd2 sl sl2 hi hi')
    ⟨ho, ho2, show Value.bool (ltL ms ns) ≠ Value.notImplemented ∧ Q (.bool (ltL ms ns)) s from ⟨(fun x => nomatch x), h⟩⟩ hu
theorem lt_intsM {l b : Addr} {vs us : List Value} {ns ms : List Int} {Q : Value → Shared → Prop} (hl : s.heap.IsList l vs.toArray) (hi : IntsAre vs ns) (hb : s.heap.IsList b us.toArray) (hi' : IntsAre us ms) (hu : A.units < cLine)
    (h : Q (.bool (ltL ns ms)) s) : wpAny (model prog w) A (compareOp .Lt (.ref l) (.ref b)) Q E s := by
  obtain ⟨⟨cls, dd, data, sl⟩, ho, hc, n, hd⟩ := id hl
  obtain ⟨⟨cls2, dd2, data2, sl2⟩, ho2, hc2, n2, hd2⟩ := id hb
  simp only at hc hd hc2 hd2
  subst hc hd hc2 hd2
  exact richCompare_meets_room (op := .Lt) ⟨_, ho, rfl⟩ ⟨_, ho2, rfl⟩ F.slot_list_lt F.entry_list_lt (F.args_list_lt_2 _ _) (list_lt l b vs us ns ms n n2 dd dd2 sl sl2 hi hi')
    ⟨ho, ho2, show Value.bool (ltL ns ms) ≠ Value.notImplemented ∧ Q (.bool (ltL ns ms)) s from ⟨(fun x => nomatch x), h⟩⟩ hu
end
end
section -- ListOps
open PySem.AutoSeq1 (wpAny_loadPart')
open PySem.MeetsSeq PySem.MeetsSeq2 PySem.MeetsSeq3 PySem.SeqAt
section
variable {prog : Program} {w : World} {A : Around} {E : Value → Shared → Prop} {s : Shared}
/-- a value is the int k -/
def isK (k : Int) : Value → Bool
  | .int a _ => a == k
  | _ => false
theorem isK_at {vs : List Value} {ns : List Int} (hi : IntsAre vs ns) (k : Int) (t : Tok) (j : Nat) (h1 : j < vs.length) (h2 : j < ns.length) : isK k vs[j] = (ns[j] == k) := by
  obtain ⟨u, hu⟩ := hi.get j ns[j] (by simp [h2])
  have : vs[j] = .int ns[j] u := by
    rw [List.getElem?_eq_getElem h1] at hu; exact Option.some.inj hu
  rw [this]; rfl
theorem index_intsM {l : Addr} {vs : List Value} {ns : List Int} {k : Int} {t : Tok} {Q : Value → Shared → Prop} (hl : s.heap.IsList l vs.toArray) (hi : IntsAre vs ns)
    (hlen : ns.length < 1000) (hk : k ∈ ns) (h : Q (.int (ns.idxOf k : Nat) s.toks) { s with toks := s.toks + 1 }) :
    wpAny (model prog w) A (call (.builtin "list.index") [.ref l, .int k t]) Q E s := by
  have e := hi.length
  have hj : ns.idxOf k < ns.length := List.idxOf_lt_length_iff.mpr hk
  obtain ⟨o, ho, hc, n, hd⟩ := id hl
  obtain ⟨c, dd, da, sl⟩ := o
  obtain rfl : c = _ := hc
  obtain rfl : da = _ := hd
  have G := list_indexAt l vs.toArray n dd sl (.int k t) (isK k) (ns.idxOf k) (by simpa [e] using hj) (by omega)
    (by have := isK_at hi k t (ns.idxOf k) (by omega) hj; simp only [List.getElem_toArray]; rw [this]; simp)
    (fun i hi' hlt => by
      have hi2 : i < vs.length := by simpa using hi'
      have := isK_at hi k t i hi2 (by omega)
      simp only [List.getElem_toArray]; rw [this]
      have := List.not_of_lt_findIdx (p := (· == k)) (xs := ns) (i := i) (by simpa [List.idxOf] using hlt)
      simpa using this)
  refine call_meets F.slot_list_index ⟨_, ho, rfl⟩ F.entry_list_index (F.args_list_index_2 _ _) G ⟨ho, fun y hy => ?_, h⟩
  obtain ⟨j, hj', rfl⟩ := List.mem_iff_getElem.mp (show y ∈ vs by simpa using hy)
  obtain ⟨u, hu⟩ := hi.get j ns[j] (by simp)
  have e2 : vs[j] = .int ns[j] u := by
    rw [List.getElem?_eq_getElem hj'] at hu; exact Option.some.inj hu
  rw [e2]
  exact (EqGives.int ns[j] k u t).at _ _
end
end
section -- Loops
section
variable {prog : Program} {w : World} {A : Around} {E : Value → Shared → Prop} {s : Shared} {env : PySem.Env} {h₀ : Heap} {x : Str} {body : List Stmt} {Q : Flow → Shared → Prop}
/-- a turn's end: the iterator stands, the rest as J says -/
def LEnd (h₀ : Heap) (L : Addr) (I : Addr) (oI : Obj) (J : (Str → Option Value) → Led → Prop) (s₁ s₂ : Shared) : Prop :=
  ∃ h' tk m₂ news₂, s₂ = { s₁ with heap := h', toks := tk } ∧ Fr h₀ L h' m₂ ∧ News h₀ L h' ((I, oI) :: news₂) ∧ LCg.Off1 I news₂ ∧ J m₂ news₂
def LPost (h₀ : Heap) (L : Addr) (I : Addr) (oI : Obj) (J : (Str → Option Value) → Led → Prop) (s₁ : Shared) (Q : Flow → Shared → Prop) (f : Flow) (s₂ : Shared) : Prop :=
  match f with
  | .ret v => Q (.ret v) s₂
  | .brk => Q .next s₂
  | _ => LEnd h₀ L I oI J s₁ s₂
theorem LEnd.intro {L I : Addr} {oI : Obj} {J : (Str → Option Value) → Led → Prop} {s₁ : Shared} {h' : Heap} {tk : Nat} {m₂ : Str → Option Value} {news₂ : Led}
    (F : Fr h₀ L h' m₂) (N : News h₀ L h' ((I, oI) :: news₂)) (o : LCg.Off1 I news₂) (j : J m₂ news₂) : LEnd h₀ L I oI J s₁ { s₁ with heap := h', toks := tk } := ⟨h', tk, m₂, news₂, rfl, F, N, o, j⟩
theorem off1_mem {b : Addr} : ∀ {l : Led}, LCg.Off1 b l → ∀ p ∈ l, p.1 ≠ b
  | [], _, _, hp => nomatch hp
  | _ :: _, h, p, hp => by
    rcases List.mem_cons.mp hp with rfl | hp
    · exact h.1
    · exact off1_mem h.2 p hp
theorem off1_of {b : Addr} : ∀ {l : Led}, (∀ p ∈ l, p.1 ≠ b) → LCg.Off1 b l
  | [], _ => trivial
  | _ :: _, h => ⟨h _ List.mem_cons_self, off1_of fun p hp => h p (List.mem_cons_of_mem _ hp)⟩

theorem append_M {b : Addr} {its : Array Value} {c : Nat} {y : Value} {pre post : Led} {m : Str → Option Value} {L : Addr} {Q : Value → Shared → Prop} (F : Fr h₀ L s.heap m) (N : News h₀ L s.heap (pre ++ (b, listOf its c) :: post)) (h1 : ∀ p ∈ pre, p.1 ≠ b) (h2 : ∀ p ∈ post, p.1 ≠ b) (hsz : its.size ≤ sizeLine)
    (h : ∀ h', Fr h₀ L h' m → News h₀ L h' (pre ++ (b, listOf (its.push y) (c + 1)) :: post) → Q .none { s with heap := h' }) : wpAny (model prog w) A (call (.builtin "list.append") [.ref b, y]) Q E s := by
  have z := N (b, listOf its c) (List.mem_append.mpr (.inr (.head _)))
  exact append_at (hsz := hsz) z.1 fun h' hs ho' => h h' (F.change hs z.2.1 z.2.2) (news_set N h1 h2 hs ho')
theorem loopM {I : Addr} {fp : List Addr} {n : Nat} {P : Nat → Value → Prop} {St : Nat → Heap → Prop} {m₀ : Str → Option Value} {news fixed : Led} (J : Nat → (Str → Option Value) → Led → Prop)
    (W : Walks prog w A I fp [I] n P St) (hfp : ∀ b ∈ fp, b = I ∨ ∃ o, (b, o) ∈ fixed) (hIo : ∀ i h, St i h → ∃ o, h.get? I = some o) (hJf : ∀ i m nw, J i m nw → ∀ p ∈ fixed, p ∈ nw)
    (hst : St 0 s.heap) (F : Fr h₀ env.locals s.heap m₀) (N : News h₀ env.locals s.heap news) (hI0 : h₀.get? I = none) (hIL : env.locals ≠ I) (off : ∀ p ∈ news, p.1 ≠ I) (h0 : J 0 m₀ news)
    (turn : ∀ i v m₁ news₁ h tk oI, i < n → P i v → J i m₁ news₁ → LCg.Off1 I news₁ → Fr h₀ env.locals h (fun y => if y = x then some v else m₁ y) → News h₀ env.locals h ((I, oI) :: news₁) →
      wpAny (model prog w) A (execs body env) (LPost h₀ env.locals I oI (J (i + 1)) { s with heap := h, toks := tk } Q) E { s with heap := h, toks := tk })
    (done : ∀ m₁ news₁ h tk, J n m₁ news₁ → Fr h₀ env.locals h m₁ → News h₀ env.locals h news₁ → Q .next { s with heap := h, toks := tk }) :
    LoopAtV prog w A h₀ env x body Q E (.ref I) s := by
  have hIf : I ∈ fp := W.sub I (List.mem_singleton.mpr rfl)
  refine ⟨I, fp, [I], n, P, St, m₀, news, J, rfl, W, ?_, ?_, ?_, hst, F, N, h0, ?_, ?_⟩
  · intro hm
    rcases hfp _ hm with e | ⟨o, ho⟩
    · exact hIL e
    · exact (N _ (hJf _ _ _ h0 _ ho)).2.1 rfl
  · intro b hb; rw [List.mem_singleton.mp hb]; exact hI0
  · intro p hp hq; exact off p hp (List.mem_singleton.mp hq)
  · rintro i v m₁ news₁ s₁ own ⟨h, tk, rfl⟩ hi hP hJ hoff hown hget hall hst₁ F₁ N₁
    obtain ⟨oI, hoI⟩ := hIo _ _ hst₁
    have hio : (I, oI) ∈ own := hall I hIf hI0 oI hoI
    have N₂ : News h₀ env.locals h ((I, oI) :: news₁) := fun p hp => by
      rcases List.mem_cons.mp hp with rfl | hp
      · exact N₁ _ (List.mem_append_left _ hio)
      · exact N₁ _ (List.mem_append_right _ hp)
    have off₁ : LCg.Off1 I news₁ := off1_of fun p hp e => hoff p hp (List.mem_singleton.mpr e)
    refine wpAny_mono (turn i v m₁ news₁ h tk oI hi hP hJ off₁ F₁ N₂) (fun f s₂ hp => ?_) fun _ _ e => e
    have fin : LEnd h₀ env.locals I oI (J (i + 1)) { s with heap := h, toks := tk } s₂ → LoopStepU h₀ env.locals [I] own (J (i + 1)) { s with heap := h, toks := tk } .next s₂ := by
      rintro ⟨h', tk', m₂, news₂, rfl, F', N', o', j⟩
      refine ⟨rfl, h', tk', m₂, news₂, rfl, F', fun p hp => ?_, fun p hp hq => off1_mem o' p hp (List.mem_singleton.mp hq), j⟩
      rcases List.mem_append.mp hp with hp | hp
      · rcases hfp _ (hown p hp) with e | ⟨o, ho⟩
        · have h1 : h.get? p.1 = some p.2 := hget p hp
          have h2 : h.get? I = some oI := hoI
          rw [e, h2] at h1
          have : p = (I, oI) := Prod.ext e (Option.some.inj h1).symm
          rw [this]; exact N' _ List.mem_cons_self
        · have h1 : h.get? p.1 = some p.2 := hget p hp
          have h2 := (N₂ _ (List.mem_cons_of_mem _ (hJf _ _ _ hJ _ ho))).1
          rw [h1] at h2
          have : p = (p.1, o) := Prod.ext rfl (Option.some.inj h2)
          rw [this]; exact N' _ (List.mem_cons_of_mem _ (hJf _ _ _ j _ ho))
      · exact N' _ (List.mem_cons_of_mem _ hp)
    cases f with
    | ret v => exact .ret hp
    | brk => exact .brk hp
    | next => exact .next (fin hp)
    | cont => exact .cont (fin hp)
  · intro h' tk m' news' F' N' _ hJ
    exact done m' news' h' tk hJ F' N'

theorem forRange {r : Addr} {t₀ u₀ v₀ : Tok} {n : Nat} {m₀ : Str → Option Value} {news : Led} (J : Nat → (Str → Option Value) → Led → Prop)
    (hh : A.handled = none) (hr : IsRange s.heap r 0 n 1 t₀ u₀ v₀) (hsmall : Builtin.Range.small 0 n 1 = true) (hn : Builtin.Range.rangeSize 0 n 1 = (n : Int))
    (F : Fr h₀ env.locals s.heap m₀) (N : News h₀ env.locals s.heap news) (h0 : J 0 m₀ news)
    (turn : ∀ i t m₁ news₁ h tk I oI, i < n → J i m₁ news₁ → LCg.Off1 I news₁ → Fr h₀ env.locals h (fun y => if y = x then some (.int (i : Nat) t) else m₁ y) → News h₀ env.locals h ((I, oI) :: news₁) →
      wpAny (model prog w) A (execs body env) (LPost h₀ env.locals I oI (J (i + 1)) { s with heap := h, toks := tk } Q) E { s with heap := h, toks := tk })
    (done : ∀ m₁ news₁ h tk, J n m₁ news₁ → Fr h₀ env.locals h m₁ → News h₀ env.locals h news₁ → Q .next { s with heap := h, toks := tk }) :
    wpAny (model prog w) A (pyIter (.ref r)) (fun it s₂ => LoopAtV prog w A h₀ env x body Q E it s₂) E s := by
  refine wpAny_pyIter_range hr hsmall ?_
  refine loopM (fixed := []) J (LCg.range_walks hh 0 n) (fun b hb => .inl (List.mem_singleton.mp hb)) (fun i h st => ⟨_, st⟩) (fun _ _ _ _ _ hp => nomatch hp) (by show IsRangeIter _ _ _ _ _; rw [hn]; simpa using Heap.get?_push_size _ rfl)
    (F.push _) (fun p hp => ⟨Heap.get?_push_of_some _ (N p hp).1, (N p hp).2⟩) (next_is_new F) (Nat.ne_of_lt F.ns.lt) (fun p hp => Nat.ne_of_lt (Heap.lt_size (N p hp).1)) h0 ?_ ?_
  · rintro i v m₁ news₁ h tk oI hi ⟨t, rfl⟩ hJ off F₁ N₁
    rw [Int.zero_add] at F₁
    exact turn i t m₁ news₁ h tk _ oI hi hJ off F₁ N₁
  · exact done

theorem forList {l : Addr} {its : Array Value} {k : Nat} {m₀ : Str → Option Value} {news : Led} (J : Nat → (Str → Option Value) → Led → Prop)
    (hh : A.handled = none) (hl : (l, ({ cls := .type "list", data := .seq its k } : Obj)) ∈ news) (hJf : ∀ i m nw, J i m nw → (l, ({ cls := .type "list", data := .seq its k } : Obj)) ∈ nw)
    (F : Fr h₀ env.locals s.heap m₀) (N : News h₀ env.locals s.heap news) (h0 : J 0 m₀ news)
    (turn : ∀ i v m₁ news₁ h tk I oI, i < its.size → its[i]? = some v → J i m₁ news₁ → LCg.Off1 I news₁ → Fr h₀ env.locals h (fun y => if y = x then some v else m₁ y) → News h₀ env.locals h ((I, oI) :: news₁) →
      wpAny (model prog w) A (execs body env) (LPost h₀ env.locals I oI (J (i + 1)) { s with heap := h, toks := tk } Q) E { s with heap := h, toks := tk })
    (done : ∀ m₁ news₁ h tk, J its.size m₁ news₁ → Fr h₀ env.locals h m₁ → News h₀ env.locals h news₁ → Q .next { s with heap := h, toks := tk }) :
    wpAny (model prog w) A (pyIter (.ref l)) (fun it s₂ => LoopAtV prog w A h₀ env x body Q E it s₂) E s := by
  have hls : s.heap.IsList l its := News.isList N hl
  have hlt : l < s.heap.objs.size := Heap.lt_size (N _ hl).1
  refine wpAny_pyIter_list hls ?_
  refine loopM (fixed := [(l, ({ cls := .type "list", data := .seq its k } : Obj))]) J (Walks.list hh s.heap.objs.size l (Nat.ne_of_lt hlt) its) (fun b hb => ?_) (fun i h st => by obtain ⟨o, e, _⟩ := st.1; exact ⟨o, e⟩) (fun i m nw hj p hp => by rw [List.mem_singleton.mp hp]; exact hJf i m nw hj)
    ⟨⟨_, Heap.get?_push_size _ rfl, rfl, rfl⟩, hls.push _⟩
    (F.push _) (fun p hp => ⟨Heap.get?_push_of_some _ (N p hp).1, (N p hp).2⟩) (next_is_new F) (Nat.ne_of_lt F.ns.lt) (fun p hp => Nat.ne_of_lt (Heap.lt_size (N p hp).1)) h0 ?_ ?_
  · rcases List.mem_cons.mp hb with rfl | hb
    · exact .inl rfl
    · rw [List.mem_singleton.mp hb]; exact .inr ⟨_, List.mem_singleton.mpr rfl⟩
  · intro i v m₁ news₁ h tk oI hi hP hJ off F₁ N₁
    exact turn i v m₁ news₁ h tk _ oI hi hP hJ off F₁ N₁
  · exact done
end
end
section -- Pairs
abbrev pairObj (k v : Int) (t1 t2 : Tok) (n : Nat) : Obj := listOf #[.int k t1, .int v t2] n
/-- values that are pairs of ints, each a list of the ledger -/
inductive Prs (led : Led) : List Value → List (Int × Int) → Prop
  | nil : Prs led [] []
  | cons {a : Addr} {k v : Int} {t1 t2 : Tok} {n : Nat} {vs : List Value} {ps : List (Int × Int)} : (a, pairObj k v t1 t2 n) ∈ led → Prs led vs ps → Prs led (.ref a :: vs) ((k, v) :: ps)
theorem Prs.mono {led led' : Led} {vs : List Value} {ps : List (Int × Int)} (h : Prs led vs ps) (hs : ∀ p ∈ led, p ∈ led') : Prs led' vs ps := by
  induction h with
  | nil => exact .nil
  | cons hm _ ih => exact .cons (hs _ hm) ih
theorem Prs.append {led : Led} {vs us : List Value} {ps qs : List (Int × Int)} (h : Prs led vs ps) (h2 : Prs led us qs) : Prs led (vs ++ us) (ps ++ qs) := by
  induction h with
  | nil => exact h2
  | cons hm _ ih => exact .cons hm ih
theorem Prs.length {led : Led} {vs : List Value} {ps : List (Int × Int)} (h : Prs led vs ps) : vs.length = ps.length := by
  induction h with
  | nil => rfl
  | cons _ _ ih => simp [ih]
theorem Prs.snoc {led : Led} {vs : List Value} {ps : List (Int × Int)} {a : Addr} {k v : Int} {t1 t2 : Tok} {n : Nat} (h : Prs led vs ps) (hm : (a, pairObj k v t1 t2 n) ∈ led) : Prs led (vs ++ [.ref a]) (ps ++ [(k, v)]) := h.append (.cons hm .nil)
end
section -- Remove
open PySem.AutoSeq1 (wpAny_loadPart')
open PySem.MeetsSeq PySem.MeetsSeq2 PySem.MeetsSeq3 PySem.SeqAt

theorem rem_loop (l : Addr) (items : Array Value) (n : Nat) (dd : Option Addr) (sl : Array (Option Value)) (x : Value) (e : Value → Bool) (j : Nat) (hj : j < items.size) (hit : e items[j] = true) (hs1 : items.size ≤ sizeLine) (k : Nat) :
    ∀ i : Nat, i + k = j → (∀ m (hm : m < items.size), i ≤ m → m < j → e items[m] = false) → Meets (Builtin.«list.remove.loop» ⟨[.ref l, x, rawInt i], []⟩)
      (fun A R s => s.heap.get? l = some { cls := .type "list", dict := dd, data := .seq items n, slots := sl } ∧ (∀ y, y ∈ items → EqAt A.in1 s y x (e y)) ∧ R (.ok (.ret .none)) { s with heap := s.heap.update l (Obj.mapSeq fun xs => xs.eraseIdxIfInBounds j) }) := by
  induction k with
  | zero =>
    intro i hij hno prog w A R s h
    obtain ⟨hp, g, d, tk, os⟩ := s; obtain ⟨hl, he, h⟩ := h
    obtain rfl : i = j := by omega
    wp_walk using wpAny_loadPart' hl
    rw [show items[((i : Nat) : Int).toNat]? = some items[i] by simp [hj]]
    refine wpAny_bind (he _ (Array.getElem_mem hj) prog w _ _ ?_)
    rw [hit]
    have hz' : (items.eraseIdxIfInBounds i).size ≤ sizeLine + 1 := Nat.le_trans (size_erased items _) (Nat.le_succ_of_le hs1)
    wp_walk using (wpAny_updateSeq hl rfl (hz := hs1) (_hz' := hz')), wpAny_loadPart' hl
    simpa using h
  | succ k ih =>
    intro i hij hno prog w A R s h
    obtain ⟨hp, g, d, tk, os⟩ := s; obtain ⟨hl, he, h⟩ := h
    have hlt : i < items.size := by omega
    wp_walk using wpAny_loadPart' hl
    rw [show items[((i : Nat) : Int).toNat]? = some items[i] by simp [hlt]]
    refine wpAny_bind (he _ (Array.getElem_mem hlt) prog w _ _ ?_)
    rw [hno i hlt (Nat.le_refl _) (by omega)]
    wp_walk
    rw [show ((i : Int) + 1) = ((i + 1 : Nat) : Int) by push_cast; rfl]
    exact ⟨plainId_quiet plain_remove_loop _, codeAny_builtin entry_remove_loop (by
      rw [Around.under_plainId plain_remove_loop _]
      exact ih (i + 1) (by omega) (fun m hm h1 h2 => hno m hm (by omega) h2) prog w A R _ ⟨hl, he, h⟩)⟩

theorem rem_hit (l : Addr) (items : Array Value) (n : Nat) (dd : Option Addr) (sl : Array (Option Value)) (x : Value) (e : Value → Bool) (j : Nat) (hj : j < items.size) (hit : e items[j] = true) (hno : ∀ m (hm : m < items.size), m < j → e items[m] = false) (hs1 : items.size ≤ sizeLine) :
    Meets (Builtin.«list.remove» ⟨[.ref l, x], []⟩)
      (fun A R s => s.heap.get? l = some { cls := .type "list", dict := dd, data := .seq items n, slots := sl } ∧ (∀ y, y ∈ items → EqAt A.in1 s y x (e y)) ∧ R (.ok (.ret .none)) { s with heap := s.heap.update l (Obj.mapSeq fun xs => xs.eraseIdxIfInBounds j) }) := by
  intro prog w A R s h
  obtain ⟨hp, g, d, tk, os⟩ := s; obtain ⟨hl, he, h⟩ := h
  wp_walk using wpAny_loadPart' hl
  exact ⟨plainId_quiet plain_remove_loop _, codeAny_builtin entry_remove_loop (by
    rw [Around.under_plainId plain_remove_loop _]
    exact rem_loop l items n dd sl x e j hj hit hs1 j 0 (by omega) (fun m hm _ h2 => hno m hm h2) prog w A R _ ⟨hl, he, h⟩)⟩

theorem rem_loop_none (l : Addr) (items : Array Value) (n : Nat) (dd : Option Addr) (sl : Array (Option Value)) (x : Value) (k : Nat) :
    ∀ i : Nat, items.size - i = k → Meets (Builtin.«list.remove.loop» ⟨[.ref l, x, rawInt i], []⟩)
      (fun A R s => s.heap.get? l = some { cls := .type "list", dict := dd, data := .seq items n, slots := sl } ∧ (∀ y, y ∈ items → EqAt A.in1 s y x false) ∧ raisesNew "ValueError" A R s) := by
  induction k with
  | zero =>
    intro i hk prog w A R s h
    obtain ⟨hp, g, d, tk, os⟩ := s; obtain ⟨hl, he, h⟩ := h
    wp_walk using wpAny_loadPart' hl
    rw [show items[((i : Nat) : Int).toNat]? = none by simp; omega]
    wp_walk
    exact_raiseError plainExc_ValueError h.1 h.2
  | succ k ih =>
    intro i hk prog w A R s h
    obtain ⟨hp, g, d, tk, os⟩ := s; obtain ⟨hl, he, h⟩ := h
    have hlt : i < items.size := by omega
    wp_walk using wpAny_loadPart' hl
    rw [show items[((i : Nat) : Int).toNat]? = some items[i] by simp [hlt]]
    refine wpAny_bind (he _ (Array.getElem_mem hlt) prog w _ _ ?_)
    wp_walk
    rw [show ((i : Int) + 1) = ((i + 1 : Nat) : Int) by push_cast; rfl]
    exact ⟨plainId_quiet plain_remove_loop _, codeAny_builtin entry_remove_loop (by
      rw [Around.under_plainId plain_remove_loop _]
      exact ih (i + 1) (by omega) prog w A R _ ⟨hl, he, h⟩)⟩

theorem rem_miss (l : Addr) (items : Array Value) (n : Nat) (dd : Option Addr) (sl : Array (Option Value)) (x : Value) :
    Meets (Builtin.«list.remove» ⟨[.ref l, x], []⟩)
      (fun A R s => s.heap.get? l = some { cls := .type "list", dict := dd, data := .seq items n, slots := sl } ∧ (∀ y, y ∈ items → EqAt A.in1 s y x false) ∧ raisesNew "ValueError" A R s) := by
  intro prog w A R s h
  obtain ⟨hp, g, d, tk, os⟩ := s; obtain ⟨hl, he, h⟩ := h
  wp_walk using wpAny_loadPart' hl
  exact ⟨plainId_quiet plain_remove_loop _, codeAny_builtin entry_remove_loop (by
    rw [Around.under_plainId plain_remove_loop _]
    exact rem_loop_none l items n dd sl x _ 0 rfl prog w A R _ ⟨hl, he, h⟩)⟩

section
variable {prog : Program} {w : World} {A : Around} {E : Value → Shared → Prop} {s : Shared} {h₀ : Heap} {L : Addr} {m : Str → Option Value}
theorem mapSeq_list {its : Array Value} {c : Nat} {f : Array Value → Array Value} (h : ((f its).size == its.size) = false) : Obj.mapSeq f (listOf its c) = listOf (f its) (c + 1) := by
  show ({ cls := _, dict := _, data := .seq (f its) (if ((f its).size == its.size) = true then c else c + 1), slots := _ } : Obj) = _
  rw [h]; rfl
theorem remove_hitM {b : Addr} {its : Array Value} {c : Nat} {x : Value} {pre post : Led} {Q : Value → Shared → Prop} (e : Value → Bool) (j : Nat) (F : Fr h₀ L s.heap m) (N : News h₀ L s.heap (pre ++ (b, listOf its c) :: post)) (h1 : ∀ p ∈ pre, p.1 ≠ b) (h2 : ∀ p ∈ post, p.1 ≠ b) (hsz : its.size ≤ sizeLine)
    (hj : j < its.size) (hit : e its[j] = true) (hno : ∀ m (hm : m < its.size), m < j → e its[m] = false) (he : ∀ y, y ∈ its → EqAt A.in1 s y x (e y))
    (h : ∀ h', Fr h₀ L h' m → News h₀ L h' (pre ++ (b, listOf (its.eraseIdxIfInBounds j) (c + 1)) :: post) → Q .none { s with heap := h' }) : wpAny (model prog w) A (call (.builtin "list.remove") [.ref b, x]) Q E s := by
  have z := N (b, listOf its c) (List.mem_append.mpr (.inr (.head _)))
  have hne : ((its.eraseIdxIfInBounds j).size == its.size) = false := by
    unfold Array.eraseIdxIfInBounds
    rw [dif_pos hj, Array.size_eraseIdx]
    simp; omega
  have ho' : (s.heap.update b (Obj.mapSeq fun xs => xs.eraseIdxIfInBounds j)).get? b = some (listOf (its.eraseIdxIfInBounds j) (c + 1)) := by
    rw [Heap.get?_update_self _ z.1 (by rw [mapSeq_list hne]; rfl), mapSeq_list hne]
  refine call_meets PySem.F.slot_list_remove ⟨_, z.1, rfl⟩ PySem.F.entry_list_remove (PySem.F.args_list_remove_2 _ _) (rem_hit b its c none #[] x e j hj hit hno hsz) ⟨z.1, he, ?_⟩
  exact h _ (F.change (Heap.SameBut.update ..) z.2.1 z.2.2) (news_set N h1 h2 (Heap.SameBut.update ..) ho')
theorem remove_missM {b : Addr} {its : Array Value} {c : Nat} {x : Value} {Q : Value → Shared → Prop} (hb : s.heap.get? b = some (listOf its c)) (hh : A.handled = none)
    (he : ∀ y, y ∈ its → EqAt A.in1 s y x false) (h : ∀ h' tk e, Heap.NewExc s.heap h' e "ValueError" → E (.ref e) { s with heap := h', toks := tk }) : wpAny (model prog w) A (call (.builtin "list.remove") [.ref b, x]) Q E s :=
  call_meets F.slot_list_remove ⟨_, hb, rfl⟩ F.entry_list_remove (F.args_list_remove_2 _ _) (rem_miss b its c none #[] x) ⟨hb, he, hh, h⟩

/-- pairs of the ledger, compared -/
theorem eqAt_pairs {led : Led} (N : News h₀ L s.heap led) {a b : Addr} {k v k' v' : Int} {t1 t2 t1' t2' : Tok} {n n' : Nat} (ha : (a, pairObj k v t1 t2 n) ∈ led) (hb : (b, pairObj k' v' t1' t2' n') ∈ led) (hu : A.units < cLine) :
    EqAt A s (.ref a) (.ref b) (decide ((k, v) = (k', v'))) := by
  by_cases e : a = b
  · subst e
    have h1 := (N _ ha).1
    have h2 := (N _ hb).1
    rw [h1] at h2
    have h3 := Option.some.inj h2
    have h4 : (pairObj k v t1 t2 n).data = (pairObj k' v' t1' t2' n').data := congrArg Obj.data h3
    injection h4 with h4 _
    injection h4 with h4
    injection h4 with h5 h4
    injection h4 with h6 _
    injection h5 with h5 _
    injection h6 with h6 _
    subst h5 h6
    simpa using EqAt.same (A := A) (s := s) (.ref a)
  · have hla : s.heap.IsList a #[.int k t1, .int v t2] := News.isList N ha
    have hlb : s.heap.IsList b #[.int k' t1', .int v' t2'] := News.isList N hb
    have := RcAt.lists (A := A) (e := fun j => if j = 0 then k == k' else v == v') hla hlb rfl hu (fun j h1 h2 => by
      have hj : j < 2 := h1
      rcases (by omega : j = 0 ∨ j = 1) with rfl | rfl
      · exact EqAt.int_int k t1 k' t1'
      · exact EqAt.int_int v t2 v' t2')
    have e2 : ((List.range (#[Value.int k t1, Value.int v t2] : Array Value).size).all fun j => if j = 0 then k == k' else v == v') = decide ((k, v) = (k', v')) := by
      show ([0, 1].all fun j => if j = 0 then k == k' else v == v') = _
      by_cases h1 : k = k' <;> by_cases h2 : v = v' <;> simp [h1, h2]
    rw [e2] at this
    exact EqAt.of_refs e this
end
end
section -- Lem
theorem ite_self2 {k : Str} (m₀ : Str → Option Value) : m₀ = fun y => if y = k then m₀ k else m₀ y := by
  funext y; split
  · rename_i h; rw [h]
  · rfl
theorem ite_ite {k : Str} {a b : Option Value} (m₀ : Str → Option Value) : (fun y => if y = k then a else (fun y => if y = k then b else m₀ y) y) = fun y => if y = k then a else m₀ y := by
  funext y; by_cases h : y = k <;> simp [h]
theorem updF_at {d : Addr} {o : Obj} : ∀ {pre post : Led}, (∀ p ∈ pre, p.1 ≠ d) → (∀ p ∈ post, p.1 ≠ d) → UpdF d o (pre ++ (d, o) :: post) (fun o' => pre ++ (d, o') :: post)
  | [], _, _, h => .head h
  | _ :: _, _, h1, h2 => .tail (h1 _ List.mem_cons_self) (updF_at (fun p hp => h1 p (List.mem_cons_of_mem _ hp)) h2)
theorem strs_snoc {vs : List Value} {xs : List Str} {i : Nat} {x : Str} {t : Tok} (h : StrsAre vs (xs.take i)) (e : xs[i]? = some x) : StrsAre (vs ++ [.str x t]) (xs.take (i + 1)) := by
  rw [List.take_add_one, e]
  exact StrsAre.append' h (.cons x t .nil)
theorem allLt_left {b : Addr} : ∀ {l r : Led}, AllLt b (l ++ r) → AllLt b l
  | [], _, _ => trivial
  | _ :: _, _, h => ⟨h.1, allLt_left h.2⟩
end
section -- LoopT
section
variable {prog : Program} {w : World} {A : Around} {E : Value → Shared → Prop} {s : Shared} {env : PySem.Env} {h₀ : Heap} {x : Str} {px : Pos} {body : List Stmt} {Q : Flow → Shared → Prop}
theorem loopT {I : Addr} {fp : List Addr} {n : Nat} {P : Nat → Value → Prop} {St : Nat → Heap → Prop} {m₀ : Str → Option Value} {news fixed : Led} (J : Nat → (Str → Option Value) → Led → Prop)
    (W : Walks prog w A I fp [I] n P St) (hfp : ∀ b ∈ fp, b = I ∨ ∃ o, (b, o) ∈ fixed) (hIo : ∀ i h, St i h → ∃ o, h.get? I = some o) (hJf : ∀ i m nw, J i m nw → ∀ p ∈ fixed, p ∈ nw)
    (hst : St 0 s.heap) (F : Fr h₀ env.locals s.heap m₀) (N : News h₀ env.locals s.heap news) (hI0 : h₀.get? I = none) (hIL : env.locals ≠ I) (off : ∀ p ∈ news, p.1 ≠ I) (h0 : J 0 m₀ news)
    (turn : ∀ i v m₁ news₁ h tk oI, i < n → P i v → J i m₁ news₁ → LCg.Off1 I news₁ → Fr h₀ env.locals h m₁ → News h₀ env.locals h ((I, oI) :: news₁) →
      wpAny (model prog w) A (assign (.Name x px) env v) (fun _ s₂ => wpAny (model prog w) A (execs body env) (LPost h₀ env.locals I oI (J (i + 1)) { s with heap := h, toks := tk } Q) E s₂) E { s with heap := h, toks := tk })
    (done : ∀ m₁ news₁ h tk, J n m₁ news₁ → Fr h₀ env.locals h m₁ → News h₀ env.locals h news₁ → Q .next { s with heap := h, toks := tk }) :
    TurnsAt prog w A h₀ env (.Name x px) body Q E (.ref I) s := by
  have hIf : I ∈ fp := W.sub I (List.mem_singleton.mpr rfl)
  refine ⟨I, fp, [I], n, _, _, St, m₀, news, J, rfl, KTurns.ofWalks W (fun i v s Q E _ h => by unfold letOwnedTupleGo; exact wpAny_pure h), ?_, ?_, ?_, hst, F, N, h0, ?_, ?_⟩
  · intro hm
    rcases hfp _ hm with e | ⟨o, ho⟩
    · exact hIL e
    · exact (N _ (hJf _ _ _ h0 _ ho)).2.1 rfl
  · intro b hb; rw [List.mem_singleton.mp hb]; exact hI0
  · intro p hp hq; exact off p hp (List.mem_singleton.mp hq)
  · intro i v m₁ news₁ h tk own hi hP hJ hoff hown hget hall hst₁ F₁ N₁
    obtain ⟨oI, hoI⟩ := hIo _ _ hst₁
    have hio : (I, oI) ∈ own := hall I hIf hI0 oI hoI
    have N₂ : News h₀ env.locals h ((I, oI) :: news₁) := fun p hp => by
      rcases List.mem_cons.mp hp with rfl | hp
      · exact N₁ _ (List.mem_append_left _ hio)
      · exact N₁ _ (List.mem_append_right _ hp)
    have off₁ : LCg.Off1 I news₁ := off1_of fun p hp e => hoff p hp (List.mem_singleton.mpr e)
    refine wpAny_mono (turn i v m₁ news₁ h tk oI hi hP hJ off₁ F₁ N₂) (fun _ s₃ hp => wpAny_mono hp (fun f s₂ hp => ?_) fun _ _ e => e) fun _ _ e => e
    have fin : LEnd h₀ env.locals I oI (J (i + 1)) { s with heap := h, toks := tk } s₂ → LoopStepU h₀ env.locals [I] own (J (i + 1)) { s with heap := h, toks := tk } .next s₂ := by
      rintro ⟨h', tk', m₂, news₂, rfl, F', N', o', j⟩
      refine ⟨rfl, h', tk', m₂, news₂, rfl, F', fun p hp => ?_, fun p hp hq => off1_mem o' p hp (List.mem_singleton.mp hq), j⟩
      rcases List.mem_append.mp hp with hp | hp
      · rcases hfp _ (hown p hp) with e | ⟨o, ho⟩
        · have h1 : h.get? p.1 = some p.2 := hget p hp
          have h2 : h.get? I = some oI := hoI
          rw [e, h2] at h1
          have : p = (I, oI) := Prod.ext e (Option.some.inj h1).symm
          rw [this]; exact N' _ List.mem_cons_self
        · have h1 : h.get? p.1 = some p.2 := hget p hp
          have h2 := (N₂ _ (List.mem_cons_of_mem _ (hJf _ _ _ hJ _ ho))).1
          rw [h1] at h2
          have : p = (p.1, o) := Prod.ext rfl (Option.some.inj h2)
          rw [this]; exact N' _ (List.mem_cons_of_mem _ (hJf _ _ _ j _ ho))
      · exact N' _ (List.mem_cons_of_mem _ hp)
    cases f with
    | ret v => exact hp
    | brk => exact hp
    | next => exact fin hp
    | cont => exact fin hp
  · intro h' tk m' news' F' N' _ hJ
    exact done m' news' h' tk hJ F' N'
theorem forRangeT {r : Addr} {t₀ u₀ v₀ : Tok} {n : Nat} {m₀ : Str → Option Value} {news : Led} (J : Nat → (Str → Option Value) → Led → Prop)
    (hh : A.handled = none) (hr : IsRange s.heap r 0 n 1 t₀ u₀ v₀) (hsmall : Builtin.Range.small 0 n 1 = true) (hn : Builtin.Range.rangeSize 0 n 1 = (n : Int))
    (F : Fr h₀ env.locals s.heap m₀) (N : News h₀ env.locals s.heap news) (h0 : J 0 m₀ news)
    (turn : ∀ i t m₁ news₁ h tk I oI, i < n → J i m₁ news₁ → LCg.Off1 I news₁ → Fr h₀ env.locals h m₁ → News h₀ env.locals h ((I, oI) :: news₁) →
      wpAny (model prog w) A (assign (.Name x px) env (.int (i : Nat) t)) (fun _ s₂ => wpAny (model prog w) A (execs body env) (LPost h₀ env.locals I oI (J (i + 1)) { s with heap := h, toks := tk } Q) E s₂) E { s with heap := h, toks := tk })
    (done : ∀ m₁ news₁ h tk, J n m₁ news₁ → Fr h₀ env.locals h m₁ → News h₀ env.locals h news₁ → Q .next { s with heap := h, toks := tk }) :
    wpAny (model prog w) A (pyIter (.ref r)) (fun it s₂ => TurnsAt prog w A h₀ env (.Name x px) body Q E it s₂) E s := by
  refine wpAny_pyIter_range hr hsmall ?_
  refine loopT (fixed := []) J (LCg.range_walks hh 0 n) (fun b hb => .inl (List.mem_singleton.mp hb)) (fun i h st => ⟨_, st⟩) (fun _ _ _ _ _ hp => nomatch hp) (by show IsRangeIter _ _ _ _ _; rw [hn]; simpa using Heap.get?_push_size _ rfl)
    (F.push _) (fun p hp => ⟨Heap.get?_push_of_some _ (N p hp).1, (N p hp).2⟩) (next_is_new F) (Nat.ne_of_lt F.ns.lt) (fun p hp => Nat.ne_of_lt (Heap.lt_size (N p hp).1)) h0 ?_ ?_
  · rintro i v m₁ news₁ h tk oI hi ⟨t, rfl⟩ hJ off F₁ N₁
    rw [Int.zero_add]
    exact turn i t m₁ news₁ h tk _ oI hi hJ off F₁ N₁
  · exact done
end
end
section -- CompTup
def CompSrcTT (prog : Program) (w : World) (A : Around) (h₀ : Heap) (L : Addr) (m : Str → Option Value) (env : PySem.Env) (ct elt : Expr) (x : Str) (scope : Scope) (cl : List (Str × Addr)) (Q : Value → Shared → Prop) (xv : Value) (s₁ : Shared) : Prop :=
  ∃ ax its k news, xv = .ref ax ∧ A.handled = none ∧ Fr h₀ L s₁.heap m ∧ News h₀ L s₁.heap news ∧ (ax, ({ cls := .type "tuple", data := .seq its k } : Obj)) ∈ news ∧ its.size ≤ sizeLine ∧
      ∀ g, LCt.CompRestT prog w A h₀ L m env ct elt x scope cl { s₁ with heap := g } (fun nw => (ax, ({ cls := .type "tuple", data := .seq its k } : Obj)) ∈ nw) (fun i v => its[i]? = some v) (LCg.FinE h₀ L m { s₁ with heap := g } Q) its.size 0 [] news
section
variable {prog : Program} {w : World} {A : Around} {E : Value → Shared → Prop} {s : Shared} {h₀ : Heap} {L : Addr} {m : Str → Option Value} {env : PySem.Env}
theorem ListComp_TT {ct elt iter : Expr} {x : Str} {px : Pos} {scope : Scope} {cl : List (Str × Addr)} {pos : Pos} {Q : Value → Shared → Prop} (_F₀ : Fr h₀ L s.heap m)
    (hclos : closureFor scope env = pure cl) (hcell : ∀ y ∈ scope.names, y.2 ≠ .cell) (hkind : scope.kind = .function)
    (hnames : ∀ y ∈ scope.names, y.2 = .local → scope.names.lookup y.1 = some .local) (hx : scope.names.lookup x = some .local)
    (h : wpAny (model prog w) A (eval iter env) (CompSrcTT prog w A h₀ L m env ct elt x scope cl Q) E s)
    (hs : ∀ x, foldedSetIterable iter env x = pure x := by intro _; rfl) :
    wpAny (model prog w) A (eval (.ListComp elt [⟨.Name x px, iter, [ct], 0⟩] scope pos) env) Q E s := by
  rw [eval_ListComp]
  refine wpAny_comprehension_free (use := none) rfl hs hclos hkind hnames (wpAny_mono h (fun xv s₁ h₁ => ?_) fun _ _ e => e)
  obtain ⟨ax, its, k, news, rfl, hh, F, N, hm, hsz, R⟩ := h₁
  have hl : s₁.heap.IsTuple ax its := ⟨_, (N _ hm).1, rfl, _, rfl⟩
  have hlt : ax < s₁.heap.objs.size := Heap.lt_size (N _ hm).1
  refine wpAny_pyIter_tuple hl ?_
  have up : ∀ b o, s₁.heap.get? b = some o → (s₁.heap.push { cls := .type "tuple_iterator", data := .fields #[.ref ax, .int 0 0] }).get? b = some o := fun b o e => Heap.get?_push_of_some _ e
  refine LCt.block_T (RR := fun acc C => compPost (model prog w) A E none Q acc C) (S := fun nw => (ax, ({ cls := .type "tuple", data := .seq its k } : Obj)) ∈ nw) (Walks.tuple hh s₁.heap.objs.size ax (Nat.ne_of_lt hlt) its) hsz (fun i h st => by obtain ⟨o, e, _⟩ := st.1; exact ⟨o, e⟩)
    (fun i h h' o nw st e e' _ N' hS => ⟨by obtain ⟨o', q, r⟩ := st.1; rw [e] at q; cases q; exact ⟨o, e', r⟩, ⟨_, (N' _ hS).1, rfl, _, rfl⟩⟩) hcell hkind hx ⟨⟨_, Heap.get?_push_size _ rfl, rfl, rfl⟩, ⟨_, up _ _ (N _ hm).1, rfl, _, rfl⟩⟩ (fun b hb => ?_)
    (F.keeps up) (N.grown up) (Nat.ne_of_lt F.ns.lt) (next_is_new F) (fun p hp => Nat.ne_of_lt (Heap.lt_size (N p hp).1)) hm (R _) ?_
  · show b < (s₁.heap.push _).objs.size
    rw [Heap.size_push]
    rcases List.mem_cons.mp hb with rfl | hb
    · exact Nat.lt_succ_self _
    · rw [List.mem_singleton.mp hb]; exact Nat.lt_succ_of_lt hlt
  · intro D C h tk m' ys news' F' N' o1 hn hC₀ hD₀ hCL hDL hCD offC fin
    refine ⟨m', hn, fun h'' hs'' => fin D h'' tk (F'.change hs'' hCL hC₀) (fun p hp => ?_) o1⟩
    refine ⟨hs''.extBut _ _ ?_ (N' p hp).1, (N' p hp).2⟩
    rcases List.mem_cons.mp hp with rfl | hp
    · exact Ne.symm hCD
    · exact offC p hp
end
end
section -- CompCell
section
variable {prog : Program} {w : World} {A : Around} {E : Value → Shared → Prop} {s : Shared} {h₀ : Heap} {L : Addr} {m : Str → Option Value} {env : PySem.Env}
abbrev tupo (its : Array Value) (n : Nat) : Obj := { cls := .type "tuple", data := .seq its n }
theorem push1 {h : Heap} {news : Led} {o : Obj} (F : Fr h₀ L h m) (N : News h₀ L h news) (ho : o.isFreed = false) : Fr h₀ L (h.push o) m ∧ News h₀ L (h.push o) ((h.objs.size, o) :: news) ∧ ∀ p ∈ news, p.1 < h.objs.size := by
  refine ⟨F.push o, fun p hp => ?_, fun p hp => Heap.lt_size (N p hp).1⟩
  rcases List.mem_cons.mp hp with rfl | hp
  · exact ⟨Heap.get?_push_size _ ho, Nat.ne_of_gt F.ns.lt, next_is_new F⟩
  · exact ⟨Heap.get?_push_of_some _ (N p hp).1, (N p hp).2⟩
/-- the state between the turns of a comprehension whose variable is a cell -/
def CellTurn (h₀ : Heap) (L : Addr) (m : Str → Option Value) (s₁ : Shared) (I : Addr) (oI : Obj) (C : Addr) (oC : Obj) (D : Addr) (ys : List Value) (K : Addr) (oK : Obj) (J : Led → Prop) (s₂ : Shared) : Prop :=
  ∃ h' tk nw, s₂ = { s₁ with heap := h', toks := tk } ∧ Fr h₀ L h' m ∧ News h₀ L h' ((I, oI) :: (C, oC) :: (D, LCg.lst ys) :: (K, oK) :: nw) ∧ (∀ p ∈ nw, p.1 ≠ I ∧ p.1 ≠ C ∧ p.1 ≠ D ∧ p.1 ≠ K) ∧ J nw
theorem CellTurn.intro {s₁ : Shared} {I C D K : Addr} {oI oC oK : Obj} {ys : List Value} {J : Led → Prop} {h' : Heap} {tk : Nat} {nw : Led} (F : Fr h₀ L h' m) (N : News h₀ L h' ((I, oI) :: (C, oC) :: (D, LCg.lst ys) :: (K, oK) :: nw)) (off : ∀ p ∈ nw, p.1 ≠ I ∧ p.1 ≠ C ∧ p.1 ≠ D ∧ p.1 ≠ K) (j : J nw) :
    CellTurn h₀ L m s₁ I oI C oC D ys K oK J { s₁ with heap := h', toks := tk } := ⟨h', tk, nw, rfl, F, N, off, j⟩
def CellSrc (prog : Program) (w : World) (A : Around) (h₀ : Heap) (L : Addr) (m : Str → Option Value) (env : PySem.Env) (elt : Expr) (x : Str) (scope : Scope) (cl : List (Str × Addr)) (Fin : Shared → List Value → Led → Prop) (xv : Value) (s₁ : Shared) : Prop :=
  ∃ (ax : Addr) (its : Array Value) (nt : Nat) (news : Led) (J : Nat → List Value → Led → Prop), xv = .ref ax ∧ A.handled = none ∧ Fr h₀ L s₁.heap m ∧ News h₀ L s₁.heap news ∧ its.size ≤ sizeLine ∧
      (∀ i ys nw, J i ys nw → (ax, tupo its nt) ∈ nw) ∧ J 0 [] news ∧
      (∀ i v ys I oI C oC D K oK nw h tk (E' : Value → Shared → Prop), i < its.size → its[i]? = some v → J i ys nw → oK.data = .cell (some v) → Fr h₀ L h m → News h₀ L h ((I, oI) :: (C, oC) :: (D, LCg.lst ys) :: (K, oK) :: nw) → (∀ p ∈ nw, p.1 ≠ I ∧ p.1 ≠ C ∧ p.1 ≠ D ∧ p.1 ≠ K) →
        wpAny (model prog w) A (eval elt (compEnvC scope ((x, K) :: cl) C env)) (fun y s₂ => CellTurn h₀ L m { s₁ with heap := h, toks := tk } I oI C oC D ys K oK (J (i + 1) (ys ++ [y])) s₂) E' { s₁ with heap := h, toks := tk }) ∧
      (∀ ys nw, J its.size ys nw → Fin s₁ ys nw)
theorem comp_cell {elt iter : Expr} {x : Str} {px : Pos} {scope : Scope} {cl : List (Str × Addr)} {pos cpos : Pos} {Fin : Shared → List Value → Led → Prop} {use : Option (Value → Sem Unit)} {Q : Value → Shared → Prop}
    (hclos : closureFor scope env = pure cl) (hkind : scope.kind = .function)
    (hnames : ∀ y ∈ scope.names, y.2 = .local → scope.names.lookup y.1 = some .local) (hx : (relabel scope env).names.lookup x = some .cell)
    (hcells : ∀ n, cellsFrom n scope.names cl = (x, n) :: cl) (hpush : ∀ h, pushCells h scope.names = h.push { cls := .type "cell", data := .cell none })
    (h : wpAny (model prog w) A (eval iter env) (CellSrc prog w A h₀ L m env elt x scope cl Fin) E s)
    (hfin : ∀ s₁ ys nw D C m' h tk, Fin s₁ ys nw → Fr h₀ L h m → News h₀ L h ((D, LCg.lst ys) :: nw) → LCg.Off1 D nw → h.Ns C m' → h₀.get? C = none → C ≠ L → D ≠ L → C ≠ D → (∀ p ∈ nw, p.1 ≠ C) → compPost (model prog w) A E use Q (.ref D) C (.ok .next) { s₁ with heap := h, toks := tk })
    (hs : ∀ x, foldedSetIterable iter env x = pure x := by intro _; rfl) :
    wpAny (model prog w) A (comprehension (.ListComp elt [⟨.Name x px, iter, [], 0⟩] scope pos) scope env cpos (newList []) false (eval iter env) use) Q E s := by
  refine wpAny_comprehension_free (use := use) rfl hs hclos hkind hnames (wpAny_mono h (fun xv s₁ h₁ => ?_) fun _ _ e => e)
  obtain ⟨ax, its, nt, news, J, rfl, hh, F, N, hsz, hJm, hJ0, turn, fin⟩ := h₁
  have hm0 := hJm _ _ _ hJ0
  have hT0 : s₁.heap.IsTuple ax its := ⟨_, (N _ hm0).1, rfl, _, rfl⟩
  refine wpAny_pyIter_tuple hT0 ?_
  obtain ⟨F1, N1, l1⟩ := push1 (o := { cls := .type "tuple_iterator", data := .fields #[.ref ax, .int 0 0] }) F N rfl
  have hit : (s₁.heap.push { cls := .type "tuple_iterator", data := .fields #[.ref ax, .int 0 0] }).IsTupleIter s₁.heap.objs.size ax 0 := ⟨_, Heap.get?_push_size _ rfl, rfl, rfl⟩
  generalize s₁.heap.push { cls := .type "tuple_iterator", data := .fields #[.ref ax, .int 0 0] } = h1 at F1 N1 hit ⊢
  generalize s₁.heap.objs.size = I at N1 l1 hit ⊢
  refine wpAny_newObj_type ?_
  obtain ⟨F2, N2, l2⟩ := push1 (o := LCg.lst []) F1 N1 rfl
  have hit2 : (h1.push (LCg.lst [])).IsTupleIter I ax 0 := by obtain ⟨o, e, r⟩ := hit; exact ⟨o, Heap.get?_push_of_some _ e, r⟩
  show wpAny _ A _ _ E { s₁ with heap := h1.push (LCg.lst []) }
  show wpAny _ A _ (fun (cenv : PySem.Env) s₄ => codeAny _ A (Code.compStart _ 0 _ (Value.ref h1.objs.size) _) (compPost _ A E use Q (Value.ref h1.objs.size) cenv.locals) s₄) E _
  generalize h1.push (LCg.lst []) = h2 at F2 N2 hit2 ⊢
  generalize h1.objs.size = D at N2 l2 ⊢
  simp only [newFunctionEnv, Option.isSome_some, if_true]
  refine wpAny_bind (wpAny_alloc ?_)
  refine wpAny_bind (wpAny_layCells _ (fun name kind cells => by cases hkc : kind == NameKind.cell <;> simp [hkc]) _ _ _ _ ?_)
  obtain ⟨F3, N3, l3⟩ := push1 (o := { cls := .type "dict", data := .dict #[] }) F2 N2 rfl
  obtain ⟨F4, N4, l4⟩ := push1 (o := { cls := .type "cell", data := .cell none }) F3 N3 rfl
  rw [hcells, hpush]
  have hns : ((h2.push { cls := .type "dict", data := .dict #[] }).push { cls := .type "cell", data := .cell none }).Ns h2.objs.size fun _ => none := (Heap.Ns.new h2 _).push _
  have hit4 : ((h2.push { cls := .type "dict", data := .dict #[] }).push { cls := .type "cell", data := .cell none }).IsTupleIter I ax 0 := by obtain ⟨o, e, r⟩ := hit2; exact ⟨o, Heap.get?_push_of_some _ (Heap.get?_push_of_some _ e), r⟩
  dsimp only at *
  generalize (h2.push { cls := .type "dict", data := .dict #[] }).push { cls := .type "cell", data := .cell none } = h4 at F4 N4 hns hit4 ⊢
  generalize (h2.push { cls := .type "dict", data := .dict #[] }).objs.size = K at N4 l4 ⊢
  generalize h2.objs.size = C at N3 l3 N4 l4 hns ⊢
  refine wpAny_bind (wpAny_pure (wpAny_pure ?_))
  have dIC : I ≠ C := Nat.ne_of_lt (l3 _ (List.mem_cons_of_mem _ List.mem_cons_self))
  have dID : I ≠ D := Nat.ne_of_lt (l2 _ List.mem_cons_self)
  have dDC : D ≠ C := Nat.ne_of_lt (l3 _ List.mem_cons_self)
  have dCK : C ≠ K := Nat.ne_of_lt (l4 _ List.mem_cons_self)
  have dDK : D ≠ K := Nat.ne_of_lt (l4 _ (List.mem_cons_of_mem _ List.mem_cons_self))
  have dIK : I ≠ K := Nat.ne_of_lt (l4 _ (List.mem_cons_of_mem _ (List.mem_cons_of_mem _ List.mem_cons_self)))
  have off0 : ∀ p ∈ news, p.1 ≠ I ∧ p.1 ≠ C ∧ p.1 ≠ D ∧ p.1 ≠ K := fun p hp => ⟨Nat.ne_of_lt (l1 p hp), Nat.ne_of_lt (l3 p (List.mem_cons_of_mem _ (List.mem_cons_of_mem _ hp))), Nat.ne_of_lt (l2 p (List.mem_cons_of_mem _ hp)), Nat.ne_of_lt (l4 p (List.mem_cons_of_mem _ (List.mem_cons_of_mem _ (List.mem_cons_of_mem _ hp))))⟩
  obtain ⟨oI0, heI, rI⟩ := id hit4
  have hoC : LCg.NsObj { cls := .type "dict", data := .dict #[] } fun _ => none := ⟨#[], 0, rfl, fun _ he => by simp at he, fun _ => rfl⟩
  have N5 : News h₀ L h4 ((I, oI0) :: (C, { cls := .type "dict", data := .dict #[] }) :: (D, LCg.lst []) :: (K, { cls := .type "cell", data := .cell none }) :: news) := by
    intro p hp
    rcases List.mem_cons.mp hp with rfl | hp
    · have z := N4 (I, _) (List.mem_cons_of_mem _ (List.mem_cons_of_mem _ (List.mem_cons_of_mem _ List.mem_cons_self)))
      exact ⟨heI, z.2⟩
    · rcases List.mem_cons.mp hp with rfl | hp
      · exact N4 _ (List.mem_cons_of_mem _ List.mem_cons_self)
      · rcases List.mem_cons.mp hp with rfl | hp
        · exact N4 _ (List.mem_cons_of_mem _ (List.mem_cons_of_mem _ List.mem_cons_self))
        · rcases List.mem_cons.mp hp with rfl | hp
          · exact N4 _ List.mem_cons_self
          · exact N4 _ (List.mem_cons_of_mem _ (List.mem_cons_of_mem _ (List.mem_cons_of_mem _ (List.mem_cons_of_mem _ hp))))
  have loop : ∀ s₃ : Shared, s₃ = { s₁ with heap := h4 } →
      codeAny (model prog w) A (.compLoop (.ListComp elt [⟨.Name x px, iter, [], 0⟩] scope pos) 0 (.ref I) (.ref D) (compEnvC scope ((x, K) :: cl) C env)) (compPost (model prog w) A E use Q (.ref D) C) s₃ := by
    rintro s₃ rfl
    refine codeAny_compLoop_tests
      (fun k s' => ∃ h' tk i ys oI oC oK nw mC, s' = { s₁ with heap := h', toks := tk } ∧ i ≤ its.size ∧ k = its.size + 1 - i ∧ ys.length = i ∧ h'.IsTupleIter I ax i ∧ LCg.NsObj oC mC ∧ (∃ v, oK.data = .cell v) ∧ Fr h₀ L h' m ∧
        News h₀ L h' ((I, oI) :: (C, oC) :: (D, LCg.lst ys) :: (K, oK) :: nw) ∧ (∀ p ∈ nw, p.1 ≠ I ∧ p.1 ≠ C ∧ p.1 ≠ D ∧ p.1 ≠ K) ∧ J i ys nw) ?_ (its.size + 1)
      ⟨h4, _, 0, [], _, _, _, news, _, rfl, Nat.zero_le _, rfl, rfl, hit4, hoC, ⟨none, rfl⟩, F4, N5, off0, hJ0⟩
    rintro k s' ⟨h', tk, i, ys, oI, oC, oK, nw, mC, rfl, hi, rfl, hyl, hit', hoC', ⟨vK, hvK⟩, F', N', off', hJ'⟩
    have hm' := hJm _ _ _ hJ'
    have hT' : h'.IsTuple ax its := ⟨_, (N' _ (List.mem_cons_of_mem _ (List.mem_cons_of_mem _ (List.mem_cons_of_mem _ (List.mem_cons_of_mem _ hm'))))).1, rfl, _, rfl⟩
    have zI := N' (I, oI) List.mem_cons_self
    have zK := N' (K, oK) (List.mem_cons_of_mem _ (List.mem_cons_of_mem _ (List.mem_cons_of_mem _ List.mem_cons_self)))
    by_cases hlt : i < its.size
    · refine wpAny_pyNext_tuple_item hit' hT' (x := its[i]) (by simp [hlt]) fun h2' hit2' hs2 => ?_
      obtain ⟨oI2, heI2, rI2⟩ := id hit2'
      have F2' : Fr h₀ L h2' m := F'.change hs2 zI.2.1 zI.2.2
      have N2' : News h₀ L h2' ((I, oI2) :: (C, oC) :: (D, LCg.lst ys) :: (K, oK) :: nw) := by
        refine news_set (pre := []) N' (fun _ hp => nomatch hp) (fun p hp => ?_) hs2 heI2
        rcases List.mem_cons.mp hp with rfl | hp
        · exact dIC.symm
        · rcases List.mem_cons.mp hp with rfl | hp
          · exact dID.symm
          · rcases List.mem_cons.mp hp with rfl | hp
            · exact dIK.symm
            · exact (off' p hp).1
      have zK2 := N2' (K, oK) (List.mem_cons_of_mem _ (List.mem_cons_of_mem _ (List.mem_cons_of_mem _ List.mem_cons_self)))
      refine wpAny_assign_Name (wpAny_storeName_cell (v₀ := vK) (by show scope.kind = _; exact hkind) hx (by simp [compEnvC]) ⟨oK, zK2.1, hvK⟩ fun h3' hv3 hs3 => ?_)
      obtain ⟨oK3, heK3, dK3⟩ := hv3
      have F3' : Fr h₀ L h3' m := F2'.change hs3 zK2.2.1 zK2.2.2
      have N3' : News h₀ L h3' ((I, oI2) :: (C, oC) :: (D, LCg.lst ys) :: (K, oK3) :: nw) := by
        refine news_set (pre := [(I, oI2), (C, oC), (D, LCg.lst ys)]) N2' (fun p hp => ?_) (fun p hp => (off' p hp).2.2.2) hs3 heK3
        simp only [List.mem_cons, List.not_mem_nil, or_false] at hp
        rcases hp with rfl | rfl | rfl
        · exact dIK
        · exact dCK
        · exact dDK
      refine wpAny_tests_nil ?_
      simp only [if_true]
      refine wpAny_mono (turn i its[i] ys I oI2 C oC D K oK3 nw h3' _ _ hlt (by simp [hlt]) hJ' dK3 F3' N3' off') (fun y s₄ h₄ => ?_) fun _ _ e => e
      obtain ⟨h₄, tk₄, nw₄, rfl, F₄, N₄, off₄, hJ₄⟩ := h₄
      have zI4 := N₄ (I, oI2) List.mem_cons_self
      have zD4 := N₄ (D, LCg.lst ys) (List.mem_cons_of_mem _ (List.mem_cons_of_mem _ List.mem_cons_self))
      refine append_at (hsz := by show ys.toArray.size ≤ sizeLine; rw [List.size_toArray, hyl]; exact Nat.le_trans hi hsz) zD4.1 fun h₅ hs₅ hD₅ => ?_
      have N5' : News h₀ L h₅ ((I, oI2) :: (C, oC) :: (D, LCg.lst (ys ++ [y])) :: (K, oK3) :: nw₄) := by
        refine news_set (pre := [(I, oI2), (C, oC)]) N₄ (fun p hp => ?_) (fun p hp => ?_) hs₅ (hD₅.trans (congrArg some (LCg.lst_snoc ys y)))
        · simp only [List.mem_cons, List.not_mem_nil, or_false] at hp
          rcases hp with rfl | rfl
          · exact dID
          · exact dDC.symm
        · rcases List.mem_cons.mp hp with rfl | hp
          · exact dDK.symm
          · exact (off₄ p hp).2.2.1
      refine ⟨its.size + 1 - (i + 1), by omega, h₅, tk₄, i + 1, ys ++ [y], oI2, oC, oK3, nw₄, mC, rfl, hlt, rfl, by rw [List.length_append, List.length_singleton, hyl], ⟨oI2, (N5' _ List.mem_cons_self).1, rI2⟩, hoC', ⟨_, dK3⟩, F₄.change hs₅ zD4.2.1 zD4.2.2, N5', off₄, hJ₄⟩
    · obtain rfl : i = its.size := Nat.le_antisymm hi (Nat.not_lt.mp hlt)
      refine wpAny_pyNext_tuple_end hh hit' hT' (by simp) fun h2' he2 => ?_
      have keepN : ∀ p ∈ (C, oC) :: (D, LCg.lst ys) :: (K, oK) :: nw, p.1 ≠ I := fun p hp => by
        rcases List.mem_cons.mp hp with rfl | hp
        · exact dIC.symm
        · rcases List.mem_cons.mp hp with rfl | hp
          · exact dID.symm
          · rcases List.mem_cons.mp hp with rfl | hp
            · exact dIK.symm
            · exact (off' p hp).1
      have F2' : Fr h₀ L h2' m := ⟨F'.ns.at' fun o e => he2 L o (Ne.symm zI.2.1) e, fun b o e => he2 b o (fun q => by rw [q, zI.2.2] at e; cases e) (F'.keep b o e), F'.above⟩
      have N2' : News h₀ L h2' ((C, oC) :: (D, LCg.lst ys) :: (K, oK) :: nw) := fun p hp => ⟨he2 _ _ (keepN p hp) (N' p (List.mem_cons_of_mem _ hp)).1, (N' p (List.mem_cons_of_mem _ hp)).2⟩
      have zC := N2' (C, oC) List.mem_cons_self
      refine hfin s₁ ys nw D C mC h2' _ (fin ys nw hJ') F2' (fun p hp => N2' p (List.mem_cons_of_mem _ (by
        rcases List.mem_cons.mp hp with rfl | hp
        · exact List.mem_cons_self
        · exact List.mem_cons_of_mem _ (List.mem_cons_of_mem _ hp)))) (off1_of fun p hp => (off' p hp).2.2.1) (hoC'.ns zC.1) zC.2.2 zC.2.1 (N2' (D, LCg.lst ys) (List.mem_cons_of_mem _ List.mem_cons_self)).2.1 dDC.symm (fun p hp => (off' p hp).2.1)
  exact codeAny_compStart_list (loop _ rfl) (wpAny_pyIter_tupleiter hit4 (loop _ rfl))
theorem Assign_cell {elt iter : Expr} {x y : Str} {px py : Pos} {scope : Scope} {cl : List (Str × Addr)} {pos spos : Pos} {Q : Flow → Shared → Prop} (_F₀ : Fr h₀ L s.heap m) (hLe : env.locals = L)
    (hsw : swapsWith (.ListComp elt [⟨.Name x px, iter, [], 0⟩] scope pos) (some (.Name y py)) spos.line env = pure true)
    (hclos : closureFor scope env = pure cl) (hkind : scope.kind = .function)
    (hnames : ∀ z ∈ scope.names, z.2 = .local → scope.names.lookup z.1 = some .local) (hx : (relabel scope env).names.lookup x = some .cell)
    (hcells : ∀ n, cellsFrom n scope.names cl = (x, n) :: cl) (hpush : ∀ h, pushCells h scope.names = h.push { cls := .type "cell", data := .cell none })
    (hy : env.kindOf y = some .local) (hp : (env.scope.kind == .class || (env.scope.kind == .module && env.locals != env.globals)) = false)
    (h : wpAny (model prog w) A (eval iter env) (CellSrc prog w A h₀ L m env elt x scope cl (fun s₁ ys nw => LCg.FinA h₀ L m s₁ y Q ys nw)) E s)
    (hs : ∀ x, foldedSetIterable iter env x = pure x := by intro _; rfl) :
    wpAny (model prog w) A (exec (.Assign [.Name y py] (.ListComp elt [⟨.Name x px, iter, [], 0⟩] scope pos) spos) env) Q E s := by
  subst hLe
  rw [exec_Assign_Name_used _ _ _ _ hsw]
  refine wpAny_bind (wpAny_standAt (wpAny_bind ?_))
  show wpAny _ A (do let _ ← comprehension (.ListComp elt [⟨.Name x px, iter, [], 0⟩] scope pos) scope env _ (newList []) false (eval iter env) (some (assign (.Name y py) env))) _ _ s
  refine wpAny_bind (wpAny_mono (comp_cell (use := some (assign (.Name y py) env)) (Q := fun _ s' => Q .next s') hclos hkind hnames hx hcells hpush h (fun s₁ ys nw D C m' h' tk fin F' N' o1 hn hC₀ hCL hDL hCD offC => ?_) hs) (fun _ s' hq => wpAny_pure (wpAny_pure hq)) fun _ _ e => e)
  show wpAny _ A (assign (.Name y py) env (.ref D)) _ _ _
  refine wpAny_assign_Name (wpAny_storeName_local hy F'.ns (fun h₂ hn₂ hs₂ => ?_) hp)
  have hL₀ : h₀.get? env.locals = none := Heap.get?_none_of_le F'.above
  have F₂ : Fr h₀ env.locals h₂ (fun z => if z = y then some (.ref D) else m z) := ⟨hn₂, fun b o e => hs₂.extBut b o (fun q => by rw [q, hL₀] at e; cases e) (F'.keep b o e), F'.above⟩
  refine ⟨m', hn.sameBut hs₂ hCL, fun h'' hs'' => fin D h'' _ (F₂.change hs'' hCL hC₀) (fun p hp => ?_) o1⟩
  have z : h₂.get? p.1 = some p.2 := hs₂.extBut _ _ (N' p hp).2.1 (N' p hp).1
  refine ⟨hs''.extBut _ _ ?_ z, (N' p hp).2⟩
  rcases List.mem_cons.mp hp with rfl | hp
  · exact Ne.symm hCD
  · exact offC p hp
end
end
local macro_rules | `(tactic| news_mem) => `(tactic| first | (with_reducible assumption) | (with_reducible exact List.mem_cons_self) | ((with_reducible refine List.mem_cons_of_mem _ ?_); news_mem))
local macro_rules | `(tactic| k_mem) => `(tactic| news_mem)
local macro_rules | `(tactic| walk_at "CompEnd") => `(tactic| (refine LCg.CompEnd.intro (by assumption) (by assumption) _ (fun p hp => hp) (by first | assumption | (simp only [LCg.Off3, and_true]; assumption)) (by first | trivial | lcg_src) ?_))
local macro_rules | `(tactic| lcg_sub) => `(tactic| first | exact List.forall_mem_nil _ | ((refine List.forall_mem_cons.mpr ⟨by news_mem, ?_⟩); lcg_sub) | (intro p hp; repeat (first | exact hp | refine List.mem_cons_of_mem _ ?_)))
theorem words_all : True := by
  w_top off
  k_with "m_ctr" => (unfold Ctr; k_fill; intro dp un gd cn cs a ccd cl outer A₀ base h₀ L m s Q E B F X N T hk hd hu hret; refine wpAny_call ?_)
  k_with "m_enter" => k_dflt (refine' code_def ?k1 ?k2 ?k3 ?k4 ?k5 ?kA ?kF ?kK ?k6 ?k7 ?k8 ?k9 ?kB ?_ ?c2 ?c3 ?c4 ?c5; (case kA => exact rfl); (case kF => exact rfl); (case kK => assumption); (case k1 => k_asm); (case k2 => k_asm); (case k3 => k_asm); (case k4 => k_asm); (case k5 => k_asm); (case k6 => k_is); (case k7 => k_is); (case k8 => ktr_room); (case k9 => exact BindsTo.of_eq rfl); (case c5 => decide); (case kB => exact locs rfl); (case c2 => exact rfl); (case c3 => exact rfl); (case c4 => exact rfl); k_whole; intro g1 L1 hp1 FG1 F1 N1 B1 X1 T1; (try dsimp only); (try (generalize s.toks + List.length _ = tk1)); (try k_fold))
  k_with "m_enterC" => k_dflt (refine' code_defC ?k1 ?k2 ?k3 ?k4 ?k5 ?kA ?kF ?kK ?k6 ?k7 ?k8 ?k9 ?kB ?kD ?_ ?c2 ?c3 ?c4; (case kA => exact rfl); (case kF => exact rfl); (case kK => assumption); (case k1 => k_asm); (case k2 => k_asm); (case k3 => k_asm); (case k4 => k_asm); (case k5 => k_asm); (case k6 => k_is); (case k7 => k_is); (case k8 => ktr_room); (case k9 => exact BindsTo.of_eq rfl); (case kB => exact rfl); (case kD => decide +kernel); (case c2 => exact rfl); (case c3 => exact rfl); (case c4 => exact rfl); k_whole; intro g1 L1 hp1 tk1 cells1 FG1 F1 N1 Y1 B1 X1 T1 l1; (try dsimp only); (try k_fold))
  k_with "go" => (repeat' (first | (k_unfold; (try dsimp only)) | ((fail_if_success (with_reducible show wpAny _ _ (eval (PySem.Expr.ListComp _ _ _ _) _) _ _ _)); (fail_if_success (with_reducible show wpAny _ _ (exec (PySem.Stmt.Assign _ (PySem.Expr.ListComp _ _ _ _) _) _) _ _ _)); (fail_if_success (with_reducible show wpAny _ _ (call (Value.ref _) _) _ _ _)); (fail_if_success (with_reducible show wpAny _ _ (exec (PySem.Stmt.For _ _ _ _ _) _) _ _ _)); (fail_if_success (with_reducible show wpAny _ _ (pyIter _) _ _ _)); (fail_if_success (with_reducible show LCg.CompSrc _ _ _ _ _ _ _ _ _ _ _ _ _ _)); (fail_if_success (with_reducible show LCt.CompSrcT _ _ _ _ _ _ _ _ _ _ _ _ _ _ _)); (first | walk1 | (dsimp only; walk1)))))
  k_with "compU" => k_dflt (refine LCg.ListComp_U (F₀ := by k_asm) (by with_unfolding_all rfl) (by decide) (by rfl) (by decide) (by rfl) ?_)
  k_with "compT" => k_dflt (refine LCt.ListComp_T (F₀ := by k_asm) (by with_unfolding_all rfl) (by decide) (by rfl) (by decide) (by rfl) ?_)
  k_with "compAU" => k_dflt (refine LCg.Assign_ListComp_U (F₀ := by k_asm) (by rfl) (by with_unfolding_all rfl) (by with_unfolding_all rfl) (by decide) (by rfl) (by decide) (by rfl) (by rfl) (by rfl) ?_)
  k_with "compAT" => k_dflt (refine LCt.Assign_ListComp_T (F₀ := by k_asm) (by rfl) (by with_unfolding_all rfl) (by with_unfolding_all rfl) (by decide) (by rfl) (by decide) (by rfl) (by rfl) (by rfl) ?_)
  k_with "drop" => ((rename News _ _ _ _ => kNN); (refine cb_drop kNN ?_); lcg_sub)
  k_with "turn" => (refine TurnOk.intro (by assumption) (by assumption) (fun p hp => hp) ?_)
  k_with "ret" => ((case kB => k_asm); (case kF => k_asm); (case kX => k_asm); (case kN => k_asm); (case kT => k_asm); (case kK => first | exact rfl | assumption); (case kd => ktr_room); (case ku => ktr_units))
  k_with "for" => (refine' For_invVF (by k_asm) ?kx ?kp ?_; (case kx => exact rfl); (case kp => exact rfl))
  k_with "goN" => (repeat' (first | (k_unfold; (try dsimp only)) | ((fail_if_success (with_reducible show wpAny _ _ (eval (PySem.Expr.ListComp _ _ _ _) _) _ _ _)); (fail_if_success (with_reducible show wpAny _ _ (exec (PySem.Stmt.Assign _ (PySem.Expr.ListComp _ _ _ _) _) _) _ _ _)); (fail_if_success (with_reducible show wpAny _ _ (call (Value.ref _) _) _ _ _)); (fail_if_success (with_reducible show wpAny _ _ (exec (PySem.Stmt.For _ _ _ _ _) _) _ _ _)); (fail_if_success (with_reducible show wpAny _ _ (pyIter _) _ _ _)); (fail_if_success (with_reducible show wpAny _ _ (newList _) _ _ _)); (fail_if_success (with_reducible show LCg.CompSrc _ _ _ _ _ _ _ _ _ _ _ _ _ _)); (fail_if_success (with_reducible show LCt.CompSrcT _ _ _ _ _ _ _ _ _ _ _ _ _ _ _)); (first | walk1 | (dsimp only; walk1)))))
  k_with "goW" => (repeat' (first | (k_unfold; (try dsimp only)) | ((fail_if_success (with_reducible show wpAny _ _ (eval (PySem.Expr.ListComp _ _ _ _) _) _ _ _)); (fail_if_success (with_reducible show wpAny _ _ (exec (PySem.Stmt.Assign _ (PySem.Expr.ListComp _ _ _ _) _) _) _ _ _)); (fail_if_success (with_reducible show wpAny _ _ (call (Value.ref _) _) _ _ _)); (fail_if_success (with_reducible show wpAny _ _ (exec (PySem.Stmt.For _ _ _ _ _) _) _ _ _)); (fail_if_success (with_reducible show wpAny _ _ (pyIter _) _ _ _)); (fail_if_success (with_reducible show wpAny _ _ (newList _) _ _ _)); (fail_if_success (with_reducible show wpAny _ _ (exec (PySem.Stmt.While _ _ _ _) _) _ _ _)); (fail_if_success (with_reducible show wpAny _ _ (exec (PySem.Stmt.Try _ _ _ _ _) _) _ _ _)); (fail_if_success (with_reducible show wpAny _ _ (truthy (Value.ref _)) _ _ _)); (fail_if_success (with_reducible show wpAny _ _ (call (Value.builtin _) _) _ _ _)); (fail_if_success (with_reducible show wpAny _ _ (getMethod (Value.ref _) _ _) _ _ _)); (fail_if_success (with_reducible show wpAny _ _ (noteFrame _ _) _ _ _)); (fail_if_success (with_reducible show wpAny _ _ (handleBy _ _ _) _ _ _)); (fail_if_success (with_reducible show TI.LeaveI _ _)); (fail_if_success (with_reducible show LoopStep3 _ _ _ _ _ _ _ _ _ _)); (fail_if_success (with_reducible show LCg.CompSrc _ _ _ _ _ _ _ _ _ _ _ _ _ _)); (fail_if_success (with_reducible show LCt.CompSrcT _ _ _ _ _ _ _ _ _ _ _ _ _ _ _)); (first | walk1 | (dsimp only; walk1)))))
  k_with "goS" => (repeat' (first | (k_unfold; (try dsimp only)) | ((fail_if_success (with_reducible show wpAny _ _ (eval (PySem.Expr.ListComp _ _ _ _) _) _ _ _)); (fail_if_success (with_reducible show wpAny _ _ (exec (PySem.Stmt.Assign _ (PySem.Expr.ListComp _ _ _ _) _) _) _ _ _)); (fail_if_success (with_reducible show wpAny _ _ (call (Value.ref _) _) _ _ _)); (fail_if_success (with_reducible show wpAny _ _ (exec (PySem.Stmt.For _ _ _ _ _) _) _ _ _)); (fail_if_success (with_reducible show wpAny _ _ (pyIter _) _ _ _)); (fail_if_success (with_reducible show wpAny _ _ (newList _) _ _ _)); (fail_if_success (with_reducible show wpAny _ _ (exec (PySem.Stmt.While _ _ _ _) _) _ _ _)); (fail_if_success (with_reducible show wpAny _ _ (exec (PySem.Stmt.Try _ _ _ _ _) _) _ _ _)); (fail_if_success (with_reducible show wpAny _ _ (truthy (Value.ref _)) _ _ _)); (fail_if_success (with_reducible show wpAny _ _ (call (Value.builtin _) _) _ _ _)); (fail_if_success (with_reducible show wpAny _ _ (getMethod (Value.ref _) _ _) _ _ _)); (fail_if_success (with_reducible show wpAny _ _ (noteFrame _ _) _ _ _)); (fail_if_success (with_reducible show wpAny _ _ (handleBy _ _ _) _ _ _)); (fail_if_success (with_reducible show TI.LeaveI _ _)); (fail_if_success (with_reducible show wpAny _ _ (subscriptTail _ _ (Value.ref _) (Value.int _ _)) _ _ _)); (fail_if_success (with_reducible show LoopStep3 _ _ _ _ _ _ _ _ _ _)); (fail_if_success (with_reducible show LCg.CompSrc _ _ _ _ _ _ _ _ _ _ _ _ _ _)); (fail_if_success (with_reducible show LCt.CompSrcT _ _ _ _ _ _ _ _ _ _ _ _ _ _ _)); (first | walk1 | (dsimp only; walk1)))))
  k_with "goB" => (repeat' (first | (k_unfold; (try dsimp only)) | ((fail_if_success (with_reducible show wpAny _ _ (eval (PySem.Expr.ListComp _ _ _ _) _) _ _ _)); (fail_if_success (with_reducible show wpAny _ _ (exec (PySem.Stmt.Assign _ (PySem.Expr.ListComp _ _ _ _) _) _) _ _ _)); (fail_if_success (with_reducible show wpAny _ _ (call (Value.ref _) _) _ _ _)); (fail_if_success (with_reducible show wpAny _ _ (exec (PySem.Stmt.For _ _ _ _ _) _) _ _ _)); (fail_if_success (with_reducible show wpAny _ _ (pyIter _) _ _ _)); (fail_if_success (with_reducible show wpAny _ _ (newList _) _ _ _)); (fail_if_success (with_reducible show wpAny _ _ (exec (PySem.Stmt.While _ _ _ _) _) _ _ _)); (fail_if_success (with_reducible show wpAny _ _ (exec (PySem.Stmt.Try _ _ _ _ _) _) _ _ _)); (fail_if_success (with_reducible show wpAny _ _ (truthy (Value.ref _)) _ _ _)); (fail_if_success (with_reducible show wpAny _ _ (call (Value.builtin _) _) _ _ _)); (fail_if_success (with_reducible show wpAny _ _ (getMethod (Value.ref _) _ _) _ _ _)); (fail_if_success (with_reducible show wpAny _ _ (noteFrame _ _) _ _ _)); (fail_if_success (with_reducible show wpAny _ _ (handleBy _ _ _) _ _ _)); (fail_if_success (with_reducible show TI.LeaveI _ _)); (fail_if_success (with_reducible show wpAny _ _ (binaryOp _ (Value.ref _) (Value.ref _)) _ _ _)); (fail_if_success (with_reducible show LoopStep3 _ _ _ _ _ _ _ _ _ _)); (fail_if_success (with_reducible show LCg.CompSrc _ _ _ _ _ _ _ _ _ _ _ _ _ _)); (fail_if_success (with_reducible show LCt.CompSrcT _ _ _ _ _ _ _ _ _ _ _ _ _ _ _)); (first | walk1 | (dsimp only; walk1)))))
  k_with "goE" => (repeat' (first | (k_unfold; (try dsimp only)) | ((fail_if_success (with_reducible show wpAny _ _ (compareOp _ (Value.ref _) (Value.ref _)) _ _ _)); (fail_if_success (with_reducible show wpAny _ _ (binaryOp _ (Value.ref _) (Value.ref _)) _ _ _)); (fail_if_success (with_reducible show wpAny _ _ (eval (PySem.Expr.ListComp _ _ _ _) _) _ _ _)); (fail_if_success (with_reducible show wpAny _ _ (exec (PySem.Stmt.Assign _ (PySem.Expr.ListComp _ _ _ _) _) _) _ _ _)); (fail_if_success (with_reducible show wpAny _ _ (call (Value.ref _) _) _ _ _)); (fail_if_success (with_reducible show wpAny _ _ (exec (PySem.Stmt.For _ _ _ _ _) _) _ _ _)); (fail_if_success (with_reducible show wpAny _ _ (pyIter _) _ _ _)); (fail_if_success (with_reducible show LCg.CompSrc _ _ _ _ _ _ _ _ _ _ _ _ _ _)); (fail_if_success (with_reducible show LCt.CompSrcT _ _ _ _ _ _ _ _ _ _ _ _ _ _ _)); (first | walk1 | (dsimp only; walk1)))))
  k_with "goR" => (repeat' (first | (k_unfold; (try dsimp only)) | ((fail_if_success (with_reducible show wpAny _ _ (execs (PySem.Stmt.Return _ _ :: _) _) _ _ _)); (fail_if_success (with_reducible show wpAny _ _ (eval (PySem.Expr.ListComp _ _ _ _) _) _ _ _)); (fail_if_success (with_reducible show wpAny _ _ (exec (PySem.Stmt.Assign _ (PySem.Expr.ListComp _ _ _ _) _) _) _ _ _)); (fail_if_success (with_reducible show wpAny _ _ (call (Value.ref _) _) _ _ _)); (fail_if_success (with_reducible show wpAny _ _ (exec (PySem.Stmt.For _ _ _ _ _) _) _ _ _)); (fail_if_success (with_reducible show wpAny _ _ (pyIter _) _ _ _)); (fail_if_success (with_reducible show wpAny _ _ (newList _) _ _ _)); (fail_if_success (with_reducible show wpAny _ _ (exec (PySem.Stmt.While _ _ _ _) _) _ _ _)); (fail_if_success (with_reducible show wpAny _ _ (exec (PySem.Stmt.Try _ _ _ _ _) _) _ _ _)); (fail_if_success (with_reducible show wpAny _ _ (truthy (Value.ref _)) _ _ _)); (fail_if_success (with_reducible show wpAny _ _ (call (Value.builtin _) _) _ _ _)); (fail_if_success (with_reducible show wpAny _ _ (getMethod (Value.ref _) _ _) _ _ _)); (fail_if_success (with_reducible show wpAny _ _ (noteFrame _ _) _ _ _)); (fail_if_success (with_reducible show wpAny _ _ (handleBy _ _ _) _ _ _)); (fail_if_success (with_reducible show TI.LeaveI _ _)); (fail_if_success (with_reducible show wpAny _ _ (binaryOp _ (Value.ref _) (Value.ref _)) _ _ _)); (fail_if_success (with_reducible show LoopStep3 _ _ _ _ _ _ _ _ _ _)); (fail_if_success (with_reducible show LCg.CompSrc _ _ _ _ _ _ _ _ _ _ _ _ _ _)); (fail_if_success (with_reducible show LCt.CompSrcT _ _ _ _ _ _ _ _ _ _ _ _ _ _ _)); (first | walk1 | (dsimp only; walk1)))))
  k_with "go0" => (repeat' (first | (k_unfold; (try dsimp only)) | ((fail_if_success (with_reducible show wpAny _ _ (eval (PySem.Expr.ListComp _ _ _ _) _) _ _ _)); (fail_if_success (with_reducible show wpAny _ _ (exec (PySem.Stmt.Assign _ (PySem.Expr.ListComp _ _ _ _) _) _) _ _ _)); (fail_if_success (with_reducible show wpAny _ _ (call (Value.ref _) _) _ _ _)); (first | walk1 | (dsimp only; walk1)))))
  k_with "goX" => (repeat' (first | (k_unfold; (try dsimp only)) | ((fail_if_success (with_reducible show wpAny _ _ (eval (PySem.Expr.ListComp _ _ _ _) _) _ _ _)); (fail_if_success (with_reducible show wpAny _ _ (execs (PySem.Stmt.For _ _ _ _ _ :: _) _) _ _ _)); (fail_if_success (with_reducible show wpAny _ _ (exec (PySem.Stmt.Assign _ (PySem.Expr.ListComp _ _ _ _) _) _) _ _ _)); (fail_if_success (with_reducible show wpAny _ _ (call (Value.ref _) _) _ _ _)); (fail_if_success (with_reducible show wpAny _ _ (exec (PySem.Stmt.For _ _ _ _ _) _) _ _ _)); (fail_if_success (with_reducible show wpAny _ _ (pyIter _) _ _ _)); (fail_if_success (with_reducible show wpAny _ _ (newList _) _ _ _)); (fail_if_success (with_reducible show wpAny _ _ (exec (PySem.Stmt.While _ _ _ _) _) _ _ _)); (fail_if_success (with_reducible show wpAny _ _ (exec (PySem.Stmt.Try _ _ _ _ _) _) _ _ _)); (fail_if_success (with_reducible show wpAny _ _ (truthy (Value.ref _)) _ _ _)); (fail_if_success (with_reducible show wpAny _ _ (call (Value.builtin _) _) _ _ _)); (fail_if_success (with_reducible show wpAny _ _ (getMethod (Value.ref _) _ _) _ _ _)); (fail_if_success (with_reducible show wpAny _ _ (noteFrame _ _) _ _ _)); (fail_if_success (with_reducible show wpAny _ _ (handleBy _ _ _) _ _ _)); (fail_if_success (with_reducible show TI.LeaveI _ _)); (fail_if_success (with_reducible show wpAny _ _ (binaryOp _ (Value.ref _) (Value.ref _)) _ _ _)); (fail_if_success (with_reducible show wpAny _ _ (compareOp _ (Value.ref _) (Value.ref _)) _ _ _)); (fail_if_success (with_reducible show wpAny _ _ (subscriptTail _ _ (Value.ref _) (Value.int _ _)) _ _ _)); (fail_if_success (with_reducible show wpAny _ _ (subscriptTail _ _ (Value.ref _) (Value.ref _)) _ _ _)); (fail_if_success (with_reducible show LoopStep3 _ _ _ _ _ _ _ _ _ _)); (fail_if_success (with_reducible show LCg.CompSrc _ _ _ _ _ _ _ _ _ _ _ _ _ _)); (fail_if_success (with_reducible show LCt.CompSrcT _ _ _ _ _ _ _ _ _ _ _ _ _ _ _)); (first | walk1 | (dsimp only; walk1)))))
  k_with "goY" => (repeat' (first | (k_unfold; (try dsimp only)) | ((fail_if_success (with_reducible show wpAny _ _ (eval (PySem.Expr.ListComp _ _ _ _) _) _ _ _)); (fail_if_success (with_reducible show wpAny _ _ (execs (PySem.Stmt.For _ _ _ _ _ :: _) _) _ _ _)); (fail_if_success (with_reducible show wpAny _ _ (execs (PySem.Stmt.Assign [PySem.Expr.Tuple _ _ _] _ _ :: _) _) _ _ _)); (fail_if_success (with_reducible show wpAny _ _ (exec (PySem.Stmt.Assign _ (PySem.Expr.ListComp _ _ _ _) _) _) _ _ _)); (fail_if_success (with_reducible show wpAny _ _ (call (Value.ref _) _) _ _ _)); (fail_if_success (with_reducible show wpAny _ _ (exec (PySem.Stmt.For _ _ _ _ _) _) _ _ _)); (fail_if_success (with_reducible show wpAny _ _ (pyIter _) _ _ _)); (fail_if_success (with_reducible show wpAny _ _ (newList _) _ _ _)); (fail_if_success (with_reducible show wpAny _ _ (exec (PySem.Stmt.While _ _ _ _) _) _ _ _)); (fail_if_success (with_reducible show wpAny _ _ (exec (PySem.Stmt.Try _ _ _ _ _) _) _ _ _)); (fail_if_success (with_reducible show wpAny _ _ (truthy (Value.ref _)) _ _ _)); (fail_if_success (with_reducible show wpAny _ _ (call (Value.builtin _) _) _ _ _)); (fail_if_success (with_reducible show wpAny _ _ (getMethod (Value.ref _) _ _) _ _ _)); (fail_if_success (with_reducible show wpAny _ _ (noteFrame _ _) _ _ _)); (fail_if_success (with_reducible show wpAny _ _ (handleBy _ _ _) _ _ _)); (fail_if_success (with_reducible show TI.LeaveI _ _)); (fail_if_success (with_reducible show wpAny _ _ (binaryOp _ (Value.ref _) (Value.ref _)) _ _ _)); (fail_if_success (with_reducible show wpAny _ _ (compareOp _ (Value.ref _) (Value.ref _)) _ _ _)); (fail_if_success (with_reducible show wpAny _ _ (subscriptTail _ _ (Value.ref _) (Value.int _ _)) _ _ _)); (fail_if_success (with_reducible show wpAny _ _ (subscriptTail _ _ (Value.ref _) (Value.ref _)) _ _ _)); (fail_if_success (with_reducible show LoopStep3 _ _ _ _ _ _ _ _ _ _)); (fail_if_success (with_reducible show LCg.CompSrc _ _ _ _ _ _ _ _ _ _ _ _ _ _)); (fail_if_success (with_reducible show LCt.CompSrcT _ _ _ _ _ _ _ _ _ _ _ _ _ _ _)); (first | walk1 | (dsimp only; walk1)))))
  trivial
section -- plain
theorem plain_spec {w : World} {mean : ExcName → Option Value} {mg mb : Str → Option Value} (news : Led) (lx ly : Addr) (vx vy : List Value) (x y : List Int) (nx ny : Nat) (h1 : (lx, listOf vx.toArray nx) ∈ news) (h2 : (ly, listOf vy.toArray ny) ∈ news) (i1 : IntsAre vx x) (i2 : IntsAre vy y) (l1 : x.length < 1000) :
    Ctr w mean mg mb 59 [.ref lx, .ref ly] news 1 100 (fun v led => v = .bool (decide (x = y)) ∧ led = news) := by
  k_extra "m_ctr"
  k_extra "m_enter"
  replace F1 : Fr g1 L1 hp1 (fun z => List.lookup z [(Str.ofString "due", .ref ly), (Str.ofString "says", .ref lx)]) := by with_unfolding_all exact F1
  refine wpAny_execs_cons ?_
  refine wpAny_Return_some ?_
  iterate 6 walk1
  split
  · rename_i hxy
    iterate 2 walk1
    k_dflt (refine LCt.ListComp_T (F₀ := by k_asm) (by with_unfolding_all rfl) (by decide) (by rfl) (by decide) (by rfl) ?_)
    walk1
    refine LCt.CompSrcT.ledger (by rfl) F1 N1 h1 (by rw [PySem.sizeLine_eq]; simp; have := i1.length; omega) ?_
    intro g
    have e1 := i1.length
    refine restT_fix (n := vx.toArray.size) news (J := fun i ys => ys = []) (by lcg_src) ?_ ?_ _ 0 [] (by omega) rfl
    · intro i ys v I oI C oC D m₂ h tk E' hi hJ hP hC hx F N
      subst hJ
      obtain ⟨k, t, ek, hk'⟩ := IntsAre.at i1 i v (by simpa using hP)
      subst ek
      k_extra "go"
      k_extra "turn"
      trivial
    · intro ys hJ
      subst hJ
      intro D h' tk F' N' o1
      k_extra "go"
      exact hret _ _ _ _ ⟨by rw [hxy], rfl⟩ (by k_asm) (by k_extra "drop")
  · k_extra "go"
    exact hret _ _ _ _ ⟨rfl, rfl⟩ (by k_asm) (by k_asm)
end
section -- unlike
def signOf (v : Int) : Int := if v = 1 then 1 else -1
theorem unlike_spec {w : World} {mean : ExcName → Option Value} {mg mb : Str → Option Value} (news : Led) (lx : Addr) (vx : List Value) (x : List Int) (nx : Nat) (h1 : (lx, listOf vx.toArray nx) ∈ news) (i1 : IntsAre vx x) (l1 : x.length < 1000) :
    Ctr w mean mg mb 64 [.ref lx] news 2 200 (fun v led => v = .bool (decide (x = x.map signOf)) ∧ led = news) := by
  k_extra "m_ctr"
  k_extra "m_enter"
  replace F1 : Fr g1 L1 hp1 (fun z => List.lookup z [(Str.ofString "says", .ref lx)]) := by with_unfolding_all exact F1
  k_extra "go"
  k_extra "compU"
  k_extra "go"
  refine LCg.CompSrc.ledger (by rfl) F1 N1 h1 (by rw [PySem.sizeLine_eq]; simp; have := i1.length; omega) ?_
  intro g
  have e1 := i1.length
  refine restU_fix (n := vx.toArray.size) news (J := fun i ys => IntsAre ys ((x.map signOf).take i)) (by lcg_src) ?_ ?_ _ 0 [] (by omega) (by simpa using IntsAre.nil)
  · intro i ys v I oI C oC D m₂ h tk E' hi hJ hP hC hx F N
    obtain ⟨k, t, ek, hk'⟩ := IntsAre.at i1 i v (by simpa using hP)
    subst ek
    k_extra "go"

    all_goals (k_extra "turn"; refine ints_snoc hJ ?_; simp [hk', signOf]; assumption)
  · intro ys hJ
    have e : (x.map signOf).take vx.toArray.size = x.map signOf := by rw [List.take_of_length_le]; simp; omega
    rw [e] at hJ
    intro D h' tk F' N' o1
    k_extra "go"


    k_dflt (refine' Ctr.use (plain_spec ((D, listOf ys.toArray ys.length) :: news) lx D vx ys x (x.map signOf) nx ys.length (by news_mem) (by news_mem) i1 hJ l1) ?kB ?kF ?kX ?kN ?kT ?kK ?kd ?ku ?_)
    k_extra "ret"
    rintro v led h' tk' ⟨rfl, rfl⟩ F' N'
    k_extra "go"

    exact hret _ _ _ _ ⟨rfl, rfl⟩ (by k_asm) (by k_extra "drop")
end
section -- codes
def codesOf (x : Str) : List Int := x.cps.toList.map Int.ofNat
theorem codes_spec {w : World} {mean : ExcName → Option Value} {mg mb : Str → Option Value} (news : Led) (x : Str) (t : Tok) (lx : x.cps.size ≤ 1000) :
    Ctr w mean mg mb 54 [.str x t] news 1 8 (fun v led => ∃ b vs n, v = .ref b ∧ IntsAre vs (codesOf x) ∧ led = (b, listOf vs.toArray n) :: news ∧ LCg.Off1 b news) := by
  k_extra "m_ctr"
  k_extra "m_enter"
  replace F1 : Fr g1 L1 hp1 (fun y => List.lookup y [(Str.ofString "name", .str x t)]) := by with_unfolding_all exact F1
  refine wpAny_execs_cons ?_
  refine wpAny_Return_some ?_
  k_dflt (refine ListComp_S F1 (by with_unfolding_all rfl) (by decide) (by rfl) (by decide) (by rfl) ?_)
  walk1
  refine ⟨_, _, _, rfl, by rfl, F1, N1, by rw [PySem.sizeLine_eq]; omega, fun g => ?_⟩
  refine restU_fix (n := x.cps.size) news (J := fun i ys => IntsAre ys ((codesOf x).take i)) trivial ?_ ?_ _ 0 [] (by omega) (by simpa using IntsAre.nil)
  · intro i ys v I oI C oC D m₂ h tk E' hi hJ hP hC hx F N
    obtain ⟨c, u, hc, rfl⟩ := hP
    k_extra "go"
    refine TurnOk.intro (by assumption) (by assumption) (fun p hp => hp) (ints_snoc hJ ?_)
    simp only [codesOf, List.getElem?_map, Array.getElem?_toList, hc]; rfl
  · intro ys hJ
    have e : (codesOf x).take x.cps.size = codesOf x := by rw [List.take_of_length_le]; simp [codesOf]
    rw [e] at hJ
    intro D h' tk F' N' o1
    k_extra "go"
    exact hret _ _ _ _ ⟨_, _, _, rfl, hJ, rfl, o1⟩ (by k_asm) (by k_asm)
end
section -- cmp
theorem cmp_spec {w : World} {mean : ExcName → Option Value} {mg mb : Str → Option Value} (news : Led) (lx ly : Addr) (vx vy : List Value) (x y : List Int) (nx ny : Nat) (h1 : (lx, listOf vx.toArray nx) ∈ news) (h2 : (ly, listOf vy.toArray ny) ∈ news) (i1 : IntsAre vx x) (i2 : IntsAre vy y) :
    Ctr w mean mg mb 42 [.ref lx, .ref ly] news 1 8 (fun v led => (∃ t, v = .int (b2i (ltL y x) - b2i (ltL x y)) t) ∧ led = news) := by
  k_extra "m_ctr"
  k_extra "m_enter"
  k_extra "go"
  refine gt_intsM (vs := vx) (us := vy) (by is_list) i1 (by is_list) i2 (by ktr_units) ?_
  k_extra "go"
  refine lt_intsM (vs := vx) (us := vy) (by is_list) i1 (by is_list) i2 (by ktr_units) ?_
  k_extra "go"
  exact hret _ _ _ _ ⟨⟨_, rfl⟩, rfl⟩ (by k_asm) (by k_asm)
end
section -- falls
def fallsP (x : List Int) : List Int := List.foldl (fun l k => if x.getD k.toNat 0 = 1 then l ++ [k + 1] else l) [] (rangeKs 0 x.length)
theorem falls_spec {w : World} {mean : ExcName → Option Value} {mg mb : Str → Option Value} (news : Led) (lx : Addr) (vx : List Value) (x : List Int) (nx : Nat) (h1 : (lx, listOf vx.toArray nx) ∈ news) (i1 : IntsAre vx x) (l1 : x.length < 1000) :
    Ctr w mean mg mb 79 [.ref lx] news 1 100 (fun v led => ∃ b t1 t2 n, v = .ref b ∧ led = (b, listOf #[.int (fallsP x).length t1, .int (fallsP x).sum t2] n) :: news ∧ LCg.Off1 b news) := by
  k_extra "m_ctr"
  k_extra "m_enterC"
  replace F1 : Fr g1 L1 hp1 (fun _ => none) := by with_unfolding_all exact F1
  replace Y1 : CellsAre (fun y => if y = Str.ofString "says" then some (.ref lx) else none) [(Str.ofString "says", L1 + 1)] cells1 := by with_unfolding_all exact Y1
  obtain ⟨o1, rfl, d1⟩ := Y1.one
  replace d1 : o1.data = Data.cell (some (.ref lx)) := by simpa using d1
  clear Y1
  dsimp only [List.cons_append, List.nil_append] at N1
  k_extra "go"
  k_extra "compAT"
  k_extra "go0"
  rename News _ _ _ _ => Nz
  rename _ ∧ _ ∧ AllLt _ _ => lz
  simp only [show ((x.length : Int) - 0).toNat = x.length by omega] at Nz
  exact hret _ _ _ _ ⟨_, _, _, _, rfl, rfl, off1_of_lt lz.2.2⟩ (by k_asm) (by k_extra "drop")
end
section -- strcoll
theorem strcoll_spec {w : World} {mean : ExcName → Option Value} {mg mb : Str → Option Value} (news : Led) (x y : Str) (tx ty : Tok) :
    Ctr w mean mg mb 21 [.str x tx, .str y ty] news 1 8 (fun v led => (∃ t, v = .int (coll x y) t) ∧ led = news) := by
  k_extra "m_ctr"
  k_extra "m_enter"
  k_extra "go"
  exact hret _ _ _ _ ⟨⟨_, rfl⟩, rfl⟩ (by k_asm) (by k_asm)
end
section -- local
def optV : Option (Str × Tok) → Value
  | none => .none
  | some (x, t) => .str x t
def localName (l e : Option (Str × Tok)) : Str :=
  let a := match l with | none => Str.ofString "C" | some (x, _) => x
  match e with | none => a | some (y, _) => a ++ Str.ofString "." ++ y
theorem local_spec {w : World} {mean : ExcName → Option Value} {mg mb : Str → Option Value} (news : Led) (p : Addr) (l e : Option (Str × Tok)) (n : Nat) (h1 : (p, listOf #[optV l, optV e] n) ∈ news) (hl : ∀ x t, l = some (x, t) → x.length ≤ 1000) (he : ∀ x t, e = some (x, t) → x.length ≤ 1000) :
    Ctr w mean mg mb 28 [.ref p] news 1 8 (fun v led => (∃ t, v = .str (localName l e) t) ∧ led = news) := by
  k_extra "m_ctr"
  rcases l with _ | ⟨x, tx⟩ <;> rcases e with _ | ⟨y, ty⟩
  all_goals
    simp only [optV] at h1
    k_extra "m_enter"
    (try have hlx := hl _ _ rfl)
    (try have hly := he _ _ rfl)
    k_extra "go"
    all_goals exact hret _ _ _ _ ⟨⟨_, rfl⟩, rfl⟩ (by k_asm) (by k_extra "drop")
end
section -- line
def lineP (ps : List Int) (row : List Value) : List Value := (List.range 5).map fun (k : Nat) => row.getD (ps.idxOf (Int.ofNat k)) .none
theorem line_spec {w : World} {mean : ExcName → Option Value} {mg mb : Str → Option Value} (news : Led) (lp lr : Addr) (vp vr : List Value) (ps : List Int) (n1 n2 : Nat) (h1 : (lp, listOf vp.toArray n1) ∈ news) (h2 : (lr, listOf vr.toArray n2) ∈ news) (i1 : IntsAre vp ps) (l1 : ps.length = 5) (l2 : vr.length = 5) (hps : ∀ k : Nat, k < 5 → Int.ofNat k ∈ ps) :
    Ctr w mean mg mb 74 [.ref lp, .ref lr] news 1 100 (fun v led => ∃ b n, v = .ref b ∧ led = (b, listOf (lineP ps vr).toArray n) :: news ∧ LCg.Off1 b news) := by
  k_extra "m_ctr"
  k_extra "m_enterC"
  replace F1 : Fr g1 L1 hp1 (fun _ => none) := by with_unfolding_all exact F1
  replace Y1 : CellsAre (fun y => if y = Str.ofString "row" then some (.ref lr) else if y = Str.ofString "places" then some (.ref lp) else none) [(Str.ofString "row", L1 + 1 + 1), (Str.ofString "places", L1 + 1)] cells1 := by with_unfolding_all exact Y1
  obtain ⟨o1, o2, rfl, d1, d2⟩ := Y1.two
  simp only [if_true] at d1 d2
  rw [if_neg (by decide)] at d2
  clear Y1
  dsimp only [List.cons_append, List.nil_append] at N1
  k_extra "go"
  k_extra "compU"
  k_extra "go"
  refine LCg.CompSrc.range (by rfl) (by k_asm) (by k_asm) (by assumption) (by decide) (n := 5) (by rfl) (by rw [PySem.sizeLine_eq]; omega) ?_
  intro g
  refine restU_fix (n := 5) ((L1 + 1 + 1, o1) :: (L1 + 1, o2) :: news) (J := fun i ys => ys = (lineP ps vr).take i) trivial ?_ ?_ _ 0 [] (by omega) (by simp)
  · rintro i ys v I oI C oC D m₂ h tk E' hi rfl ⟨t, rfl⟩ hC hx F N
    rw [show (0 : Int) + (i : Int) = Int.ofNat i by simp] at hx
    k_extra "go"
    refine index_intsM (vs := vp) (ns := ps) (by is_list) i1 (by omega) (hps i hi) ?_
    k_extra "go"
    have hj : ps.idxOf (Int.ofNat i) < 5 := by have := List.idxOf_lt_length_iff.mpr (hps i hi); omega
    have hj2 : vr[((ps.idxOf (Int.ofNat i) : Nat) : Int).toNat]? = some (vr.getD (ps.idxOf (Int.ofNat i)) .none) := by
      have hj' : ps.idxOf (Int.ofNat i) < vr.length := by omega
      simp only [Int.toNat_natCast, List.getD, List.getElem?_eq_getElem hj', Option.getD_some]
    refine item_listL (l := vr) (by is_list) (by omega) (by omega) hj2 ?_
    k_extra "turn"
    rw [List.take_add_one]
    simp [lineP, hi]
  · rintro ys rfl
    intro D h' tk F' N' o1
    k_extra "go"
    rename News _ _ _ _ => kN
    rw [List.take_of_length_le (by simp [lineP])] at kN
    exact hret _ _ _ _ ⟨_, _, rfl, rfl, o1.2.2⟩ (by k_asm) (by k_extra "drop")
end
section -- sums
def sumsF : Nat → Int → Int → List Int
  | 0, _, _ => []
  | n + 1, c, t => if c < 0 ∨ t < 0 then [] else if c = 0 then [0] else sumsF n c (t - 1) ++ (sumsF n (c - 1) t).map (t + ·)
theorem sumsF_len : ∀ (n : Nat) (c t : Int), (sumsF n c t).length ≤ 2 ^ n
  | 0, _, _ => by simp [sumsF]
  | n + 1, c, t => by
    have h1 := sumsF_len n c (t - 1)
    have h2 := sumsF_len n (c - 1) t
    unfold sumsF
    have h3 : 2 ^ (n + 1) = 2 ^ n + 2 ^ n := by rw [Nat.pow_succ]; omega
    have h4 : 0 < 2 ^ n := Nat.pos_of_ne_zero (by simp)
    split
    · simp
    · split
      · simp; omega
      · simp only [List.length_append, List.length_map]; omega
theorem sums_spec {w : World} {mean : ExcName → Option Value} {mg mb : Str → Option Value} : ∀ (n : Nat) (news : Led) (c t : Int) (tc tt : Tok), n ≤ 16 → 0 < n → c + t + 1 < (n : Int) → -100 < c → -100 < t →
    Ctr w mean mg mb 84 [.int c tc, .int t tt] news n (8 * n + 100) (fun v led => ∃ b vs k, v = .ref b ∧ IntsAre vs (sumsF n c t) ∧ led = (b, listOf vs.toArray k) :: news ∧ LCg.Off1 b news) := by
  intro n
  induction n with
  | zero => intro news c t tc tt _ h; omega
  | succ n ih =>
    intro news c t tc tt hn _ hct hc ht
    k_extra "m_ctr"
    k_extra "m_enterC"
    replace F1 : Fr g1 L1 hp1 (fun y => if y = Str.ofString "count" then some (.int c tc) else none) := by with_unfolding_all exact F1
    replace Y1 : CellsAre (fun y => if y = Str.ofString "top" then some (.int t tt) else none) [(Str.ofString "top", L1 + 1)] cells1 := by with_unfolding_all exact Y1
    obtain ⟨o1, rfl, d1⟩ := Y1.one
    rw [if_pos rfl] at d1
    clear Y1
    dsimp only [List.cons_append, List.nil_append] at N1
    k_extra "go"
    · rename _ ∧ AllLt _ _ => lz
      exact hret _ _ _ _ ⟨_, [], _, rfl, by rw [show sumsF (n + 1) c t = [] by simp only [sumsF]; rw [if_pos (by omega)]]; exact .nil, rfl, off1_of_lt lz.2⟩ (by k_asm) (by k_extra "drop")
    · rename _ ∧ AllLt _ _ => lz
      exact hret _ _ _ _ ⟨_, [], _, rfl, by rw [show sumsF (n + 1) c t = [] by simp only [sumsF]; rw [if_pos (by omega)]]; exact .nil, rfl, off1_of_lt lz.2⟩ (by k_asm) (by k_extra "drop")
    · rename _ ∧ AllLt _ _ => lz
      rename News _ _ _ _ => nz
      exact hret _ _ _ _ ⟨_, [_], _, rfl, by rw [show sumsF (n + 1) c t = [0] by simp only [sumsF]; rw [if_neg (by omega), if_pos (by omega)]]; exact .cons _ _ .nil, rfl, off1_of_lt lz.2⟩ (by k_asm) (drop1 nz (by lcg_sub))
    · k_dflt (refine' Ctr.use (ih ((L1 + 1, o1) :: news) c (t - 1) _ _ (by omega) (by omega) (by omega) (by omega) (by omega)) ?kB ?kF ?kX ?kN ?kT ?kK ?kd ?ku ?_)
      k_extra "ret"
      rintro v led h' tk' ⟨b1, vs1, k1, rfl, i1, rfl, off1⟩ F' N'
      k_extra "go"
      k_extra "compU"
      k_extra "go"
      k_dflt (refine' Ctr.use (ih ((b1, listOf vs1.toArray k1) :: (L1 + 1, o1) :: news) (c - 1) t _ _ (by omega) (by omega) (by omega) (by omega) (by omega)) ?kB ?kF ?kX ?kN ?kT ?kK ?kd ?ku ?_)
      k_extra "ret"
      rintro v led h2 tk2 ⟨b2, vs2, k2, rfl, i2, rfl, off2⟩ F2 N2
      k_extra "go"
      have e2 := i2.length
      have l2 := sumsF_len n (c - 1) t
      have l1 := sumsF_len n c (t - 1)
      have l3 : 2 ^ n ≤ 2 ^ 16 := Nat.pow_le_pow_right (by omega) (by omega)
      refine LCg.CompSrc.ledger (by rfl) F2 N2 List.mem_cons_self (by rw [PySem.sizeLine_eq]; simp; omega) ?_
      intro g
      refine restU_fix (n := vs2.toArray.size) _ (J := fun i ys => IntsAre ys (((sumsF n (c - 1) t).map (t + ·)).take i)) (by lcg_src) ?_ ?_ _ 0 [] (by omega) (by simpa using IntsAre.nil)
      · intro i ys v I oI C oC D m₂ h tk E' hi hJ hP hC hx F N
        obtain ⟨k, t3, ek, hk'⟩ := IntsAre.at i2 i v (by simpa using hP)
        subst ek
        k_extra "go"
        k_extra "turn"
        refine ints_snoc hJ ?_
        simp [hk']
      · intro ys hJ
        have e : ((sumsF n (c - 1) t).map (t + ·)).take vs2.toArray.size = (sumsF n (c - 1) t).map (t + ·) := by rw [List.take_of_length_le]; simp; omega
        rw [e] at hJ
        intro D h' tk F' N' o1
        k_extra "go"
        rename IntsAre _ (_ ++ _) => hz
        rename _ ∧ _ ∧ _ ∧ _ ∧ AllLt _ _ => lz
        exact hret _ _ _ _ ⟨_, _, _, rfl, by rw [show sumsF (n + 1) c t = sumsF n c (t - 1) ++ (sumsF n (c - 1) t).map (t + ·) by simp only [sumsF]; rw [if_neg (by omega), if_neg (by omega)]]; exact hz, rfl, off1_of_lt lz.2.2.2.2⟩ (by k_asm) (by k_extra "drop")
end
section -- due
def dueK (m r p n s q k : Int) : List (Int × Int) :=
  (sumsF 12 (k - r) (m + s - k)).flatMap fun one => (sumsF 12 (k - s) (n + r - k)).map fun two => (k, p + q + (k - r) * (k - s) + one + two)
def dueP (m r p n s q : Int) : List (Int × Int) := (List.range 5).flatMap fun k => dueK m r p n s q (Int.ofNat k)
/-- the frame's map with the loops' three names turned -/
def m3 (u1 u2 u3 : Option Value) (m₀ : Str → Option Value) : Str → Option Value := fun y => if y = Str.ofString "k" then u1 else if y = Str.ofString "one" then u2 else if y = Str.ofString "two" then u3 else m₀ y
theorem m3_k {u1 u2 u3 : Option Value} {m₀ : Str → Option Value} {v : Option Value} : (fun y => if y = Str.ofString "k" then v else m3 u1 u2 u3 m₀ y) = m3 v u2 u3 m₀ := by
  funext y; unfold m3; by_cases h : y = Str.ofString "k" <;> simp [h]
theorem m3_one {u1 u2 u3 : Option Value} {m₀ : Str → Option Value} {v : Option Value} : (fun y => if y = Str.ofString "one" then v else m3 u1 u2 u3 m₀ y) = m3 u1 v u3 m₀ := by
  funext y; unfold m3; by_cases h : y = Str.ofString "one"
  · have : ¬ (Str.ofString "one" = Str.ofString "k") := by decide
    simp [h, this]
  · simp [h]
theorem m3_two {u1 u2 u3 : Option Value} {m₀ : Str → Option Value} {v : Option Value} : (fun y => if y = Str.ofString "two" then v else m3 u1 u2 u3 m₀ y) = m3 u1 u2 v m₀ := by
  funext y; unfold m3; by_cases h : y = Str.ofString "two"
  · have h1 : ¬ (Str.ofString "two" = Str.ofString "k") := by decide
    have h2 : ¬ (Str.ofString "two" = Str.ofString "one") := by decide
    simp [h, h1, h2]
  · simp [h]
/-- what the loops keep -/
def DueJ (b : Addr) (news : Led) (m₀ : Str → Option Value) (ps : List (Int × Int)) (m₁ : Str → Option Value) (nw : Led) : Prop :=
  (∃ u1 u2 u3, m₁ = m3 u1 u2 u3 m₀) ∧ ∃ vs c prs, nw = (b, listOf vs.toArray c) :: (prs ++ news) ∧ LCg.Off1 b (prs ++ news) ∧ Prs (prs ++ news) vs ps
abbrev dueM (b : Addr) (gm gr gp gn gs gq : Int) (tm tr tp tn ts tq : Tok) : Str → Option Value := fun y => if y = Str.ofString "due" then some (Value.ref b) else List.lookup y [(Str.ofString "q", .int gq tq), (Str.ofString "s", .int gs ts), (Str.ofString "n", .int gn tn), (Str.ofString "p", .int gp tp), (Str.ofString "r", .int gr tr), (Str.ofString "m", .int gm tm)]
theorem m3_self (m₀ : Str → Option Value) : m₀ = m3 (m₀ (Str.ofString "k")) (m₀ (Str.ofString "one")) (m₀ (Str.ofString "two")) m₀ := by
  funext y; unfold m3; split
  · rename_i h; rw [h]
  · split
    · rename_i h; rw [h]
    · split
      · rename_i h; rw [h]
      · rfl
theorem flatMap_len {α β : Type} {f : α → List β} {c : Nat} : ∀ {l : List α}, (∀ x ∈ l, (f x).length ≤ c) → (l.flatMap f).length ≤ l.length * c
  | [], _ => by simp
  | x :: l, h => by
    have h1 := h x List.mem_cons_self
    have h2 := flatMap_len (l := l) (f := f) (c := c) fun y hy => h y (List.mem_cons_of_mem _ hy)
    rw [List.flatMap_cons, List.length_append, List.length_cons, Nat.succ_mul]; omega
theorem due_spec {w : World} {mean : ExcName → Option Value} {mg mb : Str → Option Value} (news : Led) (gm gr gp gn gs gq : Int) (tm tr tp tn ts tq : Tok) (hm : 0 ≤ gm ∧ gm ≤ 4) (hr : 0 ≤ gr ∧ gr ≤ 4) (hp : 0 ≤ gp ∧ gp ≤ 50) (hn : 0 ≤ gn ∧ gn ≤ 4) (hs : 0 ≤ gs ∧ gs ≤ 4) (hq : 0 ≤ gq ∧ gq ≤ 50)
    (hl1 : ∀ k : Nat, k < 5 → (sumsF 12 (Int.ofNat k - gr) (gm + gs - Int.ofNat k)).length ≤ 50) (hl2 : ∀ k : Nat, k < 5 → (sumsF 12 (Int.ofNat k - gs) (gn + gr - Int.ofNat k)).length ≤ 50) :
    Ctr w mean mg mb 91 [.int gm tm, .int gr tr, .int gp tp, .int gn tn, .int gs ts, .int gq tq] news 20 500 (fun v led => ∃ b vs c prs, v = .ref b ∧ led = (b, listOf vs.toArray c) :: (prs ++ news) ∧ LCg.Off1 b (prs ++ news) ∧ Prs (prs ++ news) vs (dueP gm gr gp gn gs gq)) := by
  k_extra "m_ctr"
  k_extra "m_enter"
  replace F1 : Fr g1 L1 hp1 (fun z => List.lookup z [(Str.ofString "q", .int gq tq), (Str.ofString "s", .int gs ts), (Str.ofString "n", .int gn tn), (Str.ofString "p", .int gp tp), (Str.ofString "r", .int gr tr), (Str.ofString "m", .int gm tm)]) := by with_unfolding_all exact F1
  refine wpAny_execs_cons ?_
  k_extra "goN"
  refine newList_K (by k_asm) (by k_asm) (fun b hpB FB NB lB => ?_)
  clear F1 N1
  k_extra "go"
  k_extra "for"
  k_extra "go"
  have hbase : ∀ i : Nat, i ≤ 5 → ((List.range i).flatMap fun k => dueK gm gr gp gn gs gq (Int.ofNat k)).length ≤ i * 2500 := fun i hi => by
    refine Nat.le_trans (flatMap_len (c := 2500) fun k hk => ?_) (by simp)
    have hk' : k < 5 := by have := List.mem_range.mp hk; omega
    unfold dueK
    refine Nat.le_trans (flatMap_len (c := 50) fun x _ => by simpa using hl2 k hk') ?_
    have := hl1 k hk'; omega
  refine forRange (n := 5) (m₀ := dueM b gm gr gp gn gs gq tm tr tp tn ts tq) (news := (b, listOf #[] 0) :: news) (fun i m₁ nw => DueJ b news (dueM b gm gr gp gn gs gq tm tr tp tn ts tq) ((List.range i).flatMap fun k => dueK gm gr gp gn gs gq (Int.ofNat k)) m₁ nw)
    (by rfl) (by assumption) (by decide) (by rfl) (by assumption) (by assumption) ⟨⟨_, _, _, m3_self _⟩, [], 0, [], rfl, off1_of fun p hp => Nat.ne_of_lt (lB p hp), .nil⟩ ?_ ?_
  · rintro i t m₁ nw h tk I oI hi ⟨⟨u1, u2, u3, rfl⟩, vs, c, prs, rfl, hob, hprs⟩ off F N
    rw [m3_k] at F
    k_extra "go"
    k_extra "for"
    k_extra "go"
    k_dflt (refine' Ctr.use (sums_spec 12 ((I, oI) :: (b, listOf vs.toArray c) :: (prs ++ news)) ((i : Int) - gr) (gm + gs - (i : Int)) _ _ (by omega) (by omega) (by omega) (by omega) (by omega)) ?kB ?kF ?kX ?kN ?kT ?kK ?kd ?ku ?_)
    k_extra "ret"
    rintro v led h' tk' ⟨b1, vs1, k1, rfl, i1, rfl, off1⟩ F' N'
    k_extra "go"
    have hb1 : ((List.range i).flatMap fun k => dueK gm gr gp gn gs gq (Int.ofNat k)).length ≤ i * 2500 := hbase i (by omega)
    have hs1 : (sumsF 12 ((i : Int) - gr) (gm + gs - (i : Int))).length ≤ 50 := hl1 i hi
    have hs2 : (sumsF 12 ((i : Int) - gs) (gn + gr - (i : Int))).length ≤ 50 := hl2 i hi
    generalize hL1 : sumsF 12 ((i : Int) - gr) (gm + gs - (i : Int)) = S1 at i1 hs1
    generalize hL2 : sumsF 12 ((i : Int) - gs) (gn + gr - (i : Int)) = S2 at hs2
    generalize hP0 : ((List.range i).flatMap fun k => dueK gm gr gp gn gs gq (Int.ofNat k)) = P0 at hb1 hprs
    have e1 := i1.length
    refine forList (m₀ := m3 (some (Value.int (↑i) t)) u2 u3 (dueM b gm gr gp gn gs gq tm tr tp tn ts tq)) (news := (b1, listOf vs1.toArray k1) :: (I, oI) :: (b, listOf vs.toArray c) :: (prs ++ news))
      (fun j m₁ nw => (∃ u2 u3, m₁ = m3 (some (Value.int (↑i) t)) u2 u3 (dueM b gm gr gp gn gs gq tm tr tp tn ts tq)) ∧ ∃ vs c prs, nw = (b1, listOf vs1.toArray k1) :: (I, oI) :: (b, listOf vs.toArray c) :: (prs ++ news) ∧ LCg.Off1 b (prs ++ news) ∧ LCg.Off1 I (prs ++ news) ∧ I ≠ b ∧ b1 ≠ b ∧ Prs (prs ++ news) vs (P0 ++ (S1.take j).flatMap fun one => S2.map fun two => ((i : Int), gp + gq + ((i : Int) - gr) * ((i : Int) - gs) + one + two)))
      (by rfl) List.mem_cons_self (fun j m nw hj => by obtain ⟨_, vs, c, prs, rfl, _⟩ := hj; exact List.mem_cons_self) (by assumption) (by assumption) ⟨⟨_, _, rfl⟩, vs, c, prs, rfl, hob, off.2, fun e => off.1 e.symm, fun e => off1.2.1 e.symm, by simpa using hprs⟩ ?_ ?_
    · rintro j v m₁ nw h tk J oJ hj hv ⟨⟨u2, u3, rfl⟩, vs, c, prs, rfl, hob, hoI, hIb, hb1b, hprs⟩ off F N
      obtain ⟨one, tone, rfl, hone⟩ := IntsAre.at i1 j v (by simpa using hv)
      rw [m3_one] at F
      k_extra "go"
      k_extra "for"
      k_extra "go"
      k_dflt (refine' Ctr.use (sums_spec 12 ((J, oJ) :: (b1, listOf vs1.toArray k1) :: (I, oI) :: (b, listOf vs.toArray c) :: (prs ++ news)) ((i : Int) - gs) (gn + gr - (i : Int)) _ _ (by omega) (by omega) (by omega) (by omega) (by omega)) ?kB ?kF ?kX ?kN ?kT ?kK ?kd ?ku ?_)
      k_extra "ret"
      rintro v led h' tk' ⟨b2, vs2, k2, rfl, i2, rfl, off2⟩ F' N'
      rw [hL2] at i2
      k_extra "go"
      have e2 := i2.length
      have hjl : ((S1.take j).flatMap fun one => S2.map fun two => ((i : Int), gp + gq + ((i : Int) - gr) * ((i : Int) - gs) + one + two)).length ≤ 2500 := by
        refine Nat.le_trans (flatMap_len (c := 50) fun x _ => by simpa using hs2) ?_
        have : (S1.take j).length ≤ 50 := by rw [List.length_take]; omega
        omega
      have hj' : j < S1.length := by simp at hj; omega
      have hsn : (S1.take (j + 1)) = S1.take j ++ [one] := by rw [List.take_add_one, hone]; rfl
      generalize hP1 : ((S1.take j).flatMap fun one => S2.map fun two => ((i : Int), gp + gq + ((i : Int) - gr) * ((i : Int) - gs) + one + two)) = P1 at hprs hjl
      refine forList (m₀ := m3 (some (Value.int (↑i) t)) (some (Value.int one tone)) u3 (dueM b gm gr gp gn gs gq tm tr tp tn ts tq)) (news := (b2, listOf vs2.toArray k2) :: (J, oJ) :: (b1, listOf vs1.toArray k1) :: (I, oI) :: (b, listOf vs.toArray c) :: (prs ++ news))
        (fun j' m₁ nw => (∃ u3, m₁ = m3 (some (Value.int (↑i) t)) (some (Value.int one tone)) u3 (dueM b gm gr gp gn gs gq tm tr tp tn ts tq)) ∧ ∃ vs c prs, nw = (b2, listOf vs2.toArray k2) :: (J, oJ) :: (b1, listOf vs1.toArray k1) :: (I, oI) :: (b, listOf vs.toArray c) :: (prs ++ news) ∧ LCg.Off1 b (prs ++ news) ∧ LCg.Off1 I (prs ++ news) ∧ LCg.Off1 J (prs ++ news) ∧ J ≠ b1 ∧ J ≠ I ∧ J ≠ b ∧ b2 ≠ b ∧ Prs (prs ++ news) vs (P0 ++ P1 ++ (S2.take j').map fun two => ((i : Int), gp + gq + ((i : Int) - gr) * ((i : Int) - gs) + one + two)))
        (by rfl) List.mem_cons_self (fun j m nw hj => by obtain ⟨_, vs, c, prs, rfl, _⟩ := hj; exact List.mem_cons_self) (by assumption) (by assumption) ⟨⟨_, rfl⟩, vs, c, prs, rfl, hob, hoI, off.2.2.2, fun e => off.1 e.symm, fun e => off.2.1 e.symm, fun e => off.2.2.1 e.symm, fun e => off2.2.2.2.1 e.symm, by simpa using hprs⟩ ?_ ?_
      · rintro jj v m₁ nw h tk K oK hjj hv ⟨⟨u3, rfl⟩, vs, c, prs, rfl, hob, hoI, hoJ, hJ1, hJI, hJb, hb2b, hprs⟩ off F N
        obtain ⟨two, ttwo, rfl, htwo⟩ := IntsAre.at i2 jj v (by simpa using hv)
        rw [m3_two] at F
        have hb1b' := hb1b
        have hIb' := hIb
        have hlen := hprs.length
        simp only [List.length_append, List.length_map, List.length_take] at hlen
        k_extra "goN"
        refine newList_K (by k_asm) (by k_asm) (fun a2 hpA FA NA lA => ?_)
        k_extra "go"
        refine append_M (pre := [(a2, _), (K, oK), (b2, _), (J, oJ), (b1, _), (I, oI)]) (post := prs ++ news) (by assumption) (by assumption) ?_ (off1_mem hob) (by rw [PySem.sizeLine_eq]; simp only [List.size_toArray]; omega) ?_
        · have q1 : b < a2 := lA (b, listOf vs.toArray c) (by news_mem)
          have q2 : K ≠ b := fun e => off.2.2.2.2.1 e.symm
          intro p hp
          simp only [List.mem_cons, List.not_mem_nil, or_false] at hp
          rcases hp with rfl | rfl | rfl | rfl | rfl | rfl
          · exact Nat.ne_of_gt q1
          · exact q2
          · exact hb2b
          · exact hJb
          · exact hb1b
          · exact hIb
        · intro h2 F2 N2
          k_extra "go"
          rw [List.push_toArray] at N2
          simp only [List.cons_append, List.nil_append] at N2
          have la : ∀ p ∈ prs ++ news, p.1 < a2 := fun p hp => lA p (by repeat (first | exact hp | refine List.mem_cons_of_mem _ ?_))
          have lb : b < a2 := lA (b, listOf vs.toArray c) (by news_mem)
          have lK : K < a2 := lA (K, oK) (by news_mem)
          have lI : I < a2 := lA (I, oI) (by news_mem)
          have lJ : J < a2 := lA (J, oJ) (by news_mem)
          refine LEnd.intro F2 (news₂ := (b2, listOf vs2.toArray k2) :: (J, oJ) :: (b1, listOf vs1.toArray k1) :: (I, oI) :: (b, listOf (vs ++ [Value.ref a2]).toArray (c + 1)) :: (a2, pairObj i (gp + gq + ((i : Int) - gr) * ((i : Int) - gs) + one + two) _ _ _) :: (prs ++ news)) (cb_drop N2 (by lcg_sub)) ⟨off.1, off.2.1, off.2.2.1, off.2.2.2.1, off.2.2.2.2.1, Nat.ne_of_gt lK, off.2.2.2.2.2⟩
            ⟨⟨_, rfl⟩, _, _, (a2, _) :: prs, rfl, ⟨Nat.ne_of_gt lb, hob⟩, ⟨Nat.ne_of_gt lI, hoI⟩, ⟨Nat.ne_of_gt lJ, hoJ⟩, hJ1, hJI, hJb, hb2b, ?_⟩
          rw [show S2.take (jj + 1) = S2.take jj ++ [two] by rw [List.take_add_one, htwo]; rfl, List.map_append, ← List.append_assoc]
          exact (hprs.mono fun p hp => List.mem_cons_of_mem _ hp).snoc List.mem_cons_self
      · rintro m₁ nw h tk ⟨⟨u3, rfl⟩, vs, c, prs, rfl, hob, hoI, hoJ, hJ1, hJI, hJb, hb2b, hprs⟩ F N
        k_extra "go"
        refine LEnd.intro F (news₂ := (b1, listOf vs1.toArray k1) :: (I, oI) :: (b, listOf vs.toArray c) :: (prs ++ news)) (fun p hp => N p (List.mem_cons_of_mem _ hp)) ⟨hJ1.symm, hJI.symm, hJb.symm, hoJ⟩ ⟨⟨_, _, rfl⟩, vs, c, prs, rfl, hob, hoI, hIb, hb1b, ?_⟩
        rw [hsn, List.flatMap_append, hP1]
        rw [List.take_of_length_le (by simp; omega)] at hprs
        simpa using hprs
    · rintro m₁ nw h tk ⟨⟨u2, u3, rfl⟩, vs, c, prs, rfl, hob, hoI, hIb, hb1b, hprs⟩ F N
      k_extra "go"
      refine LEnd.intro F (news₂ := (b, listOf vs.toArray c) :: (prs ++ news)) (fun p hp => N p (List.mem_cons_of_mem _ hp)) ⟨hIb.symm, hoI⟩ ⟨⟨_, _, _, rfl⟩, vs, c, prs, rfl, hob, ?_⟩
      rw [List.take_of_length_le (by simp; omega)] at hprs
      rw [List.range_succ, List.flatMap_append, hP0]
      simpa [dueK, hL1, hL2] using hprs
  · rintro m₁ nw h tk ⟨⟨u1, u2, u3, rfl⟩, vs, c, prs, rfl, hob, hprs⟩ F N
    k_extra "go"
    exact hret _ _ _ _ ⟨_, _, _, _, rfl, rfl, hob, hprs⟩ (by k_asm) (by k_asm)
end
section -- uld
open PySem.SeqAt
/-- a kind of items that list.remove compares -/
structure Kind (α : Type) [DecidableEq α] where
  Rel : Led → Value → α → Prop
  fn : ∀ {h₀ h : Heap} {L : Addr} {led : Led} {v : Value} {a b : α}, News h₀ L h led → Rel led v a → Rel led v b → a = b
  eqAt : ∀ {A : Around} {s : Shared} {h₀ : Heap} {L : Addr} {led : Led} {v u : Value} {a b : α}, News h₀ L s.heap led → Rel led v a → Rel led u b → A.units < cLine → EqAt A s v u (decide (a = b))
inductive All2 {α : Type} (R : Value → α → Prop) : List Value → List α → Prop
  | nil : All2 R [] []
  | cons {v : Value} {a : α} {vs : List Value} {as : List α} : R v a → All2 R vs as → All2 R (v :: vs) (a :: as)
theorem All2.length {α : Type} {R : Value → α → Prop} {vs : List Value} {as : List α} (h : All2 R vs as) : vs.length = as.length := by
  induction h with
  | nil => rfl
  | cons _ _ ih => simp [ih]
theorem All2.append {α : Type} {R : Value → α → Prop} {vs us : List Value} {as bs : List α} (h : All2 R vs as) (h2 : All2 R us bs) : All2 R (vs ++ us) (as ++ bs) := by
  induction h with
  | nil => exact h2
  | cons h1 _ ih => exact .cons h1 ih
theorem All2.get {α : Type} {R : Value → α → Prop} {vs : List Value} {as : List α} (h : All2 R vs as) : ∀ (i : Nat) (h1 : i < vs.length) (h2 : i < as.length), R vs[i] as[i] := by
  induction h with
  | nil => intro i h1; simp at h1
  | cons h0 _ ih =>
    intro i h1 h2
    cases i with
    | zero => exact h0
    | succ i => exact ih i (by simpa using h1) (by simpa using h2)
theorem All2.eraseIdx {α : Type} {R : Value → α → Prop} {vs : List Value} {as : List α} (h : All2 R vs as) : ∀ i : Nat, All2 R (vs.eraseIdx i) (as.eraseIdx i) := by
  induction h with
  | nil => intro i; simpa using All2.nil
  | cons h0 ht ih =>
    intro i
    cases i with
    | zero => simpa using ht
    | succ i => simpa using All2.cons h0 (ih i)
theorem All2.splitLast {α : Type} {R : Value → α → Prop} {vs : List Value} {as : List α} {a : α} (h : All2 R vs (as ++ [a])) : ∃ us v, vs = us ++ [v] ∧ All2 R us as ∧ R v a := by
  induction as generalizing vs with
  | nil =>
    cases h with
    | cons h1 h2 => cases h2; exact ⟨[], _, rfl, .nil, h1⟩
  | cons b as ih =>
    cases h with
    | cons h1 h2 =>
      obtain ⟨us, v, rfl, h3, h4⟩ := ih h2
      exact ⟨_ :: us, v, rfl, .cons h1 h3, h4⟩
def ulR {α : Type} [DecidableEq α] : List α → List α → List α → List α × List α
  | [], act, mis => (mis, act)
  | x :: r, act, mis => if x ∈ act then ulR r (act.erase x) mis else ulR r act (mis ++ [x])
abbrev tupOf (its : Array Value) (n : Nat) : Obj := { cls := .type "tuple", data := .seq its n }
/-- called from one def's frame alone: a try in the callee turns the frames above it -/
def Ctr1 (w : World) (mean : ExcName → Option Value) (mg mb : Str → Option Value) (f : Addr) (vs : List Value) (news : Led) (dk uk : Nat) (Post : Value → Led → Prop) : Prop :=
  ∀ (dp un : Nat) (gd : Option (List Code)) (cn : Str) (cs : Scope) (a : Addr) (ccd : Value) (cl : List (Str × Addr)) (h₀ : Heap) (L : Addr) (m : Str → Option Value) (s : Shared) (Q E : Value → Shared → Prop),
    Fr h₀ L s.heap m → (hd.heap_39 w.params).In h₀ → News h₀ L s.heap news → Top hd.view_39 (looseW hd.view_39 []) mean mg mb h₀ → cs.kind = .function → dp + dk < recursionLimit → un + uk < cLine →
    (∀ v led h' tk', Post v led → Fr h₀ L h' m → News h₀ L h' led → Q v { s with heap := h', toks := tk' }) →
    wpAny (model Challenge.rw_tv0002_01.row.toRowW.prog w) (ktrTop dp un gd cn cs L a ccd cl []) (call (.ref f) vs) Q E s
theorem code_T {prog : Program} {w : World} {A : Around} {s : Shared} {h₀ : Heap} {L a : Addr} {m : Str → Option Value} {cn : Str} {cs : Scope} {ccd : Value} {cl : List (Str × Addr)} {news : Led} {K : Frag} {p : Program} {loose : List Str} {mean : ExcName → Option Value} {mg mb : Str → Option Value}
    {R : Result → Shared → Prop} {name qual : Str} {params : Arguments} {body : List Stmt} {scope : Scope} {dV kV doc pm cdv ct oc : Value} {an od : Option Addr} {osl : Array (Option Value)} {f : Addr} {args : Args} {binds : List (Str × Value)}
    (F : Fr h₀ L s.heap m) (X₀ : K.In h₀) (N : News h₀ L s.heap news) (T : Top p loose mean mg mb h₀)
    (ho : K.lookup f = some ⟨oc, od, .func (fnOf name qual params body scope dV kV doc pm an cdv ct), osl⟩) (hcd : codeIn K cdv qual = true) (hroom : A.depth < recursionLimit)
    (hbind : BindsTo s (fnOf name qual params body scope dV kV doc pm an cdv ct) args binds) (hloc : ∀ y ∈ binds, scope.names.lookup y.1 = some .local)
    (h : ∀ L' oL h₁, TI.Caller h₀ L m oL → TI.Frs [envX cn cs L a ccd cl] [(L, oL)] → (∀ p ∈ news, p.1 ≠ L) → (∀ p ∈ news, p.1 < L') → Fr h₀ L' h₁ (fun y => binds.reverse.lookup y) → News h₀ L' h₁ (news ++ [(L, oL)]) →
      wpAny (model prog w) (A.deeper (envOf qual scope L' f cdv)) (execs body (envOf qual scope L' f cdv))
        (fun fl s' => TI.LeaveI s' (R (.ok (.ret (match fl with | .ret v => v | _ => .none))) s'))
        (fun e s' => wpAny (model prog w) (A.deeper (envOf qual scope L' f cdv)) (leaving (envOf qual scope L' f cdv) e) (fun _ s'' => R (.error e) s'') (fun e' s'' => R (.error e') s'') s')
        { s with heap := h₁, toks := s.toks + binds.length })
    (hck : cs.kind = .function) (hco : scope.isCoroutine = false) (hgen : scope.isGenerator = false) (hk : scope.kind = .function)
    (hcell : ∀ x ∈ scope.names, x.2 ≠ .cell) : codeAny (model prog w) A (.call (.ref f) args) R s := by
  have X := X₀.keeps F.keep
  obtain ⟨oL, es, ep, hL, hLd, hLk, hLf⟩ := F.ns
  have hLt := Heap.lt_size hL
  refine codeAny_call_def (fd := fnOf name qual params body scope dV kV doc pm an cdv ct) (body := body) (binds := binds) hroom (X _ _ ho) rfl (T.nolimit.keeps F.keep) (codeRec_of X hcd) rfl hbind hcell hloc (fun h₁ hns hk₁ => ?_) hco hgen hk
  refine h s.heap.objs.size oL h₁ ⟨fun h' sl e => ⟨_, es, ep, e, hLd, hLk, hLf⟩, ⟨es, ep, hLd⟩, F.above⟩ ⟨by show cs.kind ≠ _; rw [hck]; decide, rfl, ⟨es, ep, hLd⟩, trivial⟩ (fun p hp => (N p hp).2.1) (fun p hp => Heap.lt_size (N p hp).1)
    ⟨hns, fun b o e => hk₁ b o (F.keep b o e), Nat.le_trans F.above (Nat.le_of_lt hLt)⟩ (fun p hp => ?_)
  rcases List.mem_append.mp hp with hp | hp
  · obtain ⟨z1, _, z3⟩ := N p hp
    exact ⟨hk₁ _ _ z1, Nat.ne_of_lt (Heap.lt_size z1), z3⟩
  · rw [List.mem_singleton.mp hp]
    exact ⟨hk₁ _ _ hL, Nat.ne_of_lt hLt, Heap.get?_none_of_le F.above⟩
abbrev uldM (mis le la : Addr) : Str → Option Value := fun y => if y = Str.ofString "missing" then some (.ref mis) else List.lookup y [(Str.ofString "actual", .ref la), (Str.ofString "expected", .ref le)]
theorem kl_last_snoc : ∀ (us : List Value) (v : Value), kl_last (us ++ [v]) = some (us, v)
  | [], _ => rfl
  | u :: us, v => by
    show (match kl_last (us ++ [v]) with | some (p, y) => some (u :: p, y) | none => some ([], u)) = _
    rw [kl_last_snoc us v]
theorem allNe_of {L : Addr} : ∀ {l : Led}, (∀ p ∈ l, p.1 ≠ L) → TLg.AllNe L l
  | [], _ => trivial
  | _ :: _, h => ⟨h _ List.mem_cons_self, allNe_of fun p hp => h p (List.mem_cons_of_mem _ hp)⟩
def UldJ {α : Type} [DecidableEq α] (K : Kind α) (rest : Led) (cn : Str) (cs : Scope) (L a : Addr) (ccd : Value) (cl : List (Str × Addr)) (oL : Obj) (mis le la : Addr) (es as : List α) (n : Nat) (m₁ : Str → Option Value) (nw : Led) : Prop :=
  (∃ u, m₁ = fun y => if y = Str.ofString "item" then u else uldM mis le la y) ∧ ∃ (es' as' ms' : List α) (ve' va' vm : List Value) (ce' ca' cm : Nat) (sl : Array (Option Value)), n = es'.length ∧
    nw = (mis, listOf vm.toArray cm) :: (le, listOf ve'.toArray ce') :: (la, listOf va'.toArray ca') :: (rest ++ [(L, { oL with slots := sl })]) ∧
    All2 (K.Rel rest) ve' es' ∧ All2 (K.Rel rest) va' as' ∧ All2 (K.Rel rest) vm ms' ∧ TI.Frs [envX cn cs L a ccd cl] [(L, { oL with slots := sl })] ∧
    ulR es'.reverse as' ms' = ulR es.reverse as [] ∧ es'.length ≤ 1000 ∧ as'.length ≤ 1000 ∧ ms'.length + es'.length ≤ 1000
theorem uld_spec {w : World} {mean : ExcName → Option Value} {mg mb : Str → Option Value} {α : Type} [DecidableEq α] (K : Kind α) (rest : Led) (le la : Addr) (ve va : List Value) (ce ca : Nat) (es as : List α)
    (hne : le ≠ la) (ole : LCg.Off1 le rest) (ola : LCg.Off1 la rest) (re : All2 (K.Rel rest) ve es) (ra : All2 (K.Rel rest) va as) (l1 : es.length ≤ 1000) (l2 : as.length ≤ 1000) :
    Ctr1 w mean mg mb 35 [.ref le, .ref la] ((le, listOf ve.toArray ce) :: (la, listOf va.toArray ca) :: rest) 2 200
      (fun v led => ∃ b mis vm va' cm ce' ca' n, v = .ref b ∧ led = (b, tupOf #[.ref mis, .ref la] n) :: (mis, listOf vm.toArray cm) :: (le, listOf #[] ce') :: (la, listOf va'.toArray ca') :: rest ∧
        All2 (K.Rel rest) vm (ulR es.reverse as []).1 ∧ All2 (K.Rel rest) va' (ulR es.reverse as []).2 ∧ b ≠ mis ∧ b ≠ le ∧ b ≠ la ∧ LCg.Off1 b rest ∧ mis ≠ le ∧ mis ≠ la ∧ LCg.Off1 mis rest) := by
  unfold Ctr1
  k_fill
  intro dp un gd cn cs a ccd cl h₀ L m s Q E F X N T hk hd hu hret
  refine wpAny_call ?_
  k_dflt (refine' code_T (cn := cn) (cs := cs) (a := a) (ccd := ccd) (cl := cl) ?k1 ?k2 ?k3 ?k4 ?k6 ?k7 ?k8 ?k9 ?kB ?_ ?c1 ?c2 ?c3 ?c4 ?c5)
  case k1 => exact F
  case k2 => exact X
  case k3 => exact N
  case k4 => exact T
  case k6 => k_is
  case k7 => k_is
  case k8 => ktr_room
  case k9 => exact BindsTo.of_eq rfl
  case kB => exact locs rfl
  case c1 => exact hk
  case c2 => rfl
  case c3 => rfl
  case c4 => rfl
  case c5 => decide
  intro L1 oL hp1 tiC tiF tiE lL F1 N1
  (try (generalize s.toks + List.length _ = tk1))
  replace F1 : Fr h₀ L1 hp1 (fun z => List.lookup z [(Str.ofString "actual", .ref la), (Str.ofString "expected", .ref le)]) := by with_unfolding_all exact F1
  dsimp only
  refine wpAny_execs_cons ?_
  k_extra "goN"
  refine newList_K (by k_asm) (by k_asm) (fun mis hpB FB NB lB => ?_)
  clear F1 N1
  k_extra "goW"
  have hmL : ∀ p ∈ (le, listOf ve.toArray ce) :: (la, listOf va.toArray ca) :: rest, p.1 < mis := fun p hp => lB p (List.mem_append_left _ hp)
  have hlL : L < mis := lB (L, oL) (List.mem_append_right _ List.mem_cons_self)
  have nle : mis ≠ le := Nat.ne_of_gt (hmL (le, listOf ve.toArray ce) List.mem_cons_self)
  have nla : mis ≠ la := Nat.ne_of_gt (hmL (la, listOf va.toArray ca) (List.mem_cons_of_mem _ List.mem_cons_self))
  have nrs : LCg.Off1 mis rest := off1_of fun p hp => Nat.ne_of_lt (hmL p (List.mem_cons_of_mem _ (List.mem_cons_of_mem _ hp)))
  have leL : le ≠ L := tiE (le, listOf ve.toArray ce) List.mem_cons_self
  have laL : la ≠ L := tiE (la, listOf va.toArray ca) (List.mem_cons_of_mem _ List.mem_cons_self)
  have rsL : ∀ p ∈ rest, p.1 ≠ L := fun p hp => tiE p (List.mem_cons_of_mem _ (List.mem_cons_of_mem _ hp))
  refine While_inv2 (n₀ := es.length) (m := uldM mis le la) (news := (mis, listOf [].toArray 0) :: (le, listOf ve.toArray ce) :: (la, listOf va.toArray ca) :: (rest ++ [(L, oL)])) (UldJ K rest cn cs L a ccd cl oL mis le la es as) (by assumption) (by assumption)
    ⟨⟨_, ite_self2 _⟩, es, as, [], ve, va, [], ce, ca, 0, oL.slots, rfl, rfl, re, ra, .nil, tiF, rfl, l1, l2, by simpa using l1⟩ ?_
  rintro n m₁ news₁ h₁ tk₁ F₁ N₁ ⟨⟨u, rfl⟩, es', as', ms', ve', va', vm, ce', ca', cm, sl, rfl, rfl, re', ra', rm', tiF', ulE, k1, k2, k3⟩
  k_extra "goW"
  have hve := re'.length
  have hva := ra'.length
  have hvm := rm'.length
  refine wpAny_truthy_list (items := ve'.toArray) (News.isList (n := ce') N₁ (by news_mem)) (by simp only [List.size_toArray]; omega) ?_
  rcases List.eq_nil_or_concat es' with rfl | ⟨es1, x, rfl⟩
  · cases re'
    dsimp only
    rw [if_neg (by decide)]
    k_extra "goW"
    skip
    rename Fr _ _ _ _ => FZ
    rename News _ _ _ _ => NZ
    rename _ ∧ _ ∧ _ ∧ AllLt _ _ => ltD
    refine TLg.leave_back (new := [(_, tupOf #[.ref mis, .ref la] 0), (mis, listOf vm.toArray cm), (le, listOf #[] ce'), (la, listOf va'.toArray ca')] ++ rest) (sl := sl) tiC FZ (by simpa using NZ) ?_ ?_
    · exact ⟨Nat.ne_of_gt (Nat.lt_trans hlL ltD.1), Nat.ne_of_gt hlL, leL, laL, allNe_of rsL⟩
    · intro F' N'
      refine hret _ _ _ _ ⟨_, mis, vm, va', cm, ce', ca', 0, rfl, rfl, ?_, ?_, Nat.ne_of_gt ltD.1, Nat.ne_of_gt ltD.2.1, Nat.ne_of_gt ltD.2.2.1, off1_of_lt (allLt_left ltD.2.2.2), nle, nla, nrs⟩ F' N'
      · rw [← ulE]; exact rm'
      · rw [← ulE]; exact ra'
  · rw [List.concat_eq_append] at *
    obtain ⟨us, v, rfl, ru, hx⟩ := re'.splitLast
    rw [if_pos (by simp)]
    simp only [List.length_append, List.length_singleton] at k1 k3 hve
    have hus : us.length = es1.length := by simpa using hve
    k_extra "goW"
    refine kl_method N₁ (n := ce') (its := (us ++ [v]).toArray) (by news_mem) PySem.F.slot_list_pop PySem.F.type_list_pop ?_
    k_extra "goW"
    refine kl_pop (p := us) (y := v) (n := ce') (its := (us ++ [v]).toArray) F₁ N₁ (kl_last_snoc us v) (.tail nle (.head (fun p hp => ?_))) (by simp only [List.length_append, List.length_singleton]; rw [PySem.sizeLine_eq]; omega) ?_
    · rcases List.mem_cons.mp hp with rfl | hp
      · exact hne.symm
      · rcases List.mem_append.mp hp with hp | hp
        · exact off1_mem ole p hp
        · rw [List.mem_singleton.mp hp]; exact leL.symm
    intro hp2 F2 N2
    clear F₁ N₁
    k_extra "goW"
    rename Fr _ _ _ _ => F3
    rename News _ _ _ _ => N3
    rw [show (fun y => if y = Str.ofString "item" then some v else if y = Str.ofString "item" then u else uldM mis le la y) = fun y => if y = Str.ofString "item" then some v else uldM mis le la y from ite_ite _] at F3
    refine wpAny_Try_except ?_
    k_extra "goW"
    refine kl_method N3 (n := ca') (its := va'.toArray) (by news_mem) PySem.F.slot_list_remove PySem.F.type_list_remove ?_
    k_extra "goW"
    have hrev : (es1 ++ [x]).reverse = x :: es1.reverse := by simp
    rw [hrev] at ulE
    have NR := fun p hp => N3 p (List.mem_cons_of_mem _ (List.mem_cons_of_mem _ (List.mem_cons_of_mem _ (List.mem_append_left _ hp))))
    classical
    by_cases hmem : x ∈ as'
    · have hj : as'.idxOf x < as'.length := List.idxOf_lt_length_iff.mpr hmem
      have hj2 : as'.idxOf x < va'.toArray.size := by simpa [hva] using hj
      have hjx : as'[as'.idxOf x] = x := List.getElem_idxOf hj
      refine remove_hitM (pre := [(mis, listOf vm.toArray cm), (le, listOf us.toArray (ce' + 1))]) (its := va'.toArray) (c := ca') (b := la) (post := rest ++ [((L : Addr), ({ oL with slots := sl } : Obj))]) (fun y => decide (K.Rel rest y x)) (as'.idxOf x) F3 N3 ?_ ?_ (by rw [PySem.sizeLine_eq]; simp only [List.size_toArray]; omega) hj2 ?_ ?_ ?_ ?_
      · intro p hp
        simp only [List.mem_cons, List.not_mem_nil, or_false] at hp
        rcases hp with rfl | rfl
        · exact nla
        · exact hne
      · intro p hp
        rcases List.mem_append.mp hp with hp | hp
        · exact off1_mem ola p hp
        · rw [List.mem_singleton.mp hp]; exact laL.symm
      · have := ra'.get (as'.idxOf x) (by simpa [hva] using hj) hj
        rw [hjx] at this
        simpa using this
      · intro i hi hij
        have hi2 : i < as'.length := by omega
        have h1 := ra'.get i (by omega) hi2
        have h2 : as'[i] ≠ x := fun e => by
          have := List.not_of_lt_findIdx (p := fun y => y == x) (xs := as') (i := i) hij
          simp [e] at this
        have h3 : ¬ K.Rel rest va'[i] x := fun h => h2 (K.fn (fun p hp => N3 p (List.mem_cons_of_mem _ (List.mem_cons_of_mem _ (List.mem_cons_of_mem _ (List.mem_append_left _ hp))))) h1 h)
        simpa using h3
      · intro y hy
        obtain ⟨i, hi, rfl⟩ := List.mem_iff_getElem.mp (List.mem_toArray.mp hy)
        have hi2 : i < as'.length := by omega
        have h1 := ra'.get i hi hi2
        have h3 : decide (as'[i] = x) = decide (K.Rel rest va'[i] x) := by
          rw [decide_eq_decide]
          exact ⟨fun e => e ▸ h1, fun h => K.fn NR h1 h⟩
        show EqAt _ _ _ _ (decide (K.Rel rest va'[i] x))
        rw [← h3]
        exact K.eqAt NR h1 hx (by ktr_units)
      · intro h4 F4 N4
        k_extra "goW"
        refine ⟨_, _, _, _, es1.length, rfl, F4, N4, by simp, ⟨_, rfl⟩, es1, as'.erase x, ms', us, va'.eraseIdx (as'.idxOf x), vm, ce' + 1, ca' + 1, cm, sl, rfl, ?_, ru, ?_, rm', tiF', ?_, by omega, Nat.le_trans (List.length_erase_le) k2, by omega⟩
        · rw [show (va'.toArray.eraseIdxIfInBounds (as'.idxOf x)) = (va'.eraseIdx (as'.idxOf x)).toArray by
            unfold Array.eraseIdxIfInBounds; rw [dif_pos hj2]; simp]
          rfl
        · rw [List.erase_eq_eraseIdx_of_idxOf rfl]
          exact ra'.eraseIdx _
        · rw [← ulE]; simp only [ulR, if_pos hmem]
    · refine remove_missM (N3 (la, listOf va'.toArray ca') (by news_mem)).1 rfl ?_ ?_
      · intro y hy
        obtain ⟨i, hi, rfl⟩ := List.mem_iff_getElem.mp (List.mem_toArray.mp hy)
        have hi2 : i < as'.length := by omega
        have h1 := ra'.get i hi hi2
        have h3 : decide (as'[i] = x) = false := by
          rw [decide_eq_false_iff_not]
          exact fun e => hmem (e ▸ List.getElem_mem _)
        show EqAt _ _ _ _ false
        rw [← h3]
        exact K.eqAt NR h1 hx (by ktr_units)
      · intro h5 tk5 ex hx5
        refine TLg.noted_new1 (new := [(mis, listOf vm.toArray cm), (le, listOf us.toArray (ce' + 1)), (la, listOf va'.toArray ca')] ++ rest) (by rfl) tiF' hx5 F3 (by simpa using N3) ?_ ?_
        · exact ⟨Nat.ne_of_gt hlL, leL, laL, allNe_of rsL⟩
        · intro h6 sl6 tiF6 H6
          refine TT.HeldNA.land H6 ?_
          intro h7 H7
          have HH := TT.HeldNA.held H7
          walk1
          k_extra "goW"
          rename Fr _ _ _ _ => F7
          rename News _ _ _ _ => N7
          simp only [List.cons_append, List.nil_append] at N7
          refine kl_method N7 (n := cm) (its := vm.toArray) (by news_mem) PySem.F.slot_list_append PySem.F.type_list_append ?_
          k_extra "goW"
          refine append_M (its := vm.toArray) (c := cm) (b := mis) (pre := []) (post := (le, listOf us.toArray (ce' + 1)) :: (la, listOf va'.toArray ca') :: (rest ++ [((L : Addr), ({ oL with slots := sl6 } : Obj))])) F7 N7 (fun _ hp => nomatch hp) ?_ (by rw [PySem.sizeLine_eq]; simp only [List.size_toArray]; omega) ?_
          · intro p hp
            rcases List.mem_cons.mp hp with rfl | hp
            · exact nle.symm
            · rcases List.mem_cons.mp hp with rfl | hp
              · exact nla.symm
              · rcases List.mem_append.mp hp with hp | hp
                · exact off1_mem nrs p hp
                · rw [List.mem_singleton.mp hp]; exact Nat.ne_of_lt hlL
          · intro h8 F8 N8
            k_extra "goW"
            rw [List.push_toArray] at N8
            refine ⟨_, _, _, _, es1.length, rfl, F8, N8, by simp, ⟨_, rfl⟩, es1, as', ms' ++ [x], us, va', vm ++ [v], ce' + 1, ca', cm + 1, sl6, rfl, rfl, ru, ra', rm'.append (.cons hx .nil), tiF6, ?_, by omega, k2, by simp only [List.length_append, List.length_singleton]; omega⟩
            rw [← ulE]; simp only [ulR, if_neg hmem]
end
section -- rows
/-- a def that reads the base: a contract with a premise on it -/
def CtrP (w : World) (mean : ExcName → Option Value) (mg mb : Str → Option Value) (P : Heap → Prop) (f : Addr) (vs : List Value) (news : Led) (dk uk : Nat) (Post : Value → Led → Prop) : Prop :=
  ∀ (dp un : Nat) (gd : Option (List Code)) (cn : Str) (cs : Scope) (a : Addr) (ccd : Value) (cl : List (Str × Addr)) (outer : List PySem.Env) (A₀ : Around) (base h₀ : Heap) (L : Addr) (m : Str → Option Value) (s : Shared) (Q E : Value → Shared → Prop),
    Below A₀ base outer h₀ → Fr h₀ L s.heap m → (hd.heap_39 w.params).In h₀ → News h₀ L s.heap news → Top hd.view_39 (looseW hd.view_39 []) mean mg mb h₀ → cs.kind = .function → dp + dk < recursionLimit → un + uk < cLine → P h₀ →
    (∀ v led h' tk', Post v led → Fr h₀ L h' m → News h₀ L h' led → Q v { s with heap := h', toks := tk' }) →
    wpAny (model Challenge.rw_tv0002_01.row.toRowW.prog w) (ktrTop dp un gd cn cs L a ccd cl outer) (call (.ref f) vs) Q E s
def pickL {α : Type} (l : List α) : List Nat → List α
  | [] => l
  | j :: js => pickL (l.eraseIdx j) js
def pickR {α : Type} (l : List α) : List Nat → List α
  | [] => []
  | j :: js => (l[j]?).toList ++ pickR (l.eraseIdx j) js
def fits (n : Nat) : List Nat → Bool
  | [] => true
  | j :: js => decide (j < n) && fits (n - 1) js
theorem pickL_snoc {α : Type} {j : Nat} : ∀ {js : List Nat} {l : List α}, pickL l (js ++ [j]) = (pickL l js).eraseIdx j
  | [], _ => rfl
  | _ :: js, _ => pickL_snoc (js := js)
theorem pickR_snoc {α : Type} {j : Nat} : ∀ {js : List Nat} {l : List α}, pickR l (js ++ [j]) = pickR l js ++ ((pickL l js)[j]?).toList
  | [], l => by simp [pickR, pickL]
  | i :: js, l => by
    show (l[i]?).toList ++ pickR (l.eraseIdx i) (js ++ [j]) = ((l[i]?).toList ++ pickR (l.eraseIdx i) js) ++ _
    rw [pickR_snoc, List.append_assoc]; rfl
theorem fits_snoc {j : Nat} : ∀ {js : List Nat} {n : Nat}, fits n js = true → j < n - js.length → fits n (js ++ [j]) = true
  | [], n, _, h => by simpa [fits] using h
  | i :: js, n, h, h2 => by
    simp only [fits, List.cons_append, Bool.and_eq_true, List.length_cons] at h h2 ⊢
    exact ⟨h.1, fits_snoc h.2 (by omega)⟩
theorem pickL_length {α : Type} : ∀ {js : List Nat} {l : List α}, fits l.length js = true → (pickL l js).length = l.length - js.length
  | [], _, _ => rfl
  | j :: js, l, h => by
    simp only [fits, Bool.and_eq_true, decide_eq_true_eq] at h
    have h1 : (l.eraseIdx j).length = l.length - 1 := List.length_eraseIdx_of_lt h.1
    show (pickL (l.eraseIdx j) js).length = _
    rw [pickL_length (by rw [h1]; exact h.2), h1, List.length_cons]; omega
theorem pickR_length {α : Type} : ∀ {js : List Nat} {l : List α}, fits l.length js = true → (pickR l js).length = js.length
  | [], _, _ => rfl
  | j :: js, l, h => by
    simp only [fits, Bool.and_eq_true, decide_eq_true_eq] at h
    have h1 : (l.eraseIdx j).length = l.length - 1 := List.length_eraseIdx_of_lt h.1
    show ((l[j]?).toList ++ pickR (l.eraseIdx j) js).length = _
    rw [List.length_append, pickR_length (by rw [h1]; exact h.2), List.getElem?_eq_getElem h.1]; simp; omega
abbrev rowM (cb sc nm : Addr) : Str → Option Value := fun y => if y = Str.ofString "cells" then some (.ref cb) else List.lookup y [(Str.ofString "names", .ref nm), (Str.ofString "script", .ref sc)]
theorem upd_at {d : Addr} {o o' : Obj} : ∀ {pre post : Led}, (∀ p ∈ pre, p.1 ≠ d) → (∀ p ∈ post, p.1 ≠ d) → Upd d o o' (pre ++ (d, o) :: post) (pre ++ (d, o') :: post)
  | [], _, _, h => .head h
  | _ :: _, _, h1, h2 => .tail (h1 _ List.mem_cons_self) (upd_at (fun p hp => h1 p (List.mem_cons_of_mem _ hp)) h2)
theorem kl_cut_at : ∀ {l : List Value} {k : Nat} (h : k < l.length), kl_cut l k = some (l.take k, l[k], l.drop (k + 1))
  | _ :: _, 0, _ => rfl
  | x :: l, k + 1, h => by
    show (match kl_cut l k with | some (p, y, q) => some (x :: p, y, q) | none => none) = _
    rw [kl_cut_at (l := l) (k := k) (by simpa using h)]
    rfl
theorem popAtM {prog : Program} {w : World} {A : Around} {E : Value → Shared → Prop} {s : Shared} {h₀ : Heap} {L D : Addr} {m : Str → Option Value} {pre post : Led} {l : List Value} {n : Nat} {i : Int} {u : Tok} {k : Nat} {Q : Value → Shared → Prop} (F : Fr h₀ L s.heap m) (N : News h₀ L s.heap (pre ++ (D, listOf l.toArray n) :: post)) (h1 : ∀ p ∈ pre, p.1 ≠ D) (h2 : ∀ p ∈ post, p.1 ≠ D)
    (hi : i = (k : Int)) (hk : k < l.length) (hl : l.length ≤ 1000) (h : ∀ h', Fr h₀ L h' m → News h₀ L h' (pre ++ (D, listOf (l.eraseIdx k).toArray (n + 1)) :: post) → Q l[k] { s with heap := h' }) : wpAny (model prog w) A (call (.builtin "list.pop") [.ref D, .int i u]) Q E s := by
  subst hi
  refine kl_popAt (its := l.toArray) F N (by unfold Builtin.List.listFitsIndex; simp; omega) (k := k) (by unfold seqIndex?; simp; omega) (kl_cut_at hk) (upd_at h1 h2) (by rw [PySem.sizeLine_eq]; simp only []; omega) ?_
  rw [← List.eraseIdx_eq_take_drop_succ]
  exact h
theorem slice_upto {l : List Value} {k : Int} (h : 0 ≤ k) : slicePick l.toArray none (some k) none = (l.take k.toNat).toArray := by
  rw [kms_pick_eq]
  unfold kms_pick kms_hi kms_lo
  simp only [if_neg (show ¬ (k < 0) by omega), List.drop_zero, Nat.sub_zero]
  rw [kmk_take_min]
theorem slice_from {l : List Value} {k : Int} (h : 0 ≤ k) : slicePick l.toArray (some k) none none = (l.drop k.toNat).toArray := by
  rw [kms_pick_eq]
  unfold kms_pick kms_hi kms_lo
  simp only [if_neg (show ¬ (k < 0) by omega)]
  rw [kmk_drop_min]
  apply congrArg
  apply List.take_of_length_le
  rw [List.length_drop]; omega
theorem bind2_self {k1 k2 : Str} (m₀ : Str → Option Value) : m₀ = fun y => if y = k1 then m₀ k1 else if y = k2 then m₀ k2 else m₀ y := by
  funext y
  by_cases h : y = k1
  · subst h; simp
  · by_cases h2 : y = k2
    · subst h2; simp [h]
    · simp [h, h2]
theorem bind2_bind2 {k1 k2 : Str} {a b c d : Option Value} (m₀ : Str → Option Value) : (fun y => if y = k1 then a else if y = k2 then b else (fun y => if y = k1 then c else if y = k2 then d else m₀ y) y) = fun y => if y = k1 then a else if y = k2 then b else m₀ y := by
  funext y
  by_cases h : y = k1
  · simp [h]
  · by_cases h2 : y = k2 <;> simp [h, h2]
theorem rows_spec {w : World} {mean : ExcName → Option Value} {mg mb : Str → Option Value} (news : Led) (sc nm : Addr) (vs nv : List Value) (ns : List Int) (cn : Nat) (hv : IntsAre vs ns) (hnm : (nm, listOf nv.toArray cn) ∈ news) (h9 : nv.length = 9) :
    CtrP w mean mg mb (fun h => h.IsList sc vs.toArray) 49 [.ref sc, .ref nm] news 2 300
      (fun v led => ∃ b b1 b2 js cut, v = .ref b ∧ fits 9 js = true ∧ js.length = 5 ∧ 1 ≤ cut ∧ cut ≤ 4 ∧
        led = (b, { cls := .type "tuple", data := .seq #[.ref b1, .ref b2] 0 }) :: (b2, listOf ((pickR nv js).drop cut).toArray 0) :: (b1, listOf ((pickR nv js).take cut).toArray 0) :: news) := by
  unfold CtrP
  k_fill
  intro dp un gd cn cs a ccd cl outer A₀ base h₀ L m s Q E B F X N T hk hd hu hs hret
  refine wpAny_call ?_
  k_extra "m_enter"
  replace hs : g1.IsList sc vs.toArray := hs.at fun o e => FG1.keep _ o e
  replace F1 : Fr g1 L1 hp1 (fun z => List.lookup z [(Str.ofString "names", .ref nm), (Str.ofString "script", .ref sc)]) := by with_unfolding_all exact F1
  refine wpAny_execs_cons ?_
  k_extra "goN"
  refine newList_K (by k_asm) (by k_asm) (fun cb hpB FB NB lB => ?_)
  clear F1 N1
  k_extra "goW"
  k_dflt (refine For_pair3F (by k_asm) (by with_unfolding_all rfl) (by with_unfolding_all rfl) (by with_unfolding_all rfl) (by with_unfolding_all rfl) ?_ (by intro _; with_unfolding_all rfl))
  k_extra "goW"
  rename PairSrcL _ _ _ _ _ _ _ _ _ _ _ _ => hS
  refine PairSrcL.at hS _ rfl _ _ _ _ (fun _ m₁ nw => (∃ u1 u2, m₁ = fun y => if y = Str.ofString "number" then u1 else if y = Str.ofString "place" then u2 else rowM cb sc nm y) ∧ ∃ cs cis, IntsAre cs cis ∧ cis.length = 5 ∧ nw = (cb, listOf cs.toArray 0) :: news)
    ⟨⟨_, _, bind2_self _⟩, _, [21, 5, 2, 3, 2], .cons _ _ (.cons _ _ (.cons _ _ (.cons _ _ (.cons _ _ .nil)))), rfl, rfl⟩ ?_ ?_
  · rintro i a t v m₁ news₁ s₁ own ⟨h, tk, rfl⟩ ha hav ⟨⟨u1, u2, rfl⟩, cs, cis, hci, hc5, rfl⟩ hmap how F N
    obtain ⟨tv, rfl⟩ := ItemKind.int_is hav
    have hcl := hci.length
    rw [show (fun y => if y = Str.ofString "number" then some (Value.int a tv) else if y = Str.ofString "place" then some (Value.int (↑i) t) else if y = Str.ofString "number" then u1 else if y = Str.ofString "place" then u2 else rowM cb sc nm y) = fun y => if y = Str.ofString "number" then some (Value.int a tv) else if y = Str.ofString "place" then some (Value.int (↑i) t) else rowM cb sc nm y from bind2_bind2 _] at F
    k_extra "goW"
    rename News _ _ _ _ => N4
    have hcb : ∀ p ∈ own, p.1 ≠ cb := fun p hp => how p hp (cb, _) List.mem_cons_self
    refine ksa_set (ns := cis) (F := by k_asm) N4 (U := upd_at hcb (fun p hp => Nat.ne_of_lt (lB p hp))) hci (by l_idx) (by l_idx) (by l_idx) ?_
    intro h5 F5 N5 i5 l5 _
    k_extra "goW"
    show LoopStep2 _ _ _ _ _ _ _ _
    exact LoopStep2.intro F5 N5 rfl ⟨⟨_, _, rfl⟩, _, _, i5, l5.trans hc5, rfl⟩
  · intro h' tk m' news' F N hmap hJ
    obtain ⟨⟨u1, u2, rfl⟩, cs, cis, hci, hc5, rfl⟩ := hJ
    have hcl := hci.length
    k_extra "goW"
    rename cb < _ ∧ AllLt _ _ => ltD
    rename_i lb cnt hA FA NA hBB FBB NBB
    refine newList_K (by k_asm) (by k_asm) (fun rb hpR FR NR lR => ?_)
    clear NBB FBB FA NA
    k_extra "goW"
    k_extra "for"
    k_extra "goW"
    rename News _ _ _ _ => N5
    rename Fr _ _ _ _ => F5
    have l1 : rb ≠ lb := Nat.ne_of_gt (lR (lb, _) List.mem_cons_self)
    have l2 : rb ≠ cb := Nat.ne_of_gt (lR (cb, _) (List.mem_cons_of_mem _ List.mem_cons_self))
    have l3 : LCg.Off1 rb news := off1_of fun p hp => Nat.ne_of_lt (lR p (List.mem_cons_of_mem _ (List.mem_cons_of_mem _ hp)))
    have l4 : lb ≠ cb := Nat.ne_of_gt ltD.1
    have l5 : LCg.Off1 lb news := off1_of_lt ltD.2
    have l6 : LCg.Off1 cb news := off1_of fun p hp => Nat.ne_of_lt (lB p hp)
    refine forList (news := (rb, listOf (pickR nv []).toArray 0) :: (lb, listOf (pickL nv []).toArray _) :: (cb, listOf cs.toArray 0) :: news)
      (fun i m₁ nw => (∃ u, m₁ = fun y => if y = Str.ofString "cell" then u else (fun y => if y = Str.ofString "row" then some (Value.ref rb) else if y = Str.ofString "left" then some (Value.ref lb) else if y = Str.ofString "number" then u1 else if y = Str.ofString "place" then u2 else rowM cb sc nm y) y) ∧
        ∃ js c1 c2, js.length = i ∧ fits 9 js = true ∧ nw = (rb, listOf (pickR nv js).toArray c1) :: (lb, listOf (pickL nv js).toArray c2) :: (cb, listOf cs.toArray 0) :: news)
      (by rfl) (List.mem_cons_of_mem _ (List.mem_cons_of_mem _ List.mem_cons_self)) (fun i m nw hj => by obtain ⟨_, js, c1, c2, _, _, rfl⟩ := hj; exact List.mem_cons_of_mem _ (List.mem_cons_of_mem _ List.mem_cons_self)) F5 N5 ⟨⟨_, ite_self2 _⟩, [], _, _, rfl, rfl, rfl⟩ ?_ ?_
    · rintro i v m₁ nw h tk I oI hi hiv ⟨⟨u, rfl⟩, js, c1, c2, hjl, hjf, rfl⟩ off F N
      obtain ⟨cell, tc, rfl, hcell⟩ := IntsAre.at hci i v (by simpa using hiv)
      rw [ite_ite] at F
      have hpl := pickL_length (l := nv) (js := js) (by rw [h9]; exact hjf)
      have hi5 : i < 5 := by simp only [List.size_toArray] at hi; omega
      k_extra "goW"
      walk1
      k_extra "goW"
      walk1
      k_extra "goW"
      refine call_len_list (items := (pickL nv js).toArray) (News.isList (n := c2) N (by news_mem)) (by simp only [List.size_toArray]; omega) ?_
      have hpos : (0 : Int) < ((pickL nv js).toArray.size : Int) := by simp only [List.size_toArray]; omega
      k_extra "goW"
      · have q1 := fmod_lo cell hpos
        have q2 := fmod_hi cell hpos
        have q3 : (cell.fmod ((pickL nv js).toArray.size : Int)).toNat < (pickL nv js).length := by simp only [List.size_toArray] at q1 q2 ⊢; omega
        refine popAtM (l := pickL nv js) (n := c2) (pre := [(I, oI), (rb, listOf (pickR nv js).toArray c1)]) (post := (cb, listOf cs.toArray 0) :: news) (k := (cell.fmod ((pickL nv js).toArray.size : Int)).toNat) (by k_asm) N ?_ ?_ (by omega) q3 (by omega) ?_
        · intro p hp
          simp only [List.mem_cons, List.not_mem_nil, or_false] at hp
          rcases hp with rfl | rfl
          · exact fun e => off.2.1 e.symm
          · exact l1
        · intro p hp
          rcases List.mem_cons.mp hp with rfl | hp
          · exact l4.symm
          · exact off1_mem l5 p hp
        · intro h6 F6 N6
          k_extra "goW"
          refine append_M (its := (pickR nv js).toArray) (c := c1) (b := rb) (pre := [(I, oI)]) (post := (lb, listOf ((pickL nv js).eraseIdx (cell.fmod ((pickL nv js).toArray.size : Int)).toNat).toArray (c2 + 1)) :: (cb, listOf cs.toArray 0) :: news) F6 N6 ?_ ?_ (by rw [PySem.sizeLine_eq]; simp only [List.size_toArray]; rw [pickR_length (by rw [h9]; exact hjf)]; omega) ?_
          · intro p hp
            rw [List.mem_singleton.mp hp]; exact fun e => off.1 e.symm
          · intro p hp
            rcases List.mem_cons.mp hp with rfl | hp
            · exact l1.symm
            · rcases List.mem_cons.mp hp with rfl | hp
              · exact l2.symm
              · exact off1_mem l3 p hp
          · intro h7 F7 N7
            k_extra "goW"
            rw [List.push_toArray] at N7
            generalize (cell.fmod ((pickL nv js).toArray.size : Int)).toNat = kk at q3 N7
            refine LEnd.intro F7 N7 ⟨off.1, off.2.1, off.2.2.1, off.2.2.2⟩ ⟨⟨_, rfl⟩, js ++ [kk], c1 + 1, c2 + 1, by simp [hjl], fits_snoc hjf (by omega), ?_⟩
            rw [pickR_snoc, pickL_snoc, List.getElem?_eq_getElem q3]
            rfl
    · rintro m₁ nw h tk ⟨⟨u, rfl⟩, js, c1, c2, hjl, hjf, rfl⟩ F N
      have hpl := pickR_length (l := nv) (js := js) (by rw [h9]; exact hjf)
      k_extra "goW"
      rename News h₀ _ _ _ => kN
      rw [slice_from (Int.add_nonneg (by decide) (fmod_lo _ (by decide))), slice_upto (Int.add_nonneg (by decide) (fmod_lo _ (by decide)))] at kN
      generalize hcut : (1 + ((cis.getD (Int.toNat 0) 0).fdiv 9).fmod 4).toNat = cut at kN
      refine hret _ _ _ _ ⟨_, _, _, js, cut, rfl, hjf, by rw [hjl, List.size_toArray, hcl, hc5], ?_, ?_, rfl⟩ (by k_asm) (cb_drop kN (by lcg_sub))
      · rw [← hcut]; have := fmod_lo ((cis.getD (Int.toNat 0) 0).fdiv 9) (by decide : (0 : Int) < 4); omega
      · rw [← hcut]; have := fmod_hi ((cis.getD (Int.toNat 0) 0).fdiv 9) (by decide : (0 : Int) < 4); omega
end
section -- order
/-- values that are pairs of texts or none, each a list of the ledger -/
inductive PairsIn (led : Led) : List Value → List (Option Str × Option Str) → Prop
  | nil : PairsIn led [] []
  | cons {a : Addr} {l e : Option (Str × Tok)} {n : Nat} {vs : List Value} {ps : List (Option Str × Option Str)} : (a, listOf #[optV l, optV e] n) ∈ led → PairsIn led vs ps → PairsIn led (.ref a :: vs) ((l.map (·.1), e.map (·.1)) :: ps)
theorem PairsIn.mono {led led' : Led} {vs : List Value} {ps : List (Option Str × Option Str)} (h : PairsIn led vs ps) (hs : ∀ p ∈ led, p ∈ led') : PairsIn led' vs ps := by
  induction h with
  | nil => exact .nil
  | cons hm _ ih => exact .cons (hs _ hm) ih
theorem PairsIn.length {led : Led} {vs : List Value} {ps : List (Option Str × Option Str)} (h : PairsIn led vs ps) : vs.length = ps.length := by
  induction h with
  | nil => rfl
  | cons _ _ ih => simp [ih]
theorem PairsIn.at {led : Led} {vs : List Value} {ps : List (Option Str × Option Str)} (h : PairsIn led vs ps) : ∀ (i : Nat) (v : Value), vs[i]? = some v → ∃ a l e n, v = .ref a ∧ (a, listOf #[optV l, optV e] n) ∈ led ∧ ps[i]? = some (l.map (·.1), e.map (·.1)) := by
  induction h with
  | nil => intro i v h; simp at h
  | @cons a l e n _ _ hm _ ih =>
    intro i v h
    cases i with
    | zero => simp at h; exact ⟨a, l, e, n, h.symm, hm, rfl⟩
    | succ i => simpa using ih i v (by simpa using h)
def localS (p : Option Str × Option Str) : Str :=
  let a := p.1.getD (Str.ofString "C")
  match p.2 with | none => a | some y => a ++ Str.ofString "." ++ y
theorem localName_eq (l e : Option (Str × Tok)) : localName l e = localS (l.map (·.1), e.map (·.1)) := by
  rcases l with _ | ⟨x, tx⟩ <;> rcases e with _ | ⟨y, ty⟩ <;> rfl
theorem coll_self (x : Str) : coll x x = 0 := by unfold coll; omega
theorem order_spec {w : World} {mean : ExcName → Option Value} {mg mb : Str → Option Value} (news : Led) (lp ln : Addr) (vp vn : List Value) (ps : List (Option Str × Option Str)) (xs : List Str) (cp cn' : Nat) (hp : (lp, listOf vp.toArray cp) ∈ news) (hn : (ln, listOf vn.toArray cn') ∈ news)
    (ip : PairsIn news vp ps) (iN : StrsAre vn xs) (l9 : xs.length = 9) (hpx : ps.map localS = xs) (hlp : ∀ p ∈ ps, (∀ x, p.1 = some x → x.length ≤ 1000) ∧ ∀ x, p.2 = some x → x.length ≤ 1000) (hlx : ∀ x ∈ xs, x.cps.size ≤ 1000)
    (hr : ∀ k (h : k + 1 < xs.length), coll xs[k] xs[k + 1] = -1) :
    Ctr w mean mg mb 69 [.ref lp, .ref ln] news 2 300 (fun v led => v = .bool true ∧ led = news) := by
  k_extra "m_ctr"
  k_extra "m_enterC"
  replace F1 : Fr g1 L1 hp1 (fun y => if y = Str.ofString "pairs" then some (.ref lp) else none) := by with_unfolding_all exact F1
  replace Y1 : CellsAre (fun y => if y = Str.ofString "names" then some (.ref ln) else none) [(Str.ofString "again", L1 + 1 + 1), (Str.ofString "names", L1 + 1)] cells1 := by with_unfolding_all exact Y1
  obtain ⟨o1, o2, rfl, d1, d2⟩ := Y1.two
  simp only [if_true] at d1 d2
  rw [if_neg (by decide)] at d1
  clear Y1
  dsimp only [List.cons_append, List.nil_append] at N1
  k_extra "go"
  walk1
  k_extra "compU"
  k_extra "go"
  have e0 := ip.length
  have ps9 : ps.length = 9 := by rw [← l9, ← hpx, List.length_map]
  refine LCg.CompSrc.ledger (by rfl) F1 N1 (ax := lp) (its := vp.toArray) (k := cp) (by news_mem) (by rw [PySem.sizeLine_eq]; simp; omega) ?_
  intro g
  refine restU_fix (n := vp.toArray.size) ((L1 + 1 + 1, o1) :: (L1 + 1, o2) :: news) (J := fun i ys => StrsAre ys (xs.take i)) (by lcg_src) ?_ ?_ _ 0 [] (by omega) (by simpa using StrsAre.nil)
  · intro i ys v I oI C oC D m₂ h tk E' hi hJ hP hC hx F N
    obtain ⟨p, l, e, n, rfl, hpl, hpi⟩ := ip.at i v (by simpa using hP)
    k_extra "go"
    k_dflt (refine' Ctr.use (local_spec ((I, oI) :: (C, oC) :: (D, LCg.lst ys) :: (L1 + 1 + 1, o1) :: (L1 + 1, o2) :: news) p l e n (by news_mem) ?h1 ?h2) ?kB ?kF ?kX ?kN ?kT ?kK ?kd ?ku ?_)
    k_extra "ret"
    case h1 => intro x t ex; subst ex; exact (hlp _ (List.mem_of_getElem? hpi)).1 x rfl
    case h2 => intro x t ex; subst ex; exact (hlp _ (List.mem_of_getElem? hpi)).2 x rfl
    rintro v led h' tk' ⟨⟨t, rfl⟩, rfl⟩ F' N'
    k_extra "go"
    k_extra "turn"
    refine strs_snoc hJ ?_
    rw [← hpx, List.getElem?_map, hpi, localName_eq]; rfl
  · intro ys hJ
    rw [List.take_of_length_le (by simp only [List.size_toArray]; omega)] at hJ
    intro D h' tk F' N' off1
    k_extra "go"
    have lne : ∀ p ∈ news, p.1 ≠ L1 + 1 + 1 := fun p hp => Nat.ne_of_lt (Nat.lt_succ_of_lt (Nat.lt_succ_of_lt (l1 p hp)))
    refine storeX_C (c := L1 + 1 + 1) F' N' rfl (updF_at (pre := [(D, LCg.lst ys)]) (post := (L1 + 1, o2) :: news) (fun p hp => by rw [List.mem_singleton.mp hp]; exact fun e => off1.1 e.symm) ?_) d1 ?_ (by rfl) (by rfl)
    · intro p hp
      rcases List.mem_cons.mp hp with rfl | hp
      · exact Nat.ne_of_lt (Nat.lt_succ_self _)
      · exact lne p hp
    intro h3 o3 F3 N3 d3
    dsimp only [List.cons_append, List.nil_append] at N3
    clear F' N' F1 N1 d1
    k_extra "go"
    k_extra "compAU"
    k_extra "go"
    have eN := iN.length
    refine LCg.CompSrc.range (by rfl) (by k_asm) (by k_asm) (by assumption) (by decide) (n := 8) (by rfl) (by rw [PySem.sizeLine_eq]; omega) ?_
    intro g
    refine restU_fix (n := 8) ((D, LCg.lst ys) :: (L1 + 1 + 1, o3) :: (L1 + 1, o2) :: news) (J := fun i ys => IntsAre ys (List.replicate i (-1))) trivial ?_ ?_ _ 0 [] (by omega) .nil
    · rintro i zs v I oI C oC D2 m₂ h tk E' hi hJ ⟨t, rfl⟩ hC hx F N
      rw [Int.zero_add] at hx
      have hi1 : xs[i]? = some xs[i] := List.getElem?_eq_getElem (by omega)
      have hi2 : xs[i + 1]? = some xs[i + 1] := List.getElem?_eq_getElem (by omega)
      obtain ⟨t1, ht1⟩ := iN.get i _ hi1
      obtain ⟨t2, ht2⟩ := iN.get (i + 1) _ hi2
      k_extra "goS"
      refine item_listL (l := vn) (by is_list) (by omega) (by omega) ht1 ?_
      k_extra "goS"
      refine item_listL (l := vn) (by is_list) (by omega) (by omega) (by rw [show ((i : Int) + 1).toNat = i + 1 by omega]; exact ht2) ?_
      k_extra "goS"
      k_dflt (refine' Ctr.use (strcoll_spec ((I, oI) :: (C, oC) :: (D2, LCg.lst zs) :: (D, LCg.lst ys) :: (L1 + 1 + 1, o3) :: (L1 + 1, o2) :: news) xs[i] xs[i + 1] t1 t2) ?kB ?kF ?kX ?kN ?kT ?kK ?kd ?ku ?_)
      k_extra "ret"
      rintro v led h' tk' ⟨⟨t, rfl⟩, rfl⟩ F' N'
      k_extra "go"
      k_extra "turn"
      rw [hr i (by omega), List.replicate_succ']
      exact IntsAre.append hJ (.cons _ _ .nil)
    · intro zs hJ2
      intro D2 h' tk F' N' off2
      have eY := hJ.length
      k_extra "goS"
      k_extra "compAU"
      k_extra "goS"
      refine LCg.CompSrc.range (by rfl) (by k_asm) (by k_asm) (by assumption) (by decide) (n := 9) (by rfl) (by rw [PySem.sizeLine_eq]; omega) ?_
      intro g
      refine restU_fix (n := 9) ((D2, LCg.lst zs) :: (D, LCg.lst ys) :: (L1 + 1 + 1, o3) :: (L1 + 1, o2) :: news) (J := fun i ys => IntsAre ys (List.replicate i 0)) trivial ?_ ?_ _ 0 [] (by omega) .nil
      · rintro i qs v I oI C oC D3 m₂ h tk E' hi hJ3 ⟨t, rfl⟩ hC hx F N
        rw [Int.zero_add] at hx
        have hi1 : xs[i]? = some xs[i] := List.getElem?_eq_getElem (by omega)
        obtain ⟨t1, ht1⟩ := iN.get i _ hi1
        obtain ⟨t2, ht2⟩ := hJ.get i _ hi1
        k_extra "goS"
        refine item_listL (l := vn) (by is_list) (by omega) (by omega) ht1 ?_
        k_extra "goS"
        refine item_listL (l := ys) (by is_list) (by omega) (by omega) ht2 ?_
        k_extra "goS"
        k_dflt (refine' Ctr.use (strcoll_spec ((I, oI) :: (C, oC) :: (D3, LCg.lst qs) :: (D2, LCg.lst zs) :: (D, LCg.lst ys) :: (L1 + 1 + 1, o3) :: (L1 + 1, o2) :: news) xs[i] xs[i] t1 t2) ?kB ?kF ?kX ?kN ?kT ?kK ?kd ?ku ?_)
        k_extra "ret"
        rintro v led h' tk' ⟨⟨t, rfl⟩, rfl⟩ F' N'
        k_extra "go"
        k_extra "turn"
        rw [coll_self, List.replicate_succ']
        exact IntsAre.append hJ3 (.cons _ _ .nil)
      · intro qs hJ3
        intro D3 h' tk F' N' off3
        k_extra "goS"
        k_extra "compU"
        k_extra "goS"
        refine LCg.CompSrc.range (by rfl) (by k_asm) (by k_asm) (by assumption) (by decide) (n := 9) (by rfl) (by rw [PySem.sizeLine_eq]; omega) ?_
        intro g
        refine restU_fix (n := 9) ((D3, LCg.lst qs) :: (D2, LCg.lst zs) :: (D, LCg.lst ys) :: (L1 + 1 + 1, o3) :: (L1 + 1, o2) :: news) (J := fun i ys => IntsAre ys (List.replicate i 0)) trivial ?_ ?_ _ 0 [] (by omega) .nil
        · rintro i rs v I oI C oC D4 m₂ h tk E' hi hJ4 ⟨t, rfl⟩ hC hx F N
          rw [Int.zero_add] at hx
          have hi1 : xs[i]? = some xs[i] := List.getElem?_eq_getElem (by omega)
          obtain ⟨t1, ht1⟩ := iN.get i _ hi1
          obtain ⟨t2, ht2⟩ := hJ.get i _ hi1
          k_extra "goS"
          refine item_listL (l := vn) (by is_list) (by omega) (by omega) ht1 ?_
          k_extra "goS"
          k_dflt (refine' Ctr.use (codes_spec ((I, oI) :: (C, oC) :: (D4, LCg.lst rs) :: (D3, LCg.lst qs) :: (D2, LCg.lst zs) :: (D, LCg.lst ys) :: (L1 + 1 + 1, o3) :: (L1 + 1, o2) :: news) xs[i] t1 (hlx _ (List.getElem_mem _))) ?kB ?kF ?kX ?kN ?kT ?kK ?kd ?ku ?_)
          k_extra "ret"
          rintro v led h' tk' ⟨b5, v5, n5, rfl, i5, rfl, off5⟩ F' N'
          k_extra "goS"
          refine item_listL (l := ys) (by is_list) (by omega) (by omega) ht2 ?_
          k_extra "goS"
          k_dflt (refine' Ctr.use (codes_spec ((b5, listOf v5.toArray n5) :: (I, oI) :: (C, oC) :: (D4, LCg.lst rs) :: (D3, LCg.lst qs) :: (D2, LCg.lst zs) :: (D, LCg.lst ys) :: (L1 + 1 + 1, o3) :: (L1 + 1, o2) :: news) xs[i] t2 (hlx _ (List.getElem_mem _))) ?kB ?kF ?kX ?kN ?kT ?kK ?kd ?ku ?_)
          k_extra "ret"
          rintro v led h' tk' ⟨b6, v6, n6, rfl, i6, rfl, off6⟩ F' N'
          k_extra "goS"
          k_dflt (refine' Ctr.use (cmp_spec ((b6, listOf v6.toArray n6) :: (b5, listOf v5.toArray n5) :: (I, oI) :: (C, oC) :: (D4, LCg.lst rs) :: (D3, LCg.lst qs) :: (D2, LCg.lst zs) :: (D, LCg.lst ys) :: (L1 + 1 + 1, o3) :: (L1 + 1, o2) :: news) b5 b6 v5 v6 (codesOf xs[i]) (codesOf xs[i]) n5 n6 (by news_mem) (by news_mem) i5 i6) ?kB ?kF ?kX ?kN ?kT ?kK ?kd ?ku ?_)
          k_extra "ret"
          rintro v led h' tk' ⟨⟨t, rfl⟩, rfl⟩ F' N'
          k_extra "goS"
          rename News _ _ _ _ => kN
          refine TurnOk.intro (by assumption) kN (by lcg_sub) ?_
          rw [Int.sub_self, List.replicate_succ']
          exact IntsAre.append hJ4 (.cons _ _ .nil)
        · intro rs hJ4
          intro D4 h' tk F' N' off4
          k_extra "goS"
          rename IntsAre _ (List.replicate 9 0 ++ List.replicate 9 0) => hI18
          rename News _ _ _ _ => Nq
          rename Fr _ _ _ _ => Fq
          rename_i A1 ws hA lA hB
          walk1
          k_extra "goS"
          k_dflt (refine' Ctr.use (plain_spec (news := ?nw) (lx := D2) (ly := _) (vx := zs) (vy := ?vy) (x := List.replicate 8 (-1)) (y := (List.replicate (Int.toNat 8) [-1]).flatten) (nx := zs.length) (ny := 0) ?h1 ?h2 hJ2 ?i2 ?ln) ?kB ?kF ?kX ?kN ?kT ?kK ?kd ?ku ?_)
          k_extra "ret"
          case h1 => news_mem
          case i2 => assumption
          case h2 => news_mem
          case ln => decide
          rintro v led h' tk' ⟨rfl, rfl⟩ F' N'
          rw [show (List.replicate (Int.toNat 8) [(-1 : Int)]).flatten = List.replicate 8 (-1) by decide, decide_eq_true rfl]
          k_extra "goS"
          walk1
          k_extra "goS"
          k_dflt (refine' Ctr.use (plain_spec (news := ?nw2) (lx := A1) (ly := _) (vx := ws) (vy := ?vy2) (x := List.replicate 9 0 ++ List.replicate 9 0) (y := (List.replicate (Int.toNat 18) [0]).flatten) (nx := 0) (ny := 0) ?h1 ?h2 hI18 ?i2 ?ln) ?kB ?kF ?kX ?kN ?kT ?kK ?kd ?ku ?_)
          k_extra "ret"
          case h1 => news_mem
          case i2 => assumption
          case h2 => news_mem
          case ln => decide
          rintro v led h' tk' ⟨rfl, rfl⟩ F' N'
          rw [show (List.replicate (Int.toNat 18) [(0 : Int)]).flatten = List.replicate 9 0 ++ List.replicate 9 0 by decide, decide_eq_true rfl]
          k_extra "goS"
          exact hret _ _ _ _ ⟨rfl, rfl⟩ (by k_asm) (by k_extra "drop")
end
section -- Kinds
open PySem.SeqAt
def kInt : Kind Int where
  Rel := fun _ v a => ∃ t, v = .int a t
  fn := fun _ h1 h2 => by
    obtain ⟨t, rfl⟩ := h1
    obtain ⟨t', e⟩ := h2
    injection e
  eqAt := fun {A s _ _ _ v u a b} _ h1 h2 _ => by
    obtain ⟨t, rfl⟩ := h1
    obtain ⟨t', rfl⟩ := h2
    have := EqAt.int_int (A := A) (s := s) a t b t'
    rw [show (a == b) = decide (a = b) by by_cases h : a = b <;> simp [h]] at this
    exact this
def kPair : Kind (Int × Int) where
  Rel := fun led v p => ∃ a t1 t2 n, v = .ref a ∧ (a, pairObj p.1 p.2 t1 t2 n) ∈ led
  fn := fun {h₀ h L led v p q} N h1 h2 => by
    obtain ⟨a, t1, t2, n, rfl, m1⟩ := h1
    obtain ⟨b, u1, u2, n', e, m2⟩ := h2
    injection e with e
    subst e
    have e1 := (N _ m1).1
    rw [(N _ m2).1] at e1
    have h3 := Option.some.inj e1
    have h4 : (pairObj q.1 q.2 u1 u2 n').data = (pairObj p.1 p.2 t1 t2 n).data := congrArg Obj.data h3
    injection h4 with h4 _
    injection h4 with h4
    injection h4 with h5 h4
    injection h4 with h6 _
    injection h5 with h5 _
    injection h6 with h6 _
    exact Prod.ext h5.symm h6.symm
  eqAt := fun {A s _ _ _ v u a b} N h1 h2 hu => by
    obtain ⟨x, t1, t2, n, rfl, m1⟩ := h1
    obtain ⟨y, u1, u2, n', rfl, m2⟩ := h2
    exact eqAt_pairs N m1 m2 hu
theorem ints_all2 {led : Led} : ∀ {vs : List Value} {ns : List Int}, IntsAre vs ns → All2 (kInt.Rel led) vs ns
  | _, _, .nil => .nil
  | _, _, .cons k t h => .cons ⟨t, rfl⟩ (ints_all2 h)
theorem all2_ints {led : Led} {vs : List Value} {ns : List Int} (h : All2 (kInt.Rel led) vs ns) : IntsAre vs ns := by
  induction h with
  | nil => exact .nil
  | cons h1 _ ih =>
    obtain ⟨t, rfl⟩ := h1
    exact .cons _ _ ih
theorem prs_all2 {led : Led} {vs : List Value} {ps : List (Int × Int)} (h : Prs led vs ps) : All2 (kPair.Rel led) vs ps := by
  induction h with
  | nil => exact .nil
  | cons hm _ ih => exact .cons ⟨_, _, _, _, rfl, hm⟩ ih
theorem all2_prs {led : Led} {vs : List Value} {ps : List (Int × Int)} (h : All2 (kPair.Rel led) vs ps) : Prs led vs ps := by
  induction h with
  | nil => exact .nil
  | cons h1 _ ih =>
    obtain ⟨a, t1, t2, n, rfl, m⟩ := h1
    exact .cons m ih
end
section -- Prog
/-- the law's own body and scope, read off the given program -/
def lastDef : List Stmt → List Stmt × Scope
  | [] => ([], default)
  | [.FunctionDef _ _ body _ _ _ scope _ _ _] => (body, scope)
  | _ :: r => lastDef r
def lawBody : List Stmt := (lastDef Challenge.rw_tv0002_01.prog.main.body).1
def lawScope : Scope := (lastDef Challenge.rw_tv0002_01.prog.main.body).2
def lawEnv (lfa : Addr) (lcd : Value) (L : Addr) : PySem.Env := envOfC (Str.ofString "law") lawScope L lfa lcd
end
section -- ret
theorem add_M {prog : Program} {w : World} {A : Around} {E : Value → Shared → Prop} {s : Shared} {h₀ : Heap} {L : Addr} {m : Str → Option Value} {news : Led} {l b : Addr} {vs ws : List Value} {n n' : Nat} {Q : Value → Shared → Prop} (F : Fr h₀ L s.heap m) (N : News h₀ L s.heap news)
    (ml : (l, listOf vs.toArray n) ∈ news) (mb : (b, listOf ws.toArray n') ∈ news) (hsz : vs.length + ws.length ≤ sizeLine)
    (h : ∀ D h', Fr h₀ L h' m → News h₀ L h' ((D, listOf (vs ++ ws).toArray 0) :: news) → (∀ p ∈ news, p.1 < D) → Q (.ref D) { s with heap := h' }) :
    wpAny (model prog w) A (binaryOp .Add (.ref l) (.ref b)) Q E s :=
  add_lists F N (News.isList N ml) (News.isList N mb) (fun h' F' N' => h _ h' F' N' fun p hp => Heap.lt_size (N p hp).1) hsz
def signs : Nat → List (List Int)
  | 0 => [[]]
  | n + 1 => (signs n).flatMap fun l => [1 :: l, -1 :: l]
def pairsX : List (List Int × List Int) := (List.range 4).flatMap fun n => (signs n).flatMap fun a => (signs (3 - n)).map fun b => (a, b)
def dueX (x1 x2 : List Int) : List (Int × Int) := dueP ((x1.length : Int) + 1) ((fallsP x1).length : Int) (fallsP x1).sum ((x2.length : Int) + 1) ((fallsP x2).length : Int) (fallsP x2).sum
def factsX (p : List Int × List Int) : Bool :=
  decide (p.1.length + p.2.length = 3) && decide ((fallsP p.1).length ≤ p.1.length ∧ 0 ≤ (fallsP p.1).sum ∧ (fallsP p.1).sum ≤ 10) && decide ((fallsP p.2).length ≤ p.2.length ∧ 0 ≤ (fallsP p.2).sum ∧ (fallsP p.2).sum ≤ 10) && decide ((dueX p.1 p.2).length ≤ 100) &&
  (List.range 5).all (fun k => decide ((sumsF 12 (Int.ofNat k - ((fallsP p.1).length : Int)) ((p.1.length : Int) + 1 + ((fallsP p.2).length : Int) - Int.ofNat k)).length ≤ 50)) &&
  (List.range 5).all (fun k => decide ((sumsF 12 (Int.ofNat k - ((fallsP p.2).length : Int)) ((p.2.length : Int) + 1 + ((fallsP p.1).length : Int) - Int.ofNat k)).length ≤ 50))
theorem factsX_all : pairsX.all factsX = true := by decide +kernel
theorem dueX_facts {x1 x2 : List Int} (h : (x1, x2) ∈ pairsX) : x1.length + x2.length = 3 ∧ ((fallsP x1).length ≤ x1.length ∧ 0 ≤ (fallsP x1).sum ∧ (fallsP x1).sum ≤ 10) ∧ ((fallsP x2).length ≤ x2.length ∧ 0 ≤ (fallsP x2).sum ∧ (fallsP x2).sum ≤ 10) ∧ (dueX x1 x2).length ≤ 100 ∧
    (∀ k : Nat, k < 5 → (sumsF 12 (Int.ofNat k - ((fallsP x1).length : Int)) ((x1.length : Int) + 1 + ((fallsP x2).length : Int) - Int.ofNat k)).length ≤ 50) ∧
    (∀ k : Nat, k < 5 → (sumsF 12 (Int.ofNat k - ((fallsP x2).length : Int)) ((x2.length : Int) + 1 + ((fallsP x1).length : Int) - Int.ofNat k)).length ≤ 50) := by
  have h1 := List.all_eq_true.mp factsX_all _ h
  simp only [factsX, Bool.and_eq_true, decide_eq_true_eq, List.all_eq_true, List.mem_range] at h1
  obtain ⟨⟨⟨⟨⟨a, b⟩, c⟩, d⟩, e⟩, f⟩ := h1
  exact ⟨a, b, c, d, e, f⟩
theorem prs_avoid {h₀ h : Heap} {L : Addr} {led : Led} {vs : List Value} {ps : List (Int × Int)} (N : News h₀ L h led) {d : Addr} {o : Obj} (hd : (d, o) ∈ led) (ho : ∀ k v t1 t2 n, o ≠ pairObj k v t1 t2 n) (P : Prs led vs ps) {led' : Led} (hs : ∀ p ∈ led, p.1 ≠ d → p ∈ led') : Prs led' vs ps := by
  induction P with
  | nil => exact .nil
  | @cons a k v t1 t2 n _ _ hm _ ih =>
    refine .cons (hs _ hm ?_) ih
    intro e
    have h1 := (N _ hm).1
    have h2 := (N _ hd).1
    rw [show ((a, pairObj k v t1 t2 n) : Addr × Obj).1 = d from e] at h1
    rw [h1] at h2
    exact ho _ _ _ _ _ (Option.some.inj h2).symm
theorem Ctr1.use {w : World} {mean : ExcName → Option Value} {mg mb : Str → Option Value} {f : Addr} {vs : List Value} {news : Led} {dk uk : Nat} {Post : Value → Led → Prop} {dp un : Nat} {gd : Option (List Code)} {cn : Str} {cs : Scope} {a : Addr} {ccd : Value} {cl : List (Str × Addr)} {h₀ : Heap} {L : Addr} {m : Str → Option Value} {s : Shared} {Q E : Value → Shared → Prop}
    (C : Ctr1 w mean mg mb f vs news dk uk Post) (F : Fr h₀ L s.heap m) (X : (hd.heap_39 w.params).In h₀) (N : News h₀ L s.heap news) (T : Top hd.view_39 (looseW hd.view_39 []) mean mg mb h₀) (hk : cs.kind = .function) (hd : dp + dk < recursionLimit) (hu : un + uk < cLine)
    (ret : ∀ v led h' tk', Post v led → Fr h₀ L h' m → News h₀ L h' led → Q v { s with heap := h', toks := tk' }) :
    wpAny (model Challenge.rw_tv0002_01.row.toRowW.prog w) (ktrTop dp un gd cn cs L a ccd cl []) (call (.ref f) vs) Q E s := C _ _ _ _ _ _ _ _ _ _ _ _ _ _ F X N T hk hd hu ret
abbrev prD (p : Int × Int) : PyData := .list [.int p.1, .int p.2]
theorem reads_prs {h₀ h : Heap} {L : Addr} {led : Led} (N : News h₀ L h led) {vs : List Value} {ps : List (Int × Int)} (P : Prs led vs ps) : ∃ as, ReadsAll h vs (ps.map prD) as := by
  induction P with
  | nil => exact ⟨_, .nil⟩
  | @cons a k v t1 t2 n _ _ hm _ ih =>
    obtain ⟨as, ih⟩ := ih
    exact ⟨_, .cons (.list (N _ hm).1 rfl rfl (.cons (.int k t1) (.cons (.int v t2) .nil))) ih⟩
theorem reads_two {h₀ h : Heap} {L : Addr} {led : Led} (N : News h₀ L h led) {t a b : Addr} {va vb : List Value} {pa pb : List (Int × Int)} {n1 n2 nt : Nat} (mt : (t, tupOf #[.ref a, .ref b] nt) ∈ led) (ma : (a, listOf va.toArray n1) ∈ led) (mb : (b, listOf vb.toArray n2) ∈ led) (Pa : Prs led va pa) (Pb : Prs led vb pb) :
    ∃ as, Reads h (.ref t) (.tuple [.list (pa.map prD), .list (pb.map prD)]) as := by
  obtain ⟨as, ra⟩ := reads_prs N Pa
  obtain ⟨bs, rb⟩ := reads_prs N Pb
  exact ⟨_, .tuple (N _ mt).1 rfl rfl (.cons (.list (N _ ma).1 rfl rfl ra) (.cons (.list (N _ mb).1 rfl rfl rb) .nil))⟩
theorem eq_nilM {prog : Program} {w : World} {A : Around} {E : Value → Shared → Prop} {s : Shared} {a b : Addr} {Q : Value → Shared → Prop} (hl : s.heap.IsList a #[]) (hl' : s.heap.IsList b #[]) (hu : A.units + 64 < cLine) (h : Q (.bool true) s) : wpAny (model prog w) A (compareOp .Eq (.ref a) (.ref b)) Q E s :=
  eq_intsK (vs := []) (us := []) hl .nil hl' .nil hu (by rw [decide_eq_true rfl]; exact h)
theorem law_ret {w : World} {lfa : Addr} {lcd : Value} {s₁ : Shared} {mean : ExcName → Option Value} {mg mb : Str → Option Value} {m₀ : Str → Option Value} {base h₀ h₁ : Heap} {tk : Nat} {L : Addr} {Q : Flow → Shared → Prop} {E : Value → Shared → Prop}
    (rest : Led) (b mis p8 dz : Addr) (vm va' : List Value) (nt cm ce ca : Nat)
    (K0 : Below callerA base [] h₀) (KX : (hd.heap_39 w.params).In h₀) (T : Top hd.view_39 (looseW hd.view_39 []) mean mg mb h₀)
    (F : Fr h₀ L h₁ (fun y => if y = Str.ofString "told" then some (.ref b) else if y = Str.ofString "due" then some (.ref dz) else if y = Str.ofString "bag" then some (.ref p8) else m₀ y))
    (N : News h₀ L h₁ ((b, tupOf #[.ref mis, .ref dz] nt) :: (mis, listOf vm.toArray cm) :: (p8, listOf #[] ce) :: (dz, listOf va'.toArray ca) :: rest))
    (rm : All2 (kPair.Rel rest) vm [(5, 0), (6, 0), (6, 0)]) (ra : All2 (kPair.Rel rest) va' [(8, 0), (7, 0), (9, 0)])
    (hQ : ∀ h tk, (∀ b o, h₀.get? b = some o → h.get? b = some o) → Q (.ret (.bool true)) { s₁ with heap := h, toks := tk }) :
    wpAny (model Challenge.rw_tv0002_01.row.toRowW.prog w) (callerA.deeper (lawEnv lfa lcd L)) (execs (lawBody.drop 13) (lawEnv lfa lcd L)) Q E { s₁ with heap := h₁, toks := tk } := by
  revert KX
  k_fill
  intro KX
  show wpAny _ (callerA.deeper (envOfC _ ⟨_, _, _, _, _⟩ _ _ _)) (execs (_ :: _) (envOfC _ ⟨_, _, _, _, _⟩ _ _ _)) _ _ _
  k_extra "goE"
  rename Fr _ _ _ _ => FE
  rename News _ _ _ _ => NE
  obtain ⟨as1, R1⟩ := reads_two NE (t := b) (a := mis) (b := dz) (va := vm) (vb := va') (by news_mem) (by news_mem) (by news_mem) ((all2_prs rm).mono fun p hp => by repeat (first | exact hp | refine List.mem_cons_of_mem _ ?_)) ((all2_prs ra).mono fun p hp => by repeat (first | exact hp | refine List.mem_cons_of_mem _ ?_))
  rename_i DT hT lT
  obtain ⟨as2, R2⟩ := reads_two NE (t := DT) (pa := [(5, 0), (6, 0), (6, 0)]) (pb := [(8, 0), (7, 0), (9, 0)]) (by news_mem) (by news_mem) (by news_mem) (.cons (by news_mem) (.cons (by news_mem) (.cons (by news_mem) .nil))) (.cons (by news_mem) (.cons (by news_mem) (.cons (by news_mem) .nil)))
  refine eq_dataH R1 R2 (by decide) (by decide) (by ktr_units) ?_
  rw [show PyData.eqv (PyData.tuple [PyData.list (List.map prD [(5, 0), (6, 0), (6, 0)]), PyData.list (List.map prD [(8, 0), (7, 0), (9, 0)])]) (PyData.tuple [PyData.list (List.map prD [(5, 0), (6, 0), (6, 0)]), PyData.list (List.map prD [(8, 0), (7, 0), (9, 0)])]) = true by decide]
  k_extra "goE"
  rename News _ _ _ _ => NZ
  refine eq_nilM (News.isList (n := ce) NZ (by news_mem)) (News.isList (n := 0) NZ (by news_mem)) (by ktr_units) ?_
  iterate 7 walk1
  rename News _ _ _ _ => NY
  refine kim_tup (j := 1) (a := b) (lo := tupOf #[.ref mis, .ref dz] nt) (l := [Value.ref mis, Value.ref dz]) NY (by news_mem) rfl rfl (by decide) (by decide) rfl rfl ?_
  walk1
  walk1
  rename Fr _ _ _ _ => FQ
  exact hQ _ _ FQ.keep
end
section -- end
theorem law_end {w : World} {lfa : Addr} {lcd : Value} {s₁ : Shared} {mean : ExcName → Option Value} {mg mb : Str → Option Value} {m₀ : Str → Option Value} {base h₀ h₁ : Heap} {tk : Nat} {L : Addr} {Q : Flow → Shared → Prop} {E : Value → Shared → Prop}
    (news : Led) (fb ob o1 o2 b1 b2 : Addr) (fvs v1 v2 r1 r2 : List Value) (fps : List (Int × Int)) (x1 x2 : List Int) (cf co n1 n2 k1 k2 : Nat)
    (K0 : Below callerA base [] h₀) (KX : (hd.heap_39 w.params).In h₀) (T : Top hd.view_39 (looseW hd.view_39 []) mean mg mb h₀)
    (F : Fr h₀ L h₁ (fun y => if y = Str.ofString "found" then some (.ref fb) else if y = Str.ofString "own" then some (.ref ob) else if y = Str.ofString "second" then some (.ref b2) else if y = Str.ofString "first" then some (.ref b1) else m₀ y))
    (N : News h₀ L h₁ news) (mf : (fb, listOf fvs.toArray cf) ∈ news) (mo : (ob, listOf #[.ref o1, .ref o2] co) ∈ news) (m1 : (o1, listOf v1.toArray n1) ∈ news) (m2 : (o2, listOf v2.toArray n2) ∈ news)
    (mb1 : (b1, listOf r1.toArray k1) ∈ news) (mb2 : (b2, listOf r2.toArray k2) ∈ news) (pf : Prs news fvs fps) (i1 : IntsAre v1 x1) (i2 : IntsAre v2 x2) (lr1 : r1.length = x1.length + 1) (lr2 : r2.length = x2.length + 1) (lr : r1.length + r2.length = 5)
    (lf : fps.length ≤ 32) (hx : (x1, x2) ∈ pairsX)
    (hfin : ulR ([(6, 0), (6, 0), (7, 0)] ++ fps ++ [(5, 0)]).reverse ([(7, 0), (8, 0)] ++ dueX x1 x2 ++ [(7, 0), (9, 0)]) [] = ([(5, 0), (6, 0), (6, 0)], [(8, 0), (7, 0), (9, 0)]))
    (hQ : ∀ h tk, (∀ b o, h₀.get? b = some o → h.get? b = some o) → Q (.ret (.bool true)) { s₁ with heap := h, toks := tk }) :
    wpAny (model Challenge.rw_tv0002_01.row.toRowW.prog w) (callerA.deeper (lawEnv lfa lcd L)) (execs (lawBody.drop 8) (lawEnv lfa lcd L)) Q E { s₁ with heap := h₁, toks := tk } := by
  revert KX
  k_fill
  intro KX
  show wpAny _ (callerA.deeper (envOfC _ ⟨_, _, _, _, _⟩ _ _ _)) (execs (_ :: _) (envOfC _ ⟨_, _, _, _, _⟩ _ _ _)) _ _ _
  k_extra "goW"
  k_dflt (refine' Ctr.use (falls_spec news o1 v1 x1 n1 m1 i1 (by omega)) ?kB ?kF ?kX ?kN ?kT ?kK ?kd ?ku ?_)
  k_extra "ret"
  rintro v led h' tk' ⟨f1, t1, t2, nf1, rfl, rfl, off1⟩ F' N'
  k_extra "goW"
  k_dflt (refine' Ctr.use (falls_spec _ o2 v2 x2 n2 ?hm i2 (by omega)) ?kB ?kF ?kX ?kN ?kT ?kK ?kd ?ku ?_)
  k_extra "ret"
  case hm => news_mem
  rintro v led h' tk' ⟨f2, t3, t4, nf2, rfl, rfl, off2⟩ F' N'
  k_extra "goW"
  refine newList_K (by k_asm) (by k_asm) (fun p1 hp1 F1 N1 l1 => ?_)
  (rename_i Fa_ Na_; clear Na_ Fa_)
  k_extra "goW"
  refine newList_K (by k_asm) (by k_asm) (fun p2 hp2 F2 N2 l2 => ?_)
  clear F1 N1
  k_extra "goW"
  refine newList_K (by k_asm) (by k_asm) (fun p3 hp3 F3 N3 l3 => ?_)
  clear F2 N2
  k_extra "goW"
  refine newList_K (by k_asm) (by k_asm) (fun p4 hp4 F4 N4 l4 => ?_)
  clear F3 N3
  k_extra "goB"
  refine add_M (l := p4) (vs := [Value.ref p1, Value.ref p2, Value.ref p3]) (n := 0) (b := fb) (ws := fvs) (n' := cf) (by k_asm) (by k_asm) (by news_mem) (by news_mem) (by rw [PySem.sizeLine_eq]; have := pf.length; simp only [List.length_cons, List.length_nil]; omega) (fun p5 hp5 F5 N5 l5 => ?_)
  clear F4 N4
  k_extra "goB"
  refine newList_K (by k_asm) (by k_asm) (fun p6 hp6 F6 N6 l6 => ?_)
  clear F5 N5
  k_extra "goB"
  refine newList_K (by k_asm) (by k_asm) (fun p7 hp7 F7 N7 l7 => ?_)
  clear F6 N6
  k_extra "goB"
  refine add_M (l := p5) (vs := [Value.ref p1, Value.ref p2, Value.ref p3] ++ fvs) (n := 0) (b := p7) (ws := [Value.ref p6]) (n' := 0) (by k_asm) (by k_asm) (by news_mem) (by news_mem) (by rw [PySem.sizeLine_eq]; have := pf.length; simp only [List.length_cons, List.length_nil, List.length_append]; omega) (fun p8 hp8 F8 N8 l8 => ?_)
  clear F7 N7
  k_extra "goB"
  refine newList_K (by k_asm) (by k_asm) (fun q1 hq1 F1 N1 lq1 => ?_)
  (rename_i Fa_ Na_; clear Na_ Fa_)
  k_extra "goB"
  refine newList_K (by k_asm) (by k_asm) (fun q2 hq2 F2 N2 lq2 => ?_)
  clear F1 N1
  k_extra "goB"
  refine newList_K (by k_asm) (by k_asm) (fun q3 hq3 F3 N3 lq3 => ?_)
  clear F2 N2
  k_extra "goB"
  obtain ⟨z1, z2, z3, z4, z5, z6⟩ := dueX_facts hx
  refine call_len_list (items := r1.toArray) (News.isList (n := k1) (by k_asm) (by news_mem)) (by simp only [List.size_toArray]; omega) ?_
  k_extra "goB"
  refine call_len_list (items := r2.toArray) (News.isList (n := k2) (by k_asm) (by news_mem)) (by simp only [List.size_toArray]; omega) ?_
  k_extra "goB"
  rw [show ((r1.toArray.size : Nat) : Int) = (x1.length : Int) + 1 by simp only [List.size_toArray]; omega, show ((r2.toArray.size : Nat) : Int) = (x2.length : Int) + 1 by simp only [List.size_toArray]; omega]
  obtain ⟨led0, N0, g1, g2, g3, g4, g5, g6, g7, g8, gs, gl⟩ : ∃ led0 : Led, News h₀ L hq3 led0 ∧ (p1, pairObj 6 0 _ _ 0) ∈ led0 ∧ (p2, pairObj 6 0 _ _ 0) ∈ led0 ∧ (p3, pairObj 7 0 _ _ 0) ∈ led0 ∧ (p6, pairObj 5 0 _ _ 0) ∈ led0 ∧ (p8, listOf ([Value.ref p1, Value.ref p2, Value.ref p3] ++ fvs ++ [Value.ref p6]).toArray 0) ∈ led0 ∧
      (q1, pairObj 7 0 _ _ 0) ∈ led0 ∧ (q2, pairObj 8 0 _ _ 0) ∈ led0 ∧ (q3, listOf [Value.ref q1, Value.ref q2].toArray 0) ∈ led0 ∧ (∀ p ∈ news, p ∈ led0) ∧ ∀ p ∈ news, p.1 ≠ p8 :=
    ⟨_, N3, by news_mem, by news_mem, by news_mem, by news_mem, by news_mem, by news_mem, by news_mem, by news_mem, fun p hp => by repeat (first | exact hp | refine List.mem_cons_of_mem _ ?_), fun p hp => Nat.ne_of_lt (l8 p (by repeat (first | exact hp | refine List.mem_cons_of_mem _ ?_)))⟩
  clear l1 l2 l3 l4 l5 l6 l7 l8 lq1 lq2 lq3 off1 off2 N3
  k_dflt (refine' Ctr.use (due_spec led0 ((x1.length : Int) + 1) ((fallsP x1).length : Int) (fallsP x1).sum ((x2.length : Int) + 1) ((fallsP x2).length : Int) (fallsP x2).sum _ _ _ _ _ _ (by omega) (by omega) (by omega) (by omega) (by omega) (by omega) z5 z6) ?kB ?kF ?kX ?kN ?kT ?kK ?kd ?ku ?_)
  k_extra "ret"
  rintro v led h' tk' ⟨qd, dvs, qc, prs, rfl, rfl, offd, pd⟩ FD ND
  have epd := pd.length
  have epf := pf.length
  have ldv : dvs.length ≤ 100 := by rw [epd]; exact z4
  clear F3
  k_extra "goB"
  refine add_M (l := q3) (vs := [Value.ref q1, Value.ref q2]) (n := 0) (b := qd) (ws := dvs) (n' := qc) (by k_asm) (by k_asm) (List.mem_cons_of_mem _ (List.mem_append_right _ g8)) List.mem_cons_self (by rw [PySem.sizeLine_eq]; simp only [List.length_cons, List.length_nil]; omega) (fun p9 hp9 F9 N9 l9 => ?_)
  clear FD ND
  k_extra "goB"
  refine newList_K (by k_asm) (by k_asm) (fun q5 hq5 F5 N5 l5 => ?_)
  clear F9 N9
  k_extra "goB"
  refine newList_K (by k_asm) (by k_asm) (fun q6 hq6 F6 N6 l6 => ?_)
  clear F5 N5
  k_extra "goB"
  refine newList_K (by k_asm) (by k_asm) (fun q7 hq7 F7 N7 l7 => ?_)
  clear F6 N6
  k_extra "goB"
  refine add_M (l := p9) (vs := [Value.ref q1, Value.ref q2] ++ dvs) (n := 0) (b := q7) (ws := [Value.ref q5, Value.ref q6]) (n' := 0) (by k_asm) (by k_asm) (by news_mem) (by news_mem) (by rw [PySem.sizeLine_eq]; simp only [List.length_cons, List.length_nil, List.length_append]; omega) (fun dz hdz F8 N8 l8 => ?_)
  clear F7 N7
  k_extra "goB"
  rename Fr _ _ _ _ => FU
  rename News _ _ _ _ => NU
  have hbd : p8 ≠ dz := Nat.ne_of_lt (l8 _ (List.mem_cons_of_mem _ (List.mem_cons_of_mem _ (List.mem_cons_of_mem _ (List.mem_cons_of_mem _ (List.mem_cons_of_mem _ (List.mem_append_right _ g5)))))))
  obtain ⟨full, NF, u1, u2, u3, u4, u5⟩ : ∃ full : Led, News h₀ L _ full ∧ (dz, listOf ([Value.ref q1, Value.ref q2] ++ dvs ++ [Value.ref q5, Value.ref q6]).toArray 0) ∈ full ∧ (q5, pairObj 7 0 _ _ 0) ∈ full ∧ (q6, pairObj 9 0 _ _ 0) ∈ full ∧ (∀ p ∈ led0, p ∈ full) ∧ (∀ p ∈ prs ++ led0, p ∈ full) :=
    ⟨_, NU, by news_mem, by news_mem, by news_mem, fun p hp => List.mem_cons_of_mem _ (List.mem_cons_of_mem _ (List.mem_cons_of_mem _ (List.mem_cons_of_mem _ (List.mem_cons_of_mem _ (List.mem_cons_of_mem _ (List.mem_append_right _ hp)))))), fun p hp => List.mem_cons_of_mem _ (List.mem_cons_of_mem _ (List.mem_cons_of_mem _ (List.mem_cons_of_mem _ (List.mem_cons_of_mem _ (List.mem_cons_of_mem _ hp)))))⟩
  have pb : Prs full ([Value.ref p1, Value.ref p2, Value.ref p3] ++ fvs ++ [Value.ref p6]) ([(6, 0), (6, 0), (7, 0)] ++ fps ++ [(5, 0)]) :=
    (Prs.append (.cons (u4 _ g1) (.cons (u4 _ g2) (.cons (u4 _ g3) .nil))) (pf.mono fun p hp => u4 p (gs p hp))).append (.cons (u4 _ g4) .nil)
  have pdu : Prs full ([Value.ref q1, Value.ref q2] ++ dvs ++ [Value.ref q5, Value.ref q6]) ([(7, 0), (8, 0)] ++ dueX x1 x2 ++ [(7, 0), (9, 0)]) :=
    (Prs.append (.cons (u4 _ g6) (.cons (u4 _ g7) .nil)) (pd.mono u5)).append (.cons u2 (.cons u3 .nil))
  have av : ∀ {vs ps}, Prs full vs ps → Prs (full.filter fun p => decide (p.1 ≠ p8) && decide (p.1 ≠ dz)) vs ps := fun P => by
    have P1 := prs_avoid NF (u4 _ g5) (by intro k v t1 t2 n e; simp [W.listOf] at e) P (led' := full.filter fun p => decide (p.1 ≠ p8)) (fun p hp hn => List.mem_filter.mpr ⟨hp, by simpa using hn⟩)
    refine prs_avoid (fun p hp => NF p (List.mem_filter.mp hp).1) (d := dz) (List.mem_filter.mpr ⟨u1, by simpa using hbd.symm⟩) (by intro k v t1 t2 n e; simp [W.listOf] at e) P1 (fun p hp hn => ?_)
    have hp' := List.mem_filter.mp hp
    exact List.mem_filter.mpr ⟨hp'.1, by simpa using ⟨by simpa using hp'.2, hn⟩⟩
  have pb' := av pb
  have pdu' := av pdu
  generalize hrest : (full.filter fun p => decide (p.1 ≠ p8) && decide (p.1 ≠ dz)) = rest at pb' pdu'
  have o8 : LCg.Off1 p8 rest := off1_of fun p hp => by
    rw [← hrest] at hp
    have := (List.mem_filter.mp hp).2
    simp only [Bool.and_eq_true, decide_eq_true_eq] at this
    exact this.1
  have oz : LCg.Off1 dz rest := off1_of fun p hp => by
    rw [← hrest] at hp
    have := (List.mem_filter.mp hp).2
    simp only [Bool.and_eq_true, decide_eq_true_eq] at this
    exact this.2
  have NR : News h₀ L _ ((p8, listOf ([Value.ref p1, Value.ref p2, Value.ref p3] ++ fvs ++ [Value.ref p6]).toArray 0) :: (dz, listOf ([Value.ref q1, Value.ref q2] ++ dvs ++ [Value.ref q5, Value.ref q6]).toArray 0) :: rest) := fun p hp => by
    rcases List.mem_cons.mp hp with rfl | hp
    · exact NF _ (u4 _ g5)
    · rcases List.mem_cons.mp hp with rfl | hp
      · exact NF _ u1
      · rw [← hrest] at hp; exact NF p (List.mem_filter.mp hp).1
  clear NU NF
  k_dflt (refine' Ctr1.use (uld_spec kPair rest p8 dz _ _ 0 0 _ _ hbd o8 oz (prs_all2 pb') (prs_all2 pdu') ?l1 ?l2) ?kF ?kX ?kN ?kT ?kK ?kd ?ku ?_)
  case l1 => simp only [List.length_append, List.length_cons, List.length_nil]; omega
  case l2 => simp only [List.length_append, List.length_cons, List.length_nil]; omega
  case kF => k_asm
  case kX => k_asm
  case kN => k_asm
  case kT => k_asm
  case kK => first | exact rfl | assumption
  case kd => ktr_room
  case ku => ktr_units
  rintro v led h' tk' ⟨b, mis, vm, va', cm, ce', ca', nt, rfl, rfl, rm, ra', n1', n2', n3', n4', n5', n6', n7'⟩ F' N'
  rw [hfin] at rm ra'
  k_extra "goR"
  exact law_ret rest b mis p8 dz vm va' nt cm ce' ca' K0 KX T (by k_asm) (by k_asm) rm ra' hQ
end
section -- LoopDefs
def chosenF (i : Nat) : List Int := ((List.range 5).filter fun p => i / 2 ^ p % 2 = 1).map Int.ofNat
def otherF (i : Nat) : List Int := ([4, 3, 2, 1, 0] : List Int).filter fun p => decide (p ∉ chosenF i)
def lineS (ps : List Int) (xs : List Str) : List Str := (List.range 5).map fun (k : Nat) => xs.getD (ps.idxOf (Int.ofNat k)) default
def saysF (xs : List Str) (i : Nat) : List Int := let l := lineS (chosenF i ++ (otherF i).reverse) xs; (List.range 4).map fun k => coll (l.getD k default) (l.getD (k + 1) default)
def fallPair (x : List Int) : Int × Int := ((fallsP x).length, (fallsP x).sum)
def foundF (m : Nat) (xs : List Str) (n : Nat) : List (Int × Int) := ((List.range n).filter fun i => (chosenF i).length = m).map fun i => fallPair (saysF xs i)
end
section -- loop
open PySem.SeqAt (shaped)
theorem found_len (m : Nat) (xs : List Str) (n : Nat) : (foundF m xs n).length ≤ n := by
  simp only [foundF, List.length_map]; exact Nat.le_trans (List.length_filter_le _ _) (by simp)
theorem frame_end {a b u1 u2 : Option Value} {M : Str → Option Value} : (fun z => if z = Str.ofString "says" then a else (fun y => if y = Str.ofString "told" then b else (fun y => if y = Str.ofString "told" then u1 else if y = Str.ofString "says" then u2 else M y) y) z) = fun y => if y = Str.ofString "told" then b else if y = Str.ofString "says" then a else M y := by
  funext y
  dsimp only
  by_cases h1 : y = Str.ofString "told"
  · subst h1
    rw [if_neg (by decide), if_pos rfl, if_pos rfl]
  · by_cases h2 : y = Str.ofString "says"
    · subst h2
      rw [if_pos rfl, if_neg (by decide), if_pos rfl]
    · rw [if_neg h2, if_neg h1, if_neg h1, if_neg h2, if_neg h1, if_neg h2]
theorem says_at {xs : List Str} {i j : Nat} (h1 : j < (lineS (chosenF i ++ (otherF i).reverse) xs).length) (h2 : j + 1 < (lineS (chosenF i ++ (otherF i).reverse) xs).length) : (saysF xs i)[j]? = some (coll (lineS (chosenF i ++ (otherF i).reverse) xs)[j] (lineS (chosenF i ++ (otherF i).reverse) xs)[j + 1]) := by
  have h3 : j < 4 := by simp [lineS] at h2; omega
  simp only [saysF, List.getElem?_map, List.getElem?_range h3, Option.map_some, List.getD_eq_getElem?_getD, List.getElem?_eq_getElem h1, List.getElem?_eq_getElem h2, Option.getD_some]
theorem line_facts (i : Nat) (h : i < 32) : (chosenF i ++ (otherF i).reverse).length = 5 ∧ ∀ k : Nat, k < 5 → Int.ofNat k ∈ chosenF i ++ (otherF i).reverse := by
  have : ∀ i : Fin 32, (chosenF i.1 ++ (otherF i.1).reverse).length = 5 ∧ ∀ k : Fin 5, Int.ofNat k.1 ∈ chosenF i.1 ++ (otherF i.1).reverse := by decide +kernel
  exact ⟨(this ⟨i, h⟩).1, fun k hk => (this ⟨i, h⟩).2 ⟨k, hk⟩⟩
theorem line_len (i : Nat) (h : i < 32) : (chosenF i ++ (otherF i).reverse).length = 5 := (line_facts i h).1
theorem line_mem (i : Nat) (h : i < 32) (k : Nat) (hk : k < 5) : Int.ofNat k ∈ chosenF i ++ (otherF i).reverse := (line_facts i h).2 k hk
theorem strs_map {vs : List Value} {xs : List Str} (H : StrsAre vs xs) {f : Nat → Nat} : ∀ {l : List Nat}, (∀ k ∈ l, f k < xs.length) → StrsAre (l.map fun k => vs.getD (f k) .none) (l.map fun k => xs.getD (f k) default)
  | [], _ => .nil
  | k :: l, h => by
    have h1 := h k List.mem_cons_self
    obtain ⟨t, ht⟩ := H.get (f k) _ (List.getElem?_eq_getElem h1)
    simp only [List.map_cons]
    rw [List.getD_eq_getElem?_getD, ht, List.getD_eq_getElem?_getD, List.getElem?_eq_getElem h1]
    exact .cons _ t (strs_map H fun k hk => h k (List.mem_cons_of_mem _ hk))
theorem lineP_strs (i : Nat) (hi : i < 32) {vs : List Value} {xs : List Str} (H : StrsAre vs xs) (h5 : vs.length = 5) : StrsAre (lineP (chosenF i ++ (otherF i).reverse) vs) (lineS (chosenF i ++ (otherF i).reverse) xs) := by
  refine strs_map H (f := fun k => (chosenF i ++ (otherF i).reverse).idxOf (Int.ofNat k)) (l := List.range 5) fun k hk => ?_
  have h1 := List.idxOf_lt_length_iff.mpr (line_mem i hi k (List.mem_range.mp hk))
  have h2 := H.length
  have h3 := line_len i hi
  omega
theorem other_len (i : Nat) : (otherF i).length ≤ 5 := Nat.le_trans (List.length_filter_le _ _) (by decide)
theorem told_facts (i : Nat) (h : i < 32) : shaped (.tuple [.list ((otherF i).map PyData.int), .list (([] : List Int).map PyData.int)]) = true ∧ PyData.eqv (.tuple [.list ((otherF i).map PyData.int), .list (([] : List Int).map PyData.int)]) (.tuple [.list ((otherF i).map PyData.int), .list (([] : List Int).map PyData.int)]) = true := by
  have : ∀ i : Fin 32, shaped (.tuple [.list ((otherF i.1).map PyData.int), .list (([] : List Int).map PyData.int)]) = true ∧ PyData.eqv (.tuple [.list ((otherF i.1).map PyData.int), .list (([] : List Int).map PyData.int)]) (.tuple [.list ((otherF i.1).map PyData.int), .list (([] : List Int).map PyData.int)]) = true := by decide +kernel
  exact this ⟨i, h⟩
theorem ne_told {prog : Program} {w : World} {A : Around} {E : Value → Shared → Prop} {s : Shared} {h₀ : Heap} {L : Addr} {led : Led} (N : News h₀ L s.heap led) {i : Nat} (hi : i < 32) {t a b t' a' b' : Addr} {va va' : List Value} {nt n1 n2 nt' n1' n2' : Nat} {Q : Value → Shared → Prop}
    (mt : (t, tupOf #[.ref a, .ref b] nt) ∈ led) (ma : (a, listOf va.toArray n1) ∈ led) (mb : (b, listOf #[] n2) ∈ led) (mt' : (t', tupOf #[.ref a', .ref b'] nt') ∈ led) (ma' : (a', listOf va'.toArray n1') ∈ led) (mb' : (b', listOf #[] n2') ∈ led)
    (ia : IntsAre va (otherF i)) (ia' : IntsAre va' (otherF i)) (hu : A.units + 64 < cLine) (h : Q (.bool false) s) : wpAny (model prog w) A (compareOp .NotEq (.ref t) (.ref t')) Q E s := by
  have f := told_facts i hi
  refine ne_dataH (.tuple (N _ mt).1 rfl rfl (.cons (reads_of_ints (News.isList N ma) ia) (.cons (reads_of_ints (vs := []) (News.isList N mb) .nil) .nil))) (.tuple (N _ mt').1 rfl rfl (.cons (reads_of_ints (News.isList N ma') ia') (.cons (reads_of_ints (vs := []) (News.isList N mb') .nil) .nil))) f.1 f.1 hu ?_
  rw [f.2]
  exact h
theorem uld_places (i : Nat) (h : i < 32) : ulR ([0, 1, 2, 3, 4] : List Int).reverse (chosenF i) [] = (otherF i, []) := by
  have : ∀ i : Fin 32, ulR ([0, 1, 2, 3, 4] : List Int).reverse (chosenF i.1) [] = (otherF i.1, []) := by decide +kernel
  exact this ⟨i, h⟩
theorem foundF_no {m i : Nat} {xs : List Str} (h : ¬ (chosenF i).length = m) : foundF m xs (i + 1) = foundF m xs i := by
  simp [foundF, List.range_succ, List.filter_append, h]
theorem foundF_yes {m i : Nat} {xs : List Str} (h : (chosenF i).length = m) : foundF m xs (i + 1) = foundF m xs i ++ [fallPair (saysF xs i)] := by
  simp [foundF, List.range_succ, List.filter_append, h]
def LoopJ (fb L : Addr) (news : Led) (M : Str → Option Value) (n : Nat) (xs : List Str) (i : Nat) (m₁ : Str → Option Value) (nw : Led) : Prop :=
  (∃ u1 u2, m₁ = fun y => if y = Str.ofString "told" then u1 else if y = Str.ofString "says" then u2 else M y) ∧ ∃ (e3 e2 e1 : Obj) (fvs : List Value) (cf : Nat) (prs : Led), (∃ v, e3.data = .cell v) ∧ (∃ v, e2.data = .cell v) ∧ (∃ v, e1.data = .cell v) ∧
    nw = (fb, listOf fvs.toArray cf) :: (L + 1 + 1 + 1, e3) :: (L + 1 + 1, e2) :: (L + 1, e1) :: (prs ++ news) ∧ (∀ p ∈ prs, p.1 ≠ fb ∧ p.1 ≠ L + 1 + 1 + 1 ∧ p.1 ≠ L + 1 + 1 ∧ p.1 ≠ L + 1) ∧ Prs (prs ++ news) fvs (foundF n xs i)
theorem LoopJ.zero {fb L : Addr} {news : Led} {M : Str → Option Value} {n : Nat} {xs : List Str} {c3 c2 c1 : Obj} {y3 y2 y1 : Option Value} (d3 : c3.data = .cell y3) (d2 : c2.data = .cell y2) (d1 : c1.data = .cell y1) : LoopJ fb L news M n xs 0 M ((fb, listOf #[] 0) :: (L + 1 + 1 + 1, c3) :: (L + 1 + 1, c2) :: (L + 1, c1) :: news) :=
  ⟨⟨_, _, bind2_self _⟩, c3, c2, c1, [], 0, [], ⟨_, d3⟩, ⟨_, d2⟩, ⟨_, d1⟩, rfl, (fun _ hp => nomatch hp), Prs.nil⟩
theorem frame_swap {u1 u2 a b c d : Option Value} {m₀ : Str → Option Value} : (fun y => if y = Str.ofString "told" then u1 else if y = Str.ofString "says" then u2 else (fun y => if y = Str.ofString "found" then a else if y = Str.ofString "own" then b else if y = Str.ofString "second" then c else if y = Str.ofString "first" then d else m₀ y) y) =
    fun y => if y = Str.ofString "found" then a else if y = Str.ofString "own" then b else if y = Str.ofString "second" then c else if y = Str.ofString "first" then d else (fun y => if y = Str.ofString "told" then u1 else if y = Str.ofString "says" then u2 else m₀ y) y := by
  funext y
  dsimp only
  by_cases h1 : y = Str.ofString "told"
  · subst h1
    rw [if_pos rfl, if_pos rfl, if_neg (by decide), if_neg (by decide), if_neg (by decide), if_neg (by decide)]
  · rw [if_neg h1, if_neg h1]
    by_cases h2 : y = Str.ofString "says"
    · subst h2
      rw [if_pos rfl, if_pos rfl, if_neg (by decide), if_neg (by decide), if_neg (by decide), if_neg (by decide)]
    · rw [if_neg h2, if_neg h2]
theorem bit_iff {i j : Nat} : ((i : Int).fdiv (2 ^ ((j : Int)).toNat)).fmod 2 = 1 ↔ i / 2 ^ j % 2 = 1 := by
  rw [Int.toNat_natCast, Int.fdiv_eq_ediv_of_nonneg _ (by exact Int.pow_nonneg (by decide)), Int.fmod_eq_emod_of_nonneg _ (by decide)]
  have : ((i : Int) / 2 ^ j % 2) = ((i / 2 ^ j % 2 : Nat) : Int) := by push_cast; rfl
  rw [this]; omega
theorem law_loop {w : World} {lfa : Addr} {lcd : Value} {s₁ : Shared} {mean : ExcName → Option Value} {mg mb : Str → Option Value} {m₀ : Str → Option Value} {base h₀ h₁ : Heap} {tk : Nat} {L : Addr} {Q : Flow → Shared → Prop} {E : Value → Shared → Prop}
    (news : Led) (fb ob o1 o2 b1 b2 : Addr) (v1 v2 r1 r2 : List Value) (x1 x2 : List Int) (xs1 xs2 : List Str) (co n1 n2 k1 k2 : Nat) (c3 c2 c1 : Obj)
    (K0 : Below callerA base [] h₀) (KX : (hd.heap_39 w.params).In h₀) (T : Top hd.view_39 (looseW hd.view_39 []) mean mg mb h₀)
    (F : Fr h₀ L h₁ (fun y => if y = Str.ofString "found" then some (.ref fb) else if y = Str.ofString "own" then some (.ref ob) else if y = Str.ofString "second" then some (.ref b2) else if y = Str.ofString "first" then some (.ref b1) else m₀ y))
    (N : News h₀ L h₁ ((fb, listOf #[] 0) :: (L + 1 + 1 + 1, c3) :: (L + 1 + 1, c2) :: (L + 1, c1) :: news)) (d3 : c3.data = .cell none) (d2 : c2.data = .cell none) (d1 : c1.data = .cell none)
    (lf : L + 1 + 1 + 1 < fb) (ln : ∀ p ∈ news, p.1 ≠ fb ∧ p.1 ≠ L + 1 + 1 + 1 ∧ p.1 ≠ L + 1 + 1 ∧ p.1 ≠ L + 1)
    (mo : (ob, listOf #[.ref o1, .ref o2] co) ∈ news) (m1 : (o1, listOf v1.toArray n1) ∈ news) (m2 : (o2, listOf v2.toArray n2) ∈ news)
    (mb1 : (b1, listOf r1.toArray k1) ∈ news) (mb2 : (b2, listOf r2.toArray k2) ∈ news) (i1 : IntsAre v1 x1) (i2 : IntsAre v2 x2) (ir1 : StrsAre r1 xs1) (ir2 : StrsAre r2 xs2) (lr1 : r1.length = x1.length + 1) (lr2 : r2.length = x2.length + 1) (lr : r1.length + r2.length = 5)
    (hx : (x1, x2) ∈ pairsX) (hun : ∀ i, i < 32 → (chosenF i).length = xs1.length → saysF (xs1 ++ xs2) i = (saysF (xs1 ++ xs2) i).map signOf)
    (hfin : ulR ([(6, 0), (6, 0), (7, 0)] ++ foundF xs1.length (xs1 ++ xs2) 32 ++ [(5, 0)]).reverse ([(7, 0), (8, 0)] ++ dueX x1 x2 ++ [(7, 0), (9, 0)]) [] = ([(5, 0), (6, 0), (6, 0)], [(8, 0), (7, 0), (9, 0)]))
    (hE : PassesOwn (model Challenge.rw_tv0002_01.row.toRowW.prog w) (callerA.deeper (lawEnv lfa lcd L)) (lawEnv lfa lcd L) E)
    (hQ : ∀ h tk, (∀ b o, h₀.get? b = some o → h.get? b = some o) → Q (.ret (.bool true)) { s₁ with heap := h, toks := tk }) :
    wpAny (model Challenge.rw_tv0002_01.row.toRowW.prog w) (callerA.deeper (lawEnv lfa lcd L)) (execs (lawBody.drop 7) (lawEnv lfa lcd L)) Q E { s₁ with heap := h₁, toks := tk } := by
  revert KX
  k_fill
  intro KX
  show wpAny _ (callerA.deeper (envOfC _ ⟨_, _, _, _, _⟩ _ _ _)) (execs (_ :: _) (envOfC _ ⟨_, _, _, _, _⟩ _ _ _)) _ _ _
  refine wpAny_execs_cons ?_
  refine For_turns (by k_asm) ?_ (hE := hE)
  k_extra "goW"
  have off4 : ∀ p ∈ (fb, listOf #[] 0) :: (L + 1 + 1 + 1, c3) :: (L + 1 + 1, c2) :: (L + 1, c1) :: news, True := fun _ _ => trivial
  refine forRangeT (n := 32) (LoopJ fb L news (fun y => if y = Str.ofString "found" then some (.ref fb) else if y = Str.ofString "own" then some (.ref ob) else if y = Str.ofString "second" then some (.ref b2) else if y = Str.ofString "first" then some (.ref b1) else m₀ y) xs1.length (xs1 ++ xs2))
    (by rfl) (by assumption) (by decide) (by rfl) (by assumption) (by assumption) (LoopJ.zero d3 d2 d1) ?_ ?_
  · rintro i t m₁ nw h tk I oI hi ⟨⟨u1, u2, rfl⟩, e3, e2, e1, fvs, cf, prs, ⟨y3, he3⟩, ⟨y2, he2⟩, ⟨y1, he1⟩, rfl, oprs, hprs⟩ off F N
    have ofb : ∀ p ∈ prs ++ news, p.1 ≠ fb ∧ p.1 ≠ L + 1 + 1 + 1 ∧ p.1 ≠ L + 1 + 1 ∧ p.1 ≠ L + 1 := fun p hp => (List.mem_append.mp hp).elim (oprs p) (ln p)
    refine wpAny_assign_Name ?_
    refine storeX_C (c := L + 1) F N rfl (updF_at (pre := [(I, oI), (fb, listOf fvs.toArray cf), (L + 1 + 1 + 1, e3), (L + 1 + 1, e2)]) (post := prs ++ news) ?_ (fun p hp => (ofb p hp).2.2.2)) he1 ?_ (by rfl) (by rfl)
    · intro p hp
      simp only [List.mem_cons, List.not_mem_nil, or_false] at hp
      rcases hp with rfl | rfl | rfl | rfl
      · exact fun e => off.2.2.2.1 e.symm
      · exact Nat.ne_of_gt (Nat.lt_trans (Nat.lt_succ_of_lt (Nat.lt_succ_self _)) lf)
      · exact Nat.ne_of_gt (Nat.lt_succ_of_lt (Nat.lt_succ_self _))
      · exact Nat.ne_of_gt (Nat.lt_succ_self _)
    intro h3 w1 F3 N3 dw1
    dsimp only [List.cons_append, List.nil_append] at N3
    clear F N
    k_extra "goW"
    walk1
    k_extra "compT"
    k_extra "goW"
    refine LCt.CompSrcT.range (by rfl) (by k_asm) (by k_asm) (by assumption) (by decide) (n := 5) (by rfl) (by rw [PySem.sizeLine_eq]; omega) ?_
    intro g
    refine restT_fix (n := 5) ((I, oI) :: (fb, listOf fvs.toArray cf) :: (L + 1 + 1 + 1, e3) :: (L + 1 + 1, e2) :: (L + 1, w1) :: (prs ++ news)) (J := fun j ys => IntsAre ys (((List.range j).filter fun p => i / 2 ^ p % 2 = 1).map Int.ofNat)) trivial ?_ ?_ _ 0 [] (by omega) .nil
    · rintro j ys v I2 oI2 C oC D m₂ h tk E' hj hJ ⟨t2, rfl⟩ hC hx F N
      rw [Int.zero_add] at hx
      k_extra "goW"
      · rename _ = (1 : Int) => hb
        have hb' := bit_iff.mp hb
        k_extra "turn"
        rw [List.range_succ, List.filter_append, List.map_append]
        simp only [List.filter_cons, hb', decide_true, if_true, List.filter_nil, List.map_cons, List.map_nil]
        exact IntsAre.append hJ (.cons _ _ .nil)
      · rename _ ≠ (1 : Int) => hb
        have hb' : ¬ (i / 2 ^ j % 2 = 1) := fun e => hb (bit_iff.mpr e)
        k_extra "turn"
        rw [List.range_succ, List.filter_append, List.map_append]
        simpa [List.filter_cons, hb'] using hJ
    · intro chs hch
      replace hch : IntsAre chs (chosenF i) := hch
      intro D1 h5 tk5 F5 N5 off5
      k_extra "goW"
      clear hE
      have o5 : ∀ p ∈ (I, oI) :: (fb, listOf fvs.toArray cf) :: (L + 1 + 1 + 1, e3) :: (L + 1 + 1, e2) :: (L + 1, w1) :: (prs ++ news), p.1 ≠ D1 := off1_mem off5
      have oI' : ∀ p ∈ (fb, listOf fvs.toArray cf) :: (L + 1 + 1 + 1, e3) :: (L + 1 + 1, e2) :: (L + 1, e1) :: (prs ++ news), p.1 ≠ I := off1_mem off
      clear off5 off
      refine storeX_C (c := L + 1 + 1) F5 N5 rfl (updF_at (pre := [(D1, LCg.lst chs), (I, oI), (fb, listOf fvs.toArray cf), (L + 1 + 1 + 1, e3)]) (post := (L + 1, w1) :: (prs ++ news)) ?_ ?_) he2 ?_ (by rfl) (by rfl)
      · intro p hp
        simp only [List.mem_cons, List.not_mem_nil, or_false] at hp
        rcases hp with rfl | rfl | rfl | rfl
        · exact fun e => o5 (L + 1 + 1, e2) (by news_mem) e.symm
        · exact fun e => oI' (L + 1 + 1, e2) (by news_mem) e.symm
        · exact Nat.ne_of_gt (Nat.lt_trans (Nat.lt_succ_self _) lf)
        · exact Nat.ne_of_gt (Nat.lt_succ_self _)
      · intro p hp
        rcases List.mem_cons.mp hp with rfl | hp
        · exact Nat.ne_of_lt (Nat.lt_succ_self _)
        · exact (ofb p hp).2.2.1
      intro h6 w2 F6 N6 dw2
      dsimp only [List.cons_append, List.nil_append] at N6
      clear F5 N5
      k_extra "goW"
      have lch : (chosenF i).length ≤ 5 := by simp only [chosenF, List.length_map]; exact Nat.le_trans (List.length_filter_le _ _) (by simp)
      have lchs := hch.length
      have lr1' := ir1.length
      have mp1 : (b1, listOf r1.toArray k1) ∈ prs ++ news := List.mem_append_right _ mb1
      have mp2 : (b2, listOf r2.toArray k2) ∈ prs ++ news := List.mem_append_right _ mb2
      refine call_len_list (items := chs.toArray) (News.isList (n := chs.length) N6 (by news_mem)) (by simp only [List.size_toArray]; omega) ?_
      k_extra "goW"
      refine call_len_list (items := r1.toArray) (News.isList (n := k1) N6 (by news_mem)) (by simp only [List.size_toArray]; omega) ?_
      k_extra "goW"
      · rename (chs.toArray.size : Int) = _ => hsz
        have hm : (chosenF i).length = xs1.length := by simp only [List.size_toArray] at hsz; omega
        refine newList_K (by k_asm) (by k_asm) (fun p1 hp1 F1 N1 l1 => ?_)
        clear F6 N6
        k_extra "goW"
        rename_i du cu hu FU NU lu
        k_dflt (refine' Ctr1.use (uld_spec kInt ((D1, LCg.lst chs) :: (I, oI) :: (fb, listOf fvs.toArray cf) :: (L + 1 + 1 + 1, e3) :: (L + 1 + 1, w2) :: (L + 1, w1) :: (prs ++ news)) p1 du [.int 0 _, .int 1 _, .int 2 _, .int 3 _, .int 4 _] chs 0 cu [0, 1, 2, 3, 4] (chosenF i) (Nat.ne_of_lt lu.1) (off1_of fun p hp => Nat.ne_of_lt (l1 p hp)) (off1_of_lt lu.2) (ints_all2 (.cons _ _ (.cons _ _ (.cons _ _ (.cons _ _ (.cons _ _ .nil)))))) (ints_all2 hch) (by decide) (by omega)) ?kF ?kX ?kN ?kT ?kK ?kd ?ku ?_)
        case kF => k_asm
        case kX => k_asm
        case kN =>
          intro p hp
          rcases List.mem_cons.mp hp with rfl | hp
          · exact NU _ (by news_mem)
          · rcases List.mem_cons.mp hp with rfl | hp
            · exact NU _ (by news_mem)
            · exact NU p (List.mem_cons_of_mem _ (List.mem_cons_of_mem _ hp))
        case kT => k_asm
        case kK => first | exact rfl | assumption
        case kd => ktr_room
        case ku => ktr_units
        rintro v led h' tk' ⟨bt, mis, vm, va', cm, ce', ca', nt, rfl, rfl, rm, ra', n1', n2', n3', n4', n5', n6', n7'⟩ F' N'
        rw [uld_places i hi] at rm ra'
        replace rm : IntsAre vm (otherF i) := all2_ints rm
        replace ra' := all2_ints ra'
        cases ra'
        k_extra "goW"
        k_dflt (refine ListComp_TT (by k_asm) (by with_unfolding_all rfl) (by decide) (by rfl) (by decide) (by rfl) ?_)
        k_extra "goW"
        rename_i DT hT FT NT lT
        show CompSrcTT _ _ _ _ _ _ _ _ _ _ _ _ _ _ _
        refine ⟨_, _, _, _, rfl, by rfl, FT, NT, by news_mem, by rw [PySem.sizeLine_eq]; simp, fun g2 => ?_⟩
        refine restT_fix (n := 5) _ (J := fun j ys => IntsAre ys ((([4, 3, 2, 1, 0] : List Int).take j).filter fun p => decide (p ∉ chosenF i))) (by news_mem) ?_ ?_ _ 0 [] (by rfl) .nil
        · intro j ys v I2 oI2 C oC D m₂ h8 tk8 E' hj hJ hv hC hx F N
          obtain ⟨kk, tk', rfl, hk⟩ := IntsAre.at (.cons (4 : Int) tk (.cons 3 (tk + 1) (.cons 2 (tk + 1 + 1) (.cons 1 (tk + 1 + 1 + 1) (.cons 0 (tk + 1 + 1 + 1 + 1) .nil))))) j v (by simpa using hv)
          k_extra "goW"
          · rename (List.any _ _) = true => hin
            have hin' : kk ∈ chosenF i := by simpa using hin
            k_extra "turn"
            rw [List.take_add_one, hk, List.filter_append]
            simpa [hin'] using hJ
          · rename (List.any _ _) = false => hin
            have hin' : kk ∉ chosenF i := fun e => by have := List.any_eq_false.mp hin kk e; simp at this
            k_extra "turn"
            rw [List.take_add_one, hk, List.filter_append]
            simp only [Option.toList_some, List.filter_cons, hin', not_false_eq_true, decide_true, if_true, List.filter_nil]
            exact IntsAre.append hJ (.cons _ _ .nil)
        · intro ys hJ
          replace hJ : IntsAre ys (otherF i) := hJ
          intro D2 h7 tk7 F7 N7 off7
          k_extra "goW"
          refine newList_K (by k_asm) (by k_asm) (fun p2 hp2 F2 N2 l2 => ?_)
          clear F7 N7
          k_extra "goE"
          rename News _ _ _ _ => NE
          refine ne_told NE hi (t := bt) (a := mis) (b := du) (va := vm) (a' := D2) (b' := p2) (va' := ys) (by news_mem) (by news_mem) (by news_mem) (by news_mem) (by news_mem) (by news_mem) rm hJ (by ktr_units) ?_
          k_extra "goX"
          refine kim_tup (j := 0) (a := bt) (lo := tupOf #[.ref mis, .ref du] nt) (l := [Value.ref mis, Value.ref du]) NE (by news_mem) rfl rfl (by decide) (by decide) rfl rfl ?_
          dsimp only
          k_extra "goX"
          refine kba_turn (value' := PySem.Expr.Name (PySem.Str.ofString "_") ⟨0, 0, 0, 0⟩) (fun _ => rfl) ?_
          k_dflt (refine' krv_ints (vs := vm) (ns := otherF i) ?gF ?gN ?gl ?gk ?gi ?_ ?gs ?gt ?gz)
          case gF => k_asm
          case gN => k_asm
          case gl => exact News.isList (n := cm) NE (by news_mem)
          case gk => exact IsPart.int _ _
          case gi => exact rm
          case gs => with_unfolding_all rfl
          case gt => kmk_pure
          case gz => rw [PySem.sizeLine_eq]; have := rm.length; have := other_len i; simp only [List.size_toArray]; omega
          intro p3 rvs hp3 F3 N3 l3 hrv _
          clear NE
          k_extra "goX"
          refine add_M (l := D1) (vs := chs) (n := chs.length) (b := p3) (ws := rvs) (n' := 0) (by k_asm) (by k_asm) (by news_mem) (by news_mem) (by rw [PySem.sizeLine_eq]; have := hrv.length; have := other_len i; simp only [List.length_reverse] at *; omega) (fun p4 hp4 F4 N4 l4 => ?_)
          clear F3 N3
          k_extra "goX"
          refine add_M (l := b1) (vs := r1) (n := k1) (b := b2) (ws := r2) (n' := k2) (by k_asm) (by k_asm) (by news_mem) (by news_mem) (by rw [PySem.sizeLine_eq]; omega) (fun p5 hp5 F5 N5 l5 => ?_)
          clear F4 N4
          k_extra "goX"
          k_dflt (refine' Ctr.use (line_spec _ p4 p5 (chs ++ rvs) (r1 ++ r2) (chosenF i ++ (otherF i).reverse) 0 0 ?hn1 ?hn2 (IntsAre.append hch hrv) (line_len i hi) ?hl2 (line_mem i hi)) ?kB ?kF ?kX ?kN ?kT ?kK ?kd ?ku ?_)
          k_extra "ret"
          case hn1 => news_mem
          case hn2 => news_mem
          case hl2 => rw [List.length_append]; exact lr
          rintro v led h9 tk9 ⟨p6, n6, rfl, rfl, off6⟩ F9 N9
          have hls := lineP_strs i hi (StrsAre.append' ir1 ir2) (by rw [List.length_append]; exact lr)
          generalize lineP (chosenF i ++ (otherF i).reverse) (r1 ++ r2) = lvs at hls N9
          have NL : News h₀ L h9 ((p6, listOf lvs.toArray n6) :: (I, oI) :: (fb, listOf fvs.toArray cf) :: (L + 1 + 1 + 1, e3) :: (L + 1 + 1, w2) :: (L + 1, w1) :: (prs ++ news)) := cb_drop N9 (by lcg_sub)
          have o6 : ∀ p ∈ (I, oI) :: (fb, listOf fvs.toArray cf) :: (L + 1 + 1 + 1, e3) :: (L + 1 + 1, w2) :: (L + 1, w1) :: (prs ++ news), p.1 ≠ p6 := fun p hp => off1_mem off6 p (by revert p; lcg_sub)
          clear off6 N9 l5 l4 l3 l2 l1 F5 N5
          k_extra "goX"
          refine storeX_C (c := L + 1 + 1 + 1) F9 NL rfl (updF_at (pre := [(p6, listOf lvs.toArray n6), (I, oI), (fb, listOf fvs.toArray cf)]) (post := (L + 1 + 1, w2) :: (L + 1, w1) :: (prs ++ news)) ?_ ?_) he3 ?_ (by rfl) (by rfl)
          · intro p hp
            simp only [List.mem_cons, List.not_mem_nil, or_false] at hp
            rcases hp with rfl | rfl | rfl
            · exact fun e => o6 (L + 1 + 1 + 1, e3) (by news_mem) e.symm
            · exact fun e => oI' (L + 1 + 1 + 1, e3) (by news_mem) e.symm
            · exact Nat.ne_of_gt lf
          · intro p hp
            rcases List.mem_cons.mp hp with rfl | hp
            · exact Nat.ne_of_lt (Nat.lt_succ_self _)
            · rcases List.mem_cons.mp hp with rfl | hp
              · exact Nat.ne_of_lt (Nat.lt_succ_of_lt (Nat.lt_succ_self _))
              · exact (ofb p hp).2.1
          intro h10 w3 F10 N10 dw3
          dsimp only [List.cons_append, List.nil_append] at N10
          clear F9 NL
          k_extra "goX"
          k_extra "compAU"
          k_extra "goX"
          have llen : (lineS (chosenF i ++ (otherF i).reverse) (xs1 ++ xs2)).length = 5 := by simp [lineS]
          have slen : (saysF (xs1 ++ xs2) i).length = 4 := by simp [saysF]
          have lvl := hls.length
          refine LCg.CompSrc.range (by rfl) (by k_asm) (by k_asm) (by assumption) (by decide) (n := 4) (by rfl) (by rw [PySem.sizeLine_eq]; omega) ?_
          intro g3
          refine restU_fix (n := 4) ((p6, listOf lvs.toArray n6) :: (I, oI) :: (fb, listOf fvs.toArray cf) :: (L + 1 + 1 + 1, w3) :: (L + 1 + 1, w2) :: (L + 1, w1) :: (prs ++ news)) (J := fun j ys => IntsAre ys ((saysF (xs1 ++ xs2) i).take j)) trivial ?_ ?_ _ 0 [] (by omega) (by simpa using IntsAre.nil)
          · rintro j zs v I3 oI3 C3 oC3 D3 m₃ h11 tk11 E' hj hJ3 ⟨t3, rfl⟩ hC hx F N
            rw [Int.zero_add] at hx
            obtain ⟨t1, ht1⟩ := hls.get j _ (List.getElem?_eq_getElem (by omega))
            obtain ⟨t2, ht2⟩ := hls.get (j + 1) _ (List.getElem?_eq_getElem (by omega))
            have hco : (saysF (xs1 ++ xs2) i)[j]? = some (coll ((lineS (chosenF i ++ (otherF i).reverse) (xs1 ++ xs2))[j]'(by omega)) ((lineS (chosenF i ++ (otherF i).reverse) (xs1 ++ xs2))[j + 1]'(by omega))) := says_at (by omega) (by omega)
            generalize (lineS (chosenF i ++ (otherF i).reverse) (xs1 ++ xs2))[j]'(by omega) = q1 at ht1 hco
            generalize (lineS (chosenF i ++ (otherF i).reverse) (xs1 ++ xs2))[j + 1]'(by omega) = q2 at ht2 hco
            k_extra "goX"
            refine item_listL (l := lvs) (by is_list) (by omega) (by omega) ht1 ?_
            k_extra "goX"
            refine item_listL (l := lvs) (by is_list) (by omega) (by omega) (by rw [show ((j : Int) + 1).toNat = j + 1 by omega]; exact ht2) ?_
            k_extra "goX"
            k_dflt (refine' Ctr.use (strcoll_spec _ q1 q2 t1 t2) ?kB ?kF ?kX ?kN ?kT ?kK ?kd ?ku ?_)
            k_extra "ret"
            rintro v led h' tk' ⟨⟨t, rfl⟩, rfl⟩ F' N'
            k_extra "go"
            k_extra "turn"
            exact ints_snoc hJ3 hco
          · intro zs hJ3
            replace hJ3 : IntsAre zs (saysF (xs1 ++ xs2) i) := by rw [List.take_of_length_le (by omega)] at hJ3; exact hJ3
            intro D4 h12 tk12 F12 N12 off12
            k_extra "goX"
            have o4 : ∀ p ∈ (p6, listOf lvs.toArray n6) :: (I, oI) :: (fb, listOf fvs.toArray cf) :: (L + 1 + 1 + 1, w3) :: (L + 1 + 1, w2) :: (L + 1, w1) :: (prs ++ news), p.1 ≠ D4 := off1_mem off12
            k_dflt (refine' Ctr.use (unlike_spec _ D4 zs (saysF (xs1 ++ xs2) i) zs.length ?hu1 hJ3 (by omega)) ?kB ?kF ?kX ?kN ?kT ?kK ?kd ?ku ?_)
            k_extra "ret"
            case hu1 => news_mem
            rintro v led h13 tk13 ⟨hv, rfl⟩ F13 N13
            obtain rfl : v = .bool true := hv.trans (congrArg Value.bool (decide_eq_true (hun i hi hm)))
            clear F12 N12
            k_extra "goX"
            walk1
            k_extra "goX"
            k_dflt (refine' Ctr.use (falls_spec _ D4 zs (saysF (xs1 ++ xs2) i) zs.length ?hu2 hJ3 (by omega)) ?kB ?kF ?kX ?kN ?kT ?kK ?kd ?ku ?_)
            k_extra "ret"
            case hu2 => news_mem
            rintro v led h14 tk14 ⟨bF, t5, t6, nF, rfl, rfl, offF⟩ F14 N14
            have oF : ∀ p ∈ (p6, listOf lvs.toArray n6) :: (I, oI) :: (fb, listOf fvs.toArray cf) :: (L + 1 + 1 + 1, w3) :: (L + 1 + 1, w2) :: (L + 1, w1) :: (prs ++ news), p.1 ≠ bF := fun p hp => off1_mem offF p (List.mem_cons_of_mem _ hp)
            k_extra "goX"
            refine append_M (its := fvs.toArray) (c := cf) (b := fb) (pre := [(bF, listOf #[.int (fallsP (saysF (xs1 ++ xs2) i)).length t5, .int (fallsP (saysF (xs1 ++ xs2) i)).sum t6] nF), (D4, LCg.lst zs), (p6, listOf lvs.toArray n6), (I, oI)]) (post := (L + 1 + 1 + 1, w3) :: (L + 1 + 1, w2) :: (L + 1, w1) :: (prs ++ news)) F14 N14 ?_ ?_ ?_ ?_
            · intro p hp
              simp only [List.mem_cons, List.not_mem_nil, or_false] at hp
              rcases hp with rfl | rfl | rfl | rfl
              · exact fun e => oF (fb, listOf fvs.toArray cf) (by news_mem) e.symm
              · exact fun e => o4 (fb, listOf fvs.toArray cf) (by news_mem) e.symm
              · exact fun e => o6 (fb, listOf fvs.toArray cf) (by news_mem) e.symm
              · exact fun e => oI' (fb, listOf fvs.toArray cf) (by news_mem) e.symm
            · intro p hp
              rcases List.mem_cons.mp hp with rfl | hp
              · exact Nat.ne_of_lt lf
              · rcases List.mem_cons.mp hp with rfl | hp
                · exact Nat.ne_of_lt (Nat.lt_trans (Nat.lt_succ_self _) lf)
                · rcases List.mem_cons.mp hp with rfl | hp
                  · exact Nat.ne_of_lt (Nat.lt_trans (Nat.lt_succ_of_lt (Nat.lt_succ_self _)) lf)
                  · exact (ofb p hp).1
            · rw [PySem.sizeLine_eq]; have := hprs.length; have := found_len xs1.length (xs1 ++ xs2) i; simp only [List.size_toArray]; omega
            · intro h15 F15 N15
              k_extra "goX"
              rw [List.push_toArray] at N15
              refine LEnd.intro F15 (news₂ := (fb, listOf (fvs ++ [Value.ref bF]).toArray (cf + 1)) :: (L + 1 + 1 + 1, w3) :: (L + 1 + 1, w2) :: (L + 1, w1) :: (((bF, listOf #[.int (fallsP (saysF (xs1 ++ xs2) i)).length t5, .int (fallsP (saysF (xs1 ++ xs2) i)).sum t6] nF) :: prs) ++ news)) ?_ ?_ ⟨⟨_, _, frame_end⟩, w3, w2, w1, _, _, (bF, listOf #[.int (fallsP (saysF (xs1 ++ xs2) i)).length t5, .int (fallsP (saysF (xs1 ++ xs2) i)).sum t6] nF) :: prs, ⟨_, dw3⟩, ⟨_, dw2⟩, ⟨_, dw1⟩, rfl, ?_, ?_⟩
              · refine cb_drop N15 ?_
                dsimp only [List.cons_append, List.nil_append]
                lcg_sub
              · refine off1_of fun p hp => ?_
                dsimp only [List.cons_append] at hp
                simp only [List.mem_cons] at hp
                rcases hp with rfl | rfl | rfl | rfl | rfl | hp
                · exact oI' (fb, listOf fvs.toArray cf) (by news_mem)
                · exact oI' (L + 1 + 1 + 1, e3) (by news_mem)
                · exact oI' (L + 1 + 1, e2) (by news_mem)
                · exact oI' (L + 1, e1) (by news_mem)
                · exact fun e => oF (I, oI) (by news_mem) e.symm
                · exact oI' p (by repeat (first | exact hp | refine List.mem_cons_of_mem _ ?_))
              · intro p hp
                rcases List.mem_cons.mp hp with rfl | hp
                · exact ⟨fun e => oF (fb, listOf fvs.toArray cf) (by news_mem) e.symm, fun e => oF (L + 1 + 1 + 1, w3) (by news_mem) e.symm, fun e => oF (L + 1 + 1, w2) (by news_mem) e.symm, fun e => oF (L + 1, w1) (by news_mem) e.symm⟩
                · exact oprs p hp
              · rw [foundF_yes hm]
                exact Prs.snoc (hprs.mono fun p hp => List.mem_cons_of_mem _ hp) List.mem_cons_self
      · rename (chs.toArray.size : Int) ≠ _ => hsz
        have hm : ¬ (chosenF i).length = xs1.length := by simp only [List.size_toArray] at hsz; omega
        refine LEnd.intro (by k_asm) (fun p hp => N6 p (List.mem_cons_of_mem _ hp)) (off1_of fun p hp => ?_) ⟨⟨u1, u2, rfl⟩, e3, w2, w1, fvs, cf, prs, ⟨_, he3⟩, ⟨_, dw2⟩, ⟨_, dw1⟩, rfl, oprs, by rw [foundF_no hm]; exact hprs⟩
        simp only [List.mem_cons] at hp
        rcases hp with rfl | rfl | rfl | rfl | hp
        · exact oI' (fb, listOf fvs.toArray cf) (by news_mem)
        · exact oI' (L + 1 + 1 + 1, e3) (by news_mem)
        · exact oI' (L + 1 + 1, e2) (by news_mem)
        · exact oI' (L + 1, e1) (by news_mem)
        · exact oI' p (by repeat (first | exact hp | refine List.mem_cons_of_mem _ ?_))
  · rintro m₁ nw h tk ⟨⟨u1, u2, rfl⟩, e3, e2, e1, fvs, cf, prs, ⟨y3, he3⟩, ⟨y2, he2⟩, ⟨y1, he1⟩, rfl, oprs, hprs⟩ F N
    have hlen : (foundF xs1.length (xs1 ++ xs2) 32).length ≤ 32 := by simp only [foundF, List.length_map]; exact Nat.le_trans (List.length_filter_le _ _) (by simp)
    rw [frame_swap] at F
    refine law_end ((fb, listOf fvs.toArray cf) :: (L + 1 + 1 + 1, e3) :: (L + 1 + 1, e2) :: (L + 1, e1) :: (prs ++ news)) fb ob o1 o2 b1 b2 fvs v1 v2 r1 r2 (foundF xs1.length (xs1 ++ xs2) 32) x1 x2 cf co n1 n2 k1 k2 K0 KX T F N List.mem_cons_self ?_ ?_ ?_ ?_ ?_ ?_ i1 i2 lr1 lr2 lr hlen hx hfin hQ
    iterate 5 exact List.mem_cons_of_mem _ (List.mem_cons_of_mem _ (List.mem_cons_of_mem _ (List.mem_cons_of_mem _ (List.mem_append_right _ (by assumption)))))
    exact hprs.mono fun p hp => List.mem_cons_of_mem _ (List.mem_cons_of_mem _ (List.mem_cons_of_mem _ (List.mem_cons_of_mem _ hp)))
end
section -- mid
theorem pickR_sub {α : Type} {x : α} : ∀ (js : List Nat) {l : List α}, x ∈ pickR l js → x ∈ l
  | [], _, h => nomatch h
  | j :: js, l, h => by
    rcases List.mem_append.mp h with h | h
    · exact List.mem_of_getElem? (by simpa using h)
    · exact List.mem_of_mem_eraseIdx (pickR_sub js h)
theorem small_range {z : Int} (h : 0 ≤ z ∧ z ≤ 3) : Builtin.Range.small 0 z 1 = true := by
  have : z = 0 ∨ z = 1 ∨ z = 2 ∨ z = 3 := by omega
  rcases this with rfl | rfl | rfl | rfl <;> decide
theorem CtrP.use {w : World} {mean : ExcName → Option Value} {mg mb : Str → Option Value} {P : Heap → Prop} {f : Addr} {vs : List Value} {news : Led} {dk uk : Nat} {Post : Value → Led → Prop} {dp un : Nat} {gd : Option (List Code)} {cn : Str} {cs : Scope} {a : Addr} {ccd : Value} {cl : List (Str × Addr)} {outer : List PySem.Env} {A₀ : Around} {base h₀ : Heap} {L : Addr} {m : Str → Option Value} {s : Shared} {Q E : Value → Shared → Prop}
    (C : CtrP w mean mg mb P f vs news dk uk Post) (B : Below A₀ base outer h₀) (F : Fr h₀ L s.heap m) (X : (hd.heap_39 w.params).In h₀) (N : News h₀ L s.heap news) (T : Top hd.view_39 (looseW hd.view_39 []) mean mg mb h₀) (hk : cs.kind = .function) (hd : dp + dk < recursionLimit) (hu : un + uk < cLine) (hP : P h₀)
    (ret : ∀ v led h' tk', Post v led → Fr h₀ L h' m → News h₀ L h' led → Q v { s with heap := h', toks := tk' }) :
    wpAny (model Challenge.rw_tv0002_01.row.toRowW.prog w) (ktrTop dp un gd cn cs L a ccd cl outer) (call (.ref f) vs) Q E s := C _ _ _ _ _ _ _ _ _ _ _ _ _ _ _ _ _ B F X N T hk hd hu hP ret
theorem strs_take {vs : List Value} {xs : List Str} (H : StrsAre vs xs) : ∀ n, StrsAre (vs.take n) (xs.take n) := by
  induction H with
  | nil => intro n; simpa using StrsAre.nil
  | cons y t _ ih =>
    intro n
    cases n with
    | zero => simpa using StrsAre.nil
    | succ n => simpa using StrsAre.cons y t (ih n)
theorem strs_drop {vs : List Value} {xs : List Str} (H : StrsAre vs xs) : ∀ n, StrsAre (vs.drop n) (xs.drop n) := by
  induction H with
  | nil => intro n; simpa using StrsAre.nil
  | cons y t h ih =>
    intro n
    cases n with
    | zero => simpa using StrsAre.cons y t h
    | succ n => simpa using ih n
theorem strs_erase {vs : List Value} {xs : List Str} (H : StrsAre vs xs) : ∀ n, StrsAre (vs.eraseIdx n) (xs.eraseIdx n) := by
  induction H with
  | nil => intro n; simpa using StrsAre.nil
  | cons y t h ih =>
    intro n
    cases n with
    | zero => simpa using h
    | succ n => simpa using StrsAre.cons y t (ih n)
theorem strs_pickR : ∀ (js : List Nat) {vs : List Value} {xs : List Str}, StrsAre vs xs → StrsAre (pickR vs js) (pickR xs js)
  | [], _, _, _ => .nil
  | j :: js, vs, xs, H => by
    show StrsAre ((vs[j]?).toList ++ pickR (vs.eraseIdx j) js) ((xs[j]?).toList ++ pickR (xs.eraseIdx j) js)
    refine StrsAre.append' ?_ (strs_pickR js (strs_erase H j))
    have hl := H.length
    by_cases hj : j < xs.length
    · obtain ⟨t, ht⟩ := H.get j _ (List.getElem?_eq_getElem hj)
      rw [ht, List.getElem?_eq_getElem hj]
      exact .cons _ t .nil
    · rw [List.getElem?_eq_none (by omega), List.getElem?_eq_none (by omega)]
      exact .nil
def cmpX (x y : Str) : Int := b2i (ltL (codesOf y) (codesOf x)) - b2i (ltL (codesOf x) (codesOf y))
def ownX (l : List Str) : List Int := (List.range (l.length - 1)).map fun k => cmpX (l.getD k default) (l.getD (k + 1) default)
theorem own_at {l : List Str} {k : Nat} (h : k + 1 < l.length) : (ownX l)[k]? = some (cmpX l[k] l[k + 1]) := by
  simp only [ownX, List.getElem?_map, List.getElem?_range (show k < l.length - 1 by omega), Option.map_some, List.getD_eq_getElem?_getD, List.getElem?_eq_getElem h, List.getElem?_eq_getElem (show k < l.length by omega), Option.getD_some]
def OwnRel (led : Led) : Value → List Int → Prop := fun v x => ∃ o vs n, v = .ref o ∧ IntsAre vs x ∧ (o, listOf vs.toArray n) ∈ led
theorem own_mono {led led' : Led} {vs : List Value} {xs : List (List Int)} (h : All2 (OwnRel led) vs xs) (hs : ∀ p ∈ led, p ∈ led') : All2 (OwnRel led') vs xs := by
  induction h with
  | nil => exact .nil
  | cons h1 _ ih =>
    obtain ⟨o, ws, n, rfl, hi, hm⟩ := h1
    exact .cons ⟨o, ws, n, rfl, hi, hs _ hm⟩ ih
theorem own_two {led : Led} {ys : List Value} {x1 x2 : List Int} {n : Nat} (h : All2 (OwnRel led) ys (List.take (n + 2) [x1, x2])) : ∃ o1 v1 n1 o2 v2 n2, ys = [.ref o1, .ref o2] ∧ IntsAre v1 x1 ∧ IntsAre v2 x2 ∧ (o1, listOf v1.toArray n1) ∈ led ∧ (o2, listOf v2.toArray n2) ∈ led := by
  have h' : All2 (OwnRel led) ys [x1, x2] := by simpa using h
  cases h' with
  | cons h1 h => cases h with
    | cons h2 h => cases h; obtain ⟨o1, v1, n1, rfl, i1, m1⟩ := h1; obtain ⟨o2, v2, n2, rfl, i2, m2⟩ := h2; exact ⟨o1, v1, n1, o2, v2, n2, rfl, i1, i2, m1, m2⟩
theorem cell_ne {h₀ h : Heap} {L : Addr} {led : Led} (N : News h₀ L h led) {p c : Addr} {its : Array Value} {n : Nat} {oc : Obj} (hp : (p, listOf its n) ∈ led) (hc : (c, oc) ∈ led) (dc : oc.data = .cell none) : p ≠ c := by
  intro e
  subst e
  have h1 := (N _ hp).1
  rw [(N _ hc).1] at h1
  have h2 : oc = listOf its n := Option.some.inj h1
  rw [h2] at dc
  cases dc
theorem law_mid {w : World} {lfa : Addr} {lcd : Value} {s₁ : Shared} {mean : ExcName → Option Value} {mg mb : Str → Option Value} {base h₀ h₁ : Heap} {tk : Nat} {L script nm pp : Addr} {vs nv : List Value} {ns : List Int} {xs : List Str} {cn : Nat} {c3 c2 c1 : Obj} {Q : Flow → Shared → Prop} {E : Value → Shared → Prop}
    (news : Led) (K0 : Below callerA base [] h₀) (KX : (hd.heap_39 w.params).In h₀) (T : Top hd.view_39 (looseW hd.view_39 []) mean mg mb h₀)
    (F : Fr h₀ L h₁ (fun y => if y = Str.ofString "names" then some (.ref nm) else if y = Str.ofString "pairs" then some (.ref pp) else if y = Str.ofString "script" then some (.ref script) else none))
    (N : News h₀ L h₁ ((L + 1 + 1 + 1, c3) :: (L + 1 + 1, c2) :: (L + 1, c1) :: news)) (d3 : c3.data = .cell none) (d2 : c2.data = .cell none) (d1 : c1.data = .cell none)
    (ln : ∀ p ∈ news, p.1 ≠ L + 1 + 1 + 1 ∧ p.1 ≠ L + 1 + 1 ∧ p.1 ≠ L + 1)
    (hnm : (nm, listOf nv.toArray cn) ∈ news) (hL : h₀.IsList script vs.toArray) (hI : IntsAre vs ns) (iN : StrsAre nv xs) (h9 : xs.length = 9) (hlx : ∀ x ∈ xs, x.cps.size ≤ 1000)
    (hplain : ∀ js cut, fits 9 js = true → js.length = 5 → 1 ≤ cut → cut ≤ 4 → ∀ xs1 xs2, xs1 = (pickR xs js).take cut → xs2 = (pickR xs js).drop cut →
      (ownX xs1, ownX xs2) ∈ pairsX ∧ ownX xs1 ++ ownX xs2 = (ownX xs1 ++ ownX xs2).map signOf ∧ (∀ i, i < 32 → (chosenF i).length = xs1.length → saysF (xs1 ++ xs2) i = (saysF (xs1 ++ xs2) i).map signOf) ∧
      ulR ([(6, 0), (6, 0), (7, 0)] ++ foundF xs1.length (xs1 ++ xs2) 32 ++ [(5, 0)]).reverse ([(7, 0), (8, 0)] ++ dueX (ownX xs1) (ownX xs2) ++ [(7, 0), (9, 0)]) [] = ([(5, 0), (6, 0), (6, 0)], [(8, 0), (7, 0), (9, 0)]))
    (hE : PassesOwn (model Challenge.rw_tv0002_01.row.toRowW.prog w) (callerA.deeper (lawEnv lfa lcd L)) (lawEnv lfa lcd L) E)
    (hQ : ∀ h tk, (∀ b o, h₀.get? b = some o → h.get? b = some o) → Q (.ret (.bool true)) { s₁ with heap := h, toks := tk }) :
    wpAny (model Challenge.rw_tv0002_01.row.toRowW.prog w) (callerA.deeper (lawEnv lfa lcd L)) (execs (lawBody.drop 3) (lawEnv lfa lcd L)) Q E { s₁ with heap := h₁, toks := tk } := by
  revert KX
  k_fill
  intro KX
  show wpAny _ (callerA.deeper (envOfC _ ⟨_, _, _, _, _⟩ _ _ _)) (execs (_ :: _) (envOfC _ ⟨_, _, _, _, _⟩ _ _ _)) _ _ _
  k_extra "goX"
  have en := iN.length
  k_dflt (refine' CtrP.use (rows_spec _ script nm vs nv ns cn hI ?hn1 (by omega)) ?kB ?kF ?kX ?kN ?kT ?kK ?kd ?ku ?kp ?_)
  k_extra "ret"
  case kp => exact hL
  case hn1 => repeat (first | exact hnm | refine List.mem_cons_of_mem _ ?_)
  rintro v led h' tk' ⟨b, b1, b2, js, cut, rfl, hfit, hjs, hc1, hc4, rfl⟩ F' N'
  k_extra "goX"
  k_dflt (refine Assign_cell (by k_asm) (by rfl) (by with_unfolding_all rfl) (by with_unfolding_all rfl) (by rfl) (by decide) (by with_unfolding_all rfl) (by intro _; with_unfolding_all rfl) (by intro _; with_unfolding_all rfl) (by rfl) (by rfl) ?_)
  k_extra "goX"
  rename_i at_ hT FT NT lT
  have iR : StrsAre (pickR nv js) (pickR xs js) := strs_pickR js iN
  have lR : (pickR nv js).length = 5 := by rw [pickR_length (by rw [en, h9]; exact hfit)]; exact hjs
  have iR1 := strs_take iR cut
  have iR2 := strs_drop iR cut
  have lR1 : (List.take cut (pickR nv js)).length = cut := by rw [List.length_take]; omega
  have lR2 : (List.drop cut (pickR nv js)).length = 5 - cut := by rw [List.length_drop]; omega
  have hRx : ∀ x ∈ pickR xs js, x.cps.size ≤ 1000 := fun x hx => hlx x (pickR_sub js hx)
  refine ⟨at_, _, _, _, fun i ys nw => (∀ p ∈ (at_, tupo #[.ref b1, .ref b2] 0) :: (b, tupo #[.ref b1, .ref b2] 0) :: (b2, listOf (List.drop cut (pickR nv js)).toArray 0) :: (b1, listOf (List.take cut (pickR nv js)).toArray 0) :: (L + 1 + 1 + 1, c3) :: (L + 1 + 1, c2) :: (L + 1, c1) :: news, p ∈ nw) ∧ All2 (OwnRel nw) ys ([ownX ((pickR xs js).take cut), ownX ((pickR xs js).drop cut)].take i), rfl, by rfl, FT, NT, by rw [PySem.sizeLine_eq]; simp, fun i ys nw h => h.1 _ List.mem_cons_self, ⟨fun p hp => hp, .nil⟩, ?_, ?_⟩
  · rintro i v ys I oI C oC D K oK nw h10 tk10 E' hi hv ⟨hsub, hrel⟩ dK F N off
    obtain ⟨rb, rvs, rxs, rfl, hrm, hrs, hx, hr1, hr4, hrx⟩ : ∃ rb rvs rxs, v = .ref rb ∧ (rb, listOf rvs.toArray 0) ∈ nw ∧ StrsAre rvs rxs ∧ [ownX ((pickR xs js).take cut), ownX ((pickR xs js).drop cut)][i]? = some (ownX rxs) ∧ 1 ≤ rvs.length ∧ rvs.length ≤ 4 ∧ ∀ x ∈ rxs, x.cps.size ≤ 1000 := by
      match i, hi, hv with
      | 0, _, hv => exact ⟨b1, _, _, by simpa using hv.symm, hsub _ (by news_mem), iR1, rfl, by omega, by omega, fun x hx => hRx x (List.mem_of_mem_take hx)⟩
      | 1, _, hv => exact ⟨b2, _, _, by simpa using hv.symm, hsub _ (by news_mem), iR2, rfl, by omega, by omega, fun x hx => hRx x (List.mem_of_mem_drop hx)⟩
      | i + 2, hi, _ => exact absurd (show i + 2 < 2 from hi) (by omega)
    have hrl := hrs.length
    k_extra "compU"
    k_extra "goX"
    refine call_len_list (items := rvs.toArray) (News.isList (n := 0) (by k_asm) (by news_mem)) (by simp only [List.size_toArray]; omega) ?_
    k_extra "goX"
    have hrz : rvs.toArray.size = rvs.length := List.size_toArray ..
    refine LCg.CompSrc.range (by rfl) (by k_asm) (by k_asm) (by assumption) (small_range (by omega)) (n := rxs.length - 1) (by rw [rangeSize_nat]; omega) (by rw [PySem.sizeLine_eq]; omega) ?_
    intro g
    refine restU_fix (n := rxs.length - 1) _ (J := fun j ys => IntsAre ys ((ownX rxs).take j)) trivial ?_ ?_ _ 0 [] (by omega) (by simpa using IntsAre.nil)
    · rintro j zs vj I2 oI2 C2 oC2 D2 m₃ h11 tk11 E2 hj hJ2 ⟨t, rfl⟩ hC hxj F2 N2
      rw [Int.zero_add] at hxj
      obtain ⟨t1, ht1⟩ := hrs.get j _ (List.getElem?_eq_getElem (by omega))
      obtain ⟨t2, ht2⟩ := hrs.get (j + 1) _ (List.getElem?_eq_getElem (by omega))
      have hco : (ownX rxs)[j]? = some (cmpX (rxs[j]'(by omega)) (rxs[j + 1]'(by omega))) := own_at (by omega)
      have hs1 := hrx _ (List.getElem_mem (show j < rxs.length by omega))
      have hs2 := hrx _ (List.getElem_mem (show j + 1 < rxs.length by omega))
      generalize rxs[j]'(by omega) = q1 at ht1 hco hs1
      generalize rxs[j + 1]'(by omega) = q2 at ht2 hco hs2
      k_extra "goX"
      refine item_listL (l := rvs) (by is_list) (by omega) (by omega) ht1 ?_
      k_extra "goX"
      k_dflt (refine' Ctr.use (codes_spec _ q1 t1 hs1) ?kB ?kF ?kX ?kN ?kT ?kK ?kd ?ku ?_)
      k_extra "ret"
      rintro v led h12 tk12 ⟨l1, w1, m1, rfl, hi1, rfl, off1⟩ F12 N12
      k_extra "goX"
      refine item_listL (l := rvs) (by is_list) (by omega) (by omega) (by rw [show ((j : Int) + 1).toNat = j + 1 by omega]; exact ht2) ?_
      k_extra "goX"
      k_dflt (refine' Ctr.use (codes_spec _ q2 t2 hs2) ?kB ?kF ?kX ?kN ?kT ?kK ?kd ?ku ?_)
      k_extra "ret"
      rintro v led h13 tk13 ⟨l2, w2, m2, rfl, hi2, rfl, off2⟩ F13 N13
      k_extra "goX"
      k_dflt (refine' Ctr.use (cmp_spec _ l1 l2 w1 w2 (codesOf q1) (codesOf q2) m1 m2 ?hm1 ?hm2 hi1 hi2) ?kB ?kF ?kX ?kN ?kT ?kK ?kd ?ku ?_)
      k_extra "ret"
      case hm1 => news_mem
      case hm2 => news_mem
      rintro v led h14 tk14 ⟨⟨t9, rfl⟩, rfl⟩ F14 N14
      k_extra "go"
      refine TurnOk.intro F14 N14 (fun p hp => List.mem_cons_of_mem _ (List.mem_cons_of_mem _ hp)) ?_
      exact ints_snoc hJ2 hco
    · intro zs hJ2
      rw [List.take_of_length_le (by simp [ownX])] at hJ2
      intro D2 h11 tk11 F2 N2 off2
      have oD := off1_mem off2
      refine CellTurn.intro (nw := (D2, LCg.lst zs) :: nw) F2 (cb_drop N2 (by lcg_sub)) (fun p hp => ?_) ⟨fun p hp => List.mem_cons_of_mem _ (hsub p hp), ?_⟩
      · rcases List.mem_cons.mp hp with rfl | hp
        · exact ⟨fun e => oD (I, oI) (by news_mem) e.symm, fun e => oD (C, oC) (by news_mem) e.symm, fun e => oD (D, LCg.lst ys) (by news_mem) e.symm, fun e => oD (K, oK) (by news_mem) e.symm⟩
        · exact off p hp
      · rw [List.take_add_one, hx]
        exact All2.append (own_mono hrel fun p hp => List.mem_cons_of_mem _ hp) (.cons ⟨D2, zs, zs.length, rfl, hJ2, List.mem_cons_self⟩ .nil)
  · rintro ys nw ⟨hsub, hrel⟩
    obtain ⟨o1, v1, n1, o2, v2, n2, rfl, i1, i2, mo1, mo2⟩ := own_two (n := 0) hrel
    obtain ⟨hpx, hps, hun, hfin⟩ := hplain js cut hfit hjs hc1 hc4 _ _ rfl rfl
    have lx1 : (ownX ((pickR xs js).take cut)).length + 1 = cut := by have := iR1.length; simp only [ownX, List.length_map, List.length_range]; omega
    have lx2 : (ownX ((pickR xs js).drop cut)).length + 1 = 5 - cut := by have := iR2.length; simp only [ownX, List.length_map, List.length_range]; omega
    generalize hX1 : (pickR xs js).take cut = xs1 at *
    generalize hX2 : (pickR xs js).drop cut = xs2 at *
    have li1 := i1.length
    have li2 := i2.length
    intro ob h15 tk15 F15 N15 off15
    k_extra "goX"
    refine item_listL (l := [Value.ref o1, Value.ref o2]) (by is_list) (by omega) (by decide) rfl ?_
    k_extra "goX"
    refine item_listL (l := [Value.ref o1, Value.ref o2]) (by is_list) (by omega) (by decide) rfl ?_
    k_extra "goX"
    refine add_M (l := o1) (vs := v1) (n := n1) (b := o2) (ws := v2) (n' := n2) (by k_asm) (by k_asm) (by news_mem) (by news_mem) (by rw [PySem.sizeLine_eq]; omega) (fun p1 hp1 F1 N1 l1 => ?_)
    k_extra "goX"
    k_dflt (refine' Ctr.use (unlike_spec _ p1 (v1 ++ v2) (ownX xs1 ++ ownX xs2) 0 ?hu1 (IntsAre.append i1 i2) ?hl) ?kB ?kF ?kX ?kN ?kT ?kK ?kd ?ku ?_)
    k_extra "ret"
    case hu1 => news_mem
    case hl => rw [List.length_append]; omega
    rintro v led h16 tk16 ⟨hv, rfl⟩ F16 N16
    obtain rfl : v = .bool true := hv.trans (congrArg Value.bool (decide_eq_true hps))
    clear F1 N1 F15 N15
    k_extra "goX"
    refine newList_K (by k_asm) (by k_asm) (fun fb hpf Ff Nf lf => ?_)
    clear F16 N16
    k_extra "goX"
    rename Fr _ _ _ _ => FZ
    rename News _ _ _ _ => NZ
    have mem_nw : ∀ p ∈ nw, p ∈ (fb, listOf #[] 0) :: (p1, listOf (v1 ++ v2).toArray 0) :: (ob, LCg.lst [Value.ref o1, Value.ref o2]) :: nw := fun p hp => List.mem_cons_of_mem _ (List.mem_cons_of_mem _ (List.mem_cons_of_mem _ hp))
    have q3 := mem_nw _ (hsub (L + 1 + 1 + 1, c3) (by news_mem))
    have q2 := mem_nw _ (hsub (L + 1 + 1, c2) (by news_mem))
    have q1 := mem_nw _ (hsub (L + 1, c1) (by news_mem))
    have ao := mem_nw _ mo1
    have ap := mem_nw _ mo2
    have ab1 := mem_nw _ (hsub (b1, listOf (List.take cut (pickR nv js)).toArray 0) (by news_mem))
    have ab2 := mem_nw _ (hsub (b2, listOf (List.drop cut (pickR nv js)).toArray 0) (by news_mem))
    have ab : (ob, listOf #[Value.ref o1, Value.ref o2] 2) ∈ (fb, listOf #[] 0) :: (p1, listOf (v1 ++ v2).toArray 0) :: (ob, LCg.lst [Value.ref o1, Value.ref o2]) :: nw := List.mem_cons_of_mem _ (List.mem_cons_of_mem _ List.mem_cons_self)
    have af : (fb, listOf #[] 0) ∈ (fb, listOf #[] 0) :: (p1, listOf (v1 ++ v2).toArray 0) :: (ob, LCg.lst [Value.ref o1, Value.ref o2]) :: nw := List.mem_cons_self
    have ltf : ∀ p ∈ nw, p.1 < fb := fun p hp => lf p (List.mem_cons_of_mem _ (List.mem_cons_of_mem _ hp))
    have nc : ∀ {p its n}, (p, listOf its n) ∈ (fb, listOf #[] 0) :: (p1, listOf (v1 ++ v2).toArray 0) :: (ob, LCg.lst [Value.ref o1, Value.ref o2]) :: nw → p ≠ L + 1 + 1 + 1 ∧ p ≠ L + 1 + 1 ∧ p ≠ L + 1 := fun h => ⟨cell_ne NZ h q3 d3, cell_ne NZ h q2 d2, cell_ne NZ h q1 d1⟩
    refine law_loop [(ob, listOf #[Value.ref o1, Value.ref o2] 2), (o1, listOf v1.toArray n1), (o2, listOf v2.toArray n2), (b1, listOf (List.take cut (pickR nv js)).toArray 0), (b2, listOf (List.drop cut (pickR nv js)).toArray 0)] fb ob o1 o2 b1 b2 v1 v2 (List.take cut (pickR nv js)) (List.drop cut (pickR nv js)) (ownX xs1) (ownX xs2) xs1 xs2 2 n1 n2 0 0 c3 c2 c1 K0 KX T FZ ?_ d3 d2 d1 (ltf _ (hsub (L + 1 + 1 + 1, c3) (by news_mem))) ?_ (by news_mem) (by news_mem) (by news_mem) (by news_mem) (by news_mem) i1 i2 iR1 iR2 (by omega) (by omega) (by omega) hpx hun hfin hE hQ
    · intro p hp
      simp only [List.mem_cons, List.not_mem_nil, or_false] at hp
      rcases hp with rfl | rfl | rfl | rfl | rfl | rfl | rfl | rfl | rfl
      · exact NZ _ af
      · exact NZ _ q3
      · exact NZ _ q2
      · exact NZ _ q1
      · exact NZ _ ab
      · exact NZ _ ao
      · exact NZ _ ap
      · exact NZ _ ab1
      · exact NZ _ ab2
    · intro p hp
      simp only [List.mem_cons, List.not_mem_nil, or_false] at hp
      rcases hp with rfl | rfl | rfl | rfl | rfl
      · exact ⟨Nat.ne_of_lt (lf (ob, LCg.lst [Value.ref o1, Value.ref o2]) (List.mem_cons_of_mem _ List.mem_cons_self)), nc ab⟩
      · exact ⟨Nat.ne_of_lt (ltf _ mo1), nc ao⟩
      · exact ⟨Nat.ne_of_lt (ltf _ mo2), nc ap⟩
      · exact ⟨Nat.ne_of_lt (ltf _ (hsub (b1, listOf (List.take cut (pickR nv js)).toArray 0) (by news_mem))), nc ab1⟩
      · exact ⟨Nat.ne_of_lt (ltf _ (hsub (b2, listOf (List.drop cut (pickR nv js)).toArray 0) (by news_mem))), nc ab2⟩
end
section -- start
def pairs9 : List (Option Str × Option Str) := [(some (Str.ofString ""), none), (some (Str.ofString ""), some (Str.ofString "")), (none, none), (some (Str.ofString "C-"), none), (some (Str.ofString "C"), some (Str.ofString "")), (none, some (Str.ofString "UTF-A")), (some (Str.ofString "C"), some (Str.ofString "UTF-a")), (some (Str.ofString "c"), none), (some (Str.ofString "Ä"), none)]
def names9 : List Str := pairs9.map localS
theorem names9_eq : names9 = [Str.ofString "", Str.ofString ".", Str.ofString "C", Str.ofString "C-", Str.ofString "C.", Str.ofString "C.UTF-A", Str.ofString "C.UTF-a", Str.ofString "c", Str.ofString "Ä"] := by decide
theorem pairs_in {h₀ h : Heap} {L : Addr} {led : Led} (_N : News h₀ L h led) {p1 p2 p3 p4 p5 p6 p7 p8 p9 : Addr} {t1 t2 t3 t4 t5 t6 t7 t8 t9 t10 t11 : Tok} (m1 : (p1, listOf #[.str (Str.ofString "") t1, .none] 0) ∈ led) (m2 : (p2, listOf #[.str (Str.ofString "") t2, .str (Str.ofString "") t3] 0) ∈ led) (m3 : (p3, listOf #[.none, .none] 0) ∈ led) (m4 : (p4, listOf #[.str (Str.ofString "C-") t4, .none] 0) ∈ led) (m5 : (p5, listOf #[.str (Str.ofString "C") t5, .str (Str.ofString "") t6] 0) ∈ led) (m6 : (p6, listOf #[.none, .str (Str.ofString "UTF-A") t7] 0) ∈ led) (m7 : (p7, listOf #[.str (Str.ofString "C") t8, .str (Str.ofString "UTF-a") t9] 0) ∈ led) (m8 : (p8, listOf #[.str (Str.ofString "c") t10, .none] 0) ∈ led) (m9 : (p9, listOf #[.str (Str.ofString "Ä") t11, .none] 0) ∈ led) : PairsIn led [.ref p1, .ref p2, .ref p3, .ref p4, .ref p5, .ref p6, .ref p7, .ref p8, .ref p9] pairs9 :=
  .cons (l := some (Str.ofString "", t1)) (e := none) m1 (.cons (l := some (Str.ofString "", t2)) (e := some (Str.ofString "", t3)) m2 (.cons (l := none) (e := none) m3 (.cons (l := some (Str.ofString "C-", t4)) (e := none) m4 (.cons (l := some (Str.ofString "C", t5)) (e := some (Str.ofString "", t6)) m5 (.cons (l := none) (e := some (Str.ofString "UTF-A", t7)) m6 (.cons (l := some (Str.ofString "C", t8)) (e := some (Str.ofString "UTF-a", t9)) m7 (.cons (l := some (Str.ofString "c", t10)) (e := none) m8 (.cons (l := some (Str.ofString "Ä", t11)) (e := none) m9 (.nil)))))))))
theorem pairs9_small {i : Nat} {l e : Option (Str × Tok)} (h : pairs9[i]? = some (l.map (·.1), e.map (·.1))) : (∀ x t, l = some (x, t) → x.length ≤ 1000) ∧ (∀ x t, e = some (x, t) → x.length ≤ 1000) := by
  have hall : pairs9.all (fun p => (p.1.all fun x => decide (x.length ≤ 1000)) && p.2.all fun x => decide (x.length ≤ 1000)) = true := by decide +kernel
  have h1 := List.all_eq_true.mp hall _ (List.mem_of_getElem? h)
  simp only [Bool.and_eq_true] at h1
  refine ⟨fun x t e1 => ?_, fun x t e1 => ?_⟩
  · subst e1; simpa using h1.1
  · subst e1; simpa using h1.2
theorem names9_strs (t1 t2 t3 t4 t5 t6 t7 t8 t9 : Tok) : StrsAre [.str (Str.ofString "") t1, .str (Str.ofString ".") t2, .str (Str.ofString "C") t3, .str (Str.ofString "C-") t4, .str (Str.ofString "C.") t5, .str (Str.ofString "C.UTF-A") t6, .str (Str.ofString "C.UTF-a") t7, .str (Str.ofString "c") t8, .str (Str.ofString "Ä") t9] names9 := by
  rw [names9_eq]
  exact .cons _ _ (.cons _ _ (.cons _ _ (.cons _ _ (.cons _ _ (.cons _ _ (.cons _ _ (.cons _ _ (.cons _ _ .nil))))))))
theorem reads_of_strs {h : Heap} {a : Addr} {vs : List Value} {xs : List Str} (hl : h.IsList a vs.toArray) (hi : StrsAre vs xs) : Reads h (.ref a) (.list (xs.map PyData.str)) [a] := by
  obtain ⟨o, ho, hc, n, hd⟩ := hl
  exact Reads.list ho hc hd (by simpa using strs_readAll h hi)
theorem names9_data : PySem.SeqAt.shaped (.list (names9.map PyData.str)) = true ∧ PyData.eqv (.list (names9.map PyData.str)) (.list (names9.map PyData.str)) = true := by decide +kernel
theorem ne_names {prog : Program} {w : World} {A : Around} {E : Value → Shared → Prop} {s : Shared} {a b : Addr} {vs us : List Value} {Q : Value → Shared → Prop} (hl : s.heap.IsList a vs.toArray) (hi : StrsAre vs names9) (hl' : s.heap.IsList b us.toArray) (hi' : StrsAre us names9) (hu : A.units + 64 < cLine)
    (h : Q (.bool false) s) : wpAny (model prog w) A (compareOp .NotEq (.ref a) (.ref b)) Q E s := by
  refine ne_dataH (reads_of_strs hl hi) (reads_of_strs hl' hi') names9_data.1 names9_data.1 hu ?_
  rw [names9_data.2]
  exact h
theorem pairs9_ok : ∀ p ∈ pairs9, (∀ x, p.1 = some x → x.length ≤ 1000) ∧ ∀ x, p.2 = some x → x.length ≤ 1000 := by
  have hall : pairs9.all (fun p => (p.1.all fun x => decide (x.length ≤ 1000)) && p.2.all fun x => decide (x.length ≤ 1000)) = true := by decide +kernel
  intro p hp
  have h1 := List.all_eq_true.mp hall _ hp
  simp only [Bool.and_eq_true] at h1
  exact ⟨fun x e1 => by rw [e1] at h1; simpa using h1.1, fun x e1 => by rw [e1] at h1; simpa using h1.2⟩
theorem names9_ok : ∀ x ∈ names9, x.cps.size ≤ 1000 := by
  have hall : names9.all (fun x => decide (x.cps.size ≤ 1000)) = true := by decide +kernel
  intro x hx
  simpa using List.all_eq_true.mp hall _ hx
theorem names9_rise : ∀ k (h : k + 1 < names9.length), coll names9[k] names9[k + 1] = -1 := by
  have hall : ∀ k : Fin 8, coll (names9.getD k.1 default) (names9.getD (k.1 + 1) default) = -1 := by decide +kernel
  intro k h
  have h9 : names9.length = 9 := rfl
  have := hall ⟨k, by omega⟩
  simpa [List.getD_eq_getElem?_getD, List.getElem?_eq_getElem h, List.getElem?_eq_getElem (show k < names9.length by omega)] using this
theorem law_whole {w : World} {XB : Sem Flow} {lfa : Addr} {lcd : Value} {s₁ : Shared} {mean : ExcName → Option Value} {mg mb : Str → Option Value} {base h₀ h₁ : Heap} {tk : Nat} {L script : Addr} {vs : List Value} {ns : List Int} {c3 c2 c1 : Obj} {Q : Flow → Shared → Prop} {E : Value → Shared → Prop}
    (K0 : Below callerA base [] h₀) (KX : (hd.heap_39 w.params).In h₀) (T : Top hd.view_39 (looseW hd.view_39 []) mean mg mb h₀) (F : Fr h₀ L h₁ (fun y => if y = Str.ofString "script" then some (.ref script) else none))
    (N : News h₀ L h₁ [(L + 1 + 1 + 1, c3), (L + 1 + 1, c2), (L + 1, c1)]) (d3 : c3.data = .cell none) (d2 : c2.data = .cell none) (d1 : c1.data = .cell none) (hL : h₀.IsList script vs.toArray) (hI : IntsAre vs ns)
    (hplain : ∀ js cut, fits 9 js = true → js.length = 5 → 1 ≤ cut → cut ≤ 4 → ∀ xs1 xs2, xs1 = (pickR names9 js).take cut → xs2 = (pickR names9 js).drop cut →
      (ownX xs1, ownX xs2) ∈ pairsX ∧ ownX xs1 ++ ownX xs2 = (ownX xs1 ++ ownX xs2).map signOf ∧ (∀ i, i < 32 → (chosenF i).length = xs1.length → saysF (xs1 ++ xs2) i = (saysF (xs1 ++ xs2) i).map signOf) ∧
      ulR ([(6, 0), (6, 0), (7, 0)] ++ foundF xs1.length (xs1 ++ xs2) 32 ++ [(5, 0)]).reverse ([(7, 0), (8, 0)] ++ dueX (ownX xs1) (ownX xs2) ++ [(7, 0), (9, 0)]) [] = ([(5, 0), (6, 0), (6, 0)], [(8, 0), (7, 0), (9, 0)]))
    (hXB : execs lawBody (lawEnv lfa lcd L) = XB)
    (hE : PassesOwn (model Challenge.rw_tv0002_01.row.toRowW.prog w) (callerA.deeper (lawEnv lfa lcd L)) (lawEnv lfa lcd L) E)
    (hQ : ∀ h tk, (∀ b o, h₀.get? b = some o → h.get? b = some o) → Q (.ret (.bool true)) { s₁ with heap := h, toks := tk }) :
    wpAny (model Challenge.rw_tv0002_01.row.toRowW.prog w) (callerA.deeper (lawEnv lfa lcd L)) XB Q E { s₁ with heap := h₁, toks := tk } := by
  subst hXB
  revert KX
  k_fill
  intro KX
  show wpAny _ (callerA.deeper (envOfC _ ⟨_, _, _, _, _⟩ _ _ _)) (execs (_ :: _) (envOfC _ ⟨_, _, _, _, _⟩ _ _ _)) _ _ _
  k_extra "goX"
  refine' newList_K ?a1 ?b1 ?c1 ?d1
  case a1 => k_asm
  case b1 => k_asm
  case d1 => size_fits
  intro p1 hp1 F1 N1 l1
  clear F N
  k_extra "goX"
  refine' newList_K ?a2 ?b2 ?c2 ?d2
  case a2 => k_asm
  case b2 => k_asm
  case d2 => size_fits
  intro p2 hp2 F2 N2 l2
  clear F1 N1
  k_extra "goX"
  refine' newList_K ?a3 ?b3 ?c3 ?d3
  case a3 => k_asm
  case b3 => k_asm
  case d3 => size_fits
  intro p3 hp3 F3 N3 l3
  clear F2 N2
  k_extra "goX"
  refine' newList_K ?a4 ?b4 ?c4 ?d4
  case a4 => k_asm
  case b4 => k_asm
  case d4 => size_fits
  intro p4 hp4 F4 N4 l4
  clear F3 N3
  k_extra "goX"
  refine' newList_K ?a5 ?b5 ?c5 ?d5
  case a5 => k_asm
  case b5 => k_asm
  case d5 => size_fits
  intro p5 hp5 F5 N5 l5
  clear F4 N4
  k_extra "goX"
  refine' newList_K ?a6 ?b6 ?c6 ?d6
  case a6 => k_asm
  case b6 => k_asm
  case d6 => size_fits
  intro p6 hp6 F6 N6 l6
  clear F5 N5
  k_extra "goX"
  refine' newList_K ?a7 ?b7 ?c7 ?d7
  case a7 => k_asm
  case b7 => k_asm
  case d7 => size_fits
  intro p7 hp7 F7 N7 l7
  clear F6 N6
  k_extra "goX"
  refine' newList_K ?a8 ?b8 ?c8 ?d8
  case a8 => k_asm
  case b8 => k_asm
  case d8 => size_fits
  intro p8 hp8 F8 N8 l8
  clear F7 N7
  k_extra "goX"
  refine' newList_K ?a9 ?b9 ?c9 ?d9
  case a9 => k_asm
  case b9 => k_asm
  case d9 => size_fits
  intro p9 hp9 F9 N9 l9
  clear F8 N8
  k_extra "goX"
  refine' newList_K ?a10 ?b10 ?c10 ?d10
  case a10 => k_asm
  case b10 => k_asm
  case d10 => size_fits
  intro pp hpp Fp Np lp
  clear F9 N9
  k_extra "goX"
  rename News _ _ _ _ => NP
  have ip := pairs_in NP (p1 := p1) (p2 := p2) (p3 := p3) (p4 := p4) (p5 := p5) (p6 := p6) (p7 := p7) (p8 := p8) (p9 := p9) (by news_mem) (by news_mem) (by news_mem) (by news_mem) (by news_mem) (by news_mem) (by news_mem) (by news_mem) (by news_mem)
  rename Heap => hW
  obtain ⟨led0, NG, ip0, hpm, hc3, hc2, hc1, hlt⟩ : ∃ led0 : Led, News h₀ L hW led0 ∧ PairsIn led0 [.ref p1, .ref p2, .ref p3, .ref p4, .ref p5, .ref p6, .ref p7, .ref p8, .ref p9] pairs9 ∧ (pp, listOf #[.ref p1, .ref p2, .ref p3, .ref p4, .ref p5, .ref p6, .ref p7, .ref p8, .ref p9] 0) ∈ led0 ∧ (L + 1 + 1 + 1, c3) ∈ led0 ∧ (L + 1 + 1, c2) ∈ led0 ∧ (L + 1, c1) ∈ led0 ∧ True := ⟨_, NP, ip, by news_mem, by news_mem, by news_mem, by news_mem, trivial⟩
  clear NP ip l1 l2 l3 l4 l5 l6 l7 l8 l9 lp
  k_extra "compAU"
  k_extra "goX"
  refine LCg.CompSrc.ledger (by rfl) (by k_asm) (by k_asm) (ax := pp) (its := #[.ref p1, .ref p2, .ref p3, .ref p4, .ref p5, .ref p6, .ref p7, .ref p8, .ref p9]) (k := 0) hpm (by rw [PySem.sizeLine_eq]; simp) ?_
  intro g
  refine restU_fix (n := 9) led0 (J := fun i ys => StrsAre ys (names9.take i)) (by lcg_src) ?_ ?_ _ 0 [] (by rfl) (by simpa using StrsAre.nil)
  · intro i ys v I oI C oC D m₂ h10 tk10 E' hi hJ hP hC hx F N
    obtain ⟨p, l, e, n, rfl, hpl, hpi⟩ := ip0.at i v (by simpa using hP)
    have hb := pairs9_small hpi
    k_extra "go"
    k_dflt (refine' Ctr.use (local_spec _ p l e n ?hu1 hb.1 hb.2) ?kB ?kF ?kX ?kN ?kT ?kK ?kd ?ku ?_)
    k_extra "ret"
    case hu1 => news_mem
    rintro v led h' tk' ⟨⟨t, rfl⟩, rfl⟩ F' N'
    k_extra "go"
    k_extra "turn"
    refine strs_snoc hJ ?_
    rw [names9, List.getElem?_map, hpi, localName_eq]; rfl
  · intro ys hJ
    replace hJ : StrsAre ys names9 := by rw [List.take_of_length_le (by decide)] at hJ; exact hJ
    intro D h11 tk11 F11 N11 off11
    k_extra "goY"
    refine' newList_K ?a11 ?b11 ?c11 ?d11
    case a11 => k_asm
    case b11 => k_asm
    case d11 => size_fits
    intro pl hpl Fl Nl ll
    clear F11 N11
    k_extra "goY"
    rename News _ _ _ _ => NE
    refine ne_names (a := D) (b := pl) (News.isList (n := ys.length) NE (by news_mem)) hJ (News.isList (n := 0) NE (by news_mem)) (names9_strs _ _ _ _ _ _ _ _ _) (by ktr_units) ?_
    k_extra "goY"
    k_dflt (refine' Ctr.use (order_spec _ pp D [.ref p1, .ref p2, .ref p3, .ref p4, .ref p5, .ref p6, .ref p7, .ref p8, .ref p9] ys pairs9 names9 0 ys.length ?hu1 ?hu2 ?hu3 hJ rfl rfl pairs9_ok names9_ok names9_rise) ?kB ?kF ?kX ?kN ?kT ?kK ?kd ?ku ?_)
    k_extra "ret"
    case hu1 => news_mem
    case hu2 => news_mem
    case hu3 => exact ip0.mono fun p hp => List.mem_cons_of_mem _ (List.mem_cons_of_mem _ hp)
    rintro v led h12 tk12 ⟨rfl, rfl⟩ F12 N12
    k_extra "goY"
    rename Fr _ _ _ _ => FZ
    rename News _ _ _ _ => NZ
    have aD : (D, listOf ys.toArray ys.length) ∈ (pl, listOf #[Value.str (Str.ofString "") tk11, Value.str (Str.ofString ".") (tk11 + 1), Value.str (Str.ofString "C") (tk11 + 1 + 1), Value.str (Str.ofString "C-") (tk11 + 1 + 1 + 1), Value.str (Str.ofString "C.") (tk11 + 1 + 1 + 1 + 1), Value.str (Str.ofString "C.UTF-A") (tk11 + 1 + 1 + 1 + 1 + 1), Value.str (Str.ofString "C.UTF-a") (tk11 + 1 + 1 + 1 + 1 + 1 + 1), Value.str (Str.ofString "c") (tk11 + 1 + 1 + 1 + 1 + 1 + 1 + 1), Value.str (Str.ofString "Ä") (tk11 + 1 + 1 + 1 + 1 + 1 + 1 + 1 + 1)] 0) :: (D, LCg.lst ys) :: led0 := List.mem_cons_of_mem _ List.mem_cons_self
    refine law_mid (nm := D) (pp := pp) (nv := ys) (xs := names9) (cn := ys.length) [(D, listOf ys.toArray ys.length)] K0 KX T FZ ?_ d3 d2 d1 ?_ List.mem_cons_self hL hI hJ rfl names9_ok hplain hE hQ
    · intro p hp
      simp only [List.mem_cons, List.not_mem_nil, or_false] at hp
      rcases hp with rfl | rfl | rfl | rfl
      · exact NZ _ (List.mem_cons_of_mem _ (List.mem_cons_of_mem _ hc3))
      · exact NZ _ (List.mem_cons_of_mem _ (List.mem_cons_of_mem _ hc2))
      · exact NZ _ (List.mem_cons_of_mem _ (List.mem_cons_of_mem _ hc1))
      · exact NZ _ aD
    · intro p hp
      rw [List.mem_singleton.mp hp]
      exact ⟨cell_ne NZ aD (List.mem_cons_of_mem _ (List.mem_cons_of_mem _ hc3)) d3, cell_ne NZ aD (List.mem_cons_of_mem _ (List.mem_cons_of_mem _ hc2)) d2, cell_ne NZ aD (List.mem_cons_of_mem _ (List.mem_cons_of_mem _ hc1)) d1⟩
end
section -- PlainLaw
def posF (i : Nat) : List Nat := (List.range 5).map fun (k : Nat) => (chosenF i ++ (otherF i).reverse).idxOf (Int.ofNat k)
def says5 (l : List Str) : List Int := (List.range 4).map fun k => coll (l.getD k default) (l.getD (k + 1) default)
theorem saysF_pos (xs : List Str) (i : Nat) : saysF xs i = says5 ((posF i).map fun j => xs.getD j default) := by
  simp only [saysF, says5, lineS, posF, List.map_map]; rfl
def tabP : Nat → List (List Nat)
  | 1 => [[0, 1, 2, 3, 4], [1, 0, 2, 3, 4], [1, 2, 0, 3, 4], [1, 2, 3, 0, 4], [1, 2, 3, 4, 0]]
  | 2 => [[0, 1, 2, 3, 4], [0, 2, 1, 3, 4], [2, 0, 1, 3, 4], [0, 2, 3, 1, 4], [2, 0, 3, 1, 4], [2, 3, 0, 1, 4], [0, 2, 3, 4, 1], [2, 0, 3, 4, 1], [2, 3, 0, 4, 1], [2, 3, 4, 0, 1]]
  | 3 => [[0, 1, 2, 3, 4], [0, 1, 3, 2, 4], [0, 3, 1, 2, 4], [3, 0, 1, 2, 4], [0, 1, 3, 4, 2], [0, 3, 1, 4, 2], [3, 0, 1, 4, 2], [0, 3, 4, 1, 2], [3, 0, 4, 1, 2], [3, 4, 0, 1, 2]]
  | 4 => [[0, 1, 2, 3, 4], [0, 1, 2, 4, 3], [0, 1, 4, 2, 3], [0, 4, 1, 2, 3], [4, 0, 1, 2, 3]]
  | _ => []
theorem tabP_ok (m : Nat) (h : 1 ≤ m) (h4 : m ≤ 4) : (((List.range 32).filter fun i => (chosenF i).length = m).map posF) = tabP m := by
  have : m = 1 ∨ m = 2 ∨ m = 3 ∨ m = 4 := by omega
  rcases this with rfl | rfl | rfl | rfl <;> decide +kernel
theorem foundF_pos (m : Nat) (xs : List Str) : foundF m xs 32 = (((List.range 32).filter fun i => (chosenF i).length = m).map posF).map (fun ps => fallPair (says5 (ps.map fun j => xs.getD j default))) := by
  rw [List.map_map]
  exact List.map_congr_left fun i _ => congrArg fallPair (saysF_pos xs i)
def nm (j : Nat) : Str := names9.getD j default
theorem coll_nm {a b : Nat} (ha : a < 9) (hb : b < 9) : coll (nm a) (nm b) = if b < a then 1 else if a < b then -1 else 0 := by
  have : ∀ a b : Fin 9, coll (nm a.1) (nm b.1) = if b.1 < a.1 then 1 else if a.1 < b.1 then -1 else 0 := by decide +kernel
  exact this ⟨a, ha⟩ ⟨b, hb⟩
theorem cmp_nm {a b : Nat} (ha : a < 9) (hb : b < 9) : cmpX (nm a) (nm b) = if b < a then 1 else if a < b then -1 else 0 := by
  have : ∀ a b : Fin 9, cmpX (nm a.1) (nm b.1) = if b.1 < a.1 then 1 else if a.1 < b.1 then -1 else 0 := by decide +kernel
  exact this ⟨a, ha⟩ ⟨b, hb⟩
def sgB (b : Bool) : Int := cond b 1 (-1)
theorem blt_t {a b : Nat} (h : b < a) : Nat.blt b a = true := Nat.ble_eq_true_of_le h
theorem blt_f {a b : Nat} (h : ¬ b < a) : Nat.blt b a = false := by
  cases e : Nat.blt b a with
  | false => rfl
  | true => exact absurd (Nat.le_of_ble_eq_true e) h
theorem coll_bit {a b : Nat} (ha : a < 9) (hb : b < 9) (hn : a ≠ b) : coll (nm a) (nm b) = sgB (Nat.blt b a) := by
  rw [coll_nm ha hb]
  by_cases h : b < a
  · rw [if_pos h, blt_t h]; rfl
  · rw [if_neg h, if_pos (by omega), blt_f h]; rfl
theorem cmp_bit {a b : Nat} (ha : a < 9) (hb : b < 9) (hn : a ≠ b) : cmpX (nm a) (nm b) = sgB (Nat.blt b a) := by
  rw [cmp_nm ha hb, ← coll_nm ha hb, coll_bit ha hb hn]
def decN (c : Nat) : Int × Int := ((c / 100 : Nat), (c % 100 : Nat))
def fl (b0 b1 b2 b3 : Bool) : Nat := cond b0 101 0 + (cond b1 102 0 + (cond b2 103 0 + cond b3 104 0))
theorem fall_fl (b0 b1 b2 b3 : Bool) : fallPair [sgB b0, sgB b1, sgB b2, sgB b3] = decN (fl b0 b1 b2 b3) := by
  revert b0 b1 b2 b3; decide +kernel
theorem blt_flip {a b : Nat} (h : a ≠ b) : (!Nat.blt a b) = Nat.blt b a := by
  by_cases h1 : a < b
  · rw [blt_t h1, blt_f (by omega)]; rfl
  · rw [blt_f h1, blt_t (by omega)]; rfl
def Bm (b01 b02 b03 b04 b12 b13 b14 b23 b24 b34 : Bool) : Nat → Nat → Bool
  | 0, 1 => b01
  | 0, 2 => b02
  | 0, 3 => b03
  | 0, 4 => b04
  | 1, 2 => b12
  | 1, 3 => b13
  | 1, 4 => b14
  | 2, 3 => b23
  | 2, 4 => b24
  | 3, 4 => b34
  | 1, 0 => !b01
  | 2, 0 => !b02
  | 3, 0 => !b03
  | 4, 0 => !b04
  | 2, 1 => !b12
  | 3, 1 => !b13
  | 4, 1 => !b14
  | 3, 2 => !b23
  | 4, 2 => !b24
  | 4, 3 => !b34
  | _, _ => false
def flp (B : Nat → Nat → Bool) : List Nat → Nat
  | [j0, j1, j2, j3, j4] => fl (B j0 j1) (B j1 j2) (B j2 j3) (B j3 j4)
  | _ => 0
def dueT : Nat → Bool → Bool → Bool → List Nat
  | 1, false, false, false => [0, 101, 102, 103, 104]
  | 1, false, false, true => [103, 104, 205, 206, 207]
  | 1, false, true, false => [102, 103, 204, 205, 206]
  | 1, false, true, true => [205, 206, 207, 308, 309]
  | 1, true, false, false => [101, 102, 203, 204, 205]
  | 1, true, false, true => [204, 205, 206, 307, 308]
  | 1, true, true, false => [203, 204, 205, 306, 307]
  | 1, true, true, true => [306, 307, 308, 309, 410]
  | 2, false, false, false => [0, 101, 102, 103, 102, 103, 104, 204, 205, 206]
  | 2, false, false, true => [102, 103, 104, 204, 205, 205, 206, 206, 207, 308]
  | 2, false, true, false => [101, 102, 103, 203, 204, 204, 205, 205, 206, 307]
  | 2, false, true, true => [203, 204, 205, 205, 206, 207, 306, 307, 308, 309]
  | 2, true, false, false => [101, 102, 103, 104, 203, 204, 205, 205, 206, 207]
  | 2, true, false, true => [103, 204, 205, 206, 205, 206, 207, 307, 308, 309]
  | 2, true, true, false => [102, 203, 204, 205, 204, 205, 206, 306, 307, 308]
  | 2, true, true, true => [204, 205, 206, 306, 307, 307, 308, 308, 309, 410]
  | 3, false, false, false => [0, 101, 102, 102, 103, 103, 104, 204, 205, 206]
  | 3, false, false, true => [101, 102, 103, 104, 203, 204, 205, 205, 206, 207]
  | 3, false, true, false => [102, 103, 104, 204, 205, 206, 205, 206, 207, 308]
  | 3, false, true, true => [103, 204, 205, 205, 206, 206, 207, 307, 308, 309]
  | 3, true, false, false => [101, 102, 103, 203, 204, 205, 204, 205, 206, 307]
  | 3, true, false, true => [102, 203, 204, 204, 205, 205, 206, 306, 307, 308]
  | 3, true, true, false => [203, 204, 205, 205, 206, 207, 306, 307, 308, 309]
  | 3, true, true, true => [204, 205, 206, 306, 307, 308, 307, 308, 309, 410]
  | 4, false, false, false => [0, 101, 102, 103, 104]
  | 4, false, false, true => [103, 104, 205, 206, 207]
  | 4, false, true, false => [102, 103, 204, 205, 206]
  | 4, false, true, true => [205, 206, 207, 308, 309]
  | 4, true, false, false => [101, 102, 203, 204, 205]
  | 4, true, false, true => [204, 205, 206, 307, 308]
  | 4, true, true, false => [203, 204, 205, 306, 307]
  | 4, true, true, true => [306, 307, 308, 309, 410]
  | _, _, _, _ => []
theorem dueT_1 (c0 c1 c2 : Bool) : dueX [] [sgB c0, sgB c1, sgB c2] = (dueT 1 c0 c1 c2).map decN ∧ ([], [sgB c0, sgB c1, sgB c2]) ∈ pairsX ∧ [] ++ [sgB c0, sgB c1, sgB c2] = ([] ++ [sgB c0, sgB c1, sgB c2] : List Int).map signOf := by
  revert c0 c1 c2; decide +kernel
theorem dueT_2 (c0 c1 c2 : Bool) : dueX [sgB c0] [sgB c1, sgB c2] = (dueT 2 c0 c1 c2).map decN ∧ ([sgB c0], [sgB c1, sgB c2]) ∈ pairsX ∧ [sgB c0] ++ [sgB c1, sgB c2] = ([sgB c0] ++ [sgB c1, sgB c2] : List Int).map signOf := by
  revert c0 c1 c2; decide +kernel
theorem dueT_3 (c0 c1 c2 : Bool) : dueX [sgB c0, sgB c1] [sgB c2] = (dueT 3 c0 c1 c2).map decN ∧ ([sgB c0, sgB c1], [sgB c2]) ∈ pairsX ∧ [sgB c0, sgB c1] ++ [sgB c2] = ([sgB c0, sgB c1] ++ [sgB c2] : List Int).map signOf := by
  revert c0 c1 c2; decide +kernel
theorem dueT_4 (c0 c1 c2 : Bool) : dueX [sgB c0, sgB c1, sgB c2] [] = (dueT 4 c0 c1 c2).map decN ∧ ([sgB c0, sgB c1, sgB c2], []) ∈ pairsX ∧ [sgB c0, sgB c1, sgB c2] ++ [] = ([sgB c0, sgB c1, sgB c2] ++ [] : List Int).map signOf := by
  revert c0 c1 c2; decide +kernel
theorem dueT_small (m : Nat) (h1 : 1 ≤ m) (h4 : m ≤ 4) (c0 c1 c2 : Bool) : ∀ c ∈ dueT m c0 c1 c2, c < 500 := by
  have : m = 1 ∨ m = 2 ∨ m = 3 ∨ m = 4 := by omega
  rcases this with rfl | rfl | rfl | rfl <;> (revert c0 c1 c2; decide +kernel)
/-- no ring among three: from i to j and from j to k bind i to k -/
def t3 (a b c : Bool) : Bool := cond a (cond b c true) (cond b true (!c))
def chkP (b01 b02 b03 b04 b12 b13 b14 b23 b24 b34 : Bool) : Bool := ((tabP 1).map (flp (Bm b01 b02 b03 b04 b12 b13 b14 b23 b24 b34))).isPerm (dueT 1 b12 b23 b34) && ((tabP 2).map (flp (Bm b01 b02 b03 b04 b12 b13 b14 b23 b24 b34))).isPerm (dueT 2 b01 b23 b34) && ((tabP 3).map (flp (Bm b01 b02 b03 b04 b12 b13 b14 b23 b24 b34))).isPerm (dueT 3 b01 b12 b34) && ((tabP 4).map (flp (Bm b01 b02 b03 b04 b12 b13 b14 b23 b24 b34))).isPerm (dueT 4 b01 b12 b23)
def trB (b01 b02 b03 b04 b12 b13 b14 b23 b24 b34 : Bool) : Bool := t3 b01 b12 b02 && t3 b01 b13 b03 && t3 b01 b14 b04 && t3 b02 b23 b03 && t3 b02 b24 b04 && t3 b03 b34 b04 && t3 b12 b23 b13 && t3 b12 b24 b14 && t3 b13 b34 b14 && t3 b23 b34 b24
theorem chk_all : ∀ b01 b02 b03 b04 b12 b13 b14 b23 b24 b34 : Bool, cond (trB b01 b02 b03 b04 b12 b13 b14 b23 b24 b34) (chkP b01 b02 b03 b04 b12 b13 b14 b23 b24 b34) true = true := by decide +kernel
theorem bit_all {r0 r1 r2 r3 r4 : Nat} (h0 : r0 < 9) (h1 : r1 < 9) (h2 : r2 < 9) (h3 : r3 < 9) (h4 : r4 < 9) (n01 : r0 ≠ r1) (n02 : r0 ≠ r2) (n03 : r0 ≠ r3) (n04 : r0 ≠ r4) (n12 : r1 ≠ r2) (n13 : r1 ≠ r3) (n14 : r1 ≠ r4) (n23 : r2 ≠ r3) (n24 : r2 ≠ r4) (n34 : r3 ≠ r4) (i j : Nat) (hi : i < 5) (hj : j < 5) (hij : i ≠ j) : coll ([nm r0, nm r1, nm r2, nm r3, nm r4].getD i default) ([nm r0, nm r1, nm r2, nm r3, nm r4].getD j default) = sgB ((Bm (Nat.blt r1 r0) (Nat.blt r2 r0) (Nat.blt r3 r0) (Nat.blt r4 r0) (Nat.blt r2 r1) (Nat.blt r3 r1) (Nat.blt r4 r1) (Nat.blt r3 r2) (Nat.blt r4 r2) (Nat.blt r4 r3)) i j) := by
  match i, hi, j, hj, hij with
  | 0, _, 0, _, h => exact absurd rfl h
  | 0, _, 1, _, _ => exact coll_bit h0 h1 n01
  | 0, _, 2, _, _ => exact coll_bit h0 h2 n02
  | 0, _, 3, _, _ => exact coll_bit h0 h3 n03
  | 0, _, 4, _, _ => exact coll_bit h0 h4 n04
  | 1, _, 0, _, _ => exact (coll_bit h1 h0 n01.symm).trans (congrArg sgB (blt_flip n01.symm).symm)
  | 1, _, 1, _, h => exact absurd rfl h
  | 1, _, 2, _, _ => exact coll_bit h1 h2 n12
  | 1, _, 3, _, _ => exact coll_bit h1 h3 n13
  | 1, _, 4, _, _ => exact coll_bit h1 h4 n14
  | 2, _, 0, _, _ => exact (coll_bit h2 h0 n02.symm).trans (congrArg sgB (blt_flip n02.symm).symm)
  | 2, _, 1, _, _ => exact (coll_bit h2 h1 n12.symm).trans (congrArg sgB (blt_flip n12.symm).symm)
  | 2, _, 2, _, h => exact absurd rfl h
  | 2, _, 3, _, _ => exact coll_bit h2 h3 n23
  | 2, _, 4, _, _ => exact coll_bit h2 h4 n24
  | 3, _, 0, _, _ => exact (coll_bit h3 h0 n03.symm).trans (congrArg sgB (blt_flip n03.symm).symm)
  | 3, _, 1, _, _ => exact (coll_bit h3 h1 n13.symm).trans (congrArg sgB (blt_flip n13.symm).symm)
  | 3, _, 2, _, _ => exact (coll_bit h3 h2 n23.symm).trans (congrArg sgB (blt_flip n23.symm).symm)
  | 3, _, 3, _, h => exact absurd rfl h
  | 3, _, 4, _, _ => exact coll_bit h3 h4 n34
  | 4, _, 0, _, _ => exact (coll_bit h4 h0 n04.symm).trans (congrArg sgB (blt_flip n04.symm).symm)
  | 4, _, 1, _, _ => exact (coll_bit h4 h1 n14.symm).trans (congrArg sgB (blt_flip n14.symm).symm)
  | 4, _, 2, _, _ => exact (coll_bit h4 h2 n24.symm).trans (congrArg sgB (blt_flip n24.symm).symm)
  | 4, _, 3, _, _ => exact (coll_bit h4 h3 n34.symm).trans (congrArg sgB (blt_flip n34.symm).symm)
  | 4, _, 4, _, h => exact absurd rfl h
  | i + 5, h, _, _, _ => omega
  | 0, _, j + 5, h, _ => omega
  | 1, _, j + 5, h, _ => omega
  | 2, _, j + 5, h, _ => omega
  | 3, _, j + 5, h, _ => omega
  | 4, _, j + 5, h, _ => omega
def okP : List Nat → Bool
  | [j0, j1, j2, j3, j4] => decide (j0 < 5) && decide (j1 < 5) && decide (j2 < 5) && decide (j3 < 5) && decide (j4 < 5) && decide (j0 ≠ j1) && decide (j1 ≠ j2) && decide (j2 ≠ j3) && decide (j3 ≠ j4)
  | _ => false
theorem tabP_sound (m : Nat) (h1 : 1 ≤ m) (h4 : m ≤ 4) : ∀ ps ∈ tabP m, okP ps = true := by
  have : m = 1 ∨ m = 2 ∨ m = 3 ∨ m = 4 := by omega
  rcases this with rfl | rfl | rfl | rfl <;> decide +kernel
theorem posF_sound (i : Nat) (h : i < 32) : okP (posF i) = true := by
  have : ∀ i : Fin 32, okP (posF i.1) = true := by decide +kernel
  exact this ⟨i, h⟩
theorem says_bits {r0 r1 r2 r3 r4 : Nat} (h0 : r0 < 9) (h1 : r1 < 9) (h2 : r2 < 9) (h3 : r3 < 9) (h4 : r4 < 9) (n01 : r0 ≠ r1) (n02 : r0 ≠ r2) (n03 : r0 ≠ r3) (n04 : r0 ≠ r4) (n12 : r1 ≠ r2) (n13 : r1 ≠ r3) (n14 : r1 ≠ r4) (n23 : r2 ≠ r3) (n24 : r2 ≠ r4) (n34 : r3 ≠ r4) (ps : List Nat) (hp : okP ps = true) : ∃ b0 b1 b2 b3, says5 (ps.map fun j => [nm r0, nm r1, nm r2, nm r3, nm r4].getD j default) = [sgB b0, sgB b1, sgB b2, sgB b3] ∧ fl b0 b1 b2 b3 = flp (Bm (Nat.blt r1 r0) (Nat.blt r2 r0) (Nat.blt r3 r0) (Nat.blt r4 r0) (Nat.blt r2 r1) (Nat.blt r3 r1) (Nat.blt r4 r1) (Nat.blt r3 r2) (Nat.blt r4 r2) (Nat.blt r4 r3)) ps := by
  match ps, hp with
  | [j0, j1, j2, j3, j4], hp =>
    simp only [okP, Bool.and_eq_true, decide_eq_true_eq] at hp
    obtain ⟨⟨⟨⟨⟨⟨⟨⟨g0, g1⟩, g2⟩, g3⟩, g4⟩, d0⟩, d1⟩, d2⟩, d3⟩ := hp
    refine ⟨(Bm (Nat.blt r1 r0) (Nat.blt r2 r0) (Nat.blt r3 r0) (Nat.blt r4 r0) (Nat.blt r2 r1) (Nat.blt r3 r1) (Nat.blt r4 r1) (Nat.blt r3 r2) (Nat.blt r4 r2) (Nat.blt r4 r3)) j0 j1, (Bm (Nat.blt r1 r0) (Nat.blt r2 r0) (Nat.blt r3 r0) (Nat.blt r4 r0) (Nat.blt r2 r1) (Nat.blt r3 r1) (Nat.blt r4 r1) (Nat.blt r3 r2) (Nat.blt r4 r2) (Nat.blt r4 r3)) j1 j2, (Bm (Nat.blt r1 r0) (Nat.blt r2 r0) (Nat.blt r3 r0) (Nat.blt r4 r0) (Nat.blt r2 r1) (Nat.blt r3 r1) (Nat.blt r4 r1) (Nat.blt r3 r2) (Nat.blt r4 r2) (Nat.blt r4 r3)) j2 j3, (Bm (Nat.blt r1 r0) (Nat.blt r2 r0) (Nat.blt r3 r0) (Nat.blt r4 r0) (Nat.blt r2 r1) (Nat.blt r3 r1) (Nat.blt r4 r1) (Nat.blt r3 r2) (Nat.blt r4 r2) (Nat.blt r4 r3)) j3 j4, ?_, rfl⟩
    rw [← bit_all h0 h1 h2 h3 h4 n01 n02 n03 n04 n12 n13 n14 n23 n24 n34 j0 j1 g0 g1 d0, ← bit_all h0 h1 h2 h3 h4 n01 n02 n03 n04 n12 n13 n14 n23 n24 n34 j1 j2 g1 g2 d1, ← bit_all h0 h1 h2 h3 h4 n01 n02 n03 n04 n12 n13 n14 n23 n24 n34 j2 j3 g2 g3 d2, ← bit_all h0 h1 h2 h3 h4 n01 n02 n03 n04 n12 n13 n14 n23 n24 n34 j3 j4 g3 g4 d3]
    rfl
theorem sgB_list (b0 b1 b2 b3 : Bool) : [sgB b0, sgB b1, sgB b2, sgB b3] = [sgB b0, sgB b1, sgB b2, sgB b3].map signOf := by
  revert b0 b1 b2 b3; decide +kernel
theorem says_unlike {r0 r1 r2 r3 r4 : Nat} (h0 : r0 < 9) (h1 : r1 < 9) (h2 : r2 < 9) (h3 : r3 < 9) (h4 : r4 < 9) (n01 : r0 ≠ r1) (n02 : r0 ≠ r2) (n03 : r0 ≠ r3) (n04 : r0 ≠ r4) (n12 : r1 ≠ r2) (n13 : r1 ≠ r3) (n14 : r1 ≠ r4) (n23 : r2 ≠ r3) (n24 : r2 ≠ r4) (n34 : r3 ≠ r4) (i : Nat) (hi : i < 32) : saysF [nm r0, nm r1, nm r2, nm r3, nm r4] i = (saysF [nm r0, nm r1, nm r2, nm r3, nm r4] i).map signOf := by
  rw [saysF_pos]
  obtain ⟨b0, b1, b2, b3, e, _⟩ := says_bits h0 h1 h2 h3 h4 n01 n02 n03 n04 n12 n13 n14 n23 n24 n34 (posF i) (posF_sound i hi)
  rw [e]
  exact sgB_list b0 b1 b2 b3
theorem found_bits {r0 r1 r2 r3 r4 : Nat} (h0 : r0 < 9) (h1 : r1 < 9) (h2 : r2 < 9) (h3 : r3 < 9) (h4 : r4 < 9) (n01 : r0 ≠ r1) (n02 : r0 ≠ r2) (n03 : r0 ≠ r3) (n04 : r0 ≠ r4) (n12 : r1 ≠ r2) (n13 : r1 ≠ r3) (n14 : r1 ≠ r4) (n23 : r2 ≠ r3) (n24 : r2 ≠ r4) (n34 : r3 ≠ r4) (m : Nat) (m1 : 1 ≤ m) (m4 : m ≤ 4) : foundF m [nm r0, nm r1, nm r2, nm r3, nm r4] 32 = ((tabP m).map (flp (Bm (Nat.blt r1 r0) (Nat.blt r2 r0) (Nat.blt r3 r0) (Nat.blt r4 r0) (Nat.blt r2 r1) (Nat.blt r3 r1) (Nat.blt r4 r1) (Nat.blt r3 r2) (Nat.blt r4 r2) (Nat.blt r4 r3)))).map decN := by
  rw [foundF_pos, tabP_ok m m1 m4, List.map_map]
  refine List.map_congr_left fun ps hps => ?_
  obtain ⟨b0, b1, b2, b3, e, e2⟩ := says_bits h0 h1 h2 h3 h4 n01 n02 n03 n04 n12 n13 n14 n23 n24 n34 ps (tabP_sound m m1 m4 ps hps)
  show fallPair (says5 (ps.map fun j => [nm r0, nm r1, nm r2, nm r3, nm r4].getD j default)) = decN (flp (Bm (Nat.blt r1 r0) (Nat.blt r2 r0) (Nat.blt r3 r0) (Nat.blt r4 r0) (Nat.blt r2 r1) (Nat.blt r3 r1) (Nat.blt r4 r1) (Nat.blt r3 r2) (Nat.blt r4 r2) (Nat.blt r4 r3)) ps)
  rw [e, fall_fl, e2]
theorem t3_ok {a b c : Nat} (h1 : a ≠ b) (h2 : b ≠ c) (h3 : a ≠ c) : t3 (Nat.blt b a) (Nat.blt c b) (Nat.blt c a) = true := by
  by_cases p : b < a <;> by_cases q : c < b
  · rw [blt_t p, blt_t q, blt_t (by omega)]; rfl
  · rw [blt_t p, blt_f q]; rfl
  · rw [blt_f p, blt_t q]; rfl
  · rw [blt_f p, blt_f q, blt_f (by omega)]; rfl
theorem chk_r {r0 r1 r2 r3 r4 : Nat} (h0 : r0 < 9) (h1 : r1 < 9) (h2 : r2 < 9) (h3 : r3 < 9) (h4 : r4 < 9) (n01 : r0 ≠ r1) (n02 : r0 ≠ r2) (n03 : r0 ≠ r3) (n04 : r0 ≠ r4) (n12 : r1 ≠ r2) (n13 : r1 ≠ r3) (n14 : r1 ≠ r4) (n23 : r2 ≠ r3) (n24 : r2 ≠ r4) (n34 : r3 ≠ r4) : chkP (Nat.blt r1 r0) (Nat.blt r2 r0) (Nat.blt r3 r0) (Nat.blt r4 r0) (Nat.blt r2 r1) (Nat.blt r3 r1) (Nat.blt r4 r1) (Nat.blt r3 r2) (Nat.blt r4 r2) (Nat.blt r4 r3) = true := by
  have h := chk_all (b01 := Nat.blt r1 r0) (b02 := Nat.blt r2 r0) (b03 := Nat.blt r3 r0) (b04 := Nat.blt r4 r0) (b12 := Nat.blt r2 r1) (b13 := Nat.blt r3 r1) (b14 := Nat.blt r4 r1) (b23 := Nat.blt r3 r2) (b24 := Nat.blt r4 r2) (b34 := Nat.blt r4 r3)
  have ht : trB (Nat.blt r1 r0) (Nat.blt r2 r0) (Nat.blt r3 r0) (Nat.blt r4 r0) (Nat.blt r2 r1) (Nat.blt r3 r1) (Nat.blt r4 r1) (Nat.blt r3 r2) (Nat.blt r4 r2) (Nat.blt r4 r3) = true := by
    simp only [trB, Bool.and_eq_true]
    exact ⟨⟨⟨⟨⟨⟨⟨⟨⟨t3_ok n01 n12 n02, t3_ok n01 n13 n03⟩, t3_ok n01 n14 n04⟩, t3_ok n02 n23 n03⟩, t3_ok n02 n24 n04⟩, t3_ok n03 n34 n04⟩, t3_ok n12 n23 n13⟩, t3_ok n12 n24 n14⟩, t3_ok n13 n34 n14⟩, t3_ok n23 n34 n24⟩
  rw [ht] at h
  exact h
theorem ulR_no {α : Type} [DecidableEq α] {x : α} {r act mis : List α} (h : x ∉ act) : ulR (x :: r) act mis = ulR r act (mis ++ [x]) := if_neg h
theorem ulR_app {α : Type} [DecidableEq α] : ∀ (f g act mis : List α), ulR (f ++ g) act mis = ulR g (ulR f act mis).2 (ulR f act mis).1
  | [], _, _, _ => rfl
  | x :: f, g, act, mis => by
    show (if x ∈ act then ulR (f ++ g) (act.erase x) mis else ulR (f ++ g) act (mis ++ [x])) = _
    by_cases h : x ∈ act
    · rw [if_pos h, ulR_app f g]
      show _ = ulR g (if x ∈ act then ulR f (act.erase x) mis else ulR f act (mis ++ [x])).2 (if x ∈ act then ulR f (act.erase x) mis else ulR f act (mis ++ [x])).1
      rw [if_pos h]
    · rw [if_neg h, ulR_app f g]
      show _ = ulR g (if x ∈ act then ulR f (act.erase x) mis else ulR f act (mis ++ [x])).2 (if x ∈ act then ulR f (act.erase x) mis else ulR f act (mis ++ [x])).1
      rw [if_neg h]
theorem ulR_perm {α : Type} [DecidableEq α] {pre post mis : List α} : ∀ {f d : List α}, f.Perm d → (∀ x ∈ f, x ∉ pre) → ulR f (pre ++ d ++ post) mis = (mis, pre ++ post)
  | [], d, h, _ => by
    rw [← h.nil_eq, List.append_nil]; rfl
  | x :: f, d, h, hp => by
    have hx : x ∈ d := h.subset List.mem_cons_self
    have hpx := hp x List.mem_cons_self
    show (if x ∈ pre ++ d ++ post then ulR f ((pre ++ d ++ post).erase x) mis else _) = _
    rw [if_pos (by simp [hx]), List.append_assoc, List.erase_append_right _ hpx, List.erase_append_left _ hx, ← List.append_assoc]
    exact ulR_perm (List.cons_perm_iff_perm_erase.mp h).2 fun y hy => hp y (List.mem_cons_of_mem _ hy)
theorem ul_final {f d : List (Int × Int)} (h : f.Perm d) (hd : ∀ x ∈ d, x.1 < 5) :
    ulR ([(6, 0), (6, 0), (7, 0)] ++ f ++ [(5, 0)]).reverse ([(7, 0), (8, 0)] ++ d ++ [(7, 0), (9, 0)]) [] = ([(5, 0), (6, 0), (6, 0)], [(8, 0), (7, 0), (9, 0)]) := by
  have h5 : ((5, 0) : Int × Int) ∉ [(7, 0), (8, 0)] ++ d ++ [(7, 0), (9, 0)] := by
    intro hm
    simp only [List.mem_append, List.mem_cons, List.not_mem_nil, or_false] at hm
    rcases hm with (hm | hm) | hm
    · revert hm; decide
    · have := hd _ hm; omega
    · revert hm; decide
  rw [List.reverse_append, List.reverse_append]
  show ulR ((5, 0) :: (f.reverse ++ [(7, 0), (6, 0), (6, 0)])) _ [] = _
  rw [ulR_no h5, ulR_app, ulR_perm ((List.reverse_perm f).trans h) (fun x hx hm => ?_)]
  · decide
  · have := hd x (h.subset (List.mem_reverse.mp hx))
    simp only [List.mem_cons, List.not_mem_nil, or_false] at hm
    rcases hm with rfl | rfl <;> simp at this
theorem dec_small {l : List Nat} (h : ∀ c ∈ l, c < 500) : ∀ x ∈ l.map decN, x.1 < 5 := by
  intro x hx
  obtain ⟨c, hc, rfl⟩ := List.mem_map.mp hx
  have := h c hc
  show ((c / 100 : Nat) : Int) < 5
  omega
theorem plain_1 {r0 r1 r2 r3 r4 : Nat} (h0 : r0 < 9) (h1 : r1 < 9) (h2 : r2 < 9) (h3 : r3 < 9) (h4 : r4 < 9) (n01 : r0 ≠ r1) (n02 : r0 ≠ r2) (n03 : r0 ≠ r3) (n04 : r0 ≠ r4) (n12 : r1 ≠ r2) (n13 : r1 ≠ r3) (n14 : r1 ≠ r4) (n23 : r2 ≠ r3) (n24 : r2 ≠ r4) (n34 : r3 ≠ r4) : (ownX [nm r0], ownX [nm r1, nm r2, nm r3, nm r4]) ∈ pairsX ∧ ownX [nm r0] ++ ownX [nm r1, nm r2, nm r3, nm r4] = (ownX [nm r0] ++ ownX [nm r1, nm r2, nm r3, nm r4]).map signOf ∧ (∀ i, i < 32 → (chosenF i).length = [nm r0].length → saysF ([nm r0] ++ [nm r1, nm r2, nm r3, nm r4]) i = (saysF ([nm r0] ++ [nm r1, nm r2, nm r3, nm r4]) i).map signOf) ∧
      ulR ([(6, 0), (6, 0), (7, 0)] ++ foundF [nm r0].length ([nm r0] ++ [nm r1, nm r2, nm r3, nm r4]) 32 ++ [(5, 0)]).reverse ([(7, 0), (8, 0)] ++ dueX (ownX [nm r0]) (ownX [nm r1, nm r2, nm r3, nm r4]) ++ [(7, 0), (9, 0)]) [] = ([(5, 0), (6, 0), (6, 0)], [(8, 0), (7, 0), (9, 0)]) := by
  have e1 : ownX [nm r0] = [] := by
    show ([] : List Int) = _
    rfl
  have e2 : ownX [nm r1, nm r2, nm r3, nm r4] = [sgB (Nat.blt r2 r1), sgB (Nat.blt r3 r2), sgB (Nat.blt r4 r3)] := by
    show ([cmpX (nm r1) (nm r2), cmpX (nm r2) (nm r3), cmpX (nm r3) (nm r4)] : List Int) = _
    rw [cmp_bit h1 h2 n12, cmp_bit h2 h3 n23, cmp_bit h3 h4 n34]
  obtain ⟨d1, d2, d3⟩ := dueT_1 (Nat.blt r2 r1) (Nat.blt r3 r2) (Nat.blt r4 r3)
  have hc := chk_r h0 h1 h2 h3 h4 n01 n02 n03 n04 n12 n13 n14 n23 n24 n34
  simp only [chkP, Bool.and_eq_true] at hc
  rw [e1, e2]
  refine ⟨d2, d3, fun i hi _ => says_unlike h0 h1 h2 h3 h4 n01 n02 n03 n04 n12 n13 n14 n23 n24 n34 i hi, ?_⟩
  rw [d1]
  refine ul_final ?_ (dec_small (dueT_small 1 (by decide) (by decide) _ _ _))
  show (foundF 1 [nm r0, nm r1, nm r2, nm r3, nm r4] 32).Perm _
  rw [found_bits h0 h1 h2 h3 h4 n01 n02 n03 n04 n12 n13 n14 n23 n24 n34 1 (by decide) (by decide)]
  exact (List.isPerm_iff.mp hc.1.1.1).map _
theorem plain_2 {r0 r1 r2 r3 r4 : Nat} (h0 : r0 < 9) (h1 : r1 < 9) (h2 : r2 < 9) (h3 : r3 < 9) (h4 : r4 < 9) (n01 : r0 ≠ r1) (n02 : r0 ≠ r2) (n03 : r0 ≠ r3) (n04 : r0 ≠ r4) (n12 : r1 ≠ r2) (n13 : r1 ≠ r3) (n14 : r1 ≠ r4) (n23 : r2 ≠ r3) (n24 : r2 ≠ r4) (n34 : r3 ≠ r4) : (ownX [nm r0, nm r1], ownX [nm r2, nm r3, nm r4]) ∈ pairsX ∧ ownX [nm r0, nm r1] ++ ownX [nm r2, nm r3, nm r4] = (ownX [nm r0, nm r1] ++ ownX [nm r2, nm r3, nm r4]).map signOf ∧ (∀ i, i < 32 → (chosenF i).length = [nm r0, nm r1].length → saysF ([nm r0, nm r1] ++ [nm r2, nm r3, nm r4]) i = (saysF ([nm r0, nm r1] ++ [nm r2, nm r3, nm r4]) i).map signOf) ∧
      ulR ([(6, 0), (6, 0), (7, 0)] ++ foundF [nm r0, nm r1].length ([nm r0, nm r1] ++ [nm r2, nm r3, nm r4]) 32 ++ [(5, 0)]).reverse ([(7, 0), (8, 0)] ++ dueX (ownX [nm r0, nm r1]) (ownX [nm r2, nm r3, nm r4]) ++ [(7, 0), (9, 0)]) [] = ([(5, 0), (6, 0), (6, 0)], [(8, 0), (7, 0), (9, 0)]) := by
  have e1 : ownX [nm r0, nm r1] = [sgB (Nat.blt r1 r0)] := by
    show ([cmpX (nm r0) (nm r1)] : List Int) = _
    rw [cmp_bit h0 h1 n01]
  have e2 : ownX [nm r2, nm r3, nm r4] = [sgB (Nat.blt r3 r2), sgB (Nat.blt r4 r3)] := by
    show ([cmpX (nm r2) (nm r3), cmpX (nm r3) (nm r4)] : List Int) = _
    rw [cmp_bit h2 h3 n23, cmp_bit h3 h4 n34]
  obtain ⟨d1, d2, d3⟩ := dueT_2 (Nat.blt r1 r0) (Nat.blt r3 r2) (Nat.blt r4 r3)
  have hc := chk_r h0 h1 h2 h3 h4 n01 n02 n03 n04 n12 n13 n14 n23 n24 n34
  simp only [chkP, Bool.and_eq_true] at hc
  rw [e1, e2]
  refine ⟨d2, d3, fun i hi _ => says_unlike h0 h1 h2 h3 h4 n01 n02 n03 n04 n12 n13 n14 n23 n24 n34 i hi, ?_⟩
  rw [d1]
  refine ul_final ?_ (dec_small (dueT_small 2 (by decide) (by decide) _ _ _))
  show (foundF 2 [nm r0, nm r1, nm r2, nm r3, nm r4] 32).Perm _
  rw [found_bits h0 h1 h2 h3 h4 n01 n02 n03 n04 n12 n13 n14 n23 n24 n34 2 (by decide) (by decide)]
  exact (List.isPerm_iff.mp hc.1.1.2).map _
theorem plain_3 {r0 r1 r2 r3 r4 : Nat} (h0 : r0 < 9) (h1 : r1 < 9) (h2 : r2 < 9) (h3 : r3 < 9) (h4 : r4 < 9) (n01 : r0 ≠ r1) (n02 : r0 ≠ r2) (n03 : r0 ≠ r3) (n04 : r0 ≠ r4) (n12 : r1 ≠ r2) (n13 : r1 ≠ r3) (n14 : r1 ≠ r4) (n23 : r2 ≠ r3) (n24 : r2 ≠ r4) (n34 : r3 ≠ r4) : (ownX [nm r0, nm r1, nm r2], ownX [nm r3, nm r4]) ∈ pairsX ∧ ownX [nm r0, nm r1, nm r2] ++ ownX [nm r3, nm r4] = (ownX [nm r0, nm r1, nm r2] ++ ownX [nm r3, nm r4]).map signOf ∧ (∀ i, i < 32 → (chosenF i).length = [nm r0, nm r1, nm r2].length → saysF ([nm r0, nm r1, nm r2] ++ [nm r3, nm r4]) i = (saysF ([nm r0, nm r1, nm r2] ++ [nm r3, nm r4]) i).map signOf) ∧
      ulR ([(6, 0), (6, 0), (7, 0)] ++ foundF [nm r0, nm r1, nm r2].length ([nm r0, nm r1, nm r2] ++ [nm r3, nm r4]) 32 ++ [(5, 0)]).reverse ([(7, 0), (8, 0)] ++ dueX (ownX [nm r0, nm r1, nm r2]) (ownX [nm r3, nm r4]) ++ [(7, 0), (9, 0)]) [] = ([(5, 0), (6, 0), (6, 0)], [(8, 0), (7, 0), (9, 0)]) := by
  have e1 : ownX [nm r0, nm r1, nm r2] = [sgB (Nat.blt r1 r0), sgB (Nat.blt r2 r1)] := by
    show ([cmpX (nm r0) (nm r1), cmpX (nm r1) (nm r2)] : List Int) = _
    rw [cmp_bit h0 h1 n01, cmp_bit h1 h2 n12]
  have e2 : ownX [nm r3, nm r4] = [sgB (Nat.blt r4 r3)] := by
    show ([cmpX (nm r3) (nm r4)] : List Int) = _
    rw [cmp_bit h3 h4 n34]
  obtain ⟨d1, d2, d3⟩ := dueT_3 (Nat.blt r1 r0) (Nat.blt r2 r1) (Nat.blt r4 r3)
  have hc := chk_r h0 h1 h2 h3 h4 n01 n02 n03 n04 n12 n13 n14 n23 n24 n34
  simp only [chkP, Bool.and_eq_true] at hc
  rw [e1, e2]
  refine ⟨d2, d3, fun i hi _ => says_unlike h0 h1 h2 h3 h4 n01 n02 n03 n04 n12 n13 n14 n23 n24 n34 i hi, ?_⟩
  rw [d1]
  refine ul_final ?_ (dec_small (dueT_small 3 (by decide) (by decide) _ _ _))
  show (foundF 3 [nm r0, nm r1, nm r2, nm r3, nm r4] 32).Perm _
  rw [found_bits h0 h1 h2 h3 h4 n01 n02 n03 n04 n12 n13 n14 n23 n24 n34 3 (by decide) (by decide)]
  exact (List.isPerm_iff.mp hc.1.2).map _
theorem plain_4 {r0 r1 r2 r3 r4 : Nat} (h0 : r0 < 9) (h1 : r1 < 9) (h2 : r2 < 9) (h3 : r3 < 9) (h4 : r4 < 9) (n01 : r0 ≠ r1) (n02 : r0 ≠ r2) (n03 : r0 ≠ r3) (n04 : r0 ≠ r4) (n12 : r1 ≠ r2) (n13 : r1 ≠ r3) (n14 : r1 ≠ r4) (n23 : r2 ≠ r3) (n24 : r2 ≠ r4) (n34 : r3 ≠ r4) : (ownX [nm r0, nm r1, nm r2, nm r3], ownX [nm r4]) ∈ pairsX ∧ ownX [nm r0, nm r1, nm r2, nm r3] ++ ownX [nm r4] = (ownX [nm r0, nm r1, nm r2, nm r3] ++ ownX [nm r4]).map signOf ∧ (∀ i, i < 32 → (chosenF i).length = [nm r0, nm r1, nm r2, nm r3].length → saysF ([nm r0, nm r1, nm r2, nm r3] ++ [nm r4]) i = (saysF ([nm r0, nm r1, nm r2, nm r3] ++ [nm r4]) i).map signOf) ∧
      ulR ([(6, 0), (6, 0), (7, 0)] ++ foundF [nm r0, nm r1, nm r2, nm r3].length ([nm r0, nm r1, nm r2, nm r3] ++ [nm r4]) 32 ++ [(5, 0)]).reverse ([(7, 0), (8, 0)] ++ dueX (ownX [nm r0, nm r1, nm r2, nm r3]) (ownX [nm r4]) ++ [(7, 0), (9, 0)]) [] = ([(5, 0), (6, 0), (6, 0)], [(8, 0), (7, 0), (9, 0)]) := by
  have e1 : ownX [nm r0, nm r1, nm r2, nm r3] = [sgB (Nat.blt r1 r0), sgB (Nat.blt r2 r1), sgB (Nat.blt r3 r2)] := by
    show ([cmpX (nm r0) (nm r1), cmpX (nm r1) (nm r2), cmpX (nm r2) (nm r3)] : List Int) = _
    rw [cmp_bit h0 h1 n01, cmp_bit h1 h2 n12, cmp_bit h2 h3 n23]
  have e2 : ownX [nm r4] = [] := by
    show ([] : List Int) = _
    rfl
  obtain ⟨d1, d2, d3⟩ := dueT_4 (Nat.blt r1 r0) (Nat.blt r2 r1) (Nat.blt r3 r2)
  have hc := chk_r h0 h1 h2 h3 h4 n01 n02 n03 n04 n12 n13 n14 n23 n24 n34
  simp only [chkP, Bool.and_eq_true] at hc
  rw [e1, e2]
  refine ⟨d2, d3, fun i hi _ => says_unlike h0 h1 h2 h3 h4 n01 n02 n03 n04 n12 n13 n14 n23 n24 n34 i hi, ?_⟩
  rw [d1]
  refine ul_final ?_ (dec_small (dueT_small 4 (by decide) (by decide) _ _ _))
  show (foundF 4 [nm r0, nm r1, nm r2, nm r3, nm r4] 32).Perm _
  rw [found_bits h0 h1 h2 h3 h4 n01 n02 n03 n04 n12 n13 n14 n23 n24 n34 4 (by decide) (by decide)]
  exact (List.isPerm_iff.mp hc.2).map _
theorem erase_map {α β : Type} (f : α → β) : ∀ (l : List α) (j : Nat), (l.map f).eraseIdx j = (l.eraseIdx j).map f
  | [], _ => rfl
  | _ :: _, 0 => rfl
  | x :: l, j + 1 => congrArg (f x :: ·) (erase_map f l j)
theorem pickR_map {α β : Type} (f : α → β) : ∀ (js : List Nat) (l : List α), pickR (l.map f) js = (pickR l js).map f
  | [], _ => rfl
  | j :: js, l => by
    show ((l.map f)[j]?).toList ++ pickR ((l.map f).eraseIdx j) js = ((l[j]?).toList ++ pickR (l.eraseIdx j) js).map f
    rw [erase_map, pickR_map f js, List.map_append, List.getElem?_map]
    cases l[j]? <;> rfl
theorem pickR_nodup {α : Type} : ∀ (js : List Nat) {l : List α}, l.Nodup → (pickR l js).Nodup
  | [], _, _ => List.nodup_nil
  | j :: js, l, h => by
    show ((l[j]?).toList ++ pickR (l.eraseIdx j) js).Nodup
    by_cases hj : j < l.length
    · rw [List.getElem?_eq_getElem hj]
      refine List.nodup_cons.mpr ⟨fun hm => ?_, pickR_nodup js (h.sublist (List.eraseIdx_sublist ..))⟩
      have h1 := pickR_sub js hm
      rw [List.mem_eraseIdx_iff_getElem] at h1
      obtain ⟨i, hi, hne, e⟩ := h1
      exact hne ((List.getElem_inj h).mp e)
    · rw [List.getElem?_eq_none (by omega)]
      exact pickR_nodup js (h.sublist (List.eraseIdx_sublist ..))
theorem names9_nm : names9 = (List.range 9).map nm := by decide +kernel
theorem plain_law : ∀ js cut, fits 9 js = true → js.length = 5 → 1 ≤ cut → cut ≤ 4 → ∀ xs1 xs2, xs1 = (pickR names9 js).take cut → xs2 = (pickR names9 js).drop cut →
      (ownX xs1, ownX xs2) ∈ pairsX ∧ ownX xs1 ++ ownX xs2 = (ownX xs1 ++ ownX xs2).map signOf ∧ (∀ i, i < 32 → (chosenF i).length = xs1.length → saysF (xs1 ++ xs2) i = (saysF (xs1 ++ xs2) i).map signOf) ∧
      ulR ([(6, 0), (6, 0), (7, 0)] ++ foundF xs1.length (xs1 ++ xs2) 32 ++ [(5, 0)]).reverse ([(7, 0), (8, 0)] ++ dueX (ownX xs1) (ownX xs2) ++ [(7, 0), (9, 0)]) [] = ([(5, 0), (6, 0), (6, 0)], [(8, 0), (7, 0), (9, 0)]) := by
  intro js cut hf hj h1 h4 xs1 xs2 e1 e2
  rw [names9_nm, pickR_map] at e1 e2
  have hl : (pickR (List.range 9) js).length = 5 := by rw [pickR_length (by simpa using hf)]; exact hj
  have hn := pickR_nodup js (List.nodup_range (n := 9))
  have hs : ∀ x ∈ pickR (List.range 9) js, x < 9 := fun x hx => List.mem_range.mp (pickR_sub js hx)
  generalize pickR (List.range 9) js = r at e1 e2 hl hn hs
  match r, hl with
  | [r0, r1, r2, r3, r4], _ =>
    simp only [List.nodup_cons, List.mem_cons, List.not_mem_nil, or_false, not_or, List.nodup_nil, and_true, not_false_eq_true] at hn
    obtain ⟨⟨n01, n02, n03, n04⟩, ⟨n12, n13, n14⟩, ⟨n23, n24⟩, n34⟩ := hn
    have h0 := hs r0 (by simp)
    have h1' := hs r1 (by simp)
    have h2 := hs r2 (by simp)
    have h3 := hs r3 (by simp)
    have h4' := hs r4 (by simp)
    have hc : cut = 1 ∨ cut = 2 ∨ cut = 3 ∨ cut = 4 := by omega
    rcases hc with rfl | rfl | rfl | rfl <;> subst e1 <;> subst e2
    · exact plain_1 h0 h1' h2 h3 h4' n01 n02 n03 n04 n12 n13 n14 n23 n24 n34
    · exact plain_2 h0 h1' h2 h3 h4' n01 n02 n03 n04 n12 n13 n14 n23 n24 n34
    · exact plain_3 h0 h1' h2 h3 h4' n01 n02 n03 n04 n12 n13 n14 n23 n24 n34
    · exact plain_4 h0 h1' h2 h3 h4' n01 n02 n03 n04 n12 n13 n14 n23 n24 n34
end
section -- law
theorem law_holds : PySem.Challenge.rw_tv0002_01.Holds := Mine.hd (by
  k_go0
  rename Fr _ _ _ _ => F0
  rename News _ _ _ _ => N0
  rename Below _ _ _ _ => K0
  rename IntsAre _ _ => I0
  rename Top _ _ _ _ _ _ => T0
  rename Frag.In _ _ => X0
  rename Heap.IsList _ _ _ => L0
  rename (_ : Shared).gens = #[] => hgens
  rename_i ww s0 s1 mg mb G Y fa o pm doc ho XX VV GL BB TE TW w12 w11 MM cda w9 hcd ns hs hlay0 hLl hr1 hl2 w7 w6 script vs w3 ra w1 r0 hr2 hc1 hc2 hD h1 tk1 c3 c2 c1 e3 e2 e1 X1
  show wpAny (model Challenge.rw_tv0002_01.row.toRowW.prog ww) (callerA.deeper (lawEnv fa (.ref cda) s1.heap.objs.size)) (execs lawBody (lawEnv fa (.ref cda) s1.heap.objs.size)) _ _ { s1 with heap := h1, toks := tk1 }
  generalize hXB : execs lawBody (lawEnv fa (.ref cda) s1.heap.objs.size) = XB
  refine' law_whole K0 X0 T0 ?zf N0 ?zd3 ?zd2 ?zd1 L0 I0 plain_law hXB ?ze ?zq
  case zf => with_unfolding_all exact F0
  case zd3 => exact e3.trans (by with_unfolding_all rfl)
  case zd2 => exact e2.trans (by with_unfolding_all rfl)
  case zd1 => exact e1.trans (by with_unfolding_all rfl)
  case ze => passes_own
  case zq =>
    intro h tk hk
    refine ⟨.inl ⟨.bool true, .bool true, [], rfl, raisesW_false ?_, .bool true, ?_, unshared_nil⟩, hk, rfl, hgens⟩
    · wrow_none_raised
    · wrow_post)
end
end Mine
theorem PySem.Challenge.cw_tv0002_01_holds : PySem.Challenge.rw_tv0002_01.Holds :=
  Mine.law_holds
